import Derived.Test.Qxb6609474aAlnum
namespace Go.Proofs.Qxb6609474a
open Go.RowKit

set_option maxHeartbeats 400000 in
theorem two_yes (b : Nat) (c : Int) (w : World) (h1 : w.cell? ⟨b, 1, none⟩ = some (.int .u8 c)) (hc : alB c = true) :
    Calls Try.prog 9 #[.slice (some ⟨b, 0, none⟩) 2 2] w fun r w' => r = .returned (.int .i64 2) ∧ w = w' := by
  go_enter Try.func9, Try.ntmps9
  go_wp2
  go_loop [3] (fun i => i = .int .i64 1 ∨ i = .int .i64 2) (fun i => 2 - (intOf i).toNat)
  case atStart => exact .inl rfl
  case round =>
    rcases hrel with rfl | rfl
    · go_wp2_with (go_at_call 8; refine (alnum_any _ _).mono ?_; rintro r w' ⟨rfl, rfl⟩)
      exact ⟨.inr rfl, by simp [intOf]⟩
    · go_wp2_with (go_at_call 8; refine (alnum_any _ _).mono ?_; rintro r w' ⟨rfl, rfl⟩)
      go_ret
      exact ⟨rfl, rfl⟩

set_option maxHeartbeats 400000 in
theorem two_no (b : Nat) (c : Int) (w : World) (h1 : w.cell? ⟨b, 1, none⟩ = some (.int .u8 c)) (hc : alB c = false) :
    Calls Try.prog 9 #[.slice (some ⟨b, 0, none⟩) 2 2] w fun r w' => r = .returned (.int .i64 1) ∧ w = w' := by
  by_cases g1 : c = 45
  · subst g1
    go_enter Try.func9, Try.ntmps9
    go_wp2
    go_loop [3] (fun i => i = .int .i64 1) (fun i => 2 - (intOf i).toNat)
    case atStart => exact rfl
    case round =>
      obtain rfl := hrel
      go_wp2_with (go_at_call 8; refine (alnum_any _ _).mono ?_; rintro r w' ⟨rfl, rfl⟩)
      go_ret
      exact ⟨rfl, rfl⟩
  by_cases g2 : c = 58
  · subst g2
    go_enter Try.func9, Try.ntmps9
    go_wp2
    go_loop [3] (fun i => i = .int .i64 1) (fun i => 2 - (intOf i).toNat)
    case atStart => exact rfl
    case round =>
      obtain rfl := hrel
      go_wp2_with (go_at_call 8; refine (alnum_any _ _).mono ?_; rintro r w' ⟨rfl, rfl⟩)
      go_ret
      exact ⟨rfl, rfl⟩
  · have g1' : (c == 45) = false := by simpa using g1
    have g2' : (c == 58) = false := by simpa using g2
    go_enter Try.func9, Try.ntmps9
    go_wp2
    go_loop [3] (fun i => i = .int .i64 1) (fun i => 2 - (intOf i).toNat)
    case atStart => exact rfl
    case round =>
      obtain rfl := hrel
      go_wp2_with (go_at_call 8; refine (alnum_any _ _).mono ?_; rintro r w' ⟨rfl, rfl⟩)
      go_ret
      exact ⟨rfl, rfl⟩

set_option maxHeartbeats 400000 in
theorem three_yes (b : Nat) (d c : Int) (w : World) (h1 : w.cell? ⟨b, 1, none⟩ = some (.int .u8 d)) (h2 : w.cell? ⟨b, 2, none⟩ = some (.int .u8 c)) (hd : d = 45 ∨ d = 58) (hc : alB c = true) :
    Calls Try.prog 9 #[.slice (some ⟨b, 0, none⟩) 3 3] w fun r w' => r = .returned (.int .i64 3) ∧ w = w' := by
  have h45 : alB 45 = false := by decide
  have h58 : alB 58 = false := by decide
  rcases hd with rfl | rfl
  all_goals
    go_enter Try.func9, Try.ntmps9
    go_wp2
    go_loop [3] (fun i => i = .int .i64 1 ∨ i = .int .i64 3) (fun i => 3 - (intOf i).toNat)
    case atStart => exact .inl rfl
    case round =>
      rcases hrel with rfl | rfl
      · go_wp2_with (go_at_call 8; refine (alnum_any _ _).mono ?_; rintro r w' ⟨rfl, rfl⟩)
        exact ⟨.inr rfl, by simp [intOf]⟩
      · go_wp2_with (go_at_call 8; refine (alnum_any _ _).mono ?_; rintro r w' ⟨rfl, rfl⟩)
        go_ret
        exact ⟨rfl, rfl⟩

set_option maxHeartbeats 400000 in
theorem three_no (b : Nat) (d c : Int) (w : World) (h1 : w.cell? ⟨b, 1, none⟩ = some (.int .u8 d)) (h2 : w.cell? ⟨b, 2, none⟩ = some (.int .u8 c)) (hd : d = 45 ∨ d = 58) (hc : alB c = false) :
    Calls Try.prog 9 #[.slice (some ⟨b, 0, none⟩) 3 3] w fun r w' => r = .returned (.int .i64 1) ∧ w = w' := by
  have h45 : alB 45 = false := by decide
  have h58 : alB 58 = false := by decide
  rcases hd with rfl | rfl
  all_goals
    go_enter Try.func9, Try.ntmps9
    go_wp2
    go_loop [3] (fun i => i = .int .i64 1) (fun i => 3 - (intOf i).toNat)
    case atStart => exact rfl
    case round =>
      obtain rfl := hrel
      go_wp2_with (go_at_call 8; refine (alnum_any _ _).mono ?_; rintro r w' ⟨rfl, rfl⟩)
      go_ret
      exact ⟨rfl, rfl⟩

theorem zz_of (b n : Nat) (r0 : Int) (w : World) (h : Calls Try.prog 9 #[.slice (some ⟨b, 0, none⟩) n n] w fun r w' => r = .returned (.int .i64 r0) ∧ w = w') :
    Calls Try.prog 7 #[.slice (some ⟨b, 0, none⟩) n n] w fun r w' => r = .returned (.int .i64 r0) ∧ w = w' := by
  have H : Hid (Calls Try.prog 9 #[.slice (some ⟨b, 0, none⟩) n n] w fun r w' => r = .returned (.int .i64 r0) ∧ w = w') := h
  clear h
  go_enter Try.func7, Try.ntmps7
  go_wp2_with (go_at_call 9; refine H.out.mono ?_; rintro r w' ⟨rfl, rfl⟩)
  go_ret
  exact ⟨rfl, rfl⟩
end Go.Proofs.Qxb6609474a
