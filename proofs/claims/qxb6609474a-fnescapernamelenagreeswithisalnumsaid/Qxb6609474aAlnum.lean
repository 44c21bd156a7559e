import Derived.Test.Qxb6609474aRows
import Derived.WalkKit
import Derived.WalkSpells
import Derived.RowKit3
import Derived.Below
import Derived.Outline
namespace Go.Proofs.Qxb6609474a
open Go.RowKit

/-- an ASCII letter -/
def ltB (c : Int) : Bool := decide ((97 ≤ c ∧ c ≤ 122) ∨ (65 ≤ c ∧ c ≤ 90))
/-- an ASCII letter or digit -/
def alB (c : Int) : Bool := decide ((97 ≤ c ∧ c ≤ 122) ∨ (65 ≤ c ∧ c ≤ 90) ∨ (48 ≤ c ∧ c ≤ 57))

theorem letter_any (c : Int) (w : World) :
    Calls Try.prog 10 #[.int .u8 c] w fun r w' => r = .returned (.bool (ltB c)) ∧ w = w' := by
  by_cases h1 : 97 ≤ c
  · by_cases h2 : c ≤ 122
    · have e : ltB c = true := by simp [ltB]; omega
      rw [e]
      go_enter Try.func10, Try.ntmps10
      go_wp2
      go_ret
      exact ⟨rfl, rfl⟩
    · have e : ltB c = false := by simp [ltB]; omega
      have h3 : 65 ≤ c := by omega
      have h4 : ¬ c ≤ 90 := by omega
      rw [e]
      go_enter Try.func10, Try.ntmps10
      go_wp2
      go_ret
      exact ⟨rfl, rfl⟩
  · by_cases h3 : 65 ≤ c
    · by_cases h4 : c ≤ 90
      · have e : ltB c = true := by simp [ltB]; omega
        rw [e]
        go_enter Try.func10, Try.ntmps10
        go_wp2
        go_ret
        exact ⟨rfl, rfl⟩
      · have e : ltB c = false := by simp [ltB]; omega
        rw [e]
        go_enter Try.func10, Try.ntmps10
        go_wp2
        go_ret
        exact ⟨rfl, rfl⟩
    · have e : ltB c = false := by simp [ltB]; omega
      rw [e]
      go_enter Try.func10, Try.ntmps10
      go_wp2
      go_ret
      exact ⟨rfl, rfl⟩

theorem alnum_any (c : Int) (w : World) :
    Calls Try.prog 8 #[.int .u8 c] w fun r w' => r = .returned (.bool (alB c)) ∧ w = w' := by
  cases hl : ltB c
  · have hl' : ¬ ((97 ≤ c ∧ c ≤ 122) ∨ (65 ≤ c ∧ c ≤ 90)) := by simpa [ltB] using hl
    by_cases h1 : 48 ≤ c
    · by_cases h2 : c ≤ 57
      · have e : alB c = true := by simp [alB]; omega
        clear hl'
        rw [e]
        go_enter Try.func8, Try.ntmps8
        go_wp2_with (go_at_call 10; refine (letter_any _ _).mono ?_; rintro r w' ⟨rfl, rfl⟩)
        go_ret
        exact ⟨rfl, rfl⟩
      · have e : alB c = false := by simp [alB]; omega
        have h2' : decide (c ≤ 57) = false := by simpa using h2
        clear hl'
        rw [e]
        go_enter Try.func8, Try.ntmps8
        go_wp2_with (go_at_call 10; refine (letter_any _ _).mono ?_; rintro r w' ⟨rfl, rfl⟩)
        go_ret
        exact ⟨rfl, rfl⟩
    · have e : alB c = false := by simp [alB]; omega
      clear hl'
      rw [e]
      go_enter Try.func8, Try.ntmps8
      go_wp2_with (go_at_call 10; refine (letter_any _ _).mono ?_; rintro r w' ⟨rfl, rfl⟩)
      go_ret
      exact ⟨rfl, rfl⟩
  · have hl' : (97 ≤ c ∧ c ≤ 122) ∨ (65 ≤ c ∧ c ≤ 90) := by simpa [ltB] using hl
    have e : alB c = true := by simp [alB]; omega
    clear hl'
    rw [e]
    go_enter Try.func8, Try.ntmps8
    go_wp2_with (go_at_call 10; refine (letter_any _ _).mono ?_; rintro r w' ⟨rfl, rfl⟩)
    go_ret
    exact ⟨rfl, rfl⟩

theorem zzalnum_any (c : Int) (w : World) :
    Calls Try.prog 5 #[.int .u8 c] w fun r w' => r = .returned (.bool (alB c)) ∧ w = w' := by
  go_enter Try.func5, Try.ntmps5
  go_wp2_with (go_at_call 8; refine (alnum_any _ _).mono ?_; rintro r w' ⟨rfl, rfl⟩)
  go_ret
  exact ⟨rfl, rfl⟩

/-- the k-th byte of the listing -/
def tab (k : Nat) : Int := if k < 10 then 48 + k else if k < 36 then 55 + k else 61 + k
/-- the listing -/
def listing : ByteArray := ⟨#[48, 49, 50, 51, 52, 53, 54, 55, 56, 57, 65, 66, 67, 68, 69, 70, 71, 72, 73, 74, 75, 76, 77, 78, 79, 80, 81, 82, 83, 84, 85, 86, 87, 88, 89, 90, 97, 98, 99, 100, 101, 102, 103, 104, 105, 106, 107, 108, 109, 110, 111, 112, 113, 114, 115, 116, 117, 118, 119, 120, 121, 122]⟩
theorem tab_fin : ∀ k : Fin 62, ((listing.data[k.1]'k.2).toNat : Int) = tab k.1 := by decide +kernel
theorem tab_at (k : Nat) (h : k < 62) : ((listing.data[k]'h).toNat : Int) = tab k := tab_fin ⟨k, h⟩
theorem tab_al (k : Nat) (h : k < 62) : alB (tab k) = true := by
  unfold tab
  split
  · simp [alB]; omega
  · split <;> (simp [alB]; omega)
theorem al_tab (c : Int) (h : ∀ j, j < 62 → tab j ≠ c) : alB c = false := by
  cases e : alB c
  · rfl
  · exfalso
    have e' : (97 ≤ c ∧ c ≤ 122) ∨ (65 ≤ c ∧ c ≤ 90) ∨ (48 ≤ c ∧ c ≤ 57) := by simpa [alB] using e
    rcases e' with ⟨h1, h2⟩ | ⟨h1, h2⟩ | ⟨h1, h2⟩
    · exact h (c - 61).toNat (by omega) (by unfold tab; rw [if_neg (by omega), if_neg (by omega)]; omega)
    · exact h (c - 55).toNat (by omega) (by unfold tab; rw [if_neg (by omega), if_pos (by omega)]; omega)
    · exact h (c - 48).toNat (by omega) (by unfold tab; rw [if_pos (by omega)]; omega)
theorem ret_bool {a b : Bool} (h : a = b) : Ending.returned (.bool a) = .returned (.bool b) := by rw [h]

set_option maxHeartbeats 400000 in
theorem inal_any (c : Int) (w : World) :
    Calls Try.prog 6 #[.int .u8 c] w fun r w' => r = .returned (.bool (alB c)) ∧ w = w' := by
  go_enter Try.func6, Try.ntmps6
  go_wp2
  go_loop [3] (fun i => ∃ k : Nat, k ≤ 62 ∧ i = .int .i64 k ∧ ∀ j, j < k → tab j ≠ c) (fun i => 62 - (intOf i).toNat)
  case atStart => exact ⟨0, by omega, rfl, fun j hj => by omega⟩
  case round =>
    obtain ⟨k, hk, rfl, hno⟩ := hrel
    by_cases hlt : k < 62
    · have hno' : Hid (∀ j, j < k → tab j ≠ c) := hno
      clear hno
      go_wp2
      · go_ret
        rename_i hb _
        have hc : tab k = c := (tab_at k hlt).symm.trans (eq_of_beq hb)
        exact ⟨ret_bool (by rw [← hc, tab_al k hlt]), rfl⟩
      · rename_i hb
        have hc : tab k ≠ c := fun h => by
          have := (beq_eq_false_iff_ne.1 hb)
          exact this ((tab_at k hlt).trans h)
        refine ⟨⟨k + 1, by omega, by go_num, fun j hj => ?_⟩, by simp [intOf]; omega⟩
        by_cases e : j = k
        · rw [e]; exact hc
        · exact hno'.out j (by omega)
    · have e : alB c = false := al_tab c fun j hj => hno j (by omega)
      clear hno
      go_wp2
      go_ret
      exact ⟨rfl, rfl⟩

theorem table_any (c : Int) (w : World) :
    Calls Try.prog 3 #[.int .u8 c] w fun r w' => r = .returned (.bool true) ∧ w = w' := by
  go_enter Try.func3, Try.ntmps3
  go_wp2_with (first | (go_at_call 5; refine (zzalnum_any _ _).mono ?_; rintro r w' ⟨rfl, rfl⟩) | (go_at_call 6; refine (inal_any _ _).mono ?_; rintro r w' ⟨rfl, rfl⟩))
  go_ret
  exact ⟨rfl, rfl⟩
end Go.Proofs.Qxb6609474a
