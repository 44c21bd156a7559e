import Derived.Test.Qxb6612240aBase
namespace Go.Proofs.Qxb6612240a
open Go.RowKit
set_option maxHeartbeats 1000000 in
theorem poolsSize_any (a : Option Addr) (n c : Nat) (ps : List Pl) (w : World) (h : PsOk w a n ps) :
    Calls Try.prog 14 #[.slice a n c] w fun r w' => (∃ x y : Int, r = .returned (.tuple #[.int .i64 x, .int .i64 y])) ∧ w = w' := by
  have hn := h.n_max
  by_cases h0 : 1048576 < wrap64 (8 * n)
  · go_enter Try.func14, Try.ntmps14
    go_wp2
    go_ret2
    exact ⟨⟨_, _, rfl⟩, rfl⟩
  go_enter Try.func14, Try.ntmps14
  go_wp2
  go_loop [2, 3, 4] (fun s m i => ∃ k : Nat, k ≤ n ∧ i = .int .i64 k ∧ (∃ x, s = .int .i64 x) ∧ ∃ y, m = .int .i64 y) (fun _ _ i => n - (intOf i).toNat)
  case atStart => exact ⟨0, Nat.zero_le _, rfl, ⟨_, rfl⟩, _, rfl⟩
  case round =>
    obtain ⟨k, hk, rfl, ⟨x, rfl⟩, y, rfl⟩ := hrel
    by_cases hlt : k < n
    · obtain ⟨pa, pn, pc, pms, b, off, _, rfl, c0, hp⟩ := h.get hlt
      have pm := hp.n_max
      go_wp2
      · go_ret2
        exact ⟨⟨_, _, rfl⟩, rfl⟩
      go_loop [2, 5] (fun s i => ∃ q : Nat, q ≤ pn ∧ i = .int .i64 q ∧ ∃ x, s = .int .i64 x) (fun _ i => pn - (intOf i).toNat)
      case atStart => exact ⟨0, Nat.zero_le _, rfl, _, rfl⟩
      case round =>
        obtain ⟨q, hq, rfl, x', rfl⟩ := hrel
        by_cases hlq : q < pn
        · obtain ⟨s, b', off', _, rfl, c1⟩ := hp.get hlq
          go_wp2
          · go_ret2
            exact ⟨⟨_, _, rfl⟩, rfl⟩
          exact ⟨⟨q + 1, by omega, by go_num, _, rfl⟩, by simp [intOf]; omega⟩
        · go_wp2
          exact ⟨⟨k + 1, by omega, by go_num, ⟨_, rfl⟩, _, rfl⟩, by simp [intOf]; omega⟩
    · go_wp2
      go_ret2
      exact ⟨⟨_, _, rfl⟩, rfl⟩

set_option maxRecDepth 100000 in
set_option maxHeartbeats 4000000 in
theorem roundsSize_any (a : Option Addr) (n c : Nat) (rs : List Rd) (w : World) (h : RsOk w a n rs) :
    Calls Try.prog 13 #[.slice a n c] w fun r w' => (∃ x y z : Int, r = .returned (.tuple #[.int .i64 x, .int .i64 y, .int .i64 z])) ∧ ∃ m, w' = w.drewN m := by
  have hn := h.n_max
  by_cases h0 : 1048576 < wrap64 (8 * n)
  · go_enter Try.func13, Try.ntmps13
    go_wp2
    go_ret3
    exact ⟨⟨_, _, _, rfl⟩, 0, rfl⟩
  go_enter Try.func13, Try.ntmps13
  go_wp2
  go_loopw [2, 3, 4, 5] (fun s m t i wr => ∃ k : Nat, k ≤ n ∧ i = .int .i64 k ∧ (∃ x, s = .int .i64 x) ∧ (∃ y, m = .int .i64 y) ∧ (∃ y, t = .int .i64 y) ∧ ∃ d, wr = w.drewN d) (fun _ _ _ i _ => n - (intOf i).toNat)
  case atStart => exact ⟨0, Nat.zero_le _, rfl, ⟨_, rfl⟩, ⟨_, rfl⟩, ⟨_, rfl⟩, 0, rfl⟩
  case round =>
    obtain ⟨k, hk, rfl, ⟨x, rfl⟩, ⟨y, rfl⟩, ⟨z, rfl⟩, d, rfl⟩ := hrel
    by_cases hlt : k < n
    · obtain ⟨ren, ra, rn, rc, rps, b, off, _, rfl, c0, c1, hp⟩ := h.get hlt
      have pm := hp.n_max
      go_wp2
      · go_ret3
        exact ⟨⟨_, _, _, rfl⟩, _, rfl⟩
      go_loopw [2, 4, 7] (fun s t i wr => ∃ q : Nat, q ≤ rn ∧ i = .int .i64 q ∧ (∃ x, s = .int .i64 x) ∧ (∃ y, t = .int .i64 y) ∧ ∃ d, wr = w.drewN d) (fun _ _ i _ => rn - (intOf i).toNat)
      case atStart => exact ⟨0, Nat.zero_le _, rfl, ⟨_, rfl⟩, ⟨_, rfl⟩, _, rfl⟩
      case round =>
        obtain ⟨q, hq, rfl, ⟨x', rfl⟩, ⟨z', rfl⟩, d', rfl⟩ := hrel
        by_cases hlq : q < rn
        · obtain ⟨pfr, pa, pn, pc, pvs, b', off', _, rfl, d0, d1, hv⟩ := hp.get hlq
          have vm := hv.n_max
          go_wp2
          · go_ret3
            exact ⟨⟨_, _, _, rfl⟩, _, rfl⟩
          go_loopw [2, 9] (fun s i wr => ∃ l : Nat, l ≤ pn ∧ i = .int .i64 l ∧ (∃ x, s = .int .i64 x) ∧ ∃ d, wr = w.drewN d) (fun _ i _ => pn - (intOf i).toNat)
          case atStart => exact ⟨0, Nat.zero_le _, rfl, ⟨_, rfl⟩, _, rfl⟩
          case round =>
            obtain ⟨l, hl, rfl, ⟨x'', rfl⟩, d'', rfl⟩ := hrel
            by_cases hll : l < pn
            · obtain ⟨v, b'', off'', _, rfl, e0, e1, e2, e3, e4, e5, e6, e7, _⟩ := hv.get hll
              go_wp2
              go_quiet (fail)
              go_wp2
              · go_ret3
                exact ⟨⟨_, _, _, rfl⟩, _, rfl⟩
              go_roundw
              case rel => exact ⟨l + 1, by omega, by go_num, ⟨_, rfl⟩, _, rfl⟩
              case measure => simp [intOf]; omega
            · go_wp2
              go_roundw
              case rel => exact ⟨q + 1, by omega, by go_num, ⟨_, rfl⟩, ⟨_, rfl⟩, _, rfl⟩
              case measure => simp [intOf]; omega
        · go_wp2
          go_roundw
          case rel => exact ⟨k + 1, by omega, by go_num, ⟨_, rfl⟩, ⟨_, rfl⟩, ⟨_, rfl⟩, _, rfl⟩
          case measure => simp [intOf]; omega
    · go_wp2
      go_ret3
      exact ⟨⟨_, _, _, rfl⟩, _, rfl⟩
end Go.Proofs.Qxb6612240a
