import Derived.Test.Qxb6609441aNewer
namespace Go.Proofs.Qxb6609441a
open Go.RowKit
theorem Grown.drewN {W w' : World} (h : Grown W w') (n : Nat) : Grown W (w'.drewN n) := h

/-! 'zzPick' at its three places. -/
theorem pick0_any (c1 o1 c2 o2 c3 o3 : Int) (w : World) : Calls Try.prog 14 #[.int .i64 0, .int .u32 c1, .int .i64 o1, .int .u32 c2, .int .i64 o2, .int .u32 c3, .int .i64 o3] w fun r w' => r = .returned (.tuple #[.int .u32 c1, .int .i64 o1]) ∧ w = w' := by
  go_enter Try.func14, Try.ntmps14
  go_wp2
  go_ret2
  exact ⟨rfl, rfl⟩
theorem pick1_any (c1 o1 c2 o2 c3 o3 : Int) (w : World) : Calls Try.prog 14 #[.int .i64 1, .int .u32 c1, .int .i64 o1, .int .u32 c2, .int .i64 o2, .int .u32 c3, .int .i64 o3] w fun r w' => r = .returned (.tuple #[.int .u32 c2, .int .i64 o2]) ∧ w = w' := by
  go_enter Try.func14, Try.ntmps14
  go_wp2
  go_ret2
  exact ⟨rfl, rfl⟩
theorem pick2_any (c1 o1 c2 o2 c3 o3 : Int) (w : World) : Calls Try.prog 14 #[.int .i64 2, .int .u32 c1, .int .i64 o1, .int .u32 c2, .int .i64 o2, .int .u32 c3, .int .i64 o3] w fun r w' => r = .returned (.tuple #[.int .u32 c3, .int .i64 o3]) ∧ w = w' := by
  go_enter Try.func14, Try.ntmps14
  go_wp2
  go_ret2
  exact ⟨rfl, rfl⟩
end Go.Proofs.Qxb6609441a
