import Derived.Test.Qxb6609441aScanBase
namespace Go.Proofs.Qxb6609441a
open Go.RowKit
set_option linter.unusedVariables false
/-! One walk for each way through the law's tests. The name bears, for a, b, c in turn, the rank of the time and the rank of the place among those of one time; m: the first of the latest stands at the least place. -/
set_option maxRecDepth 100000 in
set_option maxHeartbeats 1000000 in
theorem sc000000m (a0 : Int) (w : World) (naa : nw a0 (-9223372036854775808) a0 (-9223372036854775808) = false) :
    Calls Try.prog 5 #[.int .u32 a0, .int .i64 (-9223372036854775808), .int .u32 a0, .int .i64 (-9223372036854775808), .int .u32 a0, .int .i64 (-9223372036854775808)] w fun e w' => e = .returned (.bool true) ∧ Grown w w' := by
  go_enter Try.func5, Try.ntmps5
  go_wp2_with fail
  refine (newSelf_any _ _ _ _ _ _).mono ?_
  rintro r w' ⟨rfl, rfl⟩
  go_wp2_with fail
  refine (newSelf_any _ _ _ _ _ _).mono ?_
  rintro r w' ⟨rfl, rfl⟩
  go_wp2_with fail
  refine (newSelf_any _ _ _ _ _ _).mono ?_
  rintro r w' ⟨rfl, rfl⟩
  go_wp2_with fail
  refine (noSelf_any _).mono ?_
  rintro r w' ⟨rfl, rfl⟩
  go_wp2_with fail
  refine (newer_nil _ _).mono ?_
  rintro r w' ⟨rfl, n, rfl⟩
  go_wp2_with fail
  refine (newer_any _ _ a0 (-9223372036854775808) a0 (-9223372036854775808) _ ?_ ?_ ?_ ?_).mono ?_
  iterate 4 go_simp
  rintro r w' ⟨rfl, n, rfl⟩
  go_wp2_with fail
  refine (newer_any _ _ a0 (-9223372036854775808) a0 (-9223372036854775808) _ ?_ ?_ ?_ ?_).mono ?_
  iterate 4 go_simp
  rintro r w' ⟨rfl, n, rfl⟩
  go_wp2_with fail
  refine (newer_nil _ _).mono ?_
  rintro r w' ⟨rfl, n, rfl⟩
  go_wp2_with fail
  refine (newer_any _ _ a0 (-9223372036854775808) a0 (-9223372036854775808) _ ?_ ?_ ?_ ?_).mono ?_
  iterate 4 go_simp
  rintro r w' ⟨rfl, n, rfl⟩
  go_wp2_with fail
  refine (newer_any _ _ a0 (-9223372036854775808) a0 (-9223372036854775808) _ ?_ ?_ ?_ ?_).mono ?_
  iterate 4 go_simp
  rintro r w' ⟨rfl, n, rfl⟩
  go_wp2_with fail
  refine (pick0_any _ _ _ _ _ _ _).mono ?_
  rintro r w' ⟨rfl, rfl⟩
  go_wp2_with fail
  refine (pick2_any _ _ _ _ _ _ _).mono ?_
  rintro r w' ⟨rfl, rfl⟩
  go_wp2_with fail
  refine (newer_any _ _ a0 (-9223372036854775808) a0 (-9223372036854775808) _ ?_ ?_ ?_ ?_).mono ?_
  iterate 4 go_simp
  rintro r w' ⟨rfl, n, rfl⟩
  go_wp2_with fail
  refine (newer_any _ _ a0 (-9223372036854775808) a0 (-9223372036854775808) _ ?_ ?_ ?_ ?_).mono ?_
  iterate 4 go_simp
  rintro r w' ⟨rfl, n, rfl⟩
  go_wp2_with fail
  refine (newer_any _ _ a0 (-9223372036854775808) a0 (-9223372036854775808) _ ?_ ?_ ?_ ?_).mono ?_
  iterate 4 go_simp
  rintro r w' ⟨rfl, n, rfl⟩
  go_wp2_with fail
  refine (newer_any _ _ a0 (-9223372036854775808) a0 (-9223372036854775808) _ ?_ ?_ ?_ ?_).mono ?_
  iterate 4 go_simp
  rintro r w' ⟨rfl, n, rfl⟩
  go_wp2_with fail
  refine (newer_any _ _ a0 (-9223372036854775808) a0 (-9223372036854775808) _ ?_ ?_ ?_ ?_).mono ?_
  iterate 4 go_simp
  rintro r w' ⟨rfl, n, rfl⟩
  go_wp2
  go_ret
  exact ⟨rfl, by repeat (first | exact Grown.refl _ | apply Grown.drewN | apply Grown.drew | apply Grown.alloc)⟩

set_option maxRecDepth 100000 in
set_option maxHeartbeats 1000000 in
theorem sc000100m (a0 a3 : Int) (w : World) (pab : (-9223372036854775808) < a3) (naa : nw a0 (-9223372036854775808) a0 (-9223372036854775808) = false) (nab : nw a0 (-9223372036854775808) a0 a3 = false) (nba : nw a0 a3 a0 (-9223372036854775808) = true) (nbb : nw a0 a3 a0 a3 = false) :
    Calls Try.prog 5 #[.int .u32 a0, .int .i64 (-9223372036854775808), .int .u32 a0, .int .i64 a3, .int .u32 a0, .int .i64 (-9223372036854775808)] w fun e w' => e = .returned (.bool true) ∧ Grown w w' := by
  go_enter Try.func5, Try.ntmps5
  go_wp2_with fail
  refine (newSelf_any _ _ _ _ _ _).mono ?_
  rintro r w' ⟨rfl, rfl⟩
  go_wp2_with fail
  refine (newSelf_any _ _ _ _ _ _).mono ?_
  rintro r w' ⟨rfl, rfl⟩
  go_wp2_with fail
  refine (newSelf_any _ _ _ _ _ _).mono ?_
  rintro r w' ⟨rfl, rfl⟩
  go_wp2_with fail
  refine (noSelf_any _).mono ?_
  rintro r w' ⟨rfl, rfl⟩
  go_wp2_with fail
  refine (newer_nil _ _).mono ?_
  rintro r w' ⟨rfl, n, rfl⟩
  go_wp2_with fail
  refine (newer_any _ _ a0 a3 a0 (-9223372036854775808) _ ?_ ?_ ?_ ?_).mono ?_
  iterate 4 go_simp
  rintro r w' ⟨rfl, n, rfl⟩
  go_wp2_with fail
  refine (newer_any _ _ a0 (-9223372036854775808) a0 a3 _ ?_ ?_ ?_ ?_).mono ?_
  iterate 4 go_simp
  rintro r w' ⟨rfl, n, rfl⟩
  go_wp2_with fail
  refine (newer_nil _ _).mono ?_
  rintro r w' ⟨rfl, n, rfl⟩
  go_wp2_with fail
  refine (newer_any _ _ a0 a3 a0 (-9223372036854775808) _ ?_ ?_ ?_ ?_).mono ?_
  iterate 4 go_simp
  rintro r w' ⟨rfl, n, rfl⟩
  go_wp2_with fail
  refine (newer_any _ _ a0 (-9223372036854775808) a0 a3 _ ?_ ?_ ?_ ?_).mono ?_
  iterate 4 go_simp
  rintro r w' ⟨rfl, n, rfl⟩
  go_wp2_with fail
  refine (pick1_any _ _ _ _ _ _ _).mono ?_
  rintro r w' ⟨rfl, rfl⟩
  go_wp2_with fail
  refine (pick1_any _ _ _ _ _ _ _).mono ?_
  rintro r w' ⟨rfl, rfl⟩
  go_wp2_with fail
  refine (newer_any _ _ a0 (-9223372036854775808) a0 a3 _ ?_ ?_ ?_ ?_).mono ?_
  iterate 4 go_simp
  rintro r w' ⟨rfl, n, rfl⟩
  go_wp2_with fail
  refine (newer_any _ _ a0 a3 a0 a3 _ ?_ ?_ ?_ ?_).mono ?_
  iterate 4 go_simp
  rintro r w' ⟨rfl, n, rfl⟩
  go_wp2_with fail
  refine (newer_any _ _ a0 (-9223372036854775808) a0 a3 _ ?_ ?_ ?_ ?_).mono ?_
  iterate 4 go_simp
  rintro r w' ⟨rfl, n, rfl⟩
  go_wp2_with fail
  refine (newer_any _ _ a0 (-9223372036854775808) a0 a3 _ ?_ ?_ ?_ ?_).mono ?_
  iterate 4 go_simp
  rintro r w' ⟨rfl, n, rfl⟩
  go_wp2_with fail
  refine (newer_any _ _ a0 (-9223372036854775808) a0 a3 _ ?_ ?_ ?_ ?_).mono ?_
  iterate 4 go_simp
  rintro r w' ⟨rfl, n, rfl⟩
  go_wp2
  go_ret
  exact ⟨rfl, by repeat (first | exact Grown.refl _ | apply Grown.drewN | apply Grown.drew | apply Grown.alloc)⟩

set_option maxRecDepth 100000 in
set_option maxHeartbeats 1000000 in
theorem sc000102m (a0 a3 a5 : Int) (w : World) (pab : (-9223372036854775808) < a3) (pac : (-9223372036854775808) < a5) (pbc : a3 < a5) (naa : nw a0 (-9223372036854775808) a0 (-9223372036854775808) = false) (nab : nw a0 (-9223372036854775808) a0 a3 = false) (nac : nw a0 (-9223372036854775808) a0 a5 = false) (nba : nw a0 a3 a0 (-9223372036854775808) = true) (nbb : nw a0 a3 a0 a3 = false) (nbc : nw a0 a3 a0 a5 = false) (nca : nw a0 a5 a0 (-9223372036854775808) = true) (ncb : nw a0 a5 a0 a3 = true) (ncc : nw a0 a5 a0 a5 = false) :
    Calls Try.prog 5 #[.int .u32 a0, .int .i64 (-9223372036854775808), .int .u32 a0, .int .i64 a3, .int .u32 a0, .int .i64 a5] w fun e w' => e = .returned (.bool true) ∧ Grown w w' := by
  go_enter Try.func5, Try.ntmps5
  go_wp2_with fail
  refine (newSelf_any _ _ _ _ _ _).mono ?_
  rintro r w' ⟨rfl, rfl⟩
  go_wp2_with fail
  refine (newSelf_any _ _ _ _ _ _).mono ?_
  rintro r w' ⟨rfl, rfl⟩
  go_wp2_with fail
  refine (newSelf_any _ _ _ _ _ _).mono ?_
  rintro r w' ⟨rfl, rfl⟩
  go_wp2_with fail
  refine (noSelf_any _).mono ?_
  rintro r w' ⟨rfl, rfl⟩
  go_wp2_with fail
  refine (newer_nil _ _).mono ?_
  rintro r w' ⟨rfl, n, rfl⟩
  go_wp2_with fail
  refine (newer_any _ _ a0 a3 a0 (-9223372036854775808) _ ?_ ?_ ?_ ?_).mono ?_
  iterate 4 go_simp
  rintro r w' ⟨rfl, n, rfl⟩
  go_wp2_with fail
  refine (newer_any _ _ a0 a5 a0 a3 _ ?_ ?_ ?_ ?_).mono ?_
  iterate 4 go_simp
  rintro r w' ⟨rfl, n, rfl⟩
  go_wp2_with fail
  refine (newer_nil _ _).mono ?_
  rintro r w' ⟨rfl, n, rfl⟩
  go_wp2_with fail
  refine (newer_any _ _ a0 a3 a0 a5 _ ?_ ?_ ?_ ?_).mono ?_
  iterate 4 go_simp
  rintro r w' ⟨rfl, n, rfl⟩
  go_wp2_with fail
  refine (newer_any _ _ a0 (-9223372036854775808) a0 a5 _ ?_ ?_ ?_ ?_).mono ?_
  iterate 4 go_simp
  rintro r w' ⟨rfl, n, rfl⟩
  go_wp2_with fail
  refine (pick2_any _ _ _ _ _ _ _).mono ?_
  rintro r w' ⟨rfl, rfl⟩
  go_wp2_with fail
  refine (pick2_any _ _ _ _ _ _ _).mono ?_
  rintro r w' ⟨rfl, rfl⟩
  go_wp2_with fail
  refine (newer_any _ _ a0 (-9223372036854775808) a0 a5 _ ?_ ?_ ?_ ?_).mono ?_
  iterate 4 go_simp
  rintro r w' ⟨rfl, n, rfl⟩
  go_wp2_with fail
  refine (newer_any _ _ a0 a3 a0 a5 _ ?_ ?_ ?_ ?_).mono ?_
  iterate 4 go_simp
  rintro r w' ⟨rfl, n, rfl⟩
  go_wp2_with fail
  refine (newer_any _ _ a0 a5 a0 a5 _ ?_ ?_ ?_ ?_).mono ?_
  iterate 4 go_simp
  rintro r w' ⟨rfl, n, rfl⟩
  go_wp2_with fail
  refine (newer_any _ _ a0 (-9223372036854775808) a0 a3 _ ?_ ?_ ?_ ?_).mono ?_
  iterate 4 go_simp
  rintro r w' ⟨rfl, n, rfl⟩
  go_wp2_with fail
  refine (newer_any _ _ a0 a5 a0 a3 _ ?_ ?_ ?_ ?_).mono ?_
  iterate 4 go_simp
  rintro r w' ⟨rfl, n, rfl⟩
  go_wp2_with fail
  refine (newer_any _ _ a0 a3 a0 (-9223372036854775808) _ ?_ ?_ ?_ ?_).mono ?_
  iterate 4 go_simp
  rintro r w' ⟨rfl, n, rfl⟩
  go_wp2_with fail
  refine (newer_any _ _ a0 a5 a0 (-9223372036854775808) _ ?_ ?_ ?_ ?_).mono ?_
  iterate 4 go_simp
  rintro r w' ⟨rfl, n, rfl⟩
  go_wp2
  go_ret
  exact ⟨rfl, by repeat (first | exact Grown.refl _ | apply Grown.drewN | apply Grown.drew | apply Grown.alloc)⟩

set_option maxRecDepth 100000 in
set_option maxHeartbeats 1000000 in
theorem sc010001 (a0 a1 a3 : Int) (w : World) (pba : a3 < a1) (m : (-9223372036854775808) < a1) (naa : nw a0 a1 a0 a1 = false) (nab : nw a0 a1 a0 a3 = true) (nba : nw a0 a3 a0 a1 = false) (nbb : nw a0 a3 a0 a3 = false) :
    Calls Try.prog 5 #[.int .u32 a0, .int .i64 a1, .int .u32 a0, .int .i64 a3, .int .u32 a0, .int .i64 a1] w fun e w' => e = .returned (.bool true) ∧ Grown w w' := by
  go_enter Try.func5, Try.ntmps5
  go_wp2_with fail
  refine (newSelf_any _ _ _ _ _ _).mono ?_
  rintro r w' ⟨rfl, rfl⟩
  go_wp2_with fail
  refine (newSelf_any _ _ _ _ _ _).mono ?_
  rintro r w' ⟨rfl, rfl⟩
  go_wp2_with fail
  refine (newSelf_any _ _ _ _ _ _).mono ?_
  rintro r w' ⟨rfl, rfl⟩
  go_wp2_with fail
  refine (noSelf_any _).mono ?_
  rintro r w' ⟨rfl, rfl⟩
  go_wp2_with fail
  refine (newer_nil _ _).mono ?_
  rintro r w' ⟨rfl, n, rfl⟩
  go_wp2_with fail
  refine (newer_any _ _ a0 a3 a0 a1 _ ?_ ?_ ?_ ?_).mono ?_
  iterate 4 go_simp
  rintro r w' ⟨rfl, n, rfl⟩
  go_wp2_with fail
  refine (newer_any _ _ a0 a1 a0 a1 _ ?_ ?_ ?_ ?_).mono ?_
  iterate 4 go_simp
  rintro r w' ⟨rfl, n, rfl⟩
  go_wp2_with fail
  refine (newer_nil _ _).mono ?_
  rintro r w' ⟨rfl, n, rfl⟩
  go_wp2_with fail
  refine (newer_any _ _ a0 a3 a0 a1 _ ?_ ?_ ?_ ?_).mono ?_
  iterate 4 go_simp
  rintro r w' ⟨rfl, n, rfl⟩
  go_wp2_with fail
  refine (newer_any _ _ a0 a1 a0 a1 _ ?_ ?_ ?_ ?_).mono ?_
  iterate 4 go_simp
  rintro r w' ⟨rfl, n, rfl⟩
  go_wp2_with fail
  refine (pick0_any _ _ _ _ _ _ _).mono ?_
  rintro r w' ⟨rfl, rfl⟩
  go_wp2_with fail
  refine (pick2_any _ _ _ _ _ _ _).mono ?_
  rintro r w' ⟨rfl, rfl⟩
  go_wp2_with fail
  refine (newer_any _ _ a0 a1 a0 a1 _ ?_ ?_ ?_ ?_).mono ?_
  iterate 4 go_simp
  rintro r w' ⟨rfl, n, rfl⟩
  go_wp2_with fail
  refine (newer_any _ _ a0 a3 a0 a1 _ ?_ ?_ ?_ ?_).mono ?_
  iterate 4 go_simp
  rintro r w' ⟨rfl, n, rfl⟩
  go_wp2_with fail
  refine (newer_any _ _ a0 a1 a0 a1 _ ?_ ?_ ?_ ?_).mono ?_
  iterate 4 go_simp
  rintro r w' ⟨rfl, n, rfl⟩
  go_wp2_with fail
  refine (newer_any _ _ a0 a1 a0 a3 _ ?_ ?_ ?_ ?_).mono ?_
  iterate 4 go_simp
  rintro r w' ⟨rfl, n, rfl⟩
  go_wp2_with fail
  refine (newer_any _ _ a0 a3 a0 a1 _ ?_ ?_ ?_ ?_).mono ?_
  iterate 4 go_simp
  rintro r w' ⟨rfl, n, rfl⟩
  go_wp2_with fail
  refine (newer_any _ _ a0 a1 a0 a3 _ ?_ ?_ ?_ ?_).mono ?_
  iterate 4 go_simp
  rintro r w' ⟨rfl, n, rfl⟩
  go_wp2_with fail
  refine (newer_any _ _ a0 a3 a0 a1 _ ?_ ?_ ?_ ?_).mono ?_
  iterate 4 go_simp
  rintro r w' ⟨rfl, n, rfl⟩
  go_wp2
  go_ret
  exact ⟨rfl, by repeat (first | exact Grown.refl _ | apply Grown.drewN | apply Grown.drew | apply Grown.alloc)⟩

set_option maxRecDepth 100000 in
set_option maxHeartbeats 1000000 in
theorem sc020001 (a0 a1 a3 a5 : Int) (w : World) (pba : a3 < a1) (pbc : a3 < a5) (pca : a5 < a1) (m : (-9223372036854775808) < a1) (naa : nw a0 a1 a0 a1 = false) (nab : nw a0 a1 a0 a3 = true) (nac : nw a0 a1 a0 a5 = true) (nba : nw a0 a3 a0 a1 = false) (nbb : nw a0 a3 a0 a3 = false) (nbc : nw a0 a3 a0 a5 = false) (nca : nw a0 a5 a0 a1 = false) (ncb : nw a0 a5 a0 a3 = true) (ncc : nw a0 a5 a0 a5 = false) :
    Calls Try.prog 5 #[.int .u32 a0, .int .i64 a1, .int .u32 a0, .int .i64 a3, .int .u32 a0, .int .i64 a5] w fun e w' => e = .returned (.bool true) ∧ Grown w w' := by
  go_enter Try.func5, Try.ntmps5
  go_wp2_with fail
  refine (newSelf_any _ _ _ _ _ _).mono ?_
  rintro r w' ⟨rfl, rfl⟩
  go_wp2_with fail
  refine (newSelf_any _ _ _ _ _ _).mono ?_
  rintro r w' ⟨rfl, rfl⟩
  go_wp2_with fail
  refine (newSelf_any _ _ _ _ _ _).mono ?_
  rintro r w' ⟨rfl, rfl⟩
  go_wp2_with fail
  refine (noSelf_any _).mono ?_
  rintro r w' ⟨rfl, rfl⟩
  go_wp2_with fail
  refine (newer_nil _ _).mono ?_
  rintro r w' ⟨rfl, n, rfl⟩
  go_wp2_with fail
  refine (newer_any _ _ a0 a3 a0 a1 _ ?_ ?_ ?_ ?_).mono ?_
  iterate 4 go_simp
  rintro r w' ⟨rfl, n, rfl⟩
  go_wp2_with fail
  refine (newer_any _ _ a0 a5 a0 a1 _ ?_ ?_ ?_ ?_).mono ?_
  iterate 4 go_simp
  rintro r w' ⟨rfl, n, rfl⟩
  go_wp2_with fail
  refine (newer_nil _ _).mono ?_
  rintro r w' ⟨rfl, n, rfl⟩
  go_wp2_with fail
  refine (newer_any _ _ a0 a3 a0 a5 _ ?_ ?_ ?_ ?_).mono ?_
  iterate 4 go_simp
  rintro r w' ⟨rfl, n, rfl⟩
  go_wp2_with fail
  refine (newer_any _ _ a0 a1 a0 a5 _ ?_ ?_ ?_ ?_).mono ?_
  iterate 4 go_simp
  rintro r w' ⟨rfl, n, rfl⟩
  go_wp2_with fail
  refine (pick0_any _ _ _ _ _ _ _).mono ?_
  rintro r w' ⟨rfl, rfl⟩
  go_wp2_with fail
  refine (pick0_any _ _ _ _ _ _ _).mono ?_
  rintro r w' ⟨rfl, rfl⟩
  go_wp2_with fail
  refine (newer_any _ _ a0 a1 a0 a1 _ ?_ ?_ ?_ ?_).mono ?_
  iterate 4 go_simp
  rintro r w' ⟨rfl, n, rfl⟩
  go_wp2_with fail
  refine (newer_any _ _ a0 a3 a0 a1 _ ?_ ?_ ?_ ?_).mono ?_
  iterate 4 go_simp
  rintro r w' ⟨rfl, n, rfl⟩
  go_wp2_with fail
  refine (newer_any _ _ a0 a5 a0 a1 _ ?_ ?_ ?_ ?_).mono ?_
  iterate 4 go_simp
  rintro r w' ⟨rfl, n, rfl⟩
  go_wp2_with fail
  refine (newer_any _ _ a0 a1 a0 a3 _ ?_ ?_ ?_ ?_).mono ?_
  iterate 4 go_simp
  rintro r w' ⟨rfl, n, rfl⟩
  go_wp2_with fail
  refine (newer_any _ _ a0 a3 a0 a5 _ ?_ ?_ ?_ ?_).mono ?_
  iterate 4 go_simp
  rintro r w' ⟨rfl, n, rfl⟩
  go_wp2_with fail
  refine (newer_any _ _ a0 a5 a0 a3 _ ?_ ?_ ?_ ?_).mono ?_
  iterate 4 go_simp
  rintro r w' ⟨rfl, n, rfl⟩
  go_wp2_with fail
  refine (newer_any _ _ a0 a3 a0 a1 _ ?_ ?_ ?_ ?_).mono ?_
  iterate 4 go_simp
  rintro r w' ⟨rfl, n, rfl⟩
  go_wp2
  go_ret
  exact ⟨rfl, by repeat (first | exact Grown.refl _ | apply Grown.drewN | apply Grown.drew | apply Grown.alloc)⟩

set_option maxRecDepth 100000 in
set_option maxHeartbeats 1000000 in
theorem sc000110 (a0 a1 a3 a4 a5 : Int) (w : World) (lac : a0 < a4) (eac : (a0 == a4) = false) (m : (-9223372036854775808) < a5) (naa : nw a0 a1 a0 a1 = false) (nab : nw a0 a1 a0 a3 = false) (nac : nw a0 a1 a4 a5 = false) (nba : nw a0 a3 a0 a1 = true) (nbb : nw a0 a3 a0 a3 = false) (nbc : nw a0 a3 a4 a5 = false) (nca : nw a4 a5 a0 a1 = true) (ncb : nw a4 a5 a0 a3 = true) (ncc : nw a4 a5 a4 a5 = false) :
    Calls Try.prog 5 #[.int .u32 a0, .int .i64 a1, .int .u32 a0, .int .i64 a3, .int .u32 a4, .int .i64 a5] w fun e w' => e = .returned (.bool true) ∧ Grown w w' := by
  go_enter Try.func5, Try.ntmps5
  go_wp2_with fail
  refine (newSelf_any _ _ _ _ _ _).mono ?_
  rintro r w' ⟨rfl, rfl⟩
  go_wp2_with fail
  refine (newSelf_any _ _ _ _ _ _).mono ?_
  rintro r w' ⟨rfl, rfl⟩
  go_wp2_with fail
  refine (newSelf_any _ _ _ _ _ _).mono ?_
  rintro r w' ⟨rfl, rfl⟩
  go_wp2_with fail
  refine (noSelf_any _).mono ?_
  rintro r w' ⟨rfl, rfl⟩
  go_wp2_with fail
  refine (newer_nil _ _).mono ?_
  rintro r w' ⟨rfl, n, rfl⟩
  go_wp2_with fail
  refine (newer_any _ _ a0 a3 a0 a1 _ ?_ ?_ ?_ ?_).mono ?_
  iterate 4 go_simp
  rintro r w' ⟨rfl, n, rfl⟩
  go_wp2_with fail
  refine (newer_any _ _ a4 a5 a0 a3 _ ?_ ?_ ?_ ?_).mono ?_
  iterate 4 go_simp
  rintro r w' ⟨rfl, n, rfl⟩
  go_wp2_with fail
  refine (newer_nil _ _).mono ?_
  rintro r w' ⟨rfl, n, rfl⟩
  go_wp2_with fail
  refine (newer_any _ _ a0 a3 a4 a5 _ ?_ ?_ ?_ ?_).mono ?_
  iterate 4 go_simp
  rintro r w' ⟨rfl, n, rfl⟩
  go_wp2_with fail
  refine (newer_any _ _ a0 a1 a4 a5 _ ?_ ?_ ?_ ?_).mono ?_
  iterate 4 go_simp
  rintro r w' ⟨rfl, n, rfl⟩
  go_wp2_with fail
  refine (pick2_any _ _ _ _ _ _ _).mono ?_
  rintro r w' ⟨rfl, rfl⟩
  go_wp2_with fail
  refine (pick2_any _ _ _ _ _ _ _).mono ?_
  rintro r w' ⟨rfl, rfl⟩
  go_wp2_with fail
  refine (newer_any _ _ a0 a1 a4 a5 _ ?_ ?_ ?_ ?_).mono ?_
  iterate 4 go_simp
  rintro r w' ⟨rfl, n, rfl⟩
  go_wp2_with fail
  refine (newer_any _ _ a0 a3 a4 a5 _ ?_ ?_ ?_ ?_).mono ?_
  iterate 4 go_simp
  rintro r w' ⟨rfl, n, rfl⟩
  go_wp2_with fail
  refine (newer_any _ _ a4 a5 a4 a5 _ ?_ ?_ ?_ ?_).mono ?_
  iterate 4 go_simp
  rintro r w' ⟨rfl, n, rfl⟩
  go_wp2_with fail
  refine (newer_any _ _ a0 a1 a0 a3 _ ?_ ?_ ?_ ?_).mono ?_
  iterate 4 go_simp
  rintro r w' ⟨rfl, n, rfl⟩
  go_wp2_with fail
  refine (newer_any _ _ a4 a5 a0 a3 _ ?_ ?_ ?_ ?_).mono ?_
  iterate 4 go_simp
  rintro r w' ⟨rfl, n, rfl⟩
  go_wp2_with fail
  refine (newer_any _ _ a0 a3 a0 a1 _ ?_ ?_ ?_ ?_).mono ?_
  iterate 4 go_simp
  rintro r w' ⟨rfl, n, rfl⟩
  go_wp2_with fail
  refine (newer_any _ _ a4 a5 a0 a1 _ ?_ ?_ ?_ ?_).mono ?_
  iterate 4 go_simp
  rintro r w' ⟨rfl, n, rfl⟩
  go_wp2
  go_ret
  exact ⟨rfl, by repeat (first | exact Grown.refl _ | apply Grown.drewN | apply Grown.drew | apply Grown.alloc)⟩

set_option maxRecDepth 100000 in
set_option maxHeartbeats 1000000 in
theorem sc001000 (a0 a1 a2 a3 : Int) (w : World) (lab : a0 < a2) (eab : (a0 == a2) = false) (m : (-9223372036854775808) < a3) (naa : nw a0 a1 a0 a1 = false) (nab : nw a0 a1 a2 a3 = false) (nba : nw a2 a3 a0 a1 = true) (nbb : nw a2 a3 a2 a3 = false) :
    Calls Try.prog 5 #[.int .u32 a0, .int .i64 a1, .int .u32 a2, .int .i64 a3, .int .u32 a0, .int .i64 a1] w fun e w' => e = .returned (.bool true) ∧ Grown w w' := by
  go_enter Try.func5, Try.ntmps5
  go_wp2_with fail
  refine (newSelf_any _ _ _ _ _ _).mono ?_
  rintro r w' ⟨rfl, rfl⟩
  go_wp2_with fail
  refine (newSelf_any _ _ _ _ _ _).mono ?_
  rintro r w' ⟨rfl, rfl⟩
  go_wp2_with fail
  refine (newSelf_any _ _ _ _ _ _).mono ?_
  rintro r w' ⟨rfl, rfl⟩
  go_wp2_with fail
  refine (noSelf_any _).mono ?_
  rintro r w' ⟨rfl, rfl⟩
  go_wp2_with fail
  refine (newer_nil _ _).mono ?_
  rintro r w' ⟨rfl, n, rfl⟩
  go_wp2_with fail
  refine (newer_any _ _ a2 a3 a0 a1 _ ?_ ?_ ?_ ?_).mono ?_
  iterate 4 go_simp
  rintro r w' ⟨rfl, n, rfl⟩
  go_wp2_with fail
  refine (newer_any _ _ a0 a1 a2 a3 _ ?_ ?_ ?_ ?_).mono ?_
  iterate 4 go_simp
  rintro r w' ⟨rfl, n, rfl⟩
  go_wp2_with fail
  refine (newer_nil _ _).mono ?_
  rintro r w' ⟨rfl, n, rfl⟩
  go_wp2_with fail
  refine (newer_any _ _ a2 a3 a0 a1 _ ?_ ?_ ?_ ?_).mono ?_
  iterate 4 go_simp
  rintro r w' ⟨rfl, n, rfl⟩
  go_wp2_with fail
  refine (newer_any _ _ a0 a1 a2 a3 _ ?_ ?_ ?_ ?_).mono ?_
  iterate 4 go_simp
  rintro r w' ⟨rfl, n, rfl⟩
  go_wp2_with fail
  refine (pick1_any _ _ _ _ _ _ _).mono ?_
  rintro r w' ⟨rfl, rfl⟩
  go_wp2_with fail
  refine (pick1_any _ _ _ _ _ _ _).mono ?_
  rintro r w' ⟨rfl, rfl⟩
  go_wp2_with fail
  refine (newer_any _ _ a0 a1 a2 a3 _ ?_ ?_ ?_ ?_).mono ?_
  iterate 4 go_simp
  rintro r w' ⟨rfl, n, rfl⟩
  go_wp2_with fail
  refine (newer_any _ _ a2 a3 a2 a3 _ ?_ ?_ ?_ ?_).mono ?_
  iterate 4 go_simp
  rintro r w' ⟨rfl, n, rfl⟩
  go_wp2_with fail
  refine (newer_any _ _ a0 a1 a2 a3 _ ?_ ?_ ?_ ?_).mono ?_
  iterate 4 go_simp
  rintro r w' ⟨rfl, n, rfl⟩
  go_wp2_with fail
  refine (newer_any _ _ a0 a1 a2 a3 _ ?_ ?_ ?_ ?_).mono ?_
  iterate 4 go_simp
  rintro r w' ⟨rfl, n, rfl⟩
  go_wp2_with fail
  refine (newer_any _ _ a0 a1 a2 a3 _ ?_ ?_ ?_ ?_).mono ?_
  iterate 4 go_simp
  rintro r w' ⟨rfl, n, rfl⟩
  go_wp2
  go_ret
  exact ⟨rfl, by repeat (first | exact Grown.refl _ | apply Grown.drewN | apply Grown.drew | apply Grown.alloc)⟩

set_option maxRecDepth 100000 in
set_option maxHeartbeats 1000000 in
theorem sc011000 (a0 a1 a2 a3 a5 : Int) (w : World) (lab : a0 < a2) (eab : (a0 == a2) = false) (m : (-9223372036854775808) < a3) (naa : nw a0 a1 a0 a1 = false) (nab : nw a0 a1 a2 a3 = false) (nac : nw a0 a1 a0 a5 = true) (nba : nw a2 a3 a0 a1 = true) (nbb : nw a2 a3 a2 a3 = false) (nbc : nw a2 a3 a0 a5 = true) (nca : nw a0 a5 a0 a1 = false) (ncb : nw a0 a5 a2 a3 = false) (ncc : nw a0 a5 a0 a5 = false) :
    Calls Try.prog 5 #[.int .u32 a0, .int .i64 a1, .int .u32 a2, .int .i64 a3, .int .u32 a0, .int .i64 a5] w fun e w' => e = .returned (.bool true) ∧ Grown w w' := by
  go_enter Try.func5, Try.ntmps5
  go_wp2_with fail
  refine (newSelf_any _ _ _ _ _ _).mono ?_
  rintro r w' ⟨rfl, rfl⟩
  go_wp2_with fail
  refine (newSelf_any _ _ _ _ _ _).mono ?_
  rintro r w' ⟨rfl, rfl⟩
  go_wp2_with fail
  refine (newSelf_any _ _ _ _ _ _).mono ?_
  rintro r w' ⟨rfl, rfl⟩
  go_wp2_with fail
  refine (noSelf_any _).mono ?_
  rintro r w' ⟨rfl, rfl⟩
  go_wp2_with fail
  refine (newer_nil _ _).mono ?_
  rintro r w' ⟨rfl, n, rfl⟩
  go_wp2_with fail
  refine (newer_any _ _ a2 a3 a0 a1 _ ?_ ?_ ?_ ?_).mono ?_
  iterate 4 go_simp
  rintro r w' ⟨rfl, n, rfl⟩
  go_wp2_with fail
  refine (newer_any _ _ a0 a5 a2 a3 _ ?_ ?_ ?_ ?_).mono ?_
  iterate 4 go_simp
  rintro r w' ⟨rfl, n, rfl⟩
  go_wp2_with fail
  refine (newer_nil _ _).mono ?_
  rintro r w' ⟨rfl, n, rfl⟩
  go_wp2_with fail
  refine (newer_any _ _ a2 a3 a0 a5 _ ?_ ?_ ?_ ?_).mono ?_
  iterate 4 go_simp
  rintro r w' ⟨rfl, n, rfl⟩
  go_wp2_with fail
  refine (newer_any _ _ a0 a1 a2 a3 _ ?_ ?_ ?_ ?_).mono ?_
  iterate 4 go_simp
  rintro r w' ⟨rfl, n, rfl⟩
  go_wp2_with fail
  refine (pick1_any _ _ _ _ _ _ _).mono ?_
  rintro r w' ⟨rfl, rfl⟩
  go_wp2_with fail
  refine (pick1_any _ _ _ _ _ _ _).mono ?_
  rintro r w' ⟨rfl, rfl⟩
  go_wp2_with fail
  refine (newer_any _ _ a0 a1 a2 a3 _ ?_ ?_ ?_ ?_).mono ?_
  iterate 4 go_simp
  rintro r w' ⟨rfl, n, rfl⟩
  go_wp2_with fail
  refine (newer_any _ _ a2 a3 a2 a3 _ ?_ ?_ ?_ ?_).mono ?_
  iterate 4 go_simp
  rintro r w' ⟨rfl, n, rfl⟩
  go_wp2_with fail
  refine (newer_any _ _ a0 a5 a2 a3 _ ?_ ?_ ?_ ?_).mono ?_
  iterate 4 go_simp
  rintro r w' ⟨rfl, n, rfl⟩
  go_wp2_with fail
  refine (newer_any _ _ a0 a1 a2 a3 _ ?_ ?_ ?_ ?_).mono ?_
  iterate 4 go_simp
  rintro r w' ⟨rfl, n, rfl⟩
  go_wp2_with fail
  refine (newer_any _ _ a0 a5 a2 a3 _ ?_ ?_ ?_ ?_).mono ?_
  iterate 4 go_simp
  rintro r w' ⟨rfl, n, rfl⟩
  go_wp2
  go_ret
  exact ⟨rfl, by repeat (first | exact Grown.refl _ | apply Grown.drewN | apply Grown.drew | apply Grown.alloc)⟩

set_option maxRecDepth 100000 in
set_option maxHeartbeats 1000000 in
theorem sc001011 (a0 a1 a2 a3 a5 : Int) (w : World) (lab : a0 < a2) (eab : (a0 == a2) = false) (pbc : a3 < a5) (m : (-9223372036854775808) < a3) (naa : nw a0 a1 a0 a1 = false) (nab : nw a0 a1 a2 a3 = false) (nac : nw a0 a1 a2 a5 = false) (nba : nw a2 a3 a0 a1 = true) (nbb : nw a2 a3 a2 a3 = false) (nbc : nw a2 a3 a2 a5 = false) (nca : nw a2 a5 a0 a1 = true) (ncb : nw a2 a5 a2 a3 = true) (ncc : nw a2 a5 a2 a5 = false) :
    Calls Try.prog 5 #[.int .u32 a0, .int .i64 a1, .int .u32 a2, .int .i64 a3, .int .u32 a2, .int .i64 a5] w fun e w' => e = .returned (.bool true) ∧ Grown w w' := by
  go_enter Try.func5, Try.ntmps5
  go_wp2_with fail
  refine (newSelf_any _ _ _ _ _ _).mono ?_
  rintro r w' ⟨rfl, rfl⟩
  go_wp2_with fail
  refine (newSelf_any _ _ _ _ _ _).mono ?_
  rintro r w' ⟨rfl, rfl⟩
  go_wp2_with fail
  refine (newSelf_any _ _ _ _ _ _).mono ?_
  rintro r w' ⟨rfl, rfl⟩
  go_wp2_with fail
  refine (noSelf_any _).mono ?_
  rintro r w' ⟨rfl, rfl⟩
  go_wp2_with fail
  refine (newer_nil _ _).mono ?_
  rintro r w' ⟨rfl, n, rfl⟩
  go_wp2_with fail
  refine (newer_any _ _ a2 a3 a0 a1 _ ?_ ?_ ?_ ?_).mono ?_
  iterate 4 go_simp
  rintro r w' ⟨rfl, n, rfl⟩
  go_wp2_with fail
  refine (newer_any _ _ a2 a5 a2 a3 _ ?_ ?_ ?_ ?_).mono ?_
  iterate 4 go_simp
  rintro r w' ⟨rfl, n, rfl⟩
  go_wp2_with fail
  refine (newer_nil _ _).mono ?_
  rintro r w' ⟨rfl, n, rfl⟩
  go_wp2_with fail
  refine (newer_any _ _ a2 a3 a2 a5 _ ?_ ?_ ?_ ?_).mono ?_
  iterate 4 go_simp
  rintro r w' ⟨rfl, n, rfl⟩
  go_wp2_with fail
  refine (newer_any _ _ a0 a1 a2 a5 _ ?_ ?_ ?_ ?_).mono ?_
  iterate 4 go_simp
  rintro r w' ⟨rfl, n, rfl⟩
  go_wp2_with fail
  refine (pick2_any _ _ _ _ _ _ _).mono ?_
  rintro r w' ⟨rfl, rfl⟩
  go_wp2_with fail
  refine (pick2_any _ _ _ _ _ _ _).mono ?_
  rintro r w' ⟨rfl, rfl⟩
  go_wp2_with fail
  refine (newer_any _ _ a0 a1 a2 a5 _ ?_ ?_ ?_ ?_).mono ?_
  iterate 4 go_simp
  rintro r w' ⟨rfl, n, rfl⟩
  go_wp2_with fail
  refine (newer_any _ _ a2 a3 a2 a5 _ ?_ ?_ ?_ ?_).mono ?_
  iterate 4 go_simp
  rintro r w' ⟨rfl, n, rfl⟩
  go_wp2_with fail
  refine (newer_any _ _ a2 a5 a2 a5 _ ?_ ?_ ?_ ?_).mono ?_
  iterate 4 go_simp
  rintro r w' ⟨rfl, n, rfl⟩
  go_wp2_with fail
  refine (newer_any _ _ a0 a1 a2 a3 _ ?_ ?_ ?_ ?_).mono ?_
  iterate 4 go_simp
  rintro r w' ⟨rfl, n, rfl⟩
  go_wp2_with fail
  refine (newer_any _ _ a2 a5 a2 a3 _ ?_ ?_ ?_ ?_).mono ?_
  iterate 4 go_simp
  rintro r w' ⟨rfl, n, rfl⟩
  go_wp2_with fail
  refine (newer_any _ _ a2 a3 a0 a1 _ ?_ ?_ ?_ ?_).mono ?_
  iterate 4 go_simp
  rintro r w' ⟨rfl, n, rfl⟩
  go_wp2_with fail
  refine (newer_any _ _ a2 a5 a0 a1 _ ?_ ?_ ?_ ?_).mono ?_
  iterate 4 go_simp
  rintro r w' ⟨rfl, n, rfl⟩
  go_wp2
  go_ret
  exact ⟨rfl, by repeat (first | exact Grown.refl _ | apply Grown.drewN | apply Grown.drew | apply Grown.alloc)⟩

set_option maxRecDepth 100000 in
set_option maxHeartbeats 1000000 in
theorem sc001020m (a0 a1 a2 a3 a4 : Int) (w : World) (lab : a0 < a2) (eab : (a0 == a2) = false) (lac : a0 < a4) (eac : (a0 == a4) = false) (lbc : a2 < a4) (ebc : (a2 == a4) = false) (naa : nw a0 a1 a0 a1 = false) (nab : nw a0 a1 a2 a3 = false) (nac : nw a0 a1 a4 (-9223372036854775808) = false) (nba : nw a2 a3 a0 a1 = true) (nbb : nw a2 a3 a2 a3 = false) (nbc : nw a2 a3 a4 (-9223372036854775808) = false) (nca : nw a4 (-9223372036854775808) a0 a1 = true) (ncb : nw a4 (-9223372036854775808) a2 a3 = true) (ncc : nw a4 (-9223372036854775808) a4 (-9223372036854775808) = false) :
    Calls Try.prog 5 #[.int .u32 a0, .int .i64 a1, .int .u32 a2, .int .i64 a3, .int .u32 a4, .int .i64 (-9223372036854775808)] w fun e w' => e = .returned (.bool true) ∧ Grown w w' := by
  go_enter Try.func5, Try.ntmps5
  go_wp2_with fail
  refine (newSelf_any _ _ _ _ _ _).mono ?_
  rintro r w' ⟨rfl, rfl⟩
  go_wp2_with fail
  refine (newSelf_any _ _ _ _ _ _).mono ?_
  rintro r w' ⟨rfl, rfl⟩
  go_wp2_with fail
  refine (newSelf_any _ _ _ _ _ _).mono ?_
  rintro r w' ⟨rfl, rfl⟩
  go_wp2_with fail
  refine (noSelf_any _).mono ?_
  rintro r w' ⟨rfl, rfl⟩
  go_wp2_with fail
  refine (newer_nil _ _).mono ?_
  rintro r w' ⟨rfl, n, rfl⟩
  go_wp2_with fail
  refine (newer_any _ _ a2 a3 a0 a1 _ ?_ ?_ ?_ ?_).mono ?_
  iterate 4 go_simp
  rintro r w' ⟨rfl, n, rfl⟩
  go_wp2_with fail
  refine (newer_any _ _ a4 (-9223372036854775808) a2 a3 _ ?_ ?_ ?_ ?_).mono ?_
  iterate 4 go_simp
  rintro r w' ⟨rfl, n, rfl⟩
  go_wp2_with fail
  refine (newer_nil _ _).mono ?_
  rintro r w' ⟨rfl, n, rfl⟩
  go_wp2_with fail
  refine (newer_any _ _ a2 a3 a4 (-9223372036854775808) _ ?_ ?_ ?_ ?_).mono ?_
  iterate 4 go_simp
  rintro r w' ⟨rfl, n, rfl⟩
  go_wp2_with fail
  refine (newer_any _ _ a0 a1 a4 (-9223372036854775808) _ ?_ ?_ ?_ ?_).mono ?_
  iterate 4 go_simp
  rintro r w' ⟨rfl, n, rfl⟩
  go_wp2_with fail
  refine (pick2_any _ _ _ _ _ _ _).mono ?_
  rintro r w' ⟨rfl, rfl⟩
  go_wp2_with fail
  refine (pick2_any _ _ _ _ _ _ _).mono ?_
  rintro r w' ⟨rfl, rfl⟩
  go_wp2_with fail
  refine (newer_any _ _ a0 a1 a4 (-9223372036854775808) _ ?_ ?_ ?_ ?_).mono ?_
  iterate 4 go_simp
  rintro r w' ⟨rfl, n, rfl⟩
  go_wp2_with fail
  refine (newer_any _ _ a2 a3 a4 (-9223372036854775808) _ ?_ ?_ ?_ ?_).mono ?_
  iterate 4 go_simp
  rintro r w' ⟨rfl, n, rfl⟩
  go_wp2_with fail
  refine (newer_any _ _ a4 (-9223372036854775808) a4 (-9223372036854775808) _ ?_ ?_ ?_ ?_).mono ?_
  iterate 4 go_simp
  rintro r w' ⟨rfl, n, rfl⟩
  go_wp2_with fail
  refine (newer_any _ _ a0 a1 a2 a3 _ ?_ ?_ ?_ ?_).mono ?_
  iterate 4 go_simp
  rintro r w' ⟨rfl, n, rfl⟩
  go_wp2_with fail
  refine (newer_any _ _ a4 (-9223372036854775808) a2 a3 _ ?_ ?_ ?_ ?_).mono ?_
  iterate 4 go_simp
  rintro r w' ⟨rfl, n, rfl⟩
  go_wp2_with fail
  refine (newer_any _ _ a2 a3 a0 a1 _ ?_ ?_ ?_ ?_).mono ?_
  iterate 4 go_simp
  rintro r w' ⟨rfl, n, rfl⟩
  go_wp2_with fail
  refine (newer_any _ _ a4 (-9223372036854775808) a0 a1 _ ?_ ?_ ?_ ?_).mono ?_
  iterate 4 go_simp
  rintro r w' ⟨rfl, n, rfl⟩
  go_wp2
  go_ret
  exact ⟨rfl, by repeat (first | exact Grown.refl _ | apply Grown.drewN | apply Grown.drew | apply Grown.alloc)⟩

set_option maxRecDepth 100000 in
set_option maxHeartbeats 1000000 in
theorem sc100000m (a0 a2 a3 : Int) (w : World) (lba : a2 < a0) (eba : (a2 == a0) = false) (naa : nw a0 (-9223372036854775808) a0 (-9223372036854775808) = false) (nab : nw a0 (-9223372036854775808) a2 a3 = true) (nba : nw a2 a3 a0 (-9223372036854775808) = false) (nbb : nw a2 a3 a2 a3 = false) :
    Calls Try.prog 5 #[.int .u32 a0, .int .i64 (-9223372036854775808), .int .u32 a2, .int .i64 a3, .int .u32 a2, .int .i64 a3] w fun e w' => e = .returned (.bool true) ∧ Grown w w' := by
  go_enter Try.func5, Try.ntmps5
  go_wp2_with fail
  refine (newSelf_any _ _ _ _ _ _).mono ?_
  rintro r w' ⟨rfl, rfl⟩
  go_wp2_with fail
  refine (newSelf_any _ _ _ _ _ _).mono ?_
  rintro r w' ⟨rfl, rfl⟩
  go_wp2_with fail
  refine (newSelf_any _ _ _ _ _ _).mono ?_
  rintro r w' ⟨rfl, rfl⟩
  go_wp2_with fail
  refine (noSelf_any _).mono ?_
  rintro r w' ⟨rfl, rfl⟩
  go_wp2_with fail
  refine (newer_nil _ _).mono ?_
  rintro r w' ⟨rfl, n, rfl⟩
  go_wp2_with fail
  refine (newer_any _ _ a2 a3 a0 (-9223372036854775808) _ ?_ ?_ ?_ ?_).mono ?_
  iterate 4 go_simp
  rintro r w' ⟨rfl, n, rfl⟩
  go_wp2_with fail
  refine (newer_any _ _ a2 a3 a0 (-9223372036854775808) _ ?_ ?_ ?_ ?_).mono ?_
  iterate 4 go_simp
  rintro r w' ⟨rfl, n, rfl⟩
  go_wp2_with fail
  refine (newer_nil _ _).mono ?_
  rintro r w' ⟨rfl, n, rfl⟩
  go_wp2_with fail
  refine (newer_any _ _ a2 a3 a2 a3 _ ?_ ?_ ?_ ?_).mono ?_
  iterate 4 go_simp
  rintro r w' ⟨rfl, n, rfl⟩
  go_wp2_with fail
  refine (newer_any _ _ a0 (-9223372036854775808) a2 a3 _ ?_ ?_ ?_ ?_).mono ?_
  iterate 4 go_simp
  rintro r w' ⟨rfl, n, rfl⟩
  go_wp2_with fail
  refine (pick0_any _ _ _ _ _ _ _).mono ?_
  rintro r w' ⟨rfl, rfl⟩
  go_wp2_with fail
  refine (pick0_any _ _ _ _ _ _ _).mono ?_
  rintro r w' ⟨rfl, rfl⟩
  go_wp2_with fail
  refine (newer_any _ _ a0 (-9223372036854775808) a0 (-9223372036854775808) _ ?_ ?_ ?_ ?_).mono ?_
  iterate 4 go_simp
  rintro r w' ⟨rfl, n, rfl⟩
  go_wp2_with fail
  refine (newer_any _ _ a2 a3 a0 (-9223372036854775808) _ ?_ ?_ ?_ ?_).mono ?_
  iterate 4 go_simp
  rintro r w' ⟨rfl, n, rfl⟩
  go_wp2_with fail
  refine (newer_any _ _ a2 a3 a0 (-9223372036854775808) _ ?_ ?_ ?_ ?_).mono ?_
  iterate 4 go_simp
  rintro r w' ⟨rfl, n, rfl⟩
  go_wp2_with fail
  refine (newer_any _ _ a0 (-9223372036854775808) a2 a3 _ ?_ ?_ ?_ ?_).mono ?_
  iterate 4 go_simp
  rintro r w' ⟨rfl, n, rfl⟩
  go_wp2_with fail
  refine (newer_any _ _ a2 a3 a2 a3 _ ?_ ?_ ?_ ?_).mono ?_
  iterate 4 go_simp
  rintro r w' ⟨rfl, n, rfl⟩
  go_wp2_with fail
  refine (newer_any _ _ a2 a3 a2 a3 _ ?_ ?_ ?_ ?_).mono ?_
  iterate 4 go_simp
  rintro r w' ⟨rfl, n, rfl⟩
  go_wp2
  go_ret
  exact ⟨rfl, by repeat (first | exact Grown.refl _ | apply Grown.drewN | apply Grown.drew | apply Grown.alloc)⟩

set_option maxRecDepth 100000 in
set_option maxHeartbeats 1000000 in
theorem sc100100m (a0 a2 a3 a5 : Int) (w : World) (lba : a2 < a0) (eba : (a2 == a0) = false) (naa : nw a0 (-9223372036854775808) a0 (-9223372036854775808) = false) (nab : nw a0 (-9223372036854775808) a2 a3 = true) (nac : nw a0 (-9223372036854775808) a2 a5 = true) (nba : nw a2 a3 a0 (-9223372036854775808) = false) (nbb : nw a2 a3 a2 a3 = false) (nbc : nw a2 a3 a2 a5 = true) (nca : nw a2 a5 a0 (-9223372036854775808) = false) (ncb : nw a2 a5 a2 a3 = false) (ncc : nw a2 a5 a2 a5 = false) :
    Calls Try.prog 5 #[.int .u32 a0, .int .i64 (-9223372036854775808), .int .u32 a2, .int .i64 a3, .int .u32 a2, .int .i64 a5] w fun e w' => e = .returned (.bool true) ∧ Grown w w' := by
  go_enter Try.func5, Try.ntmps5
  go_wp2_with fail
  refine (newSelf_any _ _ _ _ _ _).mono ?_
  rintro r w' ⟨rfl, rfl⟩
  go_wp2_with fail
  refine (newSelf_any _ _ _ _ _ _).mono ?_
  rintro r w' ⟨rfl, rfl⟩
  go_wp2_with fail
  refine (newSelf_any _ _ _ _ _ _).mono ?_
  rintro r w' ⟨rfl, rfl⟩
  go_wp2_with fail
  refine (noSelf_any _).mono ?_
  rintro r w' ⟨rfl, rfl⟩
  go_wp2_with fail
  refine (newer_nil _ _).mono ?_
  rintro r w' ⟨rfl, n, rfl⟩
  go_wp2_with fail
  refine (newer_any _ _ a2 a3 a0 (-9223372036854775808) _ ?_ ?_ ?_ ?_).mono ?_
  iterate 4 go_simp
  rintro r w' ⟨rfl, n, rfl⟩
  go_wp2_with fail
  refine (newer_any _ _ a2 a5 a0 (-9223372036854775808) _ ?_ ?_ ?_ ?_).mono ?_
  iterate 4 go_simp
  rintro r w' ⟨rfl, n, rfl⟩
  go_wp2_with fail
  refine (newer_nil _ _).mono ?_
  rintro r w' ⟨rfl, n, rfl⟩
  go_wp2_with fail
  refine (newer_any _ _ a2 a3 a2 a5 _ ?_ ?_ ?_ ?_).mono ?_
  iterate 4 go_simp
  rintro r w' ⟨rfl, n, rfl⟩
  go_wp2_with fail
  refine (newer_any _ _ a0 (-9223372036854775808) a2 a3 _ ?_ ?_ ?_ ?_).mono ?_
  iterate 4 go_simp
  rintro r w' ⟨rfl, n, rfl⟩
  go_wp2_with fail
  refine (pick0_any _ _ _ _ _ _ _).mono ?_
  rintro r w' ⟨rfl, rfl⟩
  go_wp2_with fail
  refine (pick0_any _ _ _ _ _ _ _).mono ?_
  rintro r w' ⟨rfl, rfl⟩
  go_wp2_with fail
  refine (newer_any _ _ a0 (-9223372036854775808) a0 (-9223372036854775808) _ ?_ ?_ ?_ ?_).mono ?_
  iterate 4 go_simp
  rintro r w' ⟨rfl, n, rfl⟩
  go_wp2_with fail
  refine (newer_any _ _ a2 a3 a0 (-9223372036854775808) _ ?_ ?_ ?_ ?_).mono ?_
  iterate 4 go_simp
  rintro r w' ⟨rfl, n, rfl⟩
  go_wp2_with fail
  refine (newer_any _ _ a2 a5 a0 (-9223372036854775808) _ ?_ ?_ ?_ ?_).mono ?_
  iterate 4 go_simp
  rintro r w' ⟨rfl, n, rfl⟩
  go_wp2_with fail
  refine (newer_any _ _ a0 (-9223372036854775808) a2 a3 _ ?_ ?_ ?_ ?_).mono ?_
  iterate 4 go_simp
  rintro r w' ⟨rfl, n, rfl⟩
  go_wp2_with fail
  refine (newer_any _ _ a2 a3 a2 a5 _ ?_ ?_ ?_ ?_).mono ?_
  iterate 4 go_simp
  rintro r w' ⟨rfl, n, rfl⟩
  go_wp2_with fail
  refine (newer_any _ _ a0 (-9223372036854775808) a2 a5 _ ?_ ?_ ?_ ?_).mono ?_
  iterate 4 go_simp
  rintro r w' ⟨rfl, n, rfl⟩
  go_wp2_with fail
  refine (newer_any _ _ a2 a5 a2 a3 _ ?_ ?_ ?_ ?_).mono ?_
  iterate 4 go_simp
  rintro r w' ⟨rfl, n, rfl⟩
  go_wp2
  go_ret
  exact ⟨rfl, by repeat (first | exact Grown.refl _ | apply Grown.drewN | apply Grown.drew | apply Grown.alloc)⟩

set_option maxRecDepth 100000 in
set_option maxHeartbeats 1000000 in
theorem sc100011m (a0 a2 a3 a5 : Int) (w : World) (lba : a2 < a0) (eba : (a2 == a0) = false) (pac : (-9223372036854775808) < a5) (naa : nw a0 (-9223372036854775808) a0 (-9223372036854775808) = false) (nab : nw a0 (-9223372036854775808) a2 a3 = true) (nac : nw a0 (-9223372036854775808) a0 a5 = false) (nba : nw a2 a3 a0 (-9223372036854775808) = false) (nbb : nw a2 a3 a2 a3 = false) (nbc : nw a2 a3 a0 a5 = false) (nca : nw a0 a5 a0 (-9223372036854775808) = true) (ncb : nw a0 a5 a2 a3 = true) (ncc : nw a0 a5 a0 a5 = false) :
    Calls Try.prog 5 #[.int .u32 a0, .int .i64 (-9223372036854775808), .int .u32 a2, .int .i64 a3, .int .u32 a0, .int .i64 a5] w fun e w' => e = .returned (.bool true) ∧ Grown w w' := by
  go_enter Try.func5, Try.ntmps5
  go_wp2_with fail
  refine (newSelf_any _ _ _ _ _ _).mono ?_
  rintro r w' ⟨rfl, rfl⟩
  go_wp2_with fail
  refine (newSelf_any _ _ _ _ _ _).mono ?_
  rintro r w' ⟨rfl, rfl⟩
  go_wp2_with fail
  refine (newSelf_any _ _ _ _ _ _).mono ?_
  rintro r w' ⟨rfl, rfl⟩
  go_wp2_with fail
  refine (noSelf_any _).mono ?_
  rintro r w' ⟨rfl, rfl⟩
  go_wp2_with fail
  refine (newer_nil _ _).mono ?_
  rintro r w' ⟨rfl, n, rfl⟩
  go_wp2_with fail
  refine (newer_any _ _ a2 a3 a0 (-9223372036854775808) _ ?_ ?_ ?_ ?_).mono ?_
  iterate 4 go_simp
  rintro r w' ⟨rfl, n, rfl⟩
  go_wp2_with fail
  refine (newer_any _ _ a0 a5 a0 (-9223372036854775808) _ ?_ ?_ ?_ ?_).mono ?_
  iterate 4 go_simp
  rintro r w' ⟨rfl, n, rfl⟩
  go_wp2_with fail
  refine (newer_nil _ _).mono ?_
  rintro r w' ⟨rfl, n, rfl⟩
  go_wp2_with fail
  refine (newer_any _ _ a2 a3 a0 a5 _ ?_ ?_ ?_ ?_).mono ?_
  iterate 4 go_simp
  rintro r w' ⟨rfl, n, rfl⟩
  go_wp2_with fail
  refine (newer_any _ _ a0 (-9223372036854775808) a0 a5 _ ?_ ?_ ?_ ?_).mono ?_
  iterate 4 go_simp
  rintro r w' ⟨rfl, n, rfl⟩
  go_wp2_with fail
  refine (pick2_any _ _ _ _ _ _ _).mono ?_
  rintro r w' ⟨rfl, rfl⟩
  go_wp2_with fail
  refine (pick2_any _ _ _ _ _ _ _).mono ?_
  rintro r w' ⟨rfl, rfl⟩
  go_wp2_with fail
  refine (newer_any _ _ a0 (-9223372036854775808) a0 a5 _ ?_ ?_ ?_ ?_).mono ?_
  iterate 4 go_simp
  rintro r w' ⟨rfl, n, rfl⟩
  go_wp2_with fail
  refine (newer_any _ _ a2 a3 a0 a5 _ ?_ ?_ ?_ ?_).mono ?_
  iterate 4 go_simp
  rintro r w' ⟨rfl, n, rfl⟩
  go_wp2_with fail
  refine (newer_any _ _ a0 a5 a0 a5 _ ?_ ?_ ?_ ?_).mono ?_
  iterate 4 go_simp
  rintro r w' ⟨rfl, n, rfl⟩
  go_wp2_with fail
  refine (newer_any _ _ a0 (-9223372036854775808) a2 a3 _ ?_ ?_ ?_ ?_).mono ?_
  iterate 4 go_simp
  rintro r w' ⟨rfl, n, rfl⟩
  go_wp2_with fail
  refine (newer_any _ _ a2 a3 a0 a5 _ ?_ ?_ ?_ ?_).mono ?_
  iterate 4 go_simp
  rintro r w' ⟨rfl, n, rfl⟩
  go_wp2_with fail
  refine (newer_any _ _ a0 a5 a2 a3 _ ?_ ?_ ?_ ?_).mono ?_
  iterate 4 go_simp
  rintro r w' ⟨rfl, n, rfl⟩
  go_wp2_with fail
  refine (newer_any _ _ a2 a3 a0 (-9223372036854775808) _ ?_ ?_ ?_ ?_).mono ?_
  iterate 4 go_simp
  rintro r w' ⟨rfl, n, rfl⟩
  go_wp2
  go_ret
  exact ⟨rfl, by repeat (first | exact Grown.refl _ | apply Grown.drewN | apply Grown.drew | apply Grown.alloc)⟩

set_option maxRecDepth 100000 in
set_option maxHeartbeats 1000000 in
theorem sc101000 (a0 a1 a4 a5 : Int) (w : World) (lca : a4 < a0) (eca : (a4 == a0) = false) (m : (-9223372036854775808) < a1) (naa : nw a0 a1 a0 a1 = false) (nac : nw a0 a1 a4 a5 = true) (nca : nw a4 a5 a0 a1 = false) (ncc : nw a4 a5 a4 a5 = false) :
    Calls Try.prog 5 #[.int .u32 a0, .int .i64 a1, .int .u32 a0, .int .i64 a1, .int .u32 a4, .int .i64 a5] w fun e w' => e = .returned (.bool true) ∧ Grown w w' := by
  go_enter Try.func5, Try.ntmps5
  go_wp2_with fail
  refine (newSelf_any _ _ _ _ _ _).mono ?_
  rintro r w' ⟨rfl, rfl⟩
  go_wp2_with fail
  refine (newSelf_any _ _ _ _ _ _).mono ?_
  rintro r w' ⟨rfl, rfl⟩
  go_wp2_with fail
  refine (newSelf_any _ _ _ _ _ _).mono ?_
  rintro r w' ⟨rfl, rfl⟩
  go_wp2_with fail
  refine (noSelf_any _).mono ?_
  rintro r w' ⟨rfl, rfl⟩
  go_wp2_with fail
  refine (newer_nil _ _).mono ?_
  rintro r w' ⟨rfl, n, rfl⟩
  go_wp2_with fail
  refine (newer_any _ _ a0 a1 a0 a1 _ ?_ ?_ ?_ ?_).mono ?_
  iterate 4 go_simp
  rintro r w' ⟨rfl, n, rfl⟩
  go_wp2_with fail
  refine (newer_any _ _ a4 a5 a0 a1 _ ?_ ?_ ?_ ?_).mono ?_
  iterate 4 go_simp
  rintro r w' ⟨rfl, n, rfl⟩
  go_wp2_with fail
  refine (newer_nil _ _).mono ?_
  rintro r w' ⟨rfl, n, rfl⟩
  go_wp2_with fail
  refine (newer_any _ _ a0 a1 a4 a5 _ ?_ ?_ ?_ ?_).mono ?_
  iterate 4 go_simp
  rintro r w' ⟨rfl, n, rfl⟩
  go_wp2_with fail
  refine (newer_any _ _ a0 a1 a0 a1 _ ?_ ?_ ?_ ?_).mono ?_
  iterate 4 go_simp
  rintro r w' ⟨rfl, n, rfl⟩
  go_wp2_with fail
  refine (pick0_any _ _ _ _ _ _ _).mono ?_
  rintro r w' ⟨rfl, rfl⟩
  go_wp2_with fail
  refine (pick1_any _ _ _ _ _ _ _).mono ?_
  rintro r w' ⟨rfl, rfl⟩
  go_wp2_with fail
  refine (newer_any _ _ a0 a1 a0 a1 _ ?_ ?_ ?_ ?_).mono ?_
  iterate 4 go_simp
  rintro r w' ⟨rfl, n, rfl⟩
  go_wp2_with fail
  refine (newer_any _ _ a0 a1 a0 a1 _ ?_ ?_ ?_ ?_).mono ?_
  iterate 4 go_simp
  rintro r w' ⟨rfl, n, rfl⟩
  go_wp2_with fail
  refine (newer_any _ _ a4 a5 a0 a1 _ ?_ ?_ ?_ ?_).mono ?_
  iterate 4 go_simp
  rintro r w' ⟨rfl, n, rfl⟩
  go_wp2_with fail
  refine (newer_any _ _ a0 a1 a0 a1 _ ?_ ?_ ?_ ?_).mono ?_
  iterate 4 go_simp
  rintro r w' ⟨rfl, n, rfl⟩
  go_wp2_with fail
  refine (newer_any _ _ a4 a5 a0 a1 _ ?_ ?_ ?_ ?_).mono ?_
  iterate 4 go_simp
  rintro r w' ⟨rfl, n, rfl⟩
  go_wp2
  go_ret
  exact ⟨rfl, by repeat (first | exact Grown.refl _ | apply Grown.drewN | apply Grown.drew | apply Grown.alloc)⟩

set_option maxRecDepth 100000 in
set_option maxHeartbeats 1000000 in
theorem sc111000 (a0 a1 a3 a4 a5 : Int) (w : World) (lca : a4 < a0) (eca : (a4 == a0) = false) (pba : a3 < a1) (m : (-9223372036854775808) < a1) (naa : nw a0 a1 a0 a1 = false) (nab : nw a0 a1 a0 a3 = true) (nac : nw a0 a1 a4 a5 = true) (nba : nw a0 a3 a0 a1 = false) (nbb : nw a0 a3 a0 a3 = false) (nbc : nw a0 a3 a4 a5 = true) (nca : nw a4 a5 a0 a1 = false) (ncb : nw a4 a5 a0 a3 = false) (ncc : nw a4 a5 a4 a5 = false) :
    Calls Try.prog 5 #[.int .u32 a0, .int .i64 a1, .int .u32 a0, .int .i64 a3, .int .u32 a4, .int .i64 a5] w fun e w' => e = .returned (.bool true) ∧ Grown w w' := by
  go_enter Try.func5, Try.ntmps5
  go_wp2_with fail
  refine (newSelf_any _ _ _ _ _ _).mono ?_
  rintro r w' ⟨rfl, rfl⟩
  go_wp2_with fail
  refine (newSelf_any _ _ _ _ _ _).mono ?_
  rintro r w' ⟨rfl, rfl⟩
  go_wp2_with fail
  refine (newSelf_any _ _ _ _ _ _).mono ?_
  rintro r w' ⟨rfl, rfl⟩
  go_wp2_with fail
  refine (noSelf_any _).mono ?_
  rintro r w' ⟨rfl, rfl⟩
  go_wp2_with fail
  refine (newer_nil _ _).mono ?_
  rintro r w' ⟨rfl, n, rfl⟩
  go_wp2_with fail
  refine (newer_any _ _ a0 a3 a0 a1 _ ?_ ?_ ?_ ?_).mono ?_
  iterate 4 go_simp
  rintro r w' ⟨rfl, n, rfl⟩
  go_wp2_with fail
  refine (newer_any _ _ a4 a5 a0 a1 _ ?_ ?_ ?_ ?_).mono ?_
  iterate 4 go_simp
  rintro r w' ⟨rfl, n, rfl⟩
  go_wp2_with fail
  refine (newer_nil _ _).mono ?_
  rintro r w' ⟨rfl, n, rfl⟩
  go_wp2_with fail
  refine (newer_any _ _ a0 a3 a4 a5 _ ?_ ?_ ?_ ?_).mono ?_
  iterate 4 go_simp
  rintro r w' ⟨rfl, n, rfl⟩
  go_wp2_with fail
  refine (newer_any _ _ a0 a1 a0 a3 _ ?_ ?_ ?_ ?_).mono ?_
  iterate 4 go_simp
  rintro r w' ⟨rfl, n, rfl⟩
  go_wp2_with fail
  refine (pick0_any _ _ _ _ _ _ _).mono ?_
  rintro r w' ⟨rfl, rfl⟩
  go_wp2_with fail
  refine (pick0_any _ _ _ _ _ _ _).mono ?_
  rintro r w' ⟨rfl, rfl⟩
  go_wp2_with fail
  refine (newer_any _ _ a0 a1 a0 a1 _ ?_ ?_ ?_ ?_).mono ?_
  iterate 4 go_simp
  rintro r w' ⟨rfl, n, rfl⟩
  go_wp2_with fail
  refine (newer_any _ _ a0 a3 a0 a1 _ ?_ ?_ ?_ ?_).mono ?_
  iterate 4 go_simp
  rintro r w' ⟨rfl, n, rfl⟩
  go_wp2_with fail
  refine (newer_any _ _ a4 a5 a0 a1 _ ?_ ?_ ?_ ?_).mono ?_
  iterate 4 go_simp
  rintro r w' ⟨rfl, n, rfl⟩
  go_wp2_with fail
  refine (newer_any _ _ a0 a1 a0 a3 _ ?_ ?_ ?_ ?_).mono ?_
  iterate 4 go_simp
  rintro r w' ⟨rfl, n, rfl⟩
  go_wp2_with fail
  refine (newer_any _ _ a0 a3 a4 a5 _ ?_ ?_ ?_ ?_).mono ?_
  iterate 4 go_simp
  rintro r w' ⟨rfl, n, rfl⟩
  go_wp2_with fail
  refine (newer_any _ _ a0 a1 a4 a5 _ ?_ ?_ ?_ ?_).mono ?_
  iterate 4 go_simp
  rintro r w' ⟨rfl, n, rfl⟩
  go_wp2_with fail
  refine (newer_any _ _ a4 a5 a0 a3 _ ?_ ?_ ?_ ?_).mono ?_
  iterate 4 go_simp
  rintro r w' ⟨rfl, n, rfl⟩
  go_wp2
  go_ret
  exact ⟨rfl, by repeat (first | exact Grown.refl _ | apply Grown.drewN | apply Grown.drew | apply Grown.alloc)⟩

set_option maxRecDepth 100000 in
set_option maxHeartbeats 1000000 in
theorem sc200010m (a0 a2 a3 a4 a5 : Int) (w : World) (lba : a2 < a0) (eba : (a2 == a0) = false) (lbc : a2 < a4) (ebc : (a2 == a4) = false) (lca : a4 < a0) (eca : (a4 == a0) = false) (naa : nw a0 (-9223372036854775808) a0 (-9223372036854775808) = false) (nab : nw a0 (-9223372036854775808) a2 a3 = true) (nac : nw a0 (-9223372036854775808) a4 a5 = true) (nba : nw a2 a3 a0 (-9223372036854775808) = false) (nbb : nw a2 a3 a2 a3 = false) (nbc : nw a2 a3 a4 a5 = false) (nca : nw a4 a5 a0 (-9223372036854775808) = false) (ncb : nw a4 a5 a2 a3 = true) (ncc : nw a4 a5 a4 a5 = false) :
    Calls Try.prog 5 #[.int .u32 a0, .int .i64 (-9223372036854775808), .int .u32 a2, .int .i64 a3, .int .u32 a4, .int .i64 a5] w fun e w' => e = .returned (.bool true) ∧ Grown w w' := by
  go_enter Try.func5, Try.ntmps5
  go_wp2_with fail
  refine (newSelf_any _ _ _ _ _ _).mono ?_
  rintro r w' ⟨rfl, rfl⟩
  go_wp2_with fail
  refine (newSelf_any _ _ _ _ _ _).mono ?_
  rintro r w' ⟨rfl, rfl⟩
  go_wp2_with fail
  refine (newSelf_any _ _ _ _ _ _).mono ?_
  rintro r w' ⟨rfl, rfl⟩
  go_wp2_with fail
  refine (noSelf_any _).mono ?_
  rintro r w' ⟨rfl, rfl⟩
  go_wp2_with fail
  refine (newer_nil _ _).mono ?_
  rintro r w' ⟨rfl, n, rfl⟩
  go_wp2_with fail
  refine (newer_any _ _ a2 a3 a0 (-9223372036854775808) _ ?_ ?_ ?_ ?_).mono ?_
  iterate 4 go_simp
  rintro r w' ⟨rfl, n, rfl⟩
  go_wp2_with fail
  refine (newer_any _ _ a4 a5 a0 (-9223372036854775808) _ ?_ ?_ ?_ ?_).mono ?_
  iterate 4 go_simp
  rintro r w' ⟨rfl, n, rfl⟩
  go_wp2_with fail
  refine (newer_nil _ _).mono ?_
  rintro r w' ⟨rfl, n, rfl⟩
  go_wp2_with fail
  refine (newer_any _ _ a2 a3 a4 a5 _ ?_ ?_ ?_ ?_).mono ?_
  iterate 4 go_simp
  rintro r w' ⟨rfl, n, rfl⟩
  go_wp2_with fail
  refine (newer_any _ _ a0 (-9223372036854775808) a4 a5 _ ?_ ?_ ?_ ?_).mono ?_
  iterate 4 go_simp
  rintro r w' ⟨rfl, n, rfl⟩
  go_wp2_with fail
  refine (pick0_any _ _ _ _ _ _ _).mono ?_
  rintro r w' ⟨rfl, rfl⟩
  go_wp2_with fail
  refine (pick0_any _ _ _ _ _ _ _).mono ?_
  rintro r w' ⟨rfl, rfl⟩
  go_wp2_with fail
  refine (newer_any _ _ a0 (-9223372036854775808) a0 (-9223372036854775808) _ ?_ ?_ ?_ ?_).mono ?_
  iterate 4 go_simp
  rintro r w' ⟨rfl, n, rfl⟩
  go_wp2_with fail
  refine (newer_any _ _ a2 a3 a0 (-9223372036854775808) _ ?_ ?_ ?_ ?_).mono ?_
  iterate 4 go_simp
  rintro r w' ⟨rfl, n, rfl⟩
  go_wp2_with fail
  refine (newer_any _ _ a4 a5 a0 (-9223372036854775808) _ ?_ ?_ ?_ ?_).mono ?_
  iterate 4 go_simp
  rintro r w' ⟨rfl, n, rfl⟩
  go_wp2_with fail
  refine (newer_any _ _ a0 (-9223372036854775808) a2 a3 _ ?_ ?_ ?_ ?_).mono ?_
  iterate 4 go_simp
  rintro r w' ⟨rfl, n, rfl⟩
  go_wp2_with fail
  refine (newer_any _ _ a2 a3 a4 a5 _ ?_ ?_ ?_ ?_).mono ?_
  iterate 4 go_simp
  rintro r w' ⟨rfl, n, rfl⟩
  go_wp2_with fail
  refine (newer_any _ _ a4 a5 a2 a3 _ ?_ ?_ ?_ ?_).mono ?_
  iterate 4 go_simp
  rintro r w' ⟨rfl, n, rfl⟩
  go_wp2_with fail
  refine (newer_any _ _ a2 a3 a0 (-9223372036854775808) _ ?_ ?_ ?_ ?_).mono ?_
  iterate 4 go_simp
  rintro r w' ⟨rfl, n, rfl⟩
  go_wp2
  go_ret
  exact ⟨rfl, by repeat (first | exact Grown.refl _ | apply Grown.drewN | apply Grown.drew | apply Grown.alloc)⟩

end Go.Proofs.Qxb6609441a
