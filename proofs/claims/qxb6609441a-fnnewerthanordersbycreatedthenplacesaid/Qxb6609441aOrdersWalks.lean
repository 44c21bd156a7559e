import Derived.Test.Qxb6609441aNewer
namespace Go.Proofs.Qxb6609441a
open Go.RowKit
set_option linter.unusedVariables false
theorem Grown.drewN {W w' : World} (h : Grown W w') (n : Nat) : Grown W (w'.drewN n) := h

/-! The plain laws on 'nw'. -/
theorem nw_self (c o : Int) : nw c o c o = false := by simp [nw]
theorem nw_later (c o p : Int) : nw (c + 1) p c o = true := by simp [nw]; omega
theorem nw_earlier (c o p : Int) : nw c o (c + 1) p = false := by simp [nw]; omega
theorem nw_after (c o : Int) : nw c (o + 1) c o = true := by simp [nw]; omega
theorem nw_ahead (c o : Int) : nw c o c (o + 1) = false := by simp [nw]; omega
/-- Of two signatures just one of three holds: the first is newer, the second is newer, they stand at one time and place. -/
theorem nw_three (c o d p : Int) :
    (nw c o d p = true ∧ nw d p c o = false ∧ (c == d) = false) ∨
    (nw c o d p = true ∧ nw d p c o = false ∧ (c == d) = true ∧ (o == p) = false) ∨
    (nw c o d p = false ∧ nw d p c o = true ∧ (c == d) = false) ∨
    (nw c o d p = false ∧ nw d p c o = true ∧ (c == d) = true ∧ (o == p) = false) ∨
    (nw c o d p = false ∧ nw d p c o = false ∧ (c == d) = true ∧ (o == p) = true) := by
  rcases Int.lt_trichotomy c d with h | h | h
  · refine .inr (.inr (.inl ⟨?_, ?_, ?_⟩)) <;> simp [nw] <;> omega
  · subst h
    rcases Int.lt_trichotomy o p with h | h | h
    · refine .inr (.inr (.inr (.inl ⟨?_, ?_, ?_, ?_⟩))) <;> simp [nw] <;> omega
    · subst h
      refine .inr (.inr (.inr (.inr ⟨?_, ?_, ?_, ?_⟩))) <;> simp [nw]
    · refine .inr (.inl ⟨?_, ?_, ?_, ?_⟩) <;> simp [nw] <;> omega
  · refine .inl ⟨?_, ?_, ?_⟩ <;> simp [nw] <;> omega

/-! One walk for each way through the law's tests. -/
set_option maxHeartbeats 1000000 in
theorem walk110 (a0 a1 a2 a3 a4 a6 a7 a8 a9 a10 : Int) (w : World) (c10 : 0 ≤ a2) (c20 : -9223372036854775808 ≤ a0) (n1 : nw a2 a0 a2 a0 = false) (c1 : a2 < 4294967295) (n2 : nw (a2 + 1) (-9223372036854775808) a2 a0 = true) (n3 : nw a2 a0 (a2 + 1) (-9223372036854775808) = false) (c2 : a0 < 9223372036854775807) (n4 : nw a2 (a0 + 1) a2 a0 = true) (n5 : nw a2 a0 a2 (a0 + 1) = false)  :
    Calls Try.prog 4 #[.int .i64 a0, .int .u8 a1, .int .u32 a2, .int .u32 a3, .int .u32 a4, .bool true, .int .i64 a6, .int .u8 a7, .int .u32 a8, .int .u32 a9, .int .u32 a10] w fun e w' => e = .returned (.bool true) ∧ Grown w w' := by
  go_enter Try.func4, Try.ntmps4
  go_wp2_with fail
  refine (newSelf_any _ _ _ _ _ _).mono ?_
  rintro r w' ⟨rfl, rfl⟩
  go_wp2_with fail
  refine (noSelf_any _).mono ?_
  rintro r w' ⟨rfl, rfl⟩
  go_wp2_with fail
  refine (newer_nil _ _).mono ?_
  rintro r w' ⟨rfl, n, rfl⟩
  go_wp2_with fail
  refine (newer_any _ _ a2 a0 a2 a0 _ ?_ ?_ ?_ ?_).mono ?_
  iterate 4 go_simp
  rintro r w' ⟨rfl, n, rfl⟩
  go_wp2_with fail
  refine (newSelf_any _ _ _ _ _ _).mono ?_
  rintro r w' ⟨rfl, rfl⟩
  go_wp2_with fail
  refine (newer_any _ _ (a2 + 1) (-9223372036854775808) a2 a0 _ ?_ ?_ ?_ ?_).mono ?_
  iterate 4 go_simp
  rintro r w' ⟨rfl, n, rfl⟩
  go_wp2_with fail
  refine (newer_any _ _ a2 a0 (a2 + 1) (-9223372036854775808) _ ?_ ?_ ?_ ?_).mono ?_
  iterate 4 go_simp
  rintro r w' ⟨rfl, n, rfl⟩
  go_wp2_with fail
  refine (newSelf_any _ _ _ _ _ _).mono ?_
  rintro r w' ⟨rfl, rfl⟩
  go_wp2_with fail
  refine (newer_any _ _ a2 (a0 + 1) a2 a0 _ ?_ ?_ ?_ ?_).mono ?_
  iterate 4 go_simp
  rintro r w' ⟨rfl, n, rfl⟩
  go_wp2_with fail
  refine (newer_any _ _ a2 a0 a2 (a0 + 1) _ ?_ ?_ ?_ ?_).mono ?_
  iterate 4 go_simp
  rintro r w' ⟨rfl, n, rfl⟩
  go_wp2
  go_ret
  exact ⟨rfl, by repeat (first | exact Grown.refl _ | apply Grown.drewN | apply Grown.drew | apply Grown.alloc)⟩

set_option maxHeartbeats 1000000 in
theorem walk111 (a0 a1 a2 a3 a4 a6 a7 a8 a9 a10 : Int) (w : World) (c10 : 0 ≤ a2) (c20 : -9223372036854775808 ≤ a0) (n1 : nw a2 a0 a2 a0 = false) (c1 : a2 < 4294967295) (n2 : nw (a2 + 1) (-9223372036854775808) a2 a0 = true) (n3 : nw a2 a0 (a2 + 1) (-9223372036854775808) = false) (c2 : a0 < 9223372036854775807) (n4 : nw a2 (a0 + 1) a2 a0 = true) (n5 : nw a2 a0 a2 (a0 + 1) = false) (n6 : nw a2 a0 a8 a6 = true) (n7 : nw a8 a6 a2 a0 = false) (n8 : (a2 == a8) = false) :
    Calls Try.prog 4 #[.int .i64 a0, .int .u8 a1, .int .u32 a2, .int .u32 a3, .int .u32 a4, .bool false, .int .i64 a6, .int .u8 a7, .int .u32 a8, .int .u32 a9, .int .u32 a10] w fun e w' => e = .returned (.bool true) ∧ Grown w w' := by
  go_enter Try.func4, Try.ntmps4
  go_wp2_with fail
  refine (newSelf_any _ _ _ _ _ _).mono ?_
  rintro r w' ⟨rfl, rfl⟩
  go_wp2_with fail
  refine (noSelf_any _).mono ?_
  rintro r w' ⟨rfl, rfl⟩
  go_wp2_with fail
  refine (newer_nil _ _).mono ?_
  rintro r w' ⟨rfl, n, rfl⟩
  go_wp2_with fail
  refine (newer_any _ _ a2 a0 a2 a0 _ ?_ ?_ ?_ ?_).mono ?_
  iterate 4 go_simp
  rintro r w' ⟨rfl, n, rfl⟩
  go_wp2_with fail
  refine (newSelf_any _ _ _ _ _ _).mono ?_
  rintro r w' ⟨rfl, rfl⟩
  go_wp2_with fail
  refine (newer_any _ _ (a2 + 1) (-9223372036854775808) a2 a0 _ ?_ ?_ ?_ ?_).mono ?_
  iterate 4 go_simp
  rintro r w' ⟨rfl, n, rfl⟩
  go_wp2_with fail
  refine (newer_any _ _ a2 a0 (a2 + 1) (-9223372036854775808) _ ?_ ?_ ?_ ?_).mono ?_
  iterate 4 go_simp
  rintro r w' ⟨rfl, n, rfl⟩
  go_wp2_with fail
  refine (newSelf_any _ _ _ _ _ _).mono ?_
  rintro r w' ⟨rfl, rfl⟩
  go_wp2_with fail
  refine (newer_any _ _ a2 (a0 + 1) a2 a0 _ ?_ ?_ ?_ ?_).mono ?_
  iterate 4 go_simp
  rintro r w' ⟨rfl, n, rfl⟩
  go_wp2_with fail
  refine (newer_any _ _ a2 a0 a2 (a0 + 1) _ ?_ ?_ ?_ ?_).mono ?_
  iterate 4 go_simp
  rintro r w' ⟨rfl, n, rfl⟩
  go_wp2_with fail
  refine (newSelf_any _ _ _ _ _ _).mono ?_
  rintro r w' ⟨rfl, rfl⟩
  go_wp2_with fail
  refine (newer_any _ _ a2 a0 a8 a6 _ ?_ ?_ ?_ ?_).mono ?_
  iterate 4 go_simp
  rintro r w' ⟨rfl, n, rfl⟩
  go_wp2_with fail
  refine (newer_any _ _ a8 a6 a2 a0 _ ?_ ?_ ?_ ?_).mono ?_
  iterate 4 go_simp
  rintro r w' ⟨rfl, n, rfl⟩
  go_wp2_with fail
  refine (newSelf_any _ _ _ _ _ _).mono ?_
  rintro r w' ⟨rfl, rfl⟩
  go_wp2_with fail
  refine (newSelf_any _ _ _ _ _ _).mono ?_
  rintro r w' ⟨rfl, rfl⟩
  go_wp2_with fail
  refine (newer_any _ _ a2 a0 a8 a6 _ ?_ ?_ ?_ ?_).mono ?_
  iterate 4 go_simp
  rintro r w' ⟨rfl, n, rfl⟩
  go_wp2_with fail
  refine (newer_any _ _ a8 a6 a2 a0 _ ?_ ?_ ?_ ?_).mono ?_
  iterate 4 go_simp
  rintro r w' ⟨rfl, n, rfl⟩
  go_wp2
  go_ret
  exact ⟨rfl, by repeat (first | exact Grown.refl _ | apply Grown.drewN | apply Grown.drew | apply Grown.alloc)⟩

set_option maxHeartbeats 1000000 in
theorem walk112 (a0 a1 a2 a3 a4 a6 a7 a8 a9 a10 : Int) (w : World) (c10 : 0 ≤ a2) (c20 : -9223372036854775808 ≤ a0) (n1 : nw a2 a0 a2 a0 = false) (c1 : a2 < 4294967295) (n2 : nw (a2 + 1) (-9223372036854775808) a2 a0 = true) (n3 : nw a2 a0 (a2 + 1) (-9223372036854775808) = false) (c2 : a0 < 9223372036854775807) (n4 : nw a2 (a0 + 1) a2 a0 = true) (n5 : nw a2 a0 a2 (a0 + 1) = false) (n6 : nw a2 a0 a8 a6 = true) (n7 : nw a8 a6 a2 a0 = false) (n8 : (a2 == a8) = true) (n9 : (a0 == a6) = false) :
    Calls Try.prog 4 #[.int .i64 a0, .int .u8 a1, .int .u32 a2, .int .u32 a3, .int .u32 a4, .bool false, .int .i64 a6, .int .u8 a7, .int .u32 a8, .int .u32 a9, .int .u32 a10] w fun e w' => e = .returned (.bool true) ∧ Grown w w' := by
  go_enter Try.func4, Try.ntmps4
  go_wp2_with fail
  refine (newSelf_any _ _ _ _ _ _).mono ?_
  rintro r w' ⟨rfl, rfl⟩
  go_wp2_with fail
  refine (noSelf_any _).mono ?_
  rintro r w' ⟨rfl, rfl⟩
  go_wp2_with fail
  refine (newer_nil _ _).mono ?_
  rintro r w' ⟨rfl, n, rfl⟩
  go_wp2_with fail
  refine (newer_any _ _ a2 a0 a2 a0 _ ?_ ?_ ?_ ?_).mono ?_
  iterate 4 go_simp
  rintro r w' ⟨rfl, n, rfl⟩
  go_wp2_with fail
  refine (newSelf_any _ _ _ _ _ _).mono ?_
  rintro r w' ⟨rfl, rfl⟩
  go_wp2_with fail
  refine (newer_any _ _ (a2 + 1) (-9223372036854775808) a2 a0 _ ?_ ?_ ?_ ?_).mono ?_
  iterate 4 go_simp
  rintro r w' ⟨rfl, n, rfl⟩
  go_wp2_with fail
  refine (newer_any _ _ a2 a0 (a2 + 1) (-9223372036854775808) _ ?_ ?_ ?_ ?_).mono ?_
  iterate 4 go_simp
  rintro r w' ⟨rfl, n, rfl⟩
  go_wp2_with fail
  refine (newSelf_any _ _ _ _ _ _).mono ?_
  rintro r w' ⟨rfl, rfl⟩
  go_wp2_with fail
  refine (newer_any _ _ a2 (a0 + 1) a2 a0 _ ?_ ?_ ?_ ?_).mono ?_
  iterate 4 go_simp
  rintro r w' ⟨rfl, n, rfl⟩
  go_wp2_with fail
  refine (newer_any _ _ a2 a0 a2 (a0 + 1) _ ?_ ?_ ?_ ?_).mono ?_
  iterate 4 go_simp
  rintro r w' ⟨rfl, n, rfl⟩
  go_wp2_with fail
  refine (newSelf_any _ _ _ _ _ _).mono ?_
  rintro r w' ⟨rfl, rfl⟩
  go_wp2_with fail
  refine (newer_any _ _ a2 a0 a8 a6 _ ?_ ?_ ?_ ?_).mono ?_
  iterate 4 go_simp
  rintro r w' ⟨rfl, n, rfl⟩
  go_wp2_with fail
  refine (newer_any _ _ a8 a6 a2 a0 _ ?_ ?_ ?_ ?_).mono ?_
  iterate 4 go_simp
  rintro r w' ⟨rfl, n, rfl⟩
  go_wp2_with fail
  refine (newSelf_any _ _ _ _ _ _).mono ?_
  rintro r w' ⟨rfl, rfl⟩
  go_wp2_with fail
  refine (newSelf_any _ _ _ _ _ _).mono ?_
  rintro r w' ⟨rfl, rfl⟩
  go_wp2_with fail
  refine (newer_any _ _ a2 a0 a8 a6 _ ?_ ?_ ?_ ?_).mono ?_
  iterate 4 go_simp
  rintro r w' ⟨rfl, n, rfl⟩
  go_wp2_with fail
  refine (newer_any _ _ a8 a6 a2 a0 _ ?_ ?_ ?_ ?_).mono ?_
  iterate 4 go_simp
  rintro r w' ⟨rfl, n, rfl⟩
  go_wp2
  go_ret
  exact ⟨rfl, by repeat (first | exact Grown.refl _ | apply Grown.drewN | apply Grown.drew | apply Grown.alloc)⟩

set_option maxHeartbeats 1000000 in
theorem walk113 (a0 a1 a2 a3 a4 a6 a7 a8 a9 a10 : Int) (w : World) (c10 : 0 ≤ a2) (c20 : -9223372036854775808 ≤ a0) (n1 : nw a2 a0 a2 a0 = false) (c1 : a2 < 4294967295) (n2 : nw (a2 + 1) (-9223372036854775808) a2 a0 = true) (n3 : nw a2 a0 (a2 + 1) (-9223372036854775808) = false) (c2 : a0 < 9223372036854775807) (n4 : nw a2 (a0 + 1) a2 a0 = true) (n5 : nw a2 a0 a2 (a0 + 1) = false) (n6 : nw a2 a0 a8 a6 = false) (n7 : nw a8 a6 a2 a0 = true) (n8 : (a2 == a8) = false) :
    Calls Try.prog 4 #[.int .i64 a0, .int .u8 a1, .int .u32 a2, .int .u32 a3, .int .u32 a4, .bool false, .int .i64 a6, .int .u8 a7, .int .u32 a8, .int .u32 a9, .int .u32 a10] w fun e w' => e = .returned (.bool true) ∧ Grown w w' := by
  go_enter Try.func4, Try.ntmps4
  go_wp2_with fail
  refine (newSelf_any _ _ _ _ _ _).mono ?_
  rintro r w' ⟨rfl, rfl⟩
  go_wp2_with fail
  refine (noSelf_any _).mono ?_
  rintro r w' ⟨rfl, rfl⟩
  go_wp2_with fail
  refine (newer_nil _ _).mono ?_
  rintro r w' ⟨rfl, n, rfl⟩
  go_wp2_with fail
  refine (newer_any _ _ a2 a0 a2 a0 _ ?_ ?_ ?_ ?_).mono ?_
  iterate 4 go_simp
  rintro r w' ⟨rfl, n, rfl⟩
  go_wp2_with fail
  refine (newSelf_any _ _ _ _ _ _).mono ?_
  rintro r w' ⟨rfl, rfl⟩
  go_wp2_with fail
  refine (newer_any _ _ (a2 + 1) (-9223372036854775808) a2 a0 _ ?_ ?_ ?_ ?_).mono ?_
  iterate 4 go_simp
  rintro r w' ⟨rfl, n, rfl⟩
  go_wp2_with fail
  refine (newer_any _ _ a2 a0 (a2 + 1) (-9223372036854775808) _ ?_ ?_ ?_ ?_).mono ?_
  iterate 4 go_simp
  rintro r w' ⟨rfl, n, rfl⟩
  go_wp2_with fail
  refine (newSelf_any _ _ _ _ _ _).mono ?_
  rintro r w' ⟨rfl, rfl⟩
  go_wp2_with fail
  refine (newer_any _ _ a2 (a0 + 1) a2 a0 _ ?_ ?_ ?_ ?_).mono ?_
  iterate 4 go_simp
  rintro r w' ⟨rfl, n, rfl⟩
  go_wp2_with fail
  refine (newer_any _ _ a2 a0 a2 (a0 + 1) _ ?_ ?_ ?_ ?_).mono ?_
  iterate 4 go_simp
  rintro r w' ⟨rfl, n, rfl⟩
  go_wp2_with fail
  refine (newSelf_any _ _ _ _ _ _).mono ?_
  rintro r w' ⟨rfl, rfl⟩
  go_wp2_with fail
  refine (newer_any _ _ a2 a0 a8 a6 _ ?_ ?_ ?_ ?_).mono ?_
  iterate 4 go_simp
  rintro r w' ⟨rfl, n, rfl⟩
  go_wp2_with fail
  refine (newer_any _ _ a8 a6 a2 a0 _ ?_ ?_ ?_ ?_).mono ?_
  iterate 4 go_simp
  rintro r w' ⟨rfl, n, rfl⟩
  go_wp2_with fail
  refine (newSelf_any _ _ _ _ _ _).mono ?_
  rintro r w' ⟨rfl, rfl⟩
  go_wp2_with fail
  refine (newSelf_any _ _ _ _ _ _).mono ?_
  rintro r w' ⟨rfl, rfl⟩
  go_wp2_with fail
  refine (newer_any _ _ a2 a0 a8 a6 _ ?_ ?_ ?_ ?_).mono ?_
  iterate 4 go_simp
  rintro r w' ⟨rfl, n, rfl⟩
  go_wp2_with fail
  refine (newer_any _ _ a8 a6 a2 a0 _ ?_ ?_ ?_ ?_).mono ?_
  iterate 4 go_simp
  rintro r w' ⟨rfl, n, rfl⟩
  go_wp2
  go_ret
  exact ⟨rfl, by repeat (first | exact Grown.refl _ | apply Grown.drewN | apply Grown.drew | apply Grown.alloc)⟩

set_option maxHeartbeats 1000000 in
theorem walk114 (a0 a1 a2 a3 a4 a6 a7 a8 a9 a10 : Int) (w : World) (c10 : 0 ≤ a2) (c20 : -9223372036854775808 ≤ a0) (n1 : nw a2 a0 a2 a0 = false) (c1 : a2 < 4294967295) (n2 : nw (a2 + 1) (-9223372036854775808) a2 a0 = true) (n3 : nw a2 a0 (a2 + 1) (-9223372036854775808) = false) (c2 : a0 < 9223372036854775807) (n4 : nw a2 (a0 + 1) a2 a0 = true) (n5 : nw a2 a0 a2 (a0 + 1) = false) (n6 : nw a2 a0 a8 a6 = false) (n7 : nw a8 a6 a2 a0 = true) (n8 : (a2 == a8) = true) (n9 : (a0 == a6) = false) :
    Calls Try.prog 4 #[.int .i64 a0, .int .u8 a1, .int .u32 a2, .int .u32 a3, .int .u32 a4, .bool false, .int .i64 a6, .int .u8 a7, .int .u32 a8, .int .u32 a9, .int .u32 a10] w fun e w' => e = .returned (.bool true) ∧ Grown w w' := by
  go_enter Try.func4, Try.ntmps4
  go_wp2_with fail
  refine (newSelf_any _ _ _ _ _ _).mono ?_
  rintro r w' ⟨rfl, rfl⟩
  go_wp2_with fail
  refine (noSelf_any _).mono ?_
  rintro r w' ⟨rfl, rfl⟩
  go_wp2_with fail
  refine (newer_nil _ _).mono ?_
  rintro r w' ⟨rfl, n, rfl⟩
  go_wp2_with fail
  refine (newer_any _ _ a2 a0 a2 a0 _ ?_ ?_ ?_ ?_).mono ?_
  iterate 4 go_simp
  rintro r w' ⟨rfl, n, rfl⟩
  go_wp2_with fail
  refine (newSelf_any _ _ _ _ _ _).mono ?_
  rintro r w' ⟨rfl, rfl⟩
  go_wp2_with fail
  refine (newer_any _ _ (a2 + 1) (-9223372036854775808) a2 a0 _ ?_ ?_ ?_ ?_).mono ?_
  iterate 4 go_simp
  rintro r w' ⟨rfl, n, rfl⟩
  go_wp2_with fail
  refine (newer_any _ _ a2 a0 (a2 + 1) (-9223372036854775808) _ ?_ ?_ ?_ ?_).mono ?_
  iterate 4 go_simp
  rintro r w' ⟨rfl, n, rfl⟩
  go_wp2_with fail
  refine (newSelf_any _ _ _ _ _ _).mono ?_
  rintro r w' ⟨rfl, rfl⟩
  go_wp2_with fail
  refine (newer_any _ _ a2 (a0 + 1) a2 a0 _ ?_ ?_ ?_ ?_).mono ?_
  iterate 4 go_simp
  rintro r w' ⟨rfl, n, rfl⟩
  go_wp2_with fail
  refine (newer_any _ _ a2 a0 a2 (a0 + 1) _ ?_ ?_ ?_ ?_).mono ?_
  iterate 4 go_simp
  rintro r w' ⟨rfl, n, rfl⟩
  go_wp2_with fail
  refine (newSelf_any _ _ _ _ _ _).mono ?_
  rintro r w' ⟨rfl, rfl⟩
  go_wp2_with fail
  refine (newer_any _ _ a2 a0 a8 a6 _ ?_ ?_ ?_ ?_).mono ?_
  iterate 4 go_simp
  rintro r w' ⟨rfl, n, rfl⟩
  go_wp2_with fail
  refine (newer_any _ _ a8 a6 a2 a0 _ ?_ ?_ ?_ ?_).mono ?_
  iterate 4 go_simp
  rintro r w' ⟨rfl, n, rfl⟩
  go_wp2_with fail
  refine (newSelf_any _ _ _ _ _ _).mono ?_
  rintro r w' ⟨rfl, rfl⟩
  go_wp2_with fail
  refine (newSelf_any _ _ _ _ _ _).mono ?_
  rintro r w' ⟨rfl, rfl⟩
  go_wp2_with fail
  refine (newer_any _ _ a2 a0 a8 a6 _ ?_ ?_ ?_ ?_).mono ?_
  iterate 4 go_simp
  rintro r w' ⟨rfl, n, rfl⟩
  go_wp2_with fail
  refine (newer_any _ _ a8 a6 a2 a0 _ ?_ ?_ ?_ ?_).mono ?_
  iterate 4 go_simp
  rintro r w' ⟨rfl, n, rfl⟩
  go_wp2
  go_ret
  exact ⟨rfl, by repeat (first | exact Grown.refl _ | apply Grown.drewN | apply Grown.drew | apply Grown.alloc)⟩

set_option maxHeartbeats 1000000 in
theorem walk115 (a0 a1 a2 a3 a4 a6 a7 a8 a9 a10 : Int) (w : World) (c10 : 0 ≤ a2) (c20 : -9223372036854775808 ≤ a0) (n1 : nw a2 a0 a2 a0 = false) (c1 : a2 < 4294967295) (n2 : nw (a2 + 1) (-9223372036854775808) a2 a0 = true) (n3 : nw a2 a0 (a2 + 1) (-9223372036854775808) = false) (c2 : a0 < 9223372036854775807) (n4 : nw a2 (a0 + 1) a2 a0 = true) (n5 : nw a2 a0 a2 (a0 + 1) = false) (n6 : nw a2 a0 a8 a6 = false) (n7 : nw a8 a6 a2 a0 = false) (n8 : (a2 == a8) = true) (n9 : (a0 == a6) = true) :
    Calls Try.prog 4 #[.int .i64 a0, .int .u8 a1, .int .u32 a2, .int .u32 a3, .int .u32 a4, .bool false, .int .i64 a6, .int .u8 a7, .int .u32 a8, .int .u32 a9, .int .u32 a10] w fun e w' => e = .returned (.bool true) ∧ Grown w w' := by
  go_enter Try.func4, Try.ntmps4
  go_wp2_with fail
  refine (newSelf_any _ _ _ _ _ _).mono ?_
  rintro r w' ⟨rfl, rfl⟩
  go_wp2_with fail
  refine (noSelf_any _).mono ?_
  rintro r w' ⟨rfl, rfl⟩
  go_wp2_with fail
  refine (newer_nil _ _).mono ?_
  rintro r w' ⟨rfl, n, rfl⟩
  go_wp2_with fail
  refine (newer_any _ _ a2 a0 a2 a0 _ ?_ ?_ ?_ ?_).mono ?_
  iterate 4 go_simp
  rintro r w' ⟨rfl, n, rfl⟩
  go_wp2_with fail
  refine (newSelf_any _ _ _ _ _ _).mono ?_
  rintro r w' ⟨rfl, rfl⟩
  go_wp2_with fail
  refine (newer_any _ _ (a2 + 1) (-9223372036854775808) a2 a0 _ ?_ ?_ ?_ ?_).mono ?_
  iterate 4 go_simp
  rintro r w' ⟨rfl, n, rfl⟩
  go_wp2_with fail
  refine (newer_any _ _ a2 a0 (a2 + 1) (-9223372036854775808) _ ?_ ?_ ?_ ?_).mono ?_
  iterate 4 go_simp
  rintro r w' ⟨rfl, n, rfl⟩
  go_wp2_with fail
  refine (newSelf_any _ _ _ _ _ _).mono ?_
  rintro r w' ⟨rfl, rfl⟩
  go_wp2_with fail
  refine (newer_any _ _ a2 (a0 + 1) a2 a0 _ ?_ ?_ ?_ ?_).mono ?_
  iterate 4 go_simp
  rintro r w' ⟨rfl, n, rfl⟩
  go_wp2_with fail
  refine (newer_any _ _ a2 a0 a2 (a0 + 1) _ ?_ ?_ ?_ ?_).mono ?_
  iterate 4 go_simp
  rintro r w' ⟨rfl, n, rfl⟩
  go_wp2_with fail
  refine (newSelf_any _ _ _ _ _ _).mono ?_
  rintro r w' ⟨rfl, rfl⟩
  go_wp2_with fail
  refine (newer_any _ _ a2 a0 a8 a6 _ ?_ ?_ ?_ ?_).mono ?_
  iterate 4 go_simp
  rintro r w' ⟨rfl, n, rfl⟩
  go_wp2_with fail
  refine (newer_any _ _ a8 a6 a2 a0 _ ?_ ?_ ?_ ?_).mono ?_
  iterate 4 go_simp
  rintro r w' ⟨rfl, n, rfl⟩
  go_wp2_with fail
  refine (newSelf_any _ _ _ _ _ _).mono ?_
  rintro r w' ⟨rfl, rfl⟩
  go_wp2_with fail
  refine (newSelf_any _ _ _ _ _ _).mono ?_
  rintro r w' ⟨rfl, rfl⟩
  go_wp2_with fail
  refine (newer_any _ _ a2 a0 a8 a6 _ ?_ ?_ ?_ ?_).mono ?_
  iterate 4 go_simp
  rintro r w' ⟨rfl, n, rfl⟩
  go_wp2_with fail
  refine (newer_any _ _ a8 a6 a2 a0 _ ?_ ?_ ?_ ?_).mono ?_
  iterate 4 go_simp
  rintro r w' ⟨rfl, n, rfl⟩
  go_wp2
  go_ret
  exact ⟨rfl, by repeat (first | exact Grown.refl _ | apply Grown.drewN | apply Grown.drew | apply Grown.alloc)⟩

set_option maxHeartbeats 1000000 in
theorem walk100 (a0 a1 a2 a3 a4 a6 a7 a8 a9 a10 : Int) (w : World) (c10 : 0 ≤ a2) (c20 : -9223372036854775808 ≤ a0) (n1 : nw a2 a0 a2 a0 = false) (c1 : a2 < 4294967295) (n2 : nw (a2 + 1) (-9223372036854775808) a2 a0 = true) (n3 : nw a2 a0 (a2 + 1) (-9223372036854775808) = false) (c2 : ¬ a0 < 9223372036854775807)  :
    Calls Try.prog 4 #[.int .i64 a0, .int .u8 a1, .int .u32 a2, .int .u32 a3, .int .u32 a4, .bool true, .int .i64 a6, .int .u8 a7, .int .u32 a8, .int .u32 a9, .int .u32 a10] w fun e w' => e = .returned (.bool true) ∧ Grown w w' := by
  go_enter Try.func4, Try.ntmps4
  go_wp2_with fail
  refine (newSelf_any _ _ _ _ _ _).mono ?_
  rintro r w' ⟨rfl, rfl⟩
  go_wp2_with fail
  refine (noSelf_any _).mono ?_
  rintro r w' ⟨rfl, rfl⟩
  go_wp2_with fail
  refine (newer_nil _ _).mono ?_
  rintro r w' ⟨rfl, n, rfl⟩
  go_wp2_with fail
  refine (newer_any _ _ a2 a0 a2 a0 _ ?_ ?_ ?_ ?_).mono ?_
  iterate 4 go_simp
  rintro r w' ⟨rfl, n, rfl⟩
  go_wp2_with fail
  refine (newSelf_any _ _ _ _ _ _).mono ?_
  rintro r w' ⟨rfl, rfl⟩
  go_wp2_with fail
  refine (newer_any _ _ (a2 + 1) (-9223372036854775808) a2 a0 _ ?_ ?_ ?_ ?_).mono ?_
  iterate 4 go_simp
  rintro r w' ⟨rfl, n, rfl⟩
  go_wp2_with fail
  refine (newer_any _ _ a2 a0 (a2 + 1) (-9223372036854775808) _ ?_ ?_ ?_ ?_).mono ?_
  iterate 4 go_simp
  rintro r w' ⟨rfl, n, rfl⟩
  go_wp2
  go_ret
  exact ⟨rfl, by repeat (first | exact Grown.refl _ | apply Grown.drewN | apply Grown.drew | apply Grown.alloc)⟩

set_option maxHeartbeats 1000000 in
theorem walk101 (a0 a1 a2 a3 a4 a6 a7 a8 a9 a10 : Int) (w : World) (c10 : 0 ≤ a2) (c20 : -9223372036854775808 ≤ a0) (n1 : nw a2 a0 a2 a0 = false) (c1 : a2 < 4294967295) (n2 : nw (a2 + 1) (-9223372036854775808) a2 a0 = true) (n3 : nw a2 a0 (a2 + 1) (-9223372036854775808) = false) (c2 : ¬ a0 < 9223372036854775807) (n6 : nw a2 a0 a8 a6 = true) (n7 : nw a8 a6 a2 a0 = false) (n8 : (a2 == a8) = false) :
    Calls Try.prog 4 #[.int .i64 a0, .int .u8 a1, .int .u32 a2, .int .u32 a3, .int .u32 a4, .bool false, .int .i64 a6, .int .u8 a7, .int .u32 a8, .int .u32 a9, .int .u32 a10] w fun e w' => e = .returned (.bool true) ∧ Grown w w' := by
  go_enter Try.func4, Try.ntmps4
  go_wp2_with fail
  refine (newSelf_any _ _ _ _ _ _).mono ?_
  rintro r w' ⟨rfl, rfl⟩
  go_wp2_with fail
  refine (noSelf_any _).mono ?_
  rintro r w' ⟨rfl, rfl⟩
  go_wp2_with fail
  refine (newer_nil _ _).mono ?_
  rintro r w' ⟨rfl, n, rfl⟩
  go_wp2_with fail
  refine (newer_any _ _ a2 a0 a2 a0 _ ?_ ?_ ?_ ?_).mono ?_
  iterate 4 go_simp
  rintro r w' ⟨rfl, n, rfl⟩
  go_wp2_with fail
  refine (newSelf_any _ _ _ _ _ _).mono ?_
  rintro r w' ⟨rfl, rfl⟩
  go_wp2_with fail
  refine (newer_any _ _ (a2 + 1) (-9223372036854775808) a2 a0 _ ?_ ?_ ?_ ?_).mono ?_
  iterate 4 go_simp
  rintro r w' ⟨rfl, n, rfl⟩
  go_wp2_with fail
  refine (newer_any _ _ a2 a0 (a2 + 1) (-9223372036854775808) _ ?_ ?_ ?_ ?_).mono ?_
  iterate 4 go_simp
  rintro r w' ⟨rfl, n, rfl⟩
  go_wp2_with fail
  refine (newSelf_any _ _ _ _ _ _).mono ?_
  rintro r w' ⟨rfl, rfl⟩
  go_wp2_with fail
  refine (newer_any _ _ a2 a0 a8 a6 _ ?_ ?_ ?_ ?_).mono ?_
  iterate 4 go_simp
  rintro r w' ⟨rfl, n, rfl⟩
  go_wp2_with fail
  refine (newer_any _ _ a8 a6 a2 a0 _ ?_ ?_ ?_ ?_).mono ?_
  iterate 4 go_simp
  rintro r w' ⟨rfl, n, rfl⟩
  go_wp2_with fail
  refine (newSelf_any _ _ _ _ _ _).mono ?_
  rintro r w' ⟨rfl, rfl⟩
  go_wp2_with fail
  refine (newSelf_any _ _ _ _ _ _).mono ?_
  rintro r w' ⟨rfl, rfl⟩
  go_wp2_with fail
  refine (newer_any _ _ a2 a0 a8 a6 _ ?_ ?_ ?_ ?_).mono ?_
  iterate 4 go_simp
  rintro r w' ⟨rfl, n, rfl⟩
  go_wp2_with fail
  refine (newer_any _ _ a8 a6 a2 a0 _ ?_ ?_ ?_ ?_).mono ?_
  iterate 4 go_simp
  rintro r w' ⟨rfl, n, rfl⟩
  go_wp2
  go_ret
  exact ⟨rfl, by repeat (first | exact Grown.refl _ | apply Grown.drewN | apply Grown.drew | apply Grown.alloc)⟩

set_option maxHeartbeats 1000000 in
theorem walk102 (a0 a1 a2 a3 a4 a6 a7 a8 a9 a10 : Int) (w : World) (c10 : 0 ≤ a2) (c20 : -9223372036854775808 ≤ a0) (n1 : nw a2 a0 a2 a0 = false) (c1 : a2 < 4294967295) (n2 : nw (a2 + 1) (-9223372036854775808) a2 a0 = true) (n3 : nw a2 a0 (a2 + 1) (-9223372036854775808) = false) (c2 : ¬ a0 < 9223372036854775807) (n6 : nw a2 a0 a8 a6 = true) (n7 : nw a8 a6 a2 a0 = false) (n8 : (a2 == a8) = true) (n9 : (a0 == a6) = false) :
    Calls Try.prog 4 #[.int .i64 a0, .int .u8 a1, .int .u32 a2, .int .u32 a3, .int .u32 a4, .bool false, .int .i64 a6, .int .u8 a7, .int .u32 a8, .int .u32 a9, .int .u32 a10] w fun e w' => e = .returned (.bool true) ∧ Grown w w' := by
  go_enter Try.func4, Try.ntmps4
  go_wp2_with fail
  refine (newSelf_any _ _ _ _ _ _).mono ?_
  rintro r w' ⟨rfl, rfl⟩
  go_wp2_with fail
  refine (noSelf_any _).mono ?_
  rintro r w' ⟨rfl, rfl⟩
  go_wp2_with fail
  refine (newer_nil _ _).mono ?_
  rintro r w' ⟨rfl, n, rfl⟩
  go_wp2_with fail
  refine (newer_any _ _ a2 a0 a2 a0 _ ?_ ?_ ?_ ?_).mono ?_
  iterate 4 go_simp
  rintro r w' ⟨rfl, n, rfl⟩
  go_wp2_with fail
  refine (newSelf_any _ _ _ _ _ _).mono ?_
  rintro r w' ⟨rfl, rfl⟩
  go_wp2_with fail
  refine (newer_any _ _ (a2 + 1) (-9223372036854775808) a2 a0 _ ?_ ?_ ?_ ?_).mono ?_
  iterate 4 go_simp
  rintro r w' ⟨rfl, n, rfl⟩
  go_wp2_with fail
  refine (newer_any _ _ a2 a0 (a2 + 1) (-9223372036854775808) _ ?_ ?_ ?_ ?_).mono ?_
  iterate 4 go_simp
  rintro r w' ⟨rfl, n, rfl⟩
  go_wp2_with fail
  refine (newSelf_any _ _ _ _ _ _).mono ?_
  rintro r w' ⟨rfl, rfl⟩
  go_wp2_with fail
  refine (newer_any _ _ a2 a0 a8 a6 _ ?_ ?_ ?_ ?_).mono ?_
  iterate 4 go_simp
  rintro r w' ⟨rfl, n, rfl⟩
  go_wp2_with fail
  refine (newer_any _ _ a8 a6 a2 a0 _ ?_ ?_ ?_ ?_).mono ?_
  iterate 4 go_simp
  rintro r w' ⟨rfl, n, rfl⟩
  go_wp2_with fail
  refine (newSelf_any _ _ _ _ _ _).mono ?_
  rintro r w' ⟨rfl, rfl⟩
  go_wp2_with fail
  refine (newSelf_any _ _ _ _ _ _).mono ?_
  rintro r w' ⟨rfl, rfl⟩
  go_wp2_with fail
  refine (newer_any _ _ a2 a0 a8 a6 _ ?_ ?_ ?_ ?_).mono ?_
  iterate 4 go_simp
  rintro r w' ⟨rfl, n, rfl⟩
  go_wp2_with fail
  refine (newer_any _ _ a8 a6 a2 a0 _ ?_ ?_ ?_ ?_).mono ?_
  iterate 4 go_simp
  rintro r w' ⟨rfl, n, rfl⟩
  go_wp2
  go_ret
  exact ⟨rfl, by repeat (first | exact Grown.refl _ | apply Grown.drewN | apply Grown.drew | apply Grown.alloc)⟩

set_option maxHeartbeats 1000000 in
theorem walk103 (a0 a1 a2 a3 a4 a6 a7 a8 a9 a10 : Int) (w : World) (c10 : 0 ≤ a2) (c20 : -9223372036854775808 ≤ a0) (n1 : nw a2 a0 a2 a0 = false) (c1 : a2 < 4294967295) (n2 : nw (a2 + 1) (-9223372036854775808) a2 a0 = true) (n3 : nw a2 a0 (a2 + 1) (-9223372036854775808) = false) (c2 : ¬ a0 < 9223372036854775807) (n6 : nw a2 a0 a8 a6 = false) (n7 : nw a8 a6 a2 a0 = true) (n8 : (a2 == a8) = false) :
    Calls Try.prog 4 #[.int .i64 a0, .int .u8 a1, .int .u32 a2, .int .u32 a3, .int .u32 a4, .bool false, .int .i64 a6, .int .u8 a7, .int .u32 a8, .int .u32 a9, .int .u32 a10] w fun e w' => e = .returned (.bool true) ∧ Grown w w' := by
  go_enter Try.func4, Try.ntmps4
  go_wp2_with fail
  refine (newSelf_any _ _ _ _ _ _).mono ?_
  rintro r w' ⟨rfl, rfl⟩
  go_wp2_with fail
  refine (noSelf_any _).mono ?_
  rintro r w' ⟨rfl, rfl⟩
  go_wp2_with fail
  refine (newer_nil _ _).mono ?_
  rintro r w' ⟨rfl, n, rfl⟩
  go_wp2_with fail
  refine (newer_any _ _ a2 a0 a2 a0 _ ?_ ?_ ?_ ?_).mono ?_
  iterate 4 go_simp
  rintro r w' ⟨rfl, n, rfl⟩
  go_wp2_with fail
  refine (newSelf_any _ _ _ _ _ _).mono ?_
  rintro r w' ⟨rfl, rfl⟩
  go_wp2_with fail
  refine (newer_any _ _ (a2 + 1) (-9223372036854775808) a2 a0 _ ?_ ?_ ?_ ?_).mono ?_
  iterate 4 go_simp
  rintro r w' ⟨rfl, n, rfl⟩
  go_wp2_with fail
  refine (newer_any _ _ a2 a0 (a2 + 1) (-9223372036854775808) _ ?_ ?_ ?_ ?_).mono ?_
  iterate 4 go_simp
  rintro r w' ⟨rfl, n, rfl⟩
  go_wp2_with fail
  refine (newSelf_any _ _ _ _ _ _).mono ?_
  rintro r w' ⟨rfl, rfl⟩
  go_wp2_with fail
  refine (newer_any _ _ a2 a0 a8 a6 _ ?_ ?_ ?_ ?_).mono ?_
  iterate 4 go_simp
  rintro r w' ⟨rfl, n, rfl⟩
  go_wp2_with fail
  refine (newer_any _ _ a8 a6 a2 a0 _ ?_ ?_ ?_ ?_).mono ?_
  iterate 4 go_simp
  rintro r w' ⟨rfl, n, rfl⟩
  go_wp2_with fail
  refine (newSelf_any _ _ _ _ _ _).mono ?_
  rintro r w' ⟨rfl, rfl⟩
  go_wp2_with fail
  refine (newSelf_any _ _ _ _ _ _).mono ?_
  rintro r w' ⟨rfl, rfl⟩
  go_wp2_with fail
  refine (newer_any _ _ a2 a0 a8 a6 _ ?_ ?_ ?_ ?_).mono ?_
  iterate 4 go_simp
  rintro r w' ⟨rfl, n, rfl⟩
  go_wp2_with fail
  refine (newer_any _ _ a8 a6 a2 a0 _ ?_ ?_ ?_ ?_).mono ?_
  iterate 4 go_simp
  rintro r w' ⟨rfl, n, rfl⟩
  go_wp2
  go_ret
  exact ⟨rfl, by repeat (first | exact Grown.refl _ | apply Grown.drewN | apply Grown.drew | apply Grown.alloc)⟩

set_option maxHeartbeats 1000000 in
theorem walk104 (a0 a1 a2 a3 a4 a6 a7 a8 a9 a10 : Int) (w : World) (c10 : 0 ≤ a2) (c20 : -9223372036854775808 ≤ a0) (n1 : nw a2 a0 a2 a0 = false) (c1 : a2 < 4294967295) (n2 : nw (a2 + 1) (-9223372036854775808) a2 a0 = true) (n3 : nw a2 a0 (a2 + 1) (-9223372036854775808) = false) (c2 : ¬ a0 < 9223372036854775807) (n6 : nw a2 a0 a8 a6 = false) (n7 : nw a8 a6 a2 a0 = true) (n8 : (a2 == a8) = true) (n9 : (a0 == a6) = false) :
    Calls Try.prog 4 #[.int .i64 a0, .int .u8 a1, .int .u32 a2, .int .u32 a3, .int .u32 a4, .bool false, .int .i64 a6, .int .u8 a7, .int .u32 a8, .int .u32 a9, .int .u32 a10] w fun e w' => e = .returned (.bool true) ∧ Grown w w' := by
  go_enter Try.func4, Try.ntmps4
  go_wp2_with fail
  refine (newSelf_any _ _ _ _ _ _).mono ?_
  rintro r w' ⟨rfl, rfl⟩
  go_wp2_with fail
  refine (noSelf_any _).mono ?_
  rintro r w' ⟨rfl, rfl⟩
  go_wp2_with fail
  refine (newer_nil _ _).mono ?_
  rintro r w' ⟨rfl, n, rfl⟩
  go_wp2_with fail
  refine (newer_any _ _ a2 a0 a2 a0 _ ?_ ?_ ?_ ?_).mono ?_
  iterate 4 go_simp
  rintro r w' ⟨rfl, n, rfl⟩
  go_wp2_with fail
  refine (newSelf_any _ _ _ _ _ _).mono ?_
  rintro r w' ⟨rfl, rfl⟩
  go_wp2_with fail
  refine (newer_any _ _ (a2 + 1) (-9223372036854775808) a2 a0 _ ?_ ?_ ?_ ?_).mono ?_
  iterate 4 go_simp
  rintro r w' ⟨rfl, n, rfl⟩
  go_wp2_with fail
  refine (newer_any _ _ a2 a0 (a2 + 1) (-9223372036854775808) _ ?_ ?_ ?_ ?_).mono ?_
  iterate 4 go_simp
  rintro r w' ⟨rfl, n, rfl⟩
  go_wp2_with fail
  refine (newSelf_any _ _ _ _ _ _).mono ?_
  rintro r w' ⟨rfl, rfl⟩
  go_wp2_with fail
  refine (newer_any _ _ a2 a0 a8 a6 _ ?_ ?_ ?_ ?_).mono ?_
  iterate 4 go_simp
  rintro r w' ⟨rfl, n, rfl⟩
  go_wp2_with fail
  refine (newer_any _ _ a8 a6 a2 a0 _ ?_ ?_ ?_ ?_).mono ?_
  iterate 4 go_simp
  rintro r w' ⟨rfl, n, rfl⟩
  go_wp2_with fail
  refine (newSelf_any _ _ _ _ _ _).mono ?_
  rintro r w' ⟨rfl, rfl⟩
  go_wp2_with fail
  refine (newSelf_any _ _ _ _ _ _).mono ?_
  rintro r w' ⟨rfl, rfl⟩
  go_wp2_with fail
  refine (newer_any _ _ a2 a0 a8 a6 _ ?_ ?_ ?_ ?_).mono ?_
  iterate 4 go_simp
  rintro r w' ⟨rfl, n, rfl⟩
  go_wp2_with fail
  refine (newer_any _ _ a8 a6 a2 a0 _ ?_ ?_ ?_ ?_).mono ?_
  iterate 4 go_simp
  rintro r w' ⟨rfl, n, rfl⟩
  go_wp2
  go_ret
  exact ⟨rfl, by repeat (first | exact Grown.refl _ | apply Grown.drewN | apply Grown.drew | apply Grown.alloc)⟩

set_option maxHeartbeats 1000000 in
theorem walk105 (a0 a1 a2 a3 a4 a6 a7 a8 a9 a10 : Int) (w : World) (c10 : 0 ≤ a2) (c20 : -9223372036854775808 ≤ a0) (n1 : nw a2 a0 a2 a0 = false) (c1 : a2 < 4294967295) (n2 : nw (a2 + 1) (-9223372036854775808) a2 a0 = true) (n3 : nw a2 a0 (a2 + 1) (-9223372036854775808) = false) (c2 : ¬ a0 < 9223372036854775807) (n6 : nw a2 a0 a8 a6 = false) (n7 : nw a8 a6 a2 a0 = false) (n8 : (a2 == a8) = true) (n9 : (a0 == a6) = true) :
    Calls Try.prog 4 #[.int .i64 a0, .int .u8 a1, .int .u32 a2, .int .u32 a3, .int .u32 a4, .bool false, .int .i64 a6, .int .u8 a7, .int .u32 a8, .int .u32 a9, .int .u32 a10] w fun e w' => e = .returned (.bool true) ∧ Grown w w' := by
  go_enter Try.func4, Try.ntmps4
  go_wp2_with fail
  refine (newSelf_any _ _ _ _ _ _).mono ?_
  rintro r w' ⟨rfl, rfl⟩
  go_wp2_with fail
  refine (noSelf_any _).mono ?_
  rintro r w' ⟨rfl, rfl⟩
  go_wp2_with fail
  refine (newer_nil _ _).mono ?_
  rintro r w' ⟨rfl, n, rfl⟩
  go_wp2_with fail
  refine (newer_any _ _ a2 a0 a2 a0 _ ?_ ?_ ?_ ?_).mono ?_
  iterate 4 go_simp
  rintro r w' ⟨rfl, n, rfl⟩
  go_wp2_with fail
  refine (newSelf_any _ _ _ _ _ _).mono ?_
  rintro r w' ⟨rfl, rfl⟩
  go_wp2_with fail
  refine (newer_any _ _ (a2 + 1) (-9223372036854775808) a2 a0 _ ?_ ?_ ?_ ?_).mono ?_
  iterate 4 go_simp
  rintro r w' ⟨rfl, n, rfl⟩
  go_wp2_with fail
  refine (newer_any _ _ a2 a0 (a2 + 1) (-9223372036854775808) _ ?_ ?_ ?_ ?_).mono ?_
  iterate 4 go_simp
  rintro r w' ⟨rfl, n, rfl⟩
  go_wp2_with fail
  refine (newSelf_any _ _ _ _ _ _).mono ?_
  rintro r w' ⟨rfl, rfl⟩
  go_wp2_with fail
  refine (newer_any _ _ a2 a0 a8 a6 _ ?_ ?_ ?_ ?_).mono ?_
  iterate 4 go_simp
  rintro r w' ⟨rfl, n, rfl⟩
  go_wp2_with fail
  refine (newer_any _ _ a8 a6 a2 a0 _ ?_ ?_ ?_ ?_).mono ?_
  iterate 4 go_simp
  rintro r w' ⟨rfl, n, rfl⟩
  go_wp2_with fail
  refine (newSelf_any _ _ _ _ _ _).mono ?_
  rintro r w' ⟨rfl, rfl⟩
  go_wp2_with fail
  refine (newSelf_any _ _ _ _ _ _).mono ?_
  rintro r w' ⟨rfl, rfl⟩
  go_wp2_with fail
  refine (newer_any _ _ a2 a0 a8 a6 _ ?_ ?_ ?_ ?_).mono ?_
  iterate 4 go_simp
  rintro r w' ⟨rfl, n, rfl⟩
  go_wp2_with fail
  refine (newer_any _ _ a8 a6 a2 a0 _ ?_ ?_ ?_ ?_).mono ?_
  iterate 4 go_simp
  rintro r w' ⟨rfl, n, rfl⟩
  go_wp2
  go_ret
  exact ⟨rfl, by repeat (first | exact Grown.refl _ | apply Grown.drewN | apply Grown.drew | apply Grown.alloc)⟩

set_option maxHeartbeats 1000000 in
theorem walk010 (a0 a1 a2 a3 a4 a6 a7 a8 a9 a10 : Int) (w : World) (c10 : 0 ≤ a2) (c20 : -9223372036854775808 ≤ a0) (n1 : nw a2 a0 a2 a0 = false) (c1 : ¬ a2 < 4294967295) (c2 : a0 < 9223372036854775807) (n4 : nw a2 (a0 + 1) a2 a0 = true) (n5 : nw a2 a0 a2 (a0 + 1) = false)  :
    Calls Try.prog 4 #[.int .i64 a0, .int .u8 a1, .int .u32 a2, .int .u32 a3, .int .u32 a4, .bool true, .int .i64 a6, .int .u8 a7, .int .u32 a8, .int .u32 a9, .int .u32 a10] w fun e w' => e = .returned (.bool true) ∧ Grown w w' := by
  go_enter Try.func4, Try.ntmps4
  go_wp2_with fail
  refine (newSelf_any _ _ _ _ _ _).mono ?_
  rintro r w' ⟨rfl, rfl⟩
  go_wp2_with fail
  refine (noSelf_any _).mono ?_
  rintro r w' ⟨rfl, rfl⟩
  go_wp2_with fail
  refine (newer_nil _ _).mono ?_
  rintro r w' ⟨rfl, n, rfl⟩
  go_wp2_with fail
  refine (newer_any _ _ a2 a0 a2 a0 _ ?_ ?_ ?_ ?_).mono ?_
  iterate 4 go_simp
  rintro r w' ⟨rfl, n, rfl⟩
  go_wp2_with fail
  refine (newSelf_any _ _ _ _ _ _).mono ?_
  rintro r w' ⟨rfl, rfl⟩
  go_wp2_with fail
  refine (newer_any _ _ a2 (a0 + 1) a2 a0 _ ?_ ?_ ?_ ?_).mono ?_
  iterate 4 go_simp
  rintro r w' ⟨rfl, n, rfl⟩
  go_wp2_with fail
  refine (newer_any _ _ a2 a0 a2 (a0 + 1) _ ?_ ?_ ?_ ?_).mono ?_
  iterate 4 go_simp
  rintro r w' ⟨rfl, n, rfl⟩
  go_wp2
  go_ret
  exact ⟨rfl, by repeat (first | exact Grown.refl _ | apply Grown.drewN | apply Grown.drew | apply Grown.alloc)⟩

set_option maxHeartbeats 1000000 in
theorem walk011 (a0 a1 a2 a3 a4 a6 a7 a8 a9 a10 : Int) (w : World) (c10 : 0 ≤ a2) (c20 : -9223372036854775808 ≤ a0) (n1 : nw a2 a0 a2 a0 = false) (c1 : ¬ a2 < 4294967295) (c2 : a0 < 9223372036854775807) (n4 : nw a2 (a0 + 1) a2 a0 = true) (n5 : nw a2 a0 a2 (a0 + 1) = false) (n6 : nw a2 a0 a8 a6 = true) (n7 : nw a8 a6 a2 a0 = false) (n8 : (a2 == a8) = false) :
    Calls Try.prog 4 #[.int .i64 a0, .int .u8 a1, .int .u32 a2, .int .u32 a3, .int .u32 a4, .bool false, .int .i64 a6, .int .u8 a7, .int .u32 a8, .int .u32 a9, .int .u32 a10] w fun e w' => e = .returned (.bool true) ∧ Grown w w' := by
  go_enter Try.func4, Try.ntmps4
  go_wp2_with fail
  refine (newSelf_any _ _ _ _ _ _).mono ?_
  rintro r w' ⟨rfl, rfl⟩
  go_wp2_with fail
  refine (noSelf_any _).mono ?_
  rintro r w' ⟨rfl, rfl⟩
  go_wp2_with fail
  refine (newer_nil _ _).mono ?_
  rintro r w' ⟨rfl, n, rfl⟩
  go_wp2_with fail
  refine (newer_any _ _ a2 a0 a2 a0 _ ?_ ?_ ?_ ?_).mono ?_
  iterate 4 go_simp
  rintro r w' ⟨rfl, n, rfl⟩
  go_wp2_with fail
  refine (newSelf_any _ _ _ _ _ _).mono ?_
  rintro r w' ⟨rfl, rfl⟩
  go_wp2_with fail
  refine (newer_any _ _ a2 (a0 + 1) a2 a0 _ ?_ ?_ ?_ ?_).mono ?_
  iterate 4 go_simp
  rintro r w' ⟨rfl, n, rfl⟩
  go_wp2_with fail
  refine (newer_any _ _ a2 a0 a2 (a0 + 1) _ ?_ ?_ ?_ ?_).mono ?_
  iterate 4 go_simp
  rintro r w' ⟨rfl, n, rfl⟩
  go_wp2_with fail
  refine (newSelf_any _ _ _ _ _ _).mono ?_
  rintro r w' ⟨rfl, rfl⟩
  go_wp2_with fail
  refine (newer_any _ _ a2 a0 a8 a6 _ ?_ ?_ ?_ ?_).mono ?_
  iterate 4 go_simp
  rintro r w' ⟨rfl, n, rfl⟩
  go_wp2_with fail
  refine (newer_any _ _ a8 a6 a2 a0 _ ?_ ?_ ?_ ?_).mono ?_
  iterate 4 go_simp
  rintro r w' ⟨rfl, n, rfl⟩
  go_wp2_with fail
  refine (newSelf_any _ _ _ _ _ _).mono ?_
  rintro r w' ⟨rfl, rfl⟩
  go_wp2_with fail
  refine (newSelf_any _ _ _ _ _ _).mono ?_
  rintro r w' ⟨rfl, rfl⟩
  go_wp2_with fail
  refine (newer_any _ _ a2 a0 a8 a6 _ ?_ ?_ ?_ ?_).mono ?_
  iterate 4 go_simp
  rintro r w' ⟨rfl, n, rfl⟩
  go_wp2_with fail
  refine (newer_any _ _ a8 a6 a2 a0 _ ?_ ?_ ?_ ?_).mono ?_
  iterate 4 go_simp
  rintro r w' ⟨rfl, n, rfl⟩
  go_wp2
  go_ret
  exact ⟨rfl, by repeat (first | exact Grown.refl _ | apply Grown.drewN | apply Grown.drew | apply Grown.alloc)⟩

set_option maxHeartbeats 1000000 in
theorem walk012 (a0 a1 a2 a3 a4 a6 a7 a8 a9 a10 : Int) (w : World) (c10 : 0 ≤ a2) (c20 : -9223372036854775808 ≤ a0) (n1 : nw a2 a0 a2 a0 = false) (c1 : ¬ a2 < 4294967295) (c2 : a0 < 9223372036854775807) (n4 : nw a2 (a0 + 1) a2 a0 = true) (n5 : nw a2 a0 a2 (a0 + 1) = false) (n6 : nw a2 a0 a8 a6 = true) (n7 : nw a8 a6 a2 a0 = false) (n8 : (a2 == a8) = true) (n9 : (a0 == a6) = false) :
    Calls Try.prog 4 #[.int .i64 a0, .int .u8 a1, .int .u32 a2, .int .u32 a3, .int .u32 a4, .bool false, .int .i64 a6, .int .u8 a7, .int .u32 a8, .int .u32 a9, .int .u32 a10] w fun e w' => e = .returned (.bool true) ∧ Grown w w' := by
  go_enter Try.func4, Try.ntmps4
  go_wp2_with fail
  refine (newSelf_any _ _ _ _ _ _).mono ?_
  rintro r w' ⟨rfl, rfl⟩
  go_wp2_with fail
  refine (noSelf_any _).mono ?_
  rintro r w' ⟨rfl, rfl⟩
  go_wp2_with fail
  refine (newer_nil _ _).mono ?_
  rintro r w' ⟨rfl, n, rfl⟩
  go_wp2_with fail
  refine (newer_any _ _ a2 a0 a2 a0 _ ?_ ?_ ?_ ?_).mono ?_
  iterate 4 go_simp
  rintro r w' ⟨rfl, n, rfl⟩
  go_wp2_with fail
  refine (newSelf_any _ _ _ _ _ _).mono ?_
  rintro r w' ⟨rfl, rfl⟩
  go_wp2_with fail
  refine (newer_any _ _ a2 (a0 + 1) a2 a0 _ ?_ ?_ ?_ ?_).mono ?_
  iterate 4 go_simp
  rintro r w' ⟨rfl, n, rfl⟩
  go_wp2_with fail
  refine (newer_any _ _ a2 a0 a2 (a0 + 1) _ ?_ ?_ ?_ ?_).mono ?_
  iterate 4 go_simp
  rintro r w' ⟨rfl, n, rfl⟩
  go_wp2_with fail
  refine (newSelf_any _ _ _ _ _ _).mono ?_
  rintro r w' ⟨rfl, rfl⟩
  go_wp2_with fail
  refine (newer_any _ _ a2 a0 a8 a6 _ ?_ ?_ ?_ ?_).mono ?_
  iterate 4 go_simp
  rintro r w' ⟨rfl, n, rfl⟩
  go_wp2_with fail
  refine (newer_any _ _ a8 a6 a2 a0 _ ?_ ?_ ?_ ?_).mono ?_
  iterate 4 go_simp
  rintro r w' ⟨rfl, n, rfl⟩
  go_wp2_with fail
  refine (newSelf_any _ _ _ _ _ _).mono ?_
  rintro r w' ⟨rfl, rfl⟩
  go_wp2_with fail
  refine (newSelf_any _ _ _ _ _ _).mono ?_
  rintro r w' ⟨rfl, rfl⟩
  go_wp2_with fail
  refine (newer_any _ _ a2 a0 a8 a6 _ ?_ ?_ ?_ ?_).mono ?_
  iterate 4 go_simp
  rintro r w' ⟨rfl, n, rfl⟩
  go_wp2_with fail
  refine (newer_any _ _ a8 a6 a2 a0 _ ?_ ?_ ?_ ?_).mono ?_
  iterate 4 go_simp
  rintro r w' ⟨rfl, n, rfl⟩
  go_wp2
  go_ret
  exact ⟨rfl, by repeat (first | exact Grown.refl _ | apply Grown.drewN | apply Grown.drew | apply Grown.alloc)⟩

set_option maxHeartbeats 1000000 in
theorem walk013 (a0 a1 a2 a3 a4 a6 a7 a8 a9 a10 : Int) (w : World) (c10 : 0 ≤ a2) (c20 : -9223372036854775808 ≤ a0) (n1 : nw a2 a0 a2 a0 = false) (c1 : ¬ a2 < 4294967295) (c2 : a0 < 9223372036854775807) (n4 : nw a2 (a0 + 1) a2 a0 = true) (n5 : nw a2 a0 a2 (a0 + 1) = false) (n6 : nw a2 a0 a8 a6 = false) (n7 : nw a8 a6 a2 a0 = true) (n8 : (a2 == a8) = false) :
    Calls Try.prog 4 #[.int .i64 a0, .int .u8 a1, .int .u32 a2, .int .u32 a3, .int .u32 a4, .bool false, .int .i64 a6, .int .u8 a7, .int .u32 a8, .int .u32 a9, .int .u32 a10] w fun e w' => e = .returned (.bool true) ∧ Grown w w' := by
  go_enter Try.func4, Try.ntmps4
  go_wp2_with fail
  refine (newSelf_any _ _ _ _ _ _).mono ?_
  rintro r w' ⟨rfl, rfl⟩
  go_wp2_with fail
  refine (noSelf_any _).mono ?_
  rintro r w' ⟨rfl, rfl⟩
  go_wp2_with fail
  refine (newer_nil _ _).mono ?_
  rintro r w' ⟨rfl, n, rfl⟩
  go_wp2_with fail
  refine (newer_any _ _ a2 a0 a2 a0 _ ?_ ?_ ?_ ?_).mono ?_
  iterate 4 go_simp
  rintro r w' ⟨rfl, n, rfl⟩
  go_wp2_with fail
  refine (newSelf_any _ _ _ _ _ _).mono ?_
  rintro r w' ⟨rfl, rfl⟩
  go_wp2_with fail
  refine (newer_any _ _ a2 (a0 + 1) a2 a0 _ ?_ ?_ ?_ ?_).mono ?_
  iterate 4 go_simp
  rintro r w' ⟨rfl, n, rfl⟩
  go_wp2_with fail
  refine (newer_any _ _ a2 a0 a2 (a0 + 1) _ ?_ ?_ ?_ ?_).mono ?_
  iterate 4 go_simp
  rintro r w' ⟨rfl, n, rfl⟩
  go_wp2_with fail
  refine (newSelf_any _ _ _ _ _ _).mono ?_
  rintro r w' ⟨rfl, rfl⟩
  go_wp2_with fail
  refine (newer_any _ _ a2 a0 a8 a6 _ ?_ ?_ ?_ ?_).mono ?_
  iterate 4 go_simp
  rintro r w' ⟨rfl, n, rfl⟩
  go_wp2_with fail
  refine (newer_any _ _ a8 a6 a2 a0 _ ?_ ?_ ?_ ?_).mono ?_
  iterate 4 go_simp
  rintro r w' ⟨rfl, n, rfl⟩
  go_wp2_with fail
  refine (newSelf_any _ _ _ _ _ _).mono ?_
  rintro r w' ⟨rfl, rfl⟩
  go_wp2_with fail
  refine (newSelf_any _ _ _ _ _ _).mono ?_
  rintro r w' ⟨rfl, rfl⟩
  go_wp2_with fail
  refine (newer_any _ _ a2 a0 a8 a6 _ ?_ ?_ ?_ ?_).mono ?_
  iterate 4 go_simp
  rintro r w' ⟨rfl, n, rfl⟩
  go_wp2_with fail
  refine (newer_any _ _ a8 a6 a2 a0 _ ?_ ?_ ?_ ?_).mono ?_
  iterate 4 go_simp
  rintro r w' ⟨rfl, n, rfl⟩
  go_wp2
  go_ret
  exact ⟨rfl, by repeat (first | exact Grown.refl _ | apply Grown.drewN | apply Grown.drew | apply Grown.alloc)⟩

set_option maxHeartbeats 1000000 in
theorem walk014 (a0 a1 a2 a3 a4 a6 a7 a8 a9 a10 : Int) (w : World) (c10 : 0 ≤ a2) (c20 : -9223372036854775808 ≤ a0) (n1 : nw a2 a0 a2 a0 = false) (c1 : ¬ a2 < 4294967295) (c2 : a0 < 9223372036854775807) (n4 : nw a2 (a0 + 1) a2 a0 = true) (n5 : nw a2 a0 a2 (a0 + 1) = false) (n6 : nw a2 a0 a8 a6 = false) (n7 : nw a8 a6 a2 a0 = true) (n8 : (a2 == a8) = true) (n9 : (a0 == a6) = false) :
    Calls Try.prog 4 #[.int .i64 a0, .int .u8 a1, .int .u32 a2, .int .u32 a3, .int .u32 a4, .bool false, .int .i64 a6, .int .u8 a7, .int .u32 a8, .int .u32 a9, .int .u32 a10] w fun e w' => e = .returned (.bool true) ∧ Grown w w' := by
  go_enter Try.func4, Try.ntmps4
  go_wp2_with fail
  refine (newSelf_any _ _ _ _ _ _).mono ?_
  rintro r w' ⟨rfl, rfl⟩
  go_wp2_with fail
  refine (noSelf_any _).mono ?_
  rintro r w' ⟨rfl, rfl⟩
  go_wp2_with fail
  refine (newer_nil _ _).mono ?_
  rintro r w' ⟨rfl, n, rfl⟩
  go_wp2_with fail
  refine (newer_any _ _ a2 a0 a2 a0 _ ?_ ?_ ?_ ?_).mono ?_
  iterate 4 go_simp
  rintro r w' ⟨rfl, n, rfl⟩
  go_wp2_with fail
  refine (newSelf_any _ _ _ _ _ _).mono ?_
  rintro r w' ⟨rfl, rfl⟩
  go_wp2_with fail
  refine (newer_any _ _ a2 (a0 + 1) a2 a0 _ ?_ ?_ ?_ ?_).mono ?_
  iterate 4 go_simp
  rintro r w' ⟨rfl, n, rfl⟩
  go_wp2_with fail
  refine (newer_any _ _ a2 a0 a2 (a0 + 1) _ ?_ ?_ ?_ ?_).mono ?_
  iterate 4 go_simp
  rintro r w' ⟨rfl, n, rfl⟩
  go_wp2_with fail
  refine (newSelf_any _ _ _ _ _ _).mono ?_
  rintro r w' ⟨rfl, rfl⟩
  go_wp2_with fail
  refine (newer_any _ _ a2 a0 a8 a6 _ ?_ ?_ ?_ ?_).mono ?_
  iterate 4 go_simp
  rintro r w' ⟨rfl, n, rfl⟩
  go_wp2_with fail
  refine (newer_any _ _ a8 a6 a2 a0 _ ?_ ?_ ?_ ?_).mono ?_
  iterate 4 go_simp
  rintro r w' ⟨rfl, n, rfl⟩
  go_wp2_with fail
  refine (newSelf_any _ _ _ _ _ _).mono ?_
  rintro r w' ⟨rfl, rfl⟩
  go_wp2_with fail
  refine (newSelf_any _ _ _ _ _ _).mono ?_
  rintro r w' ⟨rfl, rfl⟩
  go_wp2_with fail
  refine (newer_any _ _ a2 a0 a8 a6 _ ?_ ?_ ?_ ?_).mono ?_
  iterate 4 go_simp
  rintro r w' ⟨rfl, n, rfl⟩
  go_wp2_with fail
  refine (newer_any _ _ a8 a6 a2 a0 _ ?_ ?_ ?_ ?_).mono ?_
  iterate 4 go_simp
  rintro r w' ⟨rfl, n, rfl⟩
  go_wp2
  go_ret
  exact ⟨rfl, by repeat (first | exact Grown.refl _ | apply Grown.drewN | apply Grown.drew | apply Grown.alloc)⟩

set_option maxHeartbeats 1000000 in
theorem walk015 (a0 a1 a2 a3 a4 a6 a7 a8 a9 a10 : Int) (w : World) (c10 : 0 ≤ a2) (c20 : -9223372036854775808 ≤ a0) (n1 : nw a2 a0 a2 a0 = false) (c1 : ¬ a2 < 4294967295) (c2 : a0 < 9223372036854775807) (n4 : nw a2 (a0 + 1) a2 a0 = true) (n5 : nw a2 a0 a2 (a0 + 1) = false) (n6 : nw a2 a0 a8 a6 = false) (n7 : nw a8 a6 a2 a0 = false) (n8 : (a2 == a8) = true) (n9 : (a0 == a6) = true) :
    Calls Try.prog 4 #[.int .i64 a0, .int .u8 a1, .int .u32 a2, .int .u32 a3, .int .u32 a4, .bool false, .int .i64 a6, .int .u8 a7, .int .u32 a8, .int .u32 a9, .int .u32 a10] w fun e w' => e = .returned (.bool true) ∧ Grown w w' := by
  go_enter Try.func4, Try.ntmps4
  go_wp2_with fail
  refine (newSelf_any _ _ _ _ _ _).mono ?_
  rintro r w' ⟨rfl, rfl⟩
  go_wp2_with fail
  refine (noSelf_any _).mono ?_
  rintro r w' ⟨rfl, rfl⟩
  go_wp2_with fail
  refine (newer_nil _ _).mono ?_
  rintro r w' ⟨rfl, n, rfl⟩
  go_wp2_with fail
  refine (newer_any _ _ a2 a0 a2 a0 _ ?_ ?_ ?_ ?_).mono ?_
  iterate 4 go_simp
  rintro r w' ⟨rfl, n, rfl⟩
  go_wp2_with fail
  refine (newSelf_any _ _ _ _ _ _).mono ?_
  rintro r w' ⟨rfl, rfl⟩
  go_wp2_with fail
  refine (newer_any _ _ a2 (a0 + 1) a2 a0 _ ?_ ?_ ?_ ?_).mono ?_
  iterate 4 go_simp
  rintro r w' ⟨rfl, n, rfl⟩
  go_wp2_with fail
  refine (newer_any _ _ a2 a0 a2 (a0 + 1) _ ?_ ?_ ?_ ?_).mono ?_
  iterate 4 go_simp
  rintro r w' ⟨rfl, n, rfl⟩
  go_wp2_with fail
  refine (newSelf_any _ _ _ _ _ _).mono ?_
  rintro r w' ⟨rfl, rfl⟩
  go_wp2_with fail
  refine (newer_any _ _ a2 a0 a8 a6 _ ?_ ?_ ?_ ?_).mono ?_
  iterate 4 go_simp
  rintro r w' ⟨rfl, n, rfl⟩
  go_wp2_with fail
  refine (newer_any _ _ a8 a6 a2 a0 _ ?_ ?_ ?_ ?_).mono ?_
  iterate 4 go_simp
  rintro r w' ⟨rfl, n, rfl⟩
  go_wp2_with fail
  refine (newSelf_any _ _ _ _ _ _).mono ?_
  rintro r w' ⟨rfl, rfl⟩
  go_wp2_with fail
  refine (newSelf_any _ _ _ _ _ _).mono ?_
  rintro r w' ⟨rfl, rfl⟩
  go_wp2_with fail
  refine (newer_any _ _ a2 a0 a8 a6 _ ?_ ?_ ?_ ?_).mono ?_
  iterate 4 go_simp
  rintro r w' ⟨rfl, n, rfl⟩
  go_wp2_with fail
  refine (newer_any _ _ a8 a6 a2 a0 _ ?_ ?_ ?_ ?_).mono ?_
  iterate 4 go_simp
  rintro r w' ⟨rfl, n, rfl⟩
  go_wp2
  go_ret
  exact ⟨rfl, by repeat (first | exact Grown.refl _ | apply Grown.drewN | apply Grown.drew | apply Grown.alloc)⟩

set_option maxHeartbeats 1000000 in
theorem walk000 (a0 a1 a2 a3 a4 a6 a7 a8 a9 a10 : Int) (w : World) (c10 : 0 ≤ a2) (c20 : -9223372036854775808 ≤ a0) (n1 : nw a2 a0 a2 a0 = false) (c1 : ¬ a2 < 4294967295) (c2 : ¬ a0 < 9223372036854775807)  :
    Calls Try.prog 4 #[.int .i64 a0, .int .u8 a1, .int .u32 a2, .int .u32 a3, .int .u32 a4, .bool true, .int .i64 a6, .int .u8 a7, .int .u32 a8, .int .u32 a9, .int .u32 a10] w fun e w' => e = .returned (.bool true) ∧ Grown w w' := by
  go_enter Try.func4, Try.ntmps4
  go_wp2_with fail
  refine (newSelf_any _ _ _ _ _ _).mono ?_
  rintro r w' ⟨rfl, rfl⟩
  go_wp2_with fail
  refine (noSelf_any _).mono ?_
  rintro r w' ⟨rfl, rfl⟩
  go_wp2_with fail
  refine (newer_nil _ _).mono ?_
  rintro r w' ⟨rfl, n, rfl⟩
  go_wp2_with fail
  refine (newer_any _ _ a2 a0 a2 a0 _ ?_ ?_ ?_ ?_).mono ?_
  iterate 4 go_simp
  rintro r w' ⟨rfl, n, rfl⟩
  go_wp2
  go_ret
  exact ⟨rfl, by repeat (first | exact Grown.refl _ | apply Grown.drewN | apply Grown.drew | apply Grown.alloc)⟩

set_option maxHeartbeats 1000000 in
theorem walk001 (a0 a1 a2 a3 a4 a6 a7 a8 a9 a10 : Int) (w : World) (c10 : 0 ≤ a2) (c20 : -9223372036854775808 ≤ a0) (n1 : nw a2 a0 a2 a0 = false) (c1 : ¬ a2 < 4294967295) (c2 : ¬ a0 < 9223372036854775807) (n6 : nw a2 a0 a8 a6 = true) (n7 : nw a8 a6 a2 a0 = false) (n8 : (a2 == a8) = false) :
    Calls Try.prog 4 #[.int .i64 a0, .int .u8 a1, .int .u32 a2, .int .u32 a3, .int .u32 a4, .bool false, .int .i64 a6, .int .u8 a7, .int .u32 a8, .int .u32 a9, .int .u32 a10] w fun e w' => e = .returned (.bool true) ∧ Grown w w' := by
  go_enter Try.func4, Try.ntmps4
  go_wp2_with fail
  refine (newSelf_any _ _ _ _ _ _).mono ?_
  rintro r w' ⟨rfl, rfl⟩
  go_wp2_with fail
  refine (noSelf_any _).mono ?_
  rintro r w' ⟨rfl, rfl⟩
  go_wp2_with fail
  refine (newer_nil _ _).mono ?_
  rintro r w' ⟨rfl, n, rfl⟩
  go_wp2_with fail
  refine (newer_any _ _ a2 a0 a2 a0 _ ?_ ?_ ?_ ?_).mono ?_
  iterate 4 go_simp
  rintro r w' ⟨rfl, n, rfl⟩
  go_wp2_with fail
  refine (newSelf_any _ _ _ _ _ _).mono ?_
  rintro r w' ⟨rfl, rfl⟩
  go_wp2_with fail
  refine (newer_any _ _ a2 a0 a8 a6 _ ?_ ?_ ?_ ?_).mono ?_
  iterate 4 go_simp
  rintro r w' ⟨rfl, n, rfl⟩
  go_wp2_with fail
  refine (newer_any _ _ a8 a6 a2 a0 _ ?_ ?_ ?_ ?_).mono ?_
  iterate 4 go_simp
  rintro r w' ⟨rfl, n, rfl⟩
  go_wp2_with fail
  refine (newSelf_any _ _ _ _ _ _).mono ?_
  rintro r w' ⟨rfl, rfl⟩
  go_wp2_with fail
  refine (newSelf_any _ _ _ _ _ _).mono ?_
  rintro r w' ⟨rfl, rfl⟩
  go_wp2_with fail
  refine (newer_any _ _ a2 a0 a8 a6 _ ?_ ?_ ?_ ?_).mono ?_
  iterate 4 go_simp
  rintro r w' ⟨rfl, n, rfl⟩
  go_wp2_with fail
  refine (newer_any _ _ a8 a6 a2 a0 _ ?_ ?_ ?_ ?_).mono ?_
  iterate 4 go_simp
  rintro r w' ⟨rfl, n, rfl⟩
  go_wp2
  go_ret
  exact ⟨rfl, by repeat (first | exact Grown.refl _ | apply Grown.drewN | apply Grown.drew | apply Grown.alloc)⟩

set_option maxHeartbeats 1000000 in
theorem walk002 (a0 a1 a2 a3 a4 a6 a7 a8 a9 a10 : Int) (w : World) (c10 : 0 ≤ a2) (c20 : -9223372036854775808 ≤ a0) (n1 : nw a2 a0 a2 a0 = false) (c1 : ¬ a2 < 4294967295) (c2 : ¬ a0 < 9223372036854775807) (n6 : nw a2 a0 a8 a6 = true) (n7 : nw a8 a6 a2 a0 = false) (n8 : (a2 == a8) = true) (n9 : (a0 == a6) = false) :
    Calls Try.prog 4 #[.int .i64 a0, .int .u8 a1, .int .u32 a2, .int .u32 a3, .int .u32 a4, .bool false, .int .i64 a6, .int .u8 a7, .int .u32 a8, .int .u32 a9, .int .u32 a10] w fun e w' => e = .returned (.bool true) ∧ Grown w w' := by
  go_enter Try.func4, Try.ntmps4
  go_wp2_with fail
  refine (newSelf_any _ _ _ _ _ _).mono ?_
  rintro r w' ⟨rfl, rfl⟩
  go_wp2_with fail
  refine (noSelf_any _).mono ?_
  rintro r w' ⟨rfl, rfl⟩
  go_wp2_with fail
  refine (newer_nil _ _).mono ?_
  rintro r w' ⟨rfl, n, rfl⟩
  go_wp2_with fail
  refine (newer_any _ _ a2 a0 a2 a0 _ ?_ ?_ ?_ ?_).mono ?_
  iterate 4 go_simp
  rintro r w' ⟨rfl, n, rfl⟩
  go_wp2_with fail
  refine (newSelf_any _ _ _ _ _ _).mono ?_
  rintro r w' ⟨rfl, rfl⟩
  go_wp2_with fail
  refine (newer_any _ _ a2 a0 a8 a6 _ ?_ ?_ ?_ ?_).mono ?_
  iterate 4 go_simp
  rintro r w' ⟨rfl, n, rfl⟩
  go_wp2_with fail
  refine (newer_any _ _ a8 a6 a2 a0 _ ?_ ?_ ?_ ?_).mono ?_
  iterate 4 go_simp
  rintro r w' ⟨rfl, n, rfl⟩
  go_wp2_with fail
  refine (newSelf_any _ _ _ _ _ _).mono ?_
  rintro r w' ⟨rfl, rfl⟩
  go_wp2_with fail
  refine (newSelf_any _ _ _ _ _ _).mono ?_
  rintro r w' ⟨rfl, rfl⟩
  go_wp2_with fail
  refine (newer_any _ _ a2 a0 a8 a6 _ ?_ ?_ ?_ ?_).mono ?_
  iterate 4 go_simp
  rintro r w' ⟨rfl, n, rfl⟩
  go_wp2_with fail
  refine (newer_any _ _ a8 a6 a2 a0 _ ?_ ?_ ?_ ?_).mono ?_
  iterate 4 go_simp
  rintro r w' ⟨rfl, n, rfl⟩
  go_wp2
  go_ret
  exact ⟨rfl, by repeat (first | exact Grown.refl _ | apply Grown.drewN | apply Grown.drew | apply Grown.alloc)⟩

set_option maxHeartbeats 1000000 in
theorem walk003 (a0 a1 a2 a3 a4 a6 a7 a8 a9 a10 : Int) (w : World) (c10 : 0 ≤ a2) (c20 : -9223372036854775808 ≤ a0) (n1 : nw a2 a0 a2 a0 = false) (c1 : ¬ a2 < 4294967295) (c2 : ¬ a0 < 9223372036854775807) (n6 : nw a2 a0 a8 a6 = false) (n7 : nw a8 a6 a2 a0 = true) (n8 : (a2 == a8) = false) :
    Calls Try.prog 4 #[.int .i64 a0, .int .u8 a1, .int .u32 a2, .int .u32 a3, .int .u32 a4, .bool false, .int .i64 a6, .int .u8 a7, .int .u32 a8, .int .u32 a9, .int .u32 a10] w fun e w' => e = .returned (.bool true) ∧ Grown w w' := by
  go_enter Try.func4, Try.ntmps4
  go_wp2_with fail
  refine (newSelf_any _ _ _ _ _ _).mono ?_
  rintro r w' ⟨rfl, rfl⟩
  go_wp2_with fail
  refine (noSelf_any _).mono ?_
  rintro r w' ⟨rfl, rfl⟩
  go_wp2_with fail
  refine (newer_nil _ _).mono ?_
  rintro r w' ⟨rfl, n, rfl⟩
  go_wp2_with fail
  refine (newer_any _ _ a2 a0 a2 a0 _ ?_ ?_ ?_ ?_).mono ?_
  iterate 4 go_simp
  rintro r w' ⟨rfl, n, rfl⟩
  go_wp2_with fail
  refine (newSelf_any _ _ _ _ _ _).mono ?_
  rintro r w' ⟨rfl, rfl⟩
  go_wp2_with fail
  refine (newer_any _ _ a2 a0 a8 a6 _ ?_ ?_ ?_ ?_).mono ?_
  iterate 4 go_simp
  rintro r w' ⟨rfl, n, rfl⟩
  go_wp2_with fail
  refine (newer_any _ _ a8 a6 a2 a0 _ ?_ ?_ ?_ ?_).mono ?_
  iterate 4 go_simp
  rintro r w' ⟨rfl, n, rfl⟩
  go_wp2_with fail
  refine (newSelf_any _ _ _ _ _ _).mono ?_
  rintro r w' ⟨rfl, rfl⟩
  go_wp2_with fail
  refine (newSelf_any _ _ _ _ _ _).mono ?_
  rintro r w' ⟨rfl, rfl⟩
  go_wp2_with fail
  refine (newer_any _ _ a2 a0 a8 a6 _ ?_ ?_ ?_ ?_).mono ?_
  iterate 4 go_simp
  rintro r w' ⟨rfl, n, rfl⟩
  go_wp2_with fail
  refine (newer_any _ _ a8 a6 a2 a0 _ ?_ ?_ ?_ ?_).mono ?_
  iterate 4 go_simp
  rintro r w' ⟨rfl, n, rfl⟩
  go_wp2
  go_ret
  exact ⟨rfl, by repeat (first | exact Grown.refl _ | apply Grown.drewN | apply Grown.drew | apply Grown.alloc)⟩

set_option maxHeartbeats 1000000 in
theorem walk004 (a0 a1 a2 a3 a4 a6 a7 a8 a9 a10 : Int) (w : World) (c10 : 0 ≤ a2) (c20 : -9223372036854775808 ≤ a0) (n1 : nw a2 a0 a2 a0 = false) (c1 : ¬ a2 < 4294967295) (c2 : ¬ a0 < 9223372036854775807) (n6 : nw a2 a0 a8 a6 = false) (n7 : nw a8 a6 a2 a0 = true) (n8 : (a2 == a8) = true) (n9 : (a0 == a6) = false) :
    Calls Try.prog 4 #[.int .i64 a0, .int .u8 a1, .int .u32 a2, .int .u32 a3, .int .u32 a4, .bool false, .int .i64 a6, .int .u8 a7, .int .u32 a8, .int .u32 a9, .int .u32 a10] w fun e w' => e = .returned (.bool true) ∧ Grown w w' := by
  go_enter Try.func4, Try.ntmps4
  go_wp2_with fail
  refine (newSelf_any _ _ _ _ _ _).mono ?_
  rintro r w' ⟨rfl, rfl⟩
  go_wp2_with fail
  refine (noSelf_any _).mono ?_
  rintro r w' ⟨rfl, rfl⟩
  go_wp2_with fail
  refine (newer_nil _ _).mono ?_
  rintro r w' ⟨rfl, n, rfl⟩
  go_wp2_with fail
  refine (newer_any _ _ a2 a0 a2 a0 _ ?_ ?_ ?_ ?_).mono ?_
  iterate 4 go_simp
  rintro r w' ⟨rfl, n, rfl⟩
  go_wp2_with fail
  refine (newSelf_any _ _ _ _ _ _).mono ?_
  rintro r w' ⟨rfl, rfl⟩
  go_wp2_with fail
  refine (newer_any _ _ a2 a0 a8 a6 _ ?_ ?_ ?_ ?_).mono ?_
  iterate 4 go_simp
  rintro r w' ⟨rfl, n, rfl⟩
  go_wp2_with fail
  refine (newer_any _ _ a8 a6 a2 a0 _ ?_ ?_ ?_ ?_).mono ?_
  iterate 4 go_simp
  rintro r w' ⟨rfl, n, rfl⟩
  go_wp2_with fail
  refine (newSelf_any _ _ _ _ _ _).mono ?_
  rintro r w' ⟨rfl, rfl⟩
  go_wp2_with fail
  refine (newSelf_any _ _ _ _ _ _).mono ?_
  rintro r w' ⟨rfl, rfl⟩
  go_wp2_with fail
  refine (newer_any _ _ a2 a0 a8 a6 _ ?_ ?_ ?_ ?_).mono ?_
  iterate 4 go_simp
  rintro r w' ⟨rfl, n, rfl⟩
  go_wp2_with fail
  refine (newer_any _ _ a8 a6 a2 a0 _ ?_ ?_ ?_ ?_).mono ?_
  iterate 4 go_simp
  rintro r w' ⟨rfl, n, rfl⟩
  go_wp2
  go_ret
  exact ⟨rfl, by repeat (first | exact Grown.refl _ | apply Grown.drewN | apply Grown.drew | apply Grown.alloc)⟩

set_option maxHeartbeats 1000000 in
theorem walk005 (a0 a1 a2 a3 a4 a6 a7 a8 a9 a10 : Int) (w : World) (c10 : 0 ≤ a2) (c20 : -9223372036854775808 ≤ a0) (n1 : nw a2 a0 a2 a0 = false) (c1 : ¬ a2 < 4294967295) (c2 : ¬ a0 < 9223372036854775807) (n6 : nw a2 a0 a8 a6 = false) (n7 : nw a8 a6 a2 a0 = false) (n8 : (a2 == a8) = true) (n9 : (a0 == a6) = true) :
    Calls Try.prog 4 #[.int .i64 a0, .int .u8 a1, .int .u32 a2, .int .u32 a3, .int .u32 a4, .bool false, .int .i64 a6, .int .u8 a7, .int .u32 a8, .int .u32 a9, .int .u32 a10] w fun e w' => e = .returned (.bool true) ∧ Grown w w' := by
  go_enter Try.func4, Try.ntmps4
  go_wp2_with fail
  refine (newSelf_any _ _ _ _ _ _).mono ?_
  rintro r w' ⟨rfl, rfl⟩
  go_wp2_with fail
  refine (noSelf_any _).mono ?_
  rintro r w' ⟨rfl, rfl⟩
  go_wp2_with fail
  refine (newer_nil _ _).mono ?_
  rintro r w' ⟨rfl, n, rfl⟩
  go_wp2_with fail
  refine (newer_any _ _ a2 a0 a2 a0 _ ?_ ?_ ?_ ?_).mono ?_
  iterate 4 go_simp
  rintro r w' ⟨rfl, n, rfl⟩
  go_wp2_with fail
  refine (newSelf_any _ _ _ _ _ _).mono ?_
  rintro r w' ⟨rfl, rfl⟩
  go_wp2_with fail
  refine (newer_any _ _ a2 a0 a8 a6 _ ?_ ?_ ?_ ?_).mono ?_
  iterate 4 go_simp
  rintro r w' ⟨rfl, n, rfl⟩
  go_wp2_with fail
  refine (newer_any _ _ a8 a6 a2 a0 _ ?_ ?_ ?_ ?_).mono ?_
  iterate 4 go_simp
  rintro r w' ⟨rfl, n, rfl⟩
  go_wp2_with fail
  refine (newSelf_any _ _ _ _ _ _).mono ?_
  rintro r w' ⟨rfl, rfl⟩
  go_wp2_with fail
  refine (newSelf_any _ _ _ _ _ _).mono ?_
  rintro r w' ⟨rfl, rfl⟩
  go_wp2_with fail
  refine (newer_any _ _ a2 a0 a8 a6 _ ?_ ?_ ?_ ?_).mono ?_
  iterate 4 go_simp
  rintro r w' ⟨rfl, n, rfl⟩
  go_wp2_with fail
  refine (newer_any _ _ a8 a6 a2 a0 _ ?_ ?_ ?_ ?_).mono ?_
  iterate 4 go_simp
  rintro r w' ⟨rfl, n, rfl⟩
  go_wp2
  go_ret
  exact ⟨rfl, by repeat (first | exact Grown.refl _ | apply Grown.drewN | apply Grown.drew | apply Grown.alloc)⟩

end Go.Proofs.Qxb6609441a
