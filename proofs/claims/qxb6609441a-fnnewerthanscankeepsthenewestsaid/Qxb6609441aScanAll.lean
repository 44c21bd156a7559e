import Derived.Test.Qxb6609441aScanA
import Derived.Test.Qxb6609441aScanB
import Derived.Test.Qxb6609441aScanC
import Derived.Test.Qxb6609441aScanD
namespace Go.Proofs.Qxb6609441a
open Go.RowKit
theorem nw_yes {c o d p : Int} (h : d < c ∨ (c = d ∧ p < o)) : nw c o d p = true := by simp [nw]; omega
theorem nw_no {c o d p : Int} (h : c < d ∨ (c = d ∧ o ≤ p)) : nw c o d p = false := by simp [nw]; omega
theorem ne_false {c d : Int} (h : c < d) : (c == d) = false := by simp; omega
theorem d000000 (a0 a1 a2 a3 a4 a5 : Int) (w : World) (e0 : a0 = a2) (e1 : a0 = a4) (e2 : a1 = a3) (e3 : a1 = a5) (h0 : (-9223372036854775808) < a1) :
    Calls Try.prog 5 #[.int .u32 a0, .int .i64 a1, .int .u32 a2, .int .i64 a3, .int .u32 a4, .int .i64 a5] w fun e w' => e = .returned (.bool true) ∧ Grown w w' := by
  subst e0 e1 e2 e3
  exact sc000000 _ _ w (by omega) (nw_no (by omega))
theorem d000000m (a0 a1 a2 a3 a4 a5 : Int) (w : World) (e0 : a0 = a2) (e1 : a0 = a4) (e2 : a1 = a3) (e3 : a1 = a5) (e4 : a1 = (-9223372036854775808))  :
    Calls Try.prog 5 #[.int .u32 a0, .int .i64 a1, .int .u32 a2, .int .i64 a3, .int .u32 a4, .int .i64 a5] w fun e w' => e = .returned (.bool true) ∧ Grown w w' := by
  subst e0 e1 e2 e3 e4
  exact sc000000m _ w (nw_no (by omega))
theorem d000001 (a0 a1 a2 a3 a4 a5 : Int) (w : World) (e0 : a0 = a2) (e1 : a0 = a4) (e2 : a1 = a3) (h0 : a3 < a5) (h1 : a1 < a5) (h2 : (-9223372036854775808) < a1) :
    Calls Try.prog 5 #[.int .u32 a0, .int .i64 a1, .int .u32 a2, .int .i64 a3, .int .u32 a4, .int .i64 a5] w fun e w' => e = .returned (.bool true) ∧ Grown w w' := by
  subst e0 e1 e2
  exact sc000001 _ _ _ w (by omega) (by omega) (nw_no (by omega)) (nw_no (by omega)) (nw_yes (by omega)) (nw_no (by omega))
theorem d000001m (a0 a1 a2 a3 a4 a5 : Int) (w : World) (e0 : a0 = a2) (e1 : a0 = a4) (e2 : a1 = a3) (e3 : a1 = (-9223372036854775808)) (h0 : a3 < a5) (h1 : a1 < a5) :
    Calls Try.prog 5 #[.int .u32 a0, .int .i64 a1, .int .u32 a2, .int .i64 a3, .int .u32 a4, .int .i64 a5] w fun e w' => e = .returned (.bool true) ∧ Grown w w' := by
  subst e0 e1 e2 e3
  exact sc000001m _ _ w (by omega) (nw_no (by omega)) (nw_no (by omega)) (nw_yes (by omega)) (nw_no (by omega))
theorem d000100 (a0 a1 a2 a3 a4 a5 : Int) (w : World) (e0 : a0 = a2) (e1 : a0 = a4) (e2 : a1 = a5) (h0 : a1 < a3) (h1 : a5 < a3) (h2 : (-9223372036854775808) < a1) :
    Calls Try.prog 5 #[.int .u32 a0, .int .i64 a1, .int .u32 a2, .int .i64 a3, .int .u32 a4, .int .i64 a5] w fun e w' => e = .returned (.bool true) ∧ Grown w w' := by
  subst e0 e1 e2
  exact sc000100 _ _ _ w (by omega) (by omega) (nw_no (by omega)) (nw_no (by omega)) (nw_yes (by omega)) (nw_no (by omega))
theorem d000100m (a0 a1 a2 a3 a4 a5 : Int) (w : World) (e0 : a0 = a2) (e1 : a0 = a4) (e2 : a1 = a5) (e3 : a1 = (-9223372036854775808)) (h0 : a1 < a3) (h1 : a5 < a3) :
    Calls Try.prog 5 #[.int .u32 a0, .int .i64 a1, .int .u32 a2, .int .i64 a3, .int .u32 a4, .int .i64 a5] w fun e w' => e = .returned (.bool true) ∧ Grown w w' := by
  subst e0 e1 e2 e3
  exact sc000100m _ _ w (by omega) (nw_no (by omega)) (nw_no (by omega)) (nw_yes (by omega)) (nw_no (by omega))
theorem d000101 (a0 a1 a2 a3 a4 a5 : Int) (w : World) (e0 : a0 = a2) (e1 : a0 = a4) (e2 : a3 = a5) (h0 : a1 < a3) (h1 : a1 < a5) (h2 : (-9223372036854775808) < a1) :
    Calls Try.prog 5 #[.int .u32 a0, .int .i64 a1, .int .u32 a2, .int .i64 a3, .int .u32 a4, .int .i64 a5] w fun e w' => e = .returned (.bool true) ∧ Grown w w' := by
  subst e0 e1 e2
  exact sc000101 _ _ _ w (by omega) (by omega) (nw_no (by omega)) (nw_no (by omega)) (nw_yes (by omega)) (nw_no (by omega))
theorem d000101m (a0 a1 a2 a3 a4 a5 : Int) (w : World) (e0 : a0 = a2) (e1 : a0 = a4) (e2 : a3 = a5) (e3 : a1 = (-9223372036854775808)) (h0 : a1 < a3) (h1 : a1 < a5) :
    Calls Try.prog 5 #[.int .u32 a0, .int .i64 a1, .int .u32 a2, .int .i64 a3, .int .u32 a4, .int .i64 a5] w fun e w' => e = .returned (.bool true) ∧ Grown w w' := by
  subst e0 e1 e2 e3
  exact sc000101m _ _ w (by omega) (nw_no (by omega)) (nw_no (by omega)) (nw_yes (by omega)) (nw_no (by omega))
theorem d000102 (a0 a1 a2 a3 a4 a5 : Int) (w : World) (e0 : a0 = a2) (e1 : a0 = a4) (h0 : a1 < a3) (h1 : a3 < a5) (h2 : a1 < a5) (h3 : (-9223372036854775808) < a1) :
    Calls Try.prog 5 #[.int .u32 a0, .int .i64 a1, .int .u32 a2, .int .i64 a3, .int .u32 a4, .int .i64 a5] w fun e w' => e = .returned (.bool true) ∧ Grown w w' := by
  subst e0 e1
  exact sc000102 _ _ _ _ w (by omega) (by omega) (by omega) (by omega) (nw_no (by omega)) (nw_no (by omega)) (nw_no (by omega)) (nw_yes (by omega)) (nw_no (by omega)) (nw_no (by omega)) (nw_yes (by omega)) (nw_yes (by omega)) (nw_no (by omega))
theorem d000102m (a0 a1 a2 a3 a4 a5 : Int) (w : World) (e0 : a0 = a2) (e1 : a0 = a4) (e2 : a1 = (-9223372036854775808)) (h0 : a1 < a3) (h1 : a3 < a5) (h2 : a1 < a5) :
    Calls Try.prog 5 #[.int .u32 a0, .int .i64 a1, .int .u32 a2, .int .i64 a3, .int .u32 a4, .int .i64 a5] w fun e w' => e = .returned (.bool true) ∧ Grown w w' := by
  subst e0 e1 e2
  exact sc000102m _ _ _ w (by omega) (by omega) (by omega) (nw_no (by omega)) (nw_no (by omega)) (nw_no (by omega)) (nw_yes (by omega)) (nw_no (by omega)) (nw_no (by omega)) (nw_yes (by omega)) (nw_yes (by omega)) (nw_no (by omega))
theorem d000201 (a0 a1 a2 a3 a4 a5 : Int) (w : World) (e0 : a0 = a2) (e1 : a0 = a4) (h0 : a1 < a3) (h1 : a5 < a3) (h2 : a1 < a5) (h3 : (-9223372036854775808) < a1) :
    Calls Try.prog 5 #[.int .u32 a0, .int .i64 a1, .int .u32 a2, .int .i64 a3, .int .u32 a4, .int .i64 a5] w fun e w' => e = .returned (.bool true) ∧ Grown w w' := by
  subst e0 e1
  exact sc000201 _ _ _ _ w (by omega) (by omega) (by omega) (by omega) (nw_no (by omega)) (nw_no (by omega)) (nw_no (by omega)) (nw_yes (by omega)) (nw_no (by omega)) (nw_yes (by omega)) (nw_yes (by omega)) (nw_no (by omega)) (nw_no (by omega))
theorem d000201m (a0 a1 a2 a3 a4 a5 : Int) (w : World) (e0 : a0 = a2) (e1 : a0 = a4) (e2 : a1 = (-9223372036854775808)) (h0 : a1 < a3) (h1 : a5 < a3) (h2 : a1 < a5) :
    Calls Try.prog 5 #[.int .u32 a0, .int .i64 a1, .int .u32 a2, .int .i64 a3, .int .u32 a4, .int .i64 a5] w fun e w' => e = .returned (.bool true) ∧ Grown w w' := by
  subst e0 e1 e2
  exact sc000201m _ _ _ w (by omega) (by omega) (by omega) (nw_no (by omega)) (nw_no (by omega)) (nw_no (by omega)) (nw_yes (by omega)) (nw_no (by omega)) (nw_yes (by omega)) (nw_yes (by omega)) (nw_no (by omega)) (nw_no (by omega))
theorem d010000 (a0 a1 a2 a3 a4 a5 : Int) (w : World) (e0 : a0 = a2) (e1 : a0 = a4) (e2 : a3 = a5) (h0 : a3 < a1) (h1 : a5 < a1) (h2 : (-9223372036854775808) < a1) :
    Calls Try.prog 5 #[.int .u32 a0, .int .i64 a1, .int .u32 a2, .int .i64 a3, .int .u32 a4, .int .i64 a5] w fun e w' => e = .returned (.bool true) ∧ Grown w w' := by
  subst e0 e1 e2
  exact sc010000 _ _ _ w (by omega) (by omega) (nw_no (by omega)) (nw_yes (by omega)) (nw_no (by omega)) (nw_no (by omega))
theorem d010001 (a0 a1 a2 a3 a4 a5 : Int) (w : World) (e0 : a0 = a2) (e1 : a0 = a4) (e2 : a1 = a5) (h0 : a3 < a1) (h1 : a3 < a5) (h2 : (-9223372036854775808) < a1) :
    Calls Try.prog 5 #[.int .u32 a0, .int .i64 a1, .int .u32 a2, .int .i64 a3, .int .u32 a4, .int .i64 a5] w fun e w' => e = .returned (.bool true) ∧ Grown w w' := by
  subst e0 e1 e2
  exact sc010001 _ _ _ w (by omega) (by omega) (nw_no (by omega)) (nw_yes (by omega)) (nw_no (by omega)) (nw_no (by omega))
theorem d010002 (a0 a1 a2 a3 a4 a5 : Int) (w : World) (e0 : a0 = a2) (e1 : a0 = a4) (h0 : a3 < a1) (h1 : a3 < a5) (h2 : a1 < a5) (h3 : (-9223372036854775808) < a1) :
    Calls Try.prog 5 #[.int .u32 a0, .int .i64 a1, .int .u32 a2, .int .i64 a3, .int .u32 a4, .int .i64 a5] w fun e w' => e = .returned (.bool true) ∧ Grown w w' := by
  subst e0 e1
  exact sc010002 _ _ _ _ w (by omega) (by omega) (by omega) (by omega) (nw_no (by omega)) (nw_yes (by omega)) (nw_no (by omega)) (nw_no (by omega)) (nw_no (by omega)) (nw_no (by omega)) (nw_yes (by omega)) (nw_yes (by omega)) (nw_no (by omega))
theorem d010100 (a0 a1 a2 a3 a4 a5 : Int) (w : World) (e0 : a0 = a2) (e1 : a0 = a4) (e2 : a1 = a3) (h0 : a5 < a3) (h1 : a5 < a1) (h2 : (-9223372036854775808) < a1) :
    Calls Try.prog 5 #[.int .u32 a0, .int .i64 a1, .int .u32 a2, .int .i64 a3, .int .u32 a4, .int .i64 a5] w fun e w' => e = .returned (.bool true) ∧ Grown w w' := by
  subst e0 e1 e2
  exact sc010100 _ _ _ w (by omega) (by omega) (nw_no (by omega)) (nw_yes (by omega)) (nw_no (by omega)) (nw_no (by omega))
theorem d010200 (a0 a1 a2 a3 a4 a5 : Int) (w : World) (e0 : a0 = a2) (e1 : a0 = a4) (h0 : a1 < a3) (h1 : a5 < a3) (h2 : a5 < a1) (h3 : (-9223372036854775808) < a1) :
    Calls Try.prog 5 #[.int .u32 a0, .int .i64 a1, .int .u32 a2, .int .i64 a3, .int .u32 a4, .int .i64 a5] w fun e w' => e = .returned (.bool true) ∧ Grown w w' := by
  subst e0 e1
  exact sc010200 _ _ _ _ w (by omega) (by omega) (by omega) (by omega) (nw_no (by omega)) (nw_no (by omega)) (nw_yes (by omega)) (nw_yes (by omega)) (nw_no (by omega)) (nw_yes (by omega)) (nw_no (by omega)) (nw_no (by omega)) (nw_no (by omega))
theorem d020001 (a0 a1 a2 a3 a4 a5 : Int) (w : World) (e0 : a0 = a2) (e1 : a0 = a4) (h0 : a3 < a1) (h1 : a3 < a5) (h2 : a5 < a1) (h3 : (-9223372036854775808) < a1) :
    Calls Try.prog 5 #[.int .u32 a0, .int .i64 a1, .int .u32 a2, .int .i64 a3, .int .u32 a4, .int .i64 a5] w fun e w' => e = .returned (.bool true) ∧ Grown w w' := by
  subst e0 e1
  exact sc020001 _ _ _ _ w (by omega) (by omega) (by omega) (by omega) (nw_no (by omega)) (nw_yes (by omega)) (nw_yes (by omega)) (nw_no (by omega)) (nw_no (by omega)) (nw_no (by omega)) (nw_no (by omega)) (nw_yes (by omega)) (nw_no (by omega))
theorem d020100 (a0 a1 a2 a3 a4 a5 : Int) (w : World) (e0 : a0 = a2) (e1 : a0 = a4) (h0 : a3 < a1) (h1 : a5 < a3) (h2 : a5 < a1) (h3 : (-9223372036854775808) < a1) :
    Calls Try.prog 5 #[.int .u32 a0, .int .i64 a1, .int .u32 a2, .int .i64 a3, .int .u32 a4, .int .i64 a5] w fun e w' => e = .returned (.bool true) ∧ Grown w w' := by
  subst e0 e1
  exact sc020100 _ _ _ _ w (by omega) (by omega) (by omega) (by omega) (nw_no (by omega)) (nw_yes (by omega)) (nw_yes (by omega)) (nw_no (by omega)) (nw_no (by omega)) (nw_yes (by omega)) (nw_no (by omega)) (nw_no (by omega)) (nw_no (by omega))
theorem d000010 (a0 a1 a2 a3 a4 a5 : Int) (w : World) (e0 : a0 = a2) (e1 : a1 = a3) (h0 : a2 < a4) (h1 : a0 < a4) (h2 : (-9223372036854775808) < a5) :
    Calls Try.prog 5 #[.int .u32 a0, .int .i64 a1, .int .u32 a2, .int .i64 a3, .int .u32 a4, .int .i64 a5] w fun e w' => e = .returned (.bool true) ∧ Grown w w' := by
  subst e0 e1
  exact sc000010 _ _ _ _ w (by omega) (ne_false (by omega)) (by omega) (nw_no (by omega)) (nw_no (by omega)) (nw_yes (by omega)) (nw_no (by omega))
theorem d000010m (a0 a1 a2 a3 a4 a5 : Int) (w : World) (e0 : a0 = a2) (e1 : a1 = a3) (e2 : a5 = (-9223372036854775808)) (h0 : a2 < a4) (h1 : a0 < a4) :
    Calls Try.prog 5 #[.int .u32 a0, .int .i64 a1, .int .u32 a2, .int .i64 a3, .int .u32 a4, .int .i64 a5] w fun e w' => e = .returned (.bool true) ∧ Grown w w' := by
  subst e0 e1 e2
  exact sc000010m _ _ _ w (by omega) (ne_false (by omega)) (nw_no (by omega)) (nw_no (by omega)) (nw_yes (by omega)) (nw_no (by omega))
theorem d000110 (a0 a1 a2 a3 a4 a5 : Int) (w : World) (e0 : a0 = a2) (h0 : a1 < a3) (h1 : a2 < a4) (h2 : a0 < a4) (h3 : (-9223372036854775808) < a5) :
    Calls Try.prog 5 #[.int .u32 a0, .int .i64 a1, .int .u32 a2, .int .i64 a3, .int .u32 a4, .int .i64 a5] w fun e w' => e = .returned (.bool true) ∧ Grown w w' := by
  subst e0
  exact sc000110 _ _ _ _ _ w (by omega) (ne_false (by omega)) (by omega) (nw_no (by omega)) (nw_no (by omega)) (nw_no (by omega)) (nw_yes (by omega)) (nw_no (by omega)) (nw_no (by omega)) (nw_yes (by omega)) (nw_yes (by omega)) (nw_no (by omega))
theorem d000110m (a0 a1 a2 a3 a4 a5 : Int) (w : World) (e0 : a0 = a2) (e1 : a5 = (-9223372036854775808)) (h0 : a1 < a3) (h1 : a2 < a4) (h2 : a0 < a4) :
    Calls Try.prog 5 #[.int .u32 a0, .int .i64 a1, .int .u32 a2, .int .i64 a3, .int .u32 a4, .int .i64 a5] w fun e w' => e = .returned (.bool true) ∧ Grown w w' := by
  subst e0 e1
  exact sc000110m _ _ _ _ w (by omega) (ne_false (by omega)) (nw_no (by omega)) (nw_no (by omega)) (nw_no (by omega)) (nw_yes (by omega)) (nw_no (by omega)) (nw_no (by omega)) (nw_yes (by omega)) (nw_yes (by omega)) (nw_no (by omega))
theorem d010010 (a0 a1 a2 a3 a4 a5 : Int) (w : World) (e0 : a0 = a2) (h0 : a3 < a1) (h1 : a2 < a4) (h2 : a0 < a4) (h3 : (-9223372036854775808) < a5) :
    Calls Try.prog 5 #[.int .u32 a0, .int .i64 a1, .int .u32 a2, .int .i64 a3, .int .u32 a4, .int .i64 a5] w fun e w' => e = .returned (.bool true) ∧ Grown w w' := by
  subst e0
  exact sc010010 _ _ _ _ _ w (by omega) (ne_false (by omega)) (by omega) (nw_no (by omega)) (nw_yes (by omega)) (nw_no (by omega)) (nw_no (by omega)) (nw_no (by omega)) (nw_no (by omega)) (nw_yes (by omega)) (nw_yes (by omega)) (nw_no (by omega))
theorem d010010m (a0 a1 a2 a3 a4 a5 : Int) (w : World) (e0 : a0 = a2) (e1 : a5 = (-9223372036854775808)) (h0 : a3 < a1) (h1 : a2 < a4) (h2 : a0 < a4) :
    Calls Try.prog 5 #[.int .u32 a0, .int .i64 a1, .int .u32 a2, .int .i64 a3, .int .u32 a4, .int .i64 a5] w fun e w' => e = .returned (.bool true) ∧ Grown w w' := by
  subst e0 e1
  exact sc010010m _ _ _ _ w (by omega) (ne_false (by omega)) (nw_no (by omega)) (nw_yes (by omega)) (nw_no (by omega)) (nw_no (by omega)) (nw_no (by omega)) (nw_no (by omega)) (nw_yes (by omega)) (nw_yes (by omega)) (nw_no (by omega))
theorem d001000 (a0 a1 a2 a3 a4 a5 : Int) (w : World) (e0 : a0 = a4) (e1 : a1 = a5) (h0 : a0 < a2) (h1 : a4 < a2) (h2 : (-9223372036854775808) < a3) :
    Calls Try.prog 5 #[.int .u32 a0, .int .i64 a1, .int .u32 a2, .int .i64 a3, .int .u32 a4, .int .i64 a5] w fun e w' => e = .returned (.bool true) ∧ Grown w w' := by
  subst e0 e1
  exact sc001000 _ _ _ _ w (by omega) (ne_false (by omega)) (by omega) (nw_no (by omega)) (nw_no (by omega)) (nw_yes (by omega)) (nw_no (by omega))
theorem d001000m (a0 a1 a2 a3 a4 a5 : Int) (w : World) (e0 : a0 = a4) (e1 : a1 = a5) (e2 : a3 = (-9223372036854775808)) (h0 : a0 < a2) (h1 : a4 < a2) :
    Calls Try.prog 5 #[.int .u32 a0, .int .i64 a1, .int .u32 a2, .int .i64 a3, .int .u32 a4, .int .i64 a5] w fun e w' => e = .returned (.bool true) ∧ Grown w w' := by
  subst e0 e1 e2
  exact sc001000m _ _ _ w (by omega) (ne_false (by omega)) (nw_no (by omega)) (nw_no (by omega)) (nw_yes (by omega)) (nw_no (by omega))
theorem d001001 (a0 a1 a2 a3 a4 a5 : Int) (w : World) (e0 : a0 = a4) (h0 : a0 < a2) (h1 : a4 < a2) (h2 : a1 < a5) (h3 : (-9223372036854775808) < a3) :
    Calls Try.prog 5 #[.int .u32 a0, .int .i64 a1, .int .u32 a2, .int .i64 a3, .int .u32 a4, .int .i64 a5] w fun e w' => e = .returned (.bool true) ∧ Grown w w' := by
  subst e0
  exact sc001001 _ _ _ _ _ w (by omega) (ne_false (by omega)) (by omega) (nw_no (by omega)) (nw_no (by omega)) (nw_no (by omega)) (nw_yes (by omega)) (nw_no (by omega)) (nw_yes (by omega)) (nw_yes (by omega)) (nw_no (by omega)) (nw_no (by omega))
theorem d001001m (a0 a1 a2 a3 a4 a5 : Int) (w : World) (e0 : a0 = a4) (e1 : a3 = (-9223372036854775808)) (h0 : a0 < a2) (h1 : a4 < a2) (h2 : a1 < a5) :
    Calls Try.prog 5 #[.int .u32 a0, .int .i64 a1, .int .u32 a2, .int .i64 a3, .int .u32 a4, .int .i64 a5] w fun e w' => e = .returned (.bool true) ∧ Grown w w' := by
  subst e0 e1
  exact sc001001m _ _ _ _ w (by omega) (ne_false (by omega)) (nw_no (by omega)) (nw_no (by omega)) (nw_no (by omega)) (nw_yes (by omega)) (nw_no (by omega)) (nw_yes (by omega)) (nw_yes (by omega)) (nw_no (by omega)) (nw_no (by omega))
theorem d011000 (a0 a1 a2 a3 a4 a5 : Int) (w : World) (e0 : a0 = a4) (h0 : a0 < a2) (h1 : a4 < a2) (h2 : a5 < a1) (h3 : (-9223372036854775808) < a3) :
    Calls Try.prog 5 #[.int .u32 a0, .int .i64 a1, .int .u32 a2, .int .i64 a3, .int .u32 a4, .int .i64 a5] w fun e w' => e = .returned (.bool true) ∧ Grown w w' := by
  subst e0
  exact sc011000 _ _ _ _ _ w (by omega) (ne_false (by omega)) (by omega) (nw_no (by omega)) (nw_no (by omega)) (nw_yes (by omega)) (nw_yes (by omega)) (nw_no (by omega)) (nw_yes (by omega)) (nw_no (by omega)) (nw_no (by omega)) (nw_no (by omega))
theorem d011000m (a0 a1 a2 a3 a4 a5 : Int) (w : World) (e0 : a0 = a4) (e1 : a3 = (-9223372036854775808)) (h0 : a0 < a2) (h1 : a4 < a2) (h2 : a5 < a1) :
    Calls Try.prog 5 #[.int .u32 a0, .int .i64 a1, .int .u32 a2, .int .i64 a3, .int .u32 a4, .int .i64 a5] w fun e w' => e = .returned (.bool true) ∧ Grown w w' := by
  subst e0 e1
  exact sc011000m _ _ _ _ w (by omega) (ne_false (by omega)) (nw_no (by omega)) (nw_no (by omega)) (nw_yes (by omega)) (nw_yes (by omega)) (nw_no (by omega)) (nw_yes (by omega)) (nw_no (by omega)) (nw_no (by omega)) (nw_no (by omega))
theorem d001010 (a0 a1 a2 a3 a4 a5 : Int) (w : World) (e0 : a2 = a4) (e1 : a3 = a5) (h0 : a0 < a2) (h1 : a0 < a4) (h2 : (-9223372036854775808) < a3) :
    Calls Try.prog 5 #[.int .u32 a0, .int .i64 a1, .int .u32 a2, .int .i64 a3, .int .u32 a4, .int .i64 a5] w fun e w' => e = .returned (.bool true) ∧ Grown w w' := by
  subst e0 e1
  exact sc001010 _ _ _ _ w (by omega) (ne_false (by omega)) (by omega) (nw_no (by omega)) (nw_no (by omega)) (nw_yes (by omega)) (nw_no (by omega))
theorem d001010m (a0 a1 a2 a3 a4 a5 : Int) (w : World) (e0 : a2 = a4) (e1 : a3 = a5) (e2 : a3 = (-9223372036854775808)) (h0 : a0 < a2) (h1 : a0 < a4) :
    Calls Try.prog 5 #[.int .u32 a0, .int .i64 a1, .int .u32 a2, .int .i64 a3, .int .u32 a4, .int .i64 a5] w fun e w' => e = .returned (.bool true) ∧ Grown w w' := by
  subst e0 e1 e2
  exact sc001010m _ _ _ w (by omega) (ne_false (by omega)) (nw_no (by omega)) (nw_no (by omega)) (nw_yes (by omega)) (nw_no (by omega))
theorem d001011 (a0 a1 a2 a3 a4 a5 : Int) (w : World) (e0 : a2 = a4) (h0 : a0 < a2) (h1 : a3 < a5) (h2 : a0 < a4) (h3 : (-9223372036854775808) < a3) :
    Calls Try.prog 5 #[.int .u32 a0, .int .i64 a1, .int .u32 a2, .int .i64 a3, .int .u32 a4, .int .i64 a5] w fun e w' => e = .returned (.bool true) ∧ Grown w w' := by
  subst e0
  exact sc001011 _ _ _ _ _ w (by omega) (ne_false (by omega)) (by omega) (by omega) (nw_no (by omega)) (nw_no (by omega)) (nw_no (by omega)) (nw_yes (by omega)) (nw_no (by omega)) (nw_no (by omega)) (nw_yes (by omega)) (nw_yes (by omega)) (nw_no (by omega))
theorem d001011m (a0 a1 a2 a3 a4 a5 : Int) (w : World) (e0 : a2 = a4) (e1 : a3 = (-9223372036854775808)) (h0 : a0 < a2) (h1 : a3 < a5) (h2 : a0 < a4) :
    Calls Try.prog 5 #[.int .u32 a0, .int .i64 a1, .int .u32 a2, .int .i64 a3, .int .u32 a4, .int .i64 a5] w fun e w' => e = .returned (.bool true) ∧ Grown w w' := by
  subst e0 e1
  exact sc001011m _ _ _ _ w (by omega) (ne_false (by omega)) (by omega) (nw_no (by omega)) (nw_no (by omega)) (nw_no (by omega)) (nw_yes (by omega)) (nw_no (by omega)) (nw_no (by omega)) (nw_yes (by omega)) (nw_yes (by omega)) (nw_no (by omega))
theorem d001110 (a0 a1 a2 a3 a4 a5 : Int) (w : World) (e0 : a2 = a4) (h0 : a0 < a2) (h1 : a5 < a3) (h2 : a0 < a4) (h3 : (-9223372036854775808) < a3) :
    Calls Try.prog 5 #[.int .u32 a0, .int .i64 a1, .int .u32 a2, .int .i64 a3, .int .u32 a4, .int .i64 a5] w fun e w' => e = .returned (.bool true) ∧ Grown w w' := by
  subst e0
  exact sc001110 _ _ _ _ _ w (by omega) (ne_false (by omega)) (by omega) (by omega) (nw_no (by omega)) (nw_no (by omega)) (nw_no (by omega)) (nw_yes (by omega)) (nw_no (by omega)) (nw_yes (by omega)) (nw_yes (by omega)) (nw_no (by omega)) (nw_no (by omega))
theorem d001020 (a0 a1 a2 a3 a4 a5 : Int) (w : World)  (h0 : a0 < a2) (h1 : a2 < a4) (h2 : a0 < a4) (h3 : (-9223372036854775808) < a5) :
    Calls Try.prog 5 #[.int .u32 a0, .int .i64 a1, .int .u32 a2, .int .i64 a3, .int .u32 a4, .int .i64 a5] w fun e w' => e = .returned (.bool true) ∧ Grown w w' := by
  exact sc001020 _ _ _ _ _ _ w (by omega) (ne_false (by omega)) (by omega) (ne_false (by omega)) (by omega) (ne_false (by omega)) (by omega) (nw_no (by omega)) (nw_no (by omega)) (nw_no (by omega)) (nw_yes (by omega)) (nw_no (by omega)) (nw_no (by omega)) (nw_yes (by omega)) (nw_yes (by omega)) (nw_no (by omega))
theorem d001020m (a0 a1 a2 a3 a4 a5 : Int) (w : World) (e0 : a5 = (-9223372036854775808)) (h0 : a0 < a2) (h1 : a2 < a4) (h2 : a0 < a4) :
    Calls Try.prog 5 #[.int .u32 a0, .int .i64 a1, .int .u32 a2, .int .i64 a3, .int .u32 a4, .int .i64 a5] w fun e w' => e = .returned (.bool true) ∧ Grown w w' := by
  subst e0
  exact sc001020m _ _ _ _ _ w (by omega) (ne_false (by omega)) (by omega) (ne_false (by omega)) (by omega) (ne_false (by omega)) (nw_no (by omega)) (nw_no (by omega)) (nw_no (by omega)) (nw_yes (by omega)) (nw_no (by omega)) (nw_no (by omega)) (nw_yes (by omega)) (nw_yes (by omega)) (nw_no (by omega))
theorem d002010 (a0 a1 a2 a3 a4 a5 : Int) (w : World)  (h0 : a0 < a2) (h1 : a4 < a2) (h2 : a0 < a4) (h3 : (-9223372036854775808) < a3) :
    Calls Try.prog 5 #[.int .u32 a0, .int .i64 a1, .int .u32 a2, .int .i64 a3, .int .u32 a4, .int .i64 a5] w fun e w' => e = .returned (.bool true) ∧ Grown w w' := by
  exact sc002010 _ _ _ _ _ _ w (by omega) (ne_false (by omega)) (by omega) (ne_false (by omega)) (by omega) (ne_false (by omega)) (by omega) (nw_no (by omega)) (nw_no (by omega)) (nw_no (by omega)) (nw_yes (by omega)) (nw_no (by omega)) (nw_yes (by omega)) (nw_yes (by omega)) (nw_no (by omega)) (nw_no (by omega))
theorem d002010m (a0 a1 a2 a3 a4 a5 : Int) (w : World) (e0 : a3 = (-9223372036854775808)) (h0 : a0 < a2) (h1 : a4 < a2) (h2 : a0 < a4) :
    Calls Try.prog 5 #[.int .u32 a0, .int .i64 a1, .int .u32 a2, .int .i64 a3, .int .u32 a4, .int .i64 a5] w fun e w' => e = .returned (.bool true) ∧ Grown w w' := by
  subst e0
  exact sc002010m _ _ _ _ _ w (by omega) (ne_false (by omega)) (by omega) (ne_false (by omega)) (by omega) (ne_false (by omega)) (nw_no (by omega)) (nw_no (by omega)) (nw_no (by omega)) (nw_yes (by omega)) (nw_no (by omega)) (nw_yes (by omega)) (nw_yes (by omega)) (nw_no (by omega)) (nw_no (by omega))
theorem d100000 (a0 a1 a2 a3 a4 a5 : Int) (w : World) (e0 : a2 = a4) (e1 : a3 = a5) (h0 : a2 < a0) (h1 : a4 < a0) (h2 : (-9223372036854775808) < a1) :
    Calls Try.prog 5 #[.int .u32 a0, .int .i64 a1, .int .u32 a2, .int .i64 a3, .int .u32 a4, .int .i64 a5] w fun e w' => e = .returned (.bool true) ∧ Grown w w' := by
  subst e0 e1
  exact sc100000 _ _ _ _ w (by omega) (ne_false (by omega)) (by omega) (nw_no (by omega)) (nw_yes (by omega)) (nw_no (by omega)) (nw_no (by omega))
theorem d100000m (a0 a1 a2 a3 a4 a5 : Int) (w : World) (e0 : a2 = a4) (e1 : a3 = a5) (e2 : a1 = (-9223372036854775808)) (h0 : a2 < a0) (h1 : a4 < a0) :
    Calls Try.prog 5 #[.int .u32 a0, .int .i64 a1, .int .u32 a2, .int .i64 a3, .int .u32 a4, .int .i64 a5] w fun e w' => e = .returned (.bool true) ∧ Grown w w' := by
  subst e0 e1 e2
  exact sc100000m _ _ _ w (by omega) (ne_false (by omega)) (nw_no (by omega)) (nw_yes (by omega)) (nw_no (by omega)) (nw_no (by omega))
theorem d100001 (a0 a1 a2 a3 a4 a5 : Int) (w : World) (e0 : a2 = a4) (h0 : a2 < a0) (h1 : a3 < a5) (h2 : a4 < a0) (h3 : (-9223372036854775808) < a1) :
    Calls Try.prog 5 #[.int .u32 a0, .int .i64 a1, .int .u32 a2, .int .i64 a3, .int .u32 a4, .int .i64 a5] w fun e w' => e = .returned (.bool true) ∧ Grown w w' := by
  subst e0
  exact sc100001 _ _ _ _ _ w (by omega) (ne_false (by omega)) (by omega) (nw_no (by omega)) (nw_yes (by omega)) (nw_yes (by omega)) (nw_no (by omega)) (nw_no (by omega)) (nw_no (by omega)) (nw_no (by omega)) (nw_yes (by omega)) (nw_no (by omega))
theorem d100001m (a0 a1 a2 a3 a4 a5 : Int) (w : World) (e0 : a2 = a4) (e1 : a1 = (-9223372036854775808)) (h0 : a2 < a0) (h1 : a3 < a5) (h2 : a4 < a0) :
    Calls Try.prog 5 #[.int .u32 a0, .int .i64 a1, .int .u32 a2, .int .i64 a3, .int .u32 a4, .int .i64 a5] w fun e w' => e = .returned (.bool true) ∧ Grown w w' := by
  subst e0 e1
  exact sc100001m _ _ _ _ w (by omega) (ne_false (by omega)) (nw_no (by omega)) (nw_yes (by omega)) (nw_yes (by omega)) (nw_no (by omega)) (nw_no (by omega)) (nw_no (by omega)) (nw_no (by omega)) (nw_yes (by omega)) (nw_no (by omega))
theorem d100100 (a0 a1 a2 a3 a4 a5 : Int) (w : World) (e0 : a2 = a4) (h0 : a2 < a0) (h1 : a5 < a3) (h2 : a4 < a0) (h3 : (-9223372036854775808) < a1) :
    Calls Try.prog 5 #[.int .u32 a0, .int .i64 a1, .int .u32 a2, .int .i64 a3, .int .u32 a4, .int .i64 a5] w fun e w' => e = .returned (.bool true) ∧ Grown w w' := by
  subst e0
  exact sc100100 _ _ _ _ _ w (by omega) (ne_false (by omega)) (by omega) (nw_no (by omega)) (nw_yes (by omega)) (nw_yes (by omega)) (nw_no (by omega)) (nw_no (by omega)) (nw_yes (by omega)) (nw_no (by omega)) (nw_no (by omega)) (nw_no (by omega))
theorem d100100m (a0 a1 a2 a3 a4 a5 : Int) (w : World) (e0 : a2 = a4) (e1 : a1 = (-9223372036854775808)) (h0 : a2 < a0) (h1 : a5 < a3) (h2 : a4 < a0) :
    Calls Try.prog 5 #[.int .u32 a0, .int .i64 a1, .int .u32 a2, .int .i64 a3, .int .u32 a4, .int .i64 a5] w fun e w' => e = .returned (.bool true) ∧ Grown w w' := by
  subst e0 e1
  exact sc100100m _ _ _ _ w (by omega) (ne_false (by omega)) (nw_no (by omega)) (nw_yes (by omega)) (nw_yes (by omega)) (nw_no (by omega)) (nw_no (by omega)) (nw_yes (by omega)) (nw_no (by omega)) (nw_no (by omega)) (nw_no (by omega))
theorem d100010 (a0 a1 a2 a3 a4 a5 : Int) (w : World) (e0 : a0 = a4) (e1 : a1 = a5) (h0 : a2 < a0) (h1 : a2 < a4) (h2 : (-9223372036854775808) < a1) :
    Calls Try.prog 5 #[.int .u32 a0, .int .i64 a1, .int .u32 a2, .int .i64 a3, .int .u32 a4, .int .i64 a5] w fun e w' => e = .returned (.bool true) ∧ Grown w w' := by
  subst e0 e1
  exact sc100010 _ _ _ _ w (by omega) (ne_false (by omega)) (by omega) (nw_no (by omega)) (nw_yes (by omega)) (nw_no (by omega)) (nw_no (by omega))
theorem d100010m (a0 a1 a2 a3 a4 a5 : Int) (w : World) (e0 : a0 = a4) (e1 : a1 = a5) (e2 : a1 = (-9223372036854775808)) (h0 : a2 < a0) (h1 : a2 < a4) :
    Calls Try.prog 5 #[.int .u32 a0, .int .i64 a1, .int .u32 a2, .int .i64 a3, .int .u32 a4, .int .i64 a5] w fun e w' => e = .returned (.bool true) ∧ Grown w w' := by
  subst e0 e1 e2
  exact sc100010m _ _ _ w (by omega) (ne_false (by omega)) (nw_no (by omega)) (nw_yes (by omega)) (nw_no (by omega)) (nw_no (by omega))
theorem d100011 (a0 a1 a2 a3 a4 a5 : Int) (w : World) (e0 : a0 = a4) (h0 : a2 < a0) (h1 : a2 < a4) (h2 : a1 < a5) (h3 : (-9223372036854775808) < a1) :
    Calls Try.prog 5 #[.int .u32 a0, .int .i64 a1, .int .u32 a2, .int .i64 a3, .int .u32 a4, .int .i64 a5] w fun e w' => e = .returned (.bool true) ∧ Grown w w' := by
  subst e0
  exact sc100011 _ _ _ _ _ w (by omega) (ne_false (by omega)) (by omega) (by omega) (nw_no (by omega)) (nw_yes (by omega)) (nw_no (by omega)) (nw_no (by omega)) (nw_no (by omega)) (nw_no (by omega)) (nw_yes (by omega)) (nw_yes (by omega)) (nw_no (by omega))
theorem d100011m (a0 a1 a2 a3 a4 a5 : Int) (w : World) (e0 : a0 = a4) (e1 : a1 = (-9223372036854775808)) (h0 : a2 < a0) (h1 : a2 < a4) (h2 : a1 < a5) :
    Calls Try.prog 5 #[.int .u32 a0, .int .i64 a1, .int .u32 a2, .int .i64 a3, .int .u32 a4, .int .i64 a5] w fun e w' => e = .returned (.bool true) ∧ Grown w w' := by
  subst e0 e1
  exact sc100011m _ _ _ _ w (by omega) (ne_false (by omega)) (by omega) (nw_no (by omega)) (nw_yes (by omega)) (nw_no (by omega)) (nw_no (by omega)) (nw_no (by omega)) (nw_no (by omega)) (nw_yes (by omega)) (nw_yes (by omega)) (nw_no (by omega))
theorem d110010 (a0 a1 a2 a3 a4 a5 : Int) (w : World) (e0 : a0 = a4) (h0 : a2 < a0) (h1 : a2 < a4) (h2 : a5 < a1) (h3 : (-9223372036854775808) < a1) :
    Calls Try.prog 5 #[.int .u32 a0, .int .i64 a1, .int .u32 a2, .int .i64 a3, .int .u32 a4, .int .i64 a5] w fun e w' => e = .returned (.bool true) ∧ Grown w w' := by
  subst e0
  exact sc110010 _ _ _ _ _ w (by omega) (ne_false (by omega)) (by omega) (by omega) (nw_no (by omega)) (nw_yes (by omega)) (nw_yes (by omega)) (nw_no (by omega)) (nw_no (by omega)) (nw_no (by omega)) (nw_no (by omega)) (nw_yes (by omega)) (nw_no (by omega))
theorem d100020 (a0 a1 a2 a3 a4 a5 : Int) (w : World)  (h0 : a2 < a0) (h1 : a2 < a4) (h2 : a0 < a4) (h3 : (-9223372036854775808) < a5) :
    Calls Try.prog 5 #[.int .u32 a0, .int .i64 a1, .int .u32 a2, .int .i64 a3, .int .u32 a4, .int .i64 a5] w fun e w' => e = .returned (.bool true) ∧ Grown w w' := by
  exact sc100020 _ _ _ _ _ _ w (by omega) (ne_false (by omega)) (by omega) (ne_false (by omega)) (by omega) (ne_false (by omega)) (by omega) (nw_no (by omega)) (nw_yes (by omega)) (nw_no (by omega)) (nw_no (by omega)) (nw_no (by omega)) (nw_no (by omega)) (nw_yes (by omega)) (nw_yes (by omega)) (nw_no (by omega))
theorem d100020m (a0 a1 a2 a3 a4 a5 : Int) (w : World) (e0 : a5 = (-9223372036854775808)) (h0 : a2 < a0) (h1 : a2 < a4) (h2 : a0 < a4) :
    Calls Try.prog 5 #[.int .u32 a0, .int .i64 a1, .int .u32 a2, .int .i64 a3, .int .u32 a4, .int .i64 a5] w fun e w' => e = .returned (.bool true) ∧ Grown w w' := by
  subst e0
  exact sc100020m _ _ _ _ _ w (by omega) (ne_false (by omega)) (by omega) (ne_false (by omega)) (by omega) (ne_false (by omega)) (nw_no (by omega)) (nw_yes (by omega)) (nw_no (by omega)) (nw_no (by omega)) (nw_no (by omega)) (nw_no (by omega)) (nw_yes (by omega)) (nw_yes (by omega)) (nw_no (by omega))
theorem d101000 (a0 a1 a2 a3 a4 a5 : Int) (w : World) (e0 : a0 = a2) (e1 : a1 = a3) (h0 : a4 < a2) (h1 : a4 < a0) (h2 : (-9223372036854775808) < a1) :
    Calls Try.prog 5 #[.int .u32 a0, .int .i64 a1, .int .u32 a2, .int .i64 a3, .int .u32 a4, .int .i64 a5] w fun e w' => e = .returned (.bool true) ∧ Grown w w' := by
  subst e0 e1
  exact sc101000 _ _ _ _ w (by omega) (ne_false (by omega)) (by omega) (nw_no (by omega)) (nw_yes (by omega)) (nw_no (by omega)) (nw_no (by omega))
theorem d101000m (a0 a1 a2 a3 a4 a5 : Int) (w : World) (e0 : a0 = a2) (e1 : a1 = a3) (e2 : a1 = (-9223372036854775808)) (h0 : a4 < a2) (h1 : a4 < a0) :
    Calls Try.prog 5 #[.int .u32 a0, .int .i64 a1, .int .u32 a2, .int .i64 a3, .int .u32 a4, .int .i64 a5] w fun e w' => e = .returned (.bool true) ∧ Grown w w' := by
  subst e0 e1 e2
  exact sc101000m _ _ _ w (by omega) (ne_false (by omega)) (nw_no (by omega)) (nw_yes (by omega)) (nw_no (by omega)) (nw_no (by omega))
theorem d101100 (a0 a1 a2 a3 a4 a5 : Int) (w : World) (e0 : a0 = a2) (h0 : a1 < a3) (h1 : a4 < a2) (h2 : a4 < a0) (h3 : (-9223372036854775808) < a1) :
    Calls Try.prog 5 #[.int .u32 a0, .int .i64 a1, .int .u32 a2, .int .i64 a3, .int .u32 a4, .int .i64 a5] w fun e w' => e = .returned (.bool true) ∧ Grown w w' := by
  subst e0
  exact sc101100 _ _ _ _ _ w (by omega) (ne_false (by omega)) (by omega) (by omega) (nw_no (by omega)) (nw_no (by omega)) (nw_yes (by omega)) (nw_yes (by omega)) (nw_no (by omega)) (nw_yes (by omega)) (nw_no (by omega)) (nw_no (by omega)) (nw_no (by omega))
theorem d101100m (a0 a1 a2 a3 a4 a5 : Int) (w : World) (e0 : a0 = a2) (e1 : a1 = (-9223372036854775808)) (h0 : a1 < a3) (h1 : a4 < a2) (h2 : a4 < a0) :
    Calls Try.prog 5 #[.int .u32 a0, .int .i64 a1, .int .u32 a2, .int .i64 a3, .int .u32 a4, .int .i64 a5] w fun e w' => e = .returned (.bool true) ∧ Grown w w' := by
  subst e0 e1
  exact sc101100m _ _ _ _ w (by omega) (ne_false (by omega)) (by omega) (nw_no (by omega)) (nw_no (by omega)) (nw_yes (by omega)) (nw_yes (by omega)) (nw_no (by omega)) (nw_yes (by omega)) (nw_no (by omega)) (nw_no (by omega)) (nw_no (by omega))
theorem d111000 (a0 a1 a2 a3 a4 a5 : Int) (w : World) (e0 : a0 = a2) (h0 : a3 < a1) (h1 : a4 < a2) (h2 : a4 < a0) (h3 : (-9223372036854775808) < a1) :
    Calls Try.prog 5 #[.int .u32 a0, .int .i64 a1, .int .u32 a2, .int .i64 a3, .int .u32 a4, .int .i64 a5] w fun e w' => e = .returned (.bool true) ∧ Grown w w' := by
  subst e0
  exact sc111000 _ _ _ _ _ w (by omega) (ne_false (by omega)) (by omega) (by omega) (nw_no (by omega)) (nw_yes (by omega)) (nw_yes (by omega)) (nw_no (by omega)) (nw_no (by omega)) (nw_yes (by omega)) (nw_no (by omega)) (nw_no (by omega)) (nw_no (by omega))
theorem d102000 (a0 a1 a2 a3 a4 a5 : Int) (w : World)  (h0 : a0 < a2) (h1 : a4 < a2) (h2 : a4 < a0) (h3 : (-9223372036854775808) < a3) :
    Calls Try.prog 5 #[.int .u32 a0, .int .i64 a1, .int .u32 a2, .int .i64 a3, .int .u32 a4, .int .i64 a5] w fun e w' => e = .returned (.bool true) ∧ Grown w w' := by
  exact sc102000 _ _ _ _ _ _ w (by omega) (ne_false (by omega)) (by omega) (ne_false (by omega)) (by omega) (ne_false (by omega)) (by omega) (nw_no (by omega)) (nw_no (by omega)) (nw_yes (by omega)) (nw_yes (by omega)) (nw_no (by omega)) (nw_yes (by omega)) (nw_no (by omega)) (nw_no (by omega)) (nw_no (by omega))
theorem d102000m (a0 a1 a2 a3 a4 a5 : Int) (w : World) (e0 : a3 = (-9223372036854775808)) (h0 : a0 < a2) (h1 : a4 < a2) (h2 : a4 < a0) :
    Calls Try.prog 5 #[.int .u32 a0, .int .i64 a1, .int .u32 a2, .int .i64 a3, .int .u32 a4, .int .i64 a5] w fun e w' => e = .returned (.bool true) ∧ Grown w w' := by
  subst e0
  exact sc102000m _ _ _ _ _ w (by omega) (ne_false (by omega)) (by omega) (ne_false (by omega)) (by omega) (ne_false (by omega)) (nw_no (by omega)) (nw_no (by omega)) (nw_yes (by omega)) (nw_yes (by omega)) (nw_no (by omega)) (nw_yes (by omega)) (nw_no (by omega)) (nw_no (by omega)) (nw_no (by omega))
theorem d200010 (a0 a1 a2 a3 a4 a5 : Int) (w : World)  (h0 : a2 < a0) (h1 : a2 < a4) (h2 : a4 < a0) (h3 : (-9223372036854775808) < a1) :
    Calls Try.prog 5 #[.int .u32 a0, .int .i64 a1, .int .u32 a2, .int .i64 a3, .int .u32 a4, .int .i64 a5] w fun e w' => e = .returned (.bool true) ∧ Grown w w' := by
  exact sc200010 _ _ _ _ _ _ w (by omega) (ne_false (by omega)) (by omega) (ne_false (by omega)) (by omega) (ne_false (by omega)) (by omega) (nw_no (by omega)) (nw_yes (by omega)) (nw_yes (by omega)) (nw_no (by omega)) (nw_no (by omega)) (nw_no (by omega)) (nw_no (by omega)) (nw_yes (by omega)) (nw_no (by omega))
theorem d200010m (a0 a1 a2 a3 a4 a5 : Int) (w : World) (e0 : a1 = (-9223372036854775808)) (h0 : a2 < a0) (h1 : a2 < a4) (h2 : a4 < a0) :
    Calls Try.prog 5 #[.int .u32 a0, .int .i64 a1, .int .u32 a2, .int .i64 a3, .int .u32 a4, .int .i64 a5] w fun e w' => e = .returned (.bool true) ∧ Grown w w' := by
  subst e0
  exact sc200010m _ _ _ _ _ w (by omega) (ne_false (by omega)) (by omega) (ne_false (by omega)) (by omega) (ne_false (by omega)) (nw_no (by omega)) (nw_yes (by omega)) (nw_yes (by omega)) (nw_no (by omega)) (nw_no (by omega)) (nw_no (by omega)) (nw_no (by omega)) (nw_yes (by omega)) (nw_no (by omega))
theorem d201000 (a0 a1 a2 a3 a4 a5 : Int) (w : World)  (h0 : a2 < a0) (h1 : a4 < a2) (h2 : a4 < a0) (h3 : (-9223372036854775808) < a1) :
    Calls Try.prog 5 #[.int .u32 a0, .int .i64 a1, .int .u32 a2, .int .i64 a3, .int .u32 a4, .int .i64 a5] w fun e w' => e = .returned (.bool true) ∧ Grown w w' := by
  exact sc201000 _ _ _ _ _ _ w (by omega) (ne_false (by omega)) (by omega) (ne_false (by omega)) (by omega) (ne_false (by omega)) (by omega) (nw_no (by omega)) (nw_yes (by omega)) (nw_yes (by omega)) (nw_no (by omega)) (nw_no (by omega)) (nw_yes (by omega)) (nw_no (by omega)) (nw_no (by omega)) (nw_no (by omega))
theorem d201000m (a0 a1 a2 a3 a4 a5 : Int) (w : World) (e0 : a1 = (-9223372036854775808)) (h0 : a2 < a0) (h1 : a4 < a2) (h2 : a4 < a0) :
    Calls Try.prog 5 #[.int .u32 a0, .int .i64 a1, .int .u32 a2, .int .i64 a3, .int .u32 a4, .int .i64 a5] w fun e w' => e = .returned (.bool true) ∧ Grown w w' := by
  subst e0
  exact sc201000m _ _ _ _ _ w (by omega) (ne_false (by omega)) (by omega) (ne_false (by omega)) (by omega) (ne_false (by omega)) (nw_no (by omega)) (nw_yes (by omega)) (nw_yes (by omega)) (nw_no (by omega)) (nw_no (by omega)) (nw_yes (by omega)) (nw_no (by omega)) (nw_no (by omega)) (nw_no (by omega))

theorem scan_any (a0 a1 a2 a3 a4 a5 : Int) (m1 : -9223372036854775808 ≤ a1) (m3 : -9223372036854775808 ≤ a3) (m5 : -9223372036854775808 ≤ a5) (w : World) :
    Calls Try.prog 5 #[.int .u32 a0, .int .i64 a1, .int .u32 a2, .int .i64 a3, .int .u32 a4, .int .i64 a5] w fun e w' => e = .returned (.bool true) ∧ Grown w w' := by
  rcases Int.lt_trichotomy a0 a2 with h1 | h1 | h1
  · rcases Int.lt_trichotomy a2 a4 with h2 | h2 | h2
    · rcases Int.lt_trichotomy a0 a4 with h3 | h3 | h3
      · rcases Int.lt_or_eq_of_le m5 with h33 | h33
        · exact d001020 a0 a1 a2 a3 a4 a5 w (by omega) (by omega) (by omega) (by omega)
        · exact d001020m a0 a1 a2 a3 a4 a5 w (by omega) (by omega) (by omega) (by omega)
      · exfalso; omega
      · exfalso; omega
    · rcases Int.lt_trichotomy a0 a4 with h4 | h4 | h4
      · rcases Int.lt_trichotomy a3 a5 with h5 | h5 | h5
        · rcases Int.lt_or_eq_of_le m3 with h34 | h34
          · exact d001011 a0 a1 a2 a3 a4 a5 w (by omega) (by omega) (by omega) (by omega) (by omega)
          · exact d001011m a0 a1 a2 a3 a4 a5 w (by omega) (by omega) (by omega) (by omega) (by omega)
        · rcases Int.lt_or_eq_of_le m3 with h35 | h35
          · exact d001010 a0 a1 a2 a3 a4 a5 w (by omega) (by omega) (by omega) (by omega) (by omega)
          · exact d001010m a0 a1 a2 a3 a4 a5 w (by omega) (by omega) (by omega) (by omega) (by omega)
        · rcases Int.lt_or_eq_of_le m3 with h36 | h36
          · exact d001110 a0 a1 a2 a3 a4 a5 w (by omega) (by omega) (by omega) (by omega) (by omega)
          · exfalso; omega
      · exfalso; omega
      · exfalso; omega
    · rcases Int.lt_trichotomy a0 a4 with h6 | h6 | h6
      · rcases Int.lt_or_eq_of_le m3 with h37 | h37
        · exact d002010 a0 a1 a2 a3 a4 a5 w (by omega) (by omega) (by omega) (by omega)
        · exact d002010m a0 a1 a2 a3 a4 a5 w (by omega) (by omega) (by omega) (by omega)
      · rcases Int.lt_trichotomy a1 a5 with h7 | h7 | h7
        · rcases Int.lt_or_eq_of_le m3 with h38 | h38
          · exact d001001 a0 a1 a2 a3 a4 a5 w (by omega) (by omega) (by omega) (by omega) (by omega)
          · exact d001001m a0 a1 a2 a3 a4 a5 w (by omega) (by omega) (by omega) (by omega) (by omega)
        · rcases Int.lt_or_eq_of_le m3 with h39 | h39
          · exact d001000 a0 a1 a2 a3 a4 a5 w (by omega) (by omega) (by omega) (by omega) (by omega)
          · exact d001000m a0 a1 a2 a3 a4 a5 w (by omega) (by omega) (by omega) (by omega) (by omega)
        · rcases Int.lt_or_eq_of_le m3 with h40 | h40
          · exact d011000 a0 a1 a2 a3 a4 a5 w (by omega) (by omega) (by omega) (by omega) (by omega)
          · exact d011000m a0 a1 a2 a3 a4 a5 w (by omega) (by omega) (by omega) (by omega) (by omega)
      · rcases Int.lt_or_eq_of_le m3 with h41 | h41
        · exact d102000 a0 a1 a2 a3 a4 a5 w (by omega) (by omega) (by omega) (by omega)
        · exact d102000m a0 a1 a2 a3 a4 a5 w (by omega) (by omega) (by omega) (by omega)
  · rcases Int.lt_trichotomy a2 a4 with h8 | h8 | h8
    · rcases Int.lt_trichotomy a0 a4 with h9 | h9 | h9
      · rcases Int.lt_trichotomy a1 a3 with h10 | h10 | h10
        · rcases Int.lt_or_eq_of_le m5 with h42 | h42
          · exact d000110 a0 a1 a2 a3 a4 a5 w (by omega) (by omega) (by omega) (by omega) (by omega)
          · exact d000110m a0 a1 a2 a3 a4 a5 w (by omega) (by omega) (by omega) (by omega) (by omega)
        · rcases Int.lt_or_eq_of_le m5 with h43 | h43
          · exact d000010 a0 a1 a2 a3 a4 a5 w (by omega) (by omega) (by omega) (by omega) (by omega)
          · exact d000010m a0 a1 a2 a3 a4 a5 w (by omega) (by omega) (by omega) (by omega) (by omega)
        · rcases Int.lt_or_eq_of_le m5 with h44 | h44
          · exact d010010 a0 a1 a2 a3 a4 a5 w (by omega) (by omega) (by omega) (by omega) (by omega)
          · exact d010010m a0 a1 a2 a3 a4 a5 w (by omega) (by omega) (by omega) (by omega) (by omega)
      · exfalso; omega
      · exfalso; omega
    · rcases Int.lt_trichotomy a0 a4 with h11 | h11 | h11
      · exfalso; omega
      · rcases Int.lt_trichotomy a1 a3 with h12 | h12 | h12
        · rcases Int.lt_trichotomy a3 a5 with h13 | h13 | h13
          · rcases Int.lt_trichotomy a1 a5 with h14 | h14 | h14
            · rcases Int.lt_or_eq_of_le m1 with h45 | h45
              · exact d000102 a0 a1 a2 a3 a4 a5 w (by omega) (by omega) (by omega) (by omega) (by omega) (by omega)
              · exact d000102m a0 a1 a2 a3 a4 a5 w (by omega) (by omega) (by omega) (by omega) (by omega) (by omega)
            · exfalso; omega
            · exfalso; omega
          · rcases Int.lt_trichotomy a1 a5 with h15 | h15 | h15
            · rcases Int.lt_or_eq_of_le m1 with h46 | h46
              · exact d000101 a0 a1 a2 a3 a4 a5 w (by omega) (by omega) (by omega) (by omega) (by omega) (by omega)
              · exact d000101m a0 a1 a2 a3 a4 a5 w (by omega) (by omega) (by omega) (by omega) (by omega) (by omega)
            · exfalso; omega
            · exfalso; omega
          · rcases Int.lt_trichotomy a1 a5 with h16 | h16 | h16
            · rcases Int.lt_or_eq_of_le m1 with h47 | h47
              · exact d000201 a0 a1 a2 a3 a4 a5 w (by omega) (by omega) (by omega) (by omega) (by omega) (by omega)
              · exact d000201m a0 a1 a2 a3 a4 a5 w (by omega) (by omega) (by omega) (by omega) (by omega) (by omega)
            · rcases Int.lt_or_eq_of_le m1 with h48 | h48
              · exact d000100 a0 a1 a2 a3 a4 a5 w (by omega) (by omega) (by omega) (by omega) (by omega) (by omega)
              · exact d000100m a0 a1 a2 a3 a4 a5 w (by omega) (by omega) (by omega) (by omega) (by omega) (by omega)
            · rcases Int.lt_or_eq_of_le m1 with h49 | h49
              · exact d010200 a0 a1 a2 a3 a4 a5 w (by omega) (by omega) (by omega) (by omega) (by omega) (by omega)
              · exfalso; omega
        · rcases Int.lt_trichotomy a3 a5 with h17 | h17 | h17
          · rcases Int.lt_trichotomy a1 a5 with h18 | h18 | h18
            · rcases Int.lt_or_eq_of_le m1 with h50 | h50
              · exact d000001 a0 a1 a2 a3 a4 a5 w (by omega) (by omega) (by omega) (by omega) (by omega) (by omega)
              · exact d000001m a0 a1 a2 a3 a4 a5 w (by omega) (by omega) (by omega) (by omega) (by omega) (by omega)
            · exfalso; omega
            · exfalso; omega
          · rcases Int.lt_trichotomy a1 a5 with h19 | h19 | h19
            · exfalso; omega
            · rcases Int.lt_or_eq_of_le m1 with h51 | h51
              · exact d000000 a0 a1 a2 a3 a4 a5 w (by omega) (by omega) (by omega) (by omega) (by omega)
              · exact d000000m a0 a1 a2 a3 a4 a5 w (by omega) (by omega) (by omega) (by omega) (by omega)
            · exfalso; omega
          · rcases Int.lt_trichotomy a1 a5 with h20 | h20 | h20
            · exfalso; omega
            · exfalso; omega
            · rcases Int.lt_or_eq_of_le m1 with h52 | h52
              · exact d010100 a0 a1 a2 a3 a4 a5 w (by omega) (by omega) (by omega) (by omega) (by omega) (by omega)
              · exfalso; omega
        · rcases Int.lt_trichotomy a3 a5 with h21 | h21 | h21
          · rcases Int.lt_trichotomy a1 a5 with h22 | h22 | h22
            · rcases Int.lt_or_eq_of_le m1 with h53 | h53
              · exact d010002 a0 a1 a2 a3 a4 a5 w (by omega) (by omega) (by omega) (by omega) (by omega) (by omega)
              · exfalso; omega
            · rcases Int.lt_or_eq_of_le m1 with h54 | h54
              · exact d010001 a0 a1 a2 a3 a4 a5 w (by omega) (by omega) (by omega) (by omega) (by omega) (by omega)
              · exfalso; omega
            · rcases Int.lt_or_eq_of_le m1 with h55 | h55
              · exact d020001 a0 a1 a2 a3 a4 a5 w (by omega) (by omega) (by omega) (by omega) (by omega) (by omega)
              · exfalso; omega
          · rcases Int.lt_trichotomy a1 a5 with h23 | h23 | h23
            · exfalso; omega
            · exfalso; omega
            · rcases Int.lt_or_eq_of_le m1 with h56 | h56
              · exact d010000 a0 a1 a2 a3 a4 a5 w (by omega) (by omega) (by omega) (by omega) (by omega) (by omega)
              · exfalso; omega
          · rcases Int.lt_trichotomy a1 a5 with h24 | h24 | h24
            · exfalso; omega
            · exfalso; omega
            · rcases Int.lt_or_eq_of_le m1 with h57 | h57
              · exact d020100 a0 a1 a2 a3 a4 a5 w (by omega) (by omega) (by omega) (by omega) (by omega) (by omega)
              · exfalso; omega
      · exfalso; omega
    · rcases Int.lt_trichotomy a0 a4 with h25 | h25 | h25
      · exfalso; omega
      · exfalso; omega
      · rcases Int.lt_trichotomy a1 a3 with h26 | h26 | h26
        · rcases Int.lt_or_eq_of_le m1 with h58 | h58
          · exact d101100 a0 a1 a2 a3 a4 a5 w (by omega) (by omega) (by omega) (by omega) (by omega)
          · exact d101100m a0 a1 a2 a3 a4 a5 w (by omega) (by omega) (by omega) (by omega) (by omega)
        · rcases Int.lt_or_eq_of_le m1 with h59 | h59
          · exact d101000 a0 a1 a2 a3 a4 a5 w (by omega) (by omega) (by omega) (by omega) (by omega)
          · exact d101000m a0 a1 a2 a3 a4 a5 w (by omega) (by omega) (by omega) (by omega) (by omega)
        · rcases Int.lt_or_eq_of_le m1 with h60 | h60
          · exact d111000 a0 a1 a2 a3 a4 a5 w (by omega) (by omega) (by omega) (by omega) (by omega)
          · exfalso; omega
  · rcases Int.lt_trichotomy a2 a4 with h27 | h27 | h27
    · rcases Int.lt_trichotomy a0 a4 with h28 | h28 | h28
      · rcases Int.lt_or_eq_of_le m5 with h61 | h61
        · exact d100020 a0 a1 a2 a3 a4 a5 w (by omega) (by omega) (by omega) (by omega)
        · exact d100020m a0 a1 a2 a3 a4 a5 w (by omega) (by omega) (by omega) (by omega)
      · rcases Int.lt_trichotomy a1 a5 with h29 | h29 | h29
        · rcases Int.lt_or_eq_of_le m1 with h62 | h62
          · exact d100011 a0 a1 a2 a3 a4 a5 w (by omega) (by omega) (by omega) (by omega) (by omega)
          · exact d100011m a0 a1 a2 a3 a4 a5 w (by omega) (by omega) (by omega) (by omega) (by omega)
        · rcases Int.lt_or_eq_of_le m1 with h63 | h63
          · exact d100010 a0 a1 a2 a3 a4 a5 w (by omega) (by omega) (by omega) (by omega) (by omega)
          · exact d100010m a0 a1 a2 a3 a4 a5 w (by omega) (by omega) (by omega) (by omega) (by omega)
        · rcases Int.lt_or_eq_of_le m1 with h64 | h64
          · exact d110010 a0 a1 a2 a3 a4 a5 w (by omega) (by omega) (by omega) (by omega) (by omega)
          · exfalso; omega
      · rcases Int.lt_or_eq_of_le m1 with h65 | h65
        · exact d200010 a0 a1 a2 a3 a4 a5 w (by omega) (by omega) (by omega) (by omega)
        · exact d200010m a0 a1 a2 a3 a4 a5 w (by omega) (by omega) (by omega) (by omega)
    · rcases Int.lt_trichotomy a0 a4 with h30 | h30 | h30
      · exfalso; omega
      · exfalso; omega
      · rcases Int.lt_trichotomy a3 a5 with h31 | h31 | h31
        · rcases Int.lt_or_eq_of_le m1 with h66 | h66
          · exact d100001 a0 a1 a2 a3 a4 a5 w (by omega) (by omega) (by omega) (by omega) (by omega)
          · exact d100001m a0 a1 a2 a3 a4 a5 w (by omega) (by omega) (by omega) (by omega) (by omega)
        · rcases Int.lt_or_eq_of_le m1 with h67 | h67
          · exact d100000 a0 a1 a2 a3 a4 a5 w (by omega) (by omega) (by omega) (by omega) (by omega)
          · exact d100000m a0 a1 a2 a3 a4 a5 w (by omega) (by omega) (by omega) (by omega) (by omega)
        · rcases Int.lt_or_eq_of_le m1 with h68 | h68
          · exact d100100 a0 a1 a2 a3 a4 a5 w (by omega) (by omega) (by omega) (by omega) (by omega)
          · exact d100100m a0 a1 a2 a3 a4 a5 w (by omega) (by omega) (by omega) (by omega) (by omega)
    · rcases Int.lt_trichotomy a0 a4 with h32 | h32 | h32
      · exfalso; omega
      · exfalso; omega
      · rcases Int.lt_or_eq_of_le m1 with h69 | h69
        · exact d201000 a0 a1 a2 a3 a4 a5 w (by omega) (by omega) (by omega) (by omega)
        · exact d201000m a0 a1 a2 a3 a4 a5 w (by omega) (by omega) (by omega) (by omega)
end Go.Proofs.Qxb6609441a
