import Derived.Test.Qxb6609441aRows
import Derived.WalkKit
import Derived.WalkSpells
import Derived.Deep.QuietTactic
import Derived.BigQuiet
import Derived.RowKit3
import Derived.Outline
namespace Go.Proofs.Qxb6609441a
open Go.RowKit

/-- 'newerThan' on two signatures, in plain numbers. -/
def nw (c1 o1 c2 o2 : Int) : Bool := decide (c2 < c1) || (c1 == c2 && decide (o2 < o1))

/-- what a signature's block holds -/
def sig (o t c e k : Int) : Array Value := #[.int .i64 o, .int .u8 t, .int .u32 c, .int .u32 e, .int .u32 k]

theorem newSelf_any (o t c e k : Int) (w : World) :
    Calls Try.prog 11 #[.int .i64 o, .int .u8 t, .int .u32 c, .int .u32 e, .int .u32 k] w fun r w' =>
      r = .returned (.pointer (some ⟨w.heap.size, 0, none⟩)) ∧ w.alloc (.cells #[.int .i64 o, .int .u8 t, .int .u32 c, .int .u32 e, .int .u32 k] 45) = w' := by
  go_enter Try.func11, Try.ntmps11
  go_wp2
  go_ret
  exact ⟨rfl, rfl⟩

theorem noSelf_any (w : World) :
    Calls Try.prog 13 #[] w fun r w' => r = .returned (.pointer none) ∧ w = w' := by
  go_enter Try.func13, Try.ntmps13
  go_wp2
  go_ret
  exact ⟨rfl, rfl⟩

theorem newer17_nil (a : Addr) (w : World) :
    Calls Try.prog 17 #[.pointer (some a), .pointer none] w fun r w' => r = .returned (.bool true) ∧ ∃ n, w' = w.drewN n := by
  go_enter Try.func17, Try.ntmps17
  go_wp2
  go_quiet (fail)
  go_wp2
  go_ret
  exact ⟨rfl, _, rfl⟩

theorem newer17_any (b1 b2 : Nat) (c1 o1 c2 o2 : Int) (w : World)
    (h1 : w.cell? ⟨b1, 0, none⟩ = some (.int .i64 o1)) (h2 : w.cell? ⟨b1, 2, none⟩ = some (.int .u32 c1))
    (k1 : w.cell? ⟨b2, 0, none⟩ = some (.int .i64 o2)) (k2 : w.cell? ⟨b2, 2, none⟩ = some (.int .u32 c2)) :
    Calls Try.prog 17 #[.pointer (some ⟨b1, 0, none⟩), .pointer (some ⟨b2, 0, none⟩)] w fun r w' => r = .returned (.bool (nw c1 o1 c2 o2)) ∧ ∃ n, w' = w.drewN n := by
  by_cases g1 : c2 < c1
  · have e : nw c1 o1 c2 o2 = true := by simp [nw, g1]
    rw [e]; clear e
    go_enter Try.func17, Try.ntmps17
    go_wp2
    go_quiet (fail)
    go_wp2
    go_ret
    exact ⟨rfl, _, rfl⟩
  by_cases g2 : c1 = c2
  · subst g2
    by_cases g3 : o2 < o1
    · have e : nw c1 o1 c1 o2 = true := by simp [nw, g3]
      rw [e]; clear e
      have g1' : decide (c1 < c1) = false := by simp
      go_enter Try.func17, Try.ntmps17
      go_wp2
      go_quiet (fail)
      go_wp2
      go_ret
      exact ⟨rfl, _, rfl⟩
    · have e : nw c1 o1 c1 o2 = false := by simp [nw, g3]
      rw [e]; clear e
      have g1' : decide (c1 < c1) = false := by simp
      have g3' : decide (o2 < o1) = false := by simp [g3]
      go_enter Try.func17, Try.ntmps17
      go_wp2
      go_quiet (fail)
      go_wp2
      go_ret
      exact ⟨rfl, _, rfl⟩
  · have e : nw c1 o1 c2 o2 = false := by simp [nw, g1, g2]
    rw [e]; clear e
    have g1' : decide (c2 < c1) = false := by simp [g1]
    have g2' : (c1 == c2) = false := by simp [g2]
    go_enter Try.func17, Try.ntmps17
    go_wp2
    go_quiet (fail)
    go_wp2
    go_ret
    exact ⟨rfl, _, rfl⟩

theorem newer_nil (a : Addr) (w : World) :
    Calls Try.prog 12 #[.pointer (some a), .pointer none] w fun r w' => r = .returned (.bool true) ∧ ∃ n, w' = w.drewN n := by
  go_enter Try.func12, Try.ntmps12
  go_wp2_with (go_at_call 17; refine (newer17_nil _ _).mono ?_; rintro r w' ⟨rfl, n, rfl⟩)
  go_ret
  exact ⟨rfl, _, rfl⟩

theorem newer_any (b1 b2 : Nat) (c1 o1 c2 o2 : Int) (w : World)
    (h1 : w.cell? ⟨b1, 0, none⟩ = some (.int .i64 o1)) (h2 : w.cell? ⟨b1, 2, none⟩ = some (.int .u32 c1))
    (k1 : w.cell? ⟨b2, 0, none⟩ = some (.int .i64 o2)) (k2 : w.cell? ⟨b2, 2, none⟩ = some (.int .u32 c2)) :
    Calls Try.prog 12 #[.pointer (some ⟨b1, 0, none⟩), .pointer (some ⟨b2, 0, none⟩)] w fun r w' => r = .returned (.bool (nw c1 o1 c2 o2)) ∧ ∃ n, w' = w.drewN n := by
  go_enter Try.func12, Try.ntmps12
  go_wp2_with (go_at_call 17; refine (newer17_any b1 b2 c1 o1 c2 o2 _ h1 h2 k1 k2).mono ?_; rintro r w' ⟨rfl, n, rfl⟩)
  go_ret
  exact ⟨rfl, _, rfl⟩
end Go.Proofs.Qxb6609441a
