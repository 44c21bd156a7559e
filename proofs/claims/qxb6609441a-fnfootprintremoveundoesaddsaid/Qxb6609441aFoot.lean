import Derived.Test.Qxb6609441aRows
import Derived.WalkKit
import Derived.WalkSpells
import Derived.RegionTactic
import Derived.BigRegion
import Derived.Deep.QuietTactic
import Derived.BigQuiet
import Derived.Below
import Derived.WalkSmall
import Derived.Outline
namespace Go.Proofs.Qxb6609441a
open Go.RowKit

/-- the block b holds a footprint, and may be written -/
structure Foot (w : World) (b : Nat) (p n u : Int) : Prop where
  c0 : w.cell? ⟨b, 0, none⟩ = some (.int .i64 p)
  c1 : w.cell? ⟨b, 1, none⟩ = some (.int .i64 n)
  c2 : w.cell? ⟨b, 2, none⟩ = some (.int .i64 u)
  fz : ∀ o, w.frozen? ⟨b, o, none⟩ = false
  sz : b < w.heap.size

def addU (tag : Int) (u : Int) (l : Int) : Int := if tag = 13 then wrap64 (u + l) else u
def subU (tag : Int) (u : Int) (l : Int) : Int := if tag = 13 then wrap64 (u - l) else u

theorem newFoot_any (p n u : Int) (w : World) :
    Calls Try.prog 7 #[.int .i64 p, .int .i64 n, .int .i64 u] w fun r w' =>
      r = .returned (.pointer (some ⟨w.heap.size, 0, none⟩)) ∧ w.alloc (.cells #[.int .i64 p, .int .i64 n, .int .i64 u] 42) = w' := by
  go_enter Try.func7, Try.ntmps7
  go_wp2
  go_ret
  exact ⟨rfl, rfl⟩

theorem fields_any (b : Nat) (p n u : Int) (w : World) (h : Foot w b p n u) :
    Calls Try.prog 10 #[.pointer (some ⟨b, 0, none⟩)] w fun r w' => r = .returned (.tuple #[.int .i64 p, .int .i64 n, .int .i64 u]) ∧ ∃ k, w' = w.drewN k := by
  obtain ⟨h0, h1, h2, _, _⟩ := h
  go_enter Try.func10, Try.ntmps10
  go_wp2
  go_quiet (fail)
  go_wp2
  go_ret3
  exact ⟨rfl, _, rfl⟩

theorem Foot.alloc {w : World} {b : Nat} {p n u : Int} (h : Foot w b p n u) (c : Obj) : Foot (w.alloc c) b p n u := by
  obtain ⟨h0, h1, h2, hf, hs⟩ := h
  have k : Below w.heap.size w (w.alloc c) := (Below.refl _ _).alloc (Nat.le_refl _) _
  exact ⟨(k.cell (p := ⟨b, 0, none⟩) hs).trans h0, (k.cell (p := ⟨b, 1, none⟩) hs).trans h1, (k.cell (p := ⟨b, 2, none⟩) hs).trans h2, fun o => (k.frozen (p := ⟨b, o, none⟩) hs).trans (hf o), Nat.lt_of_lt_of_le hs k.size⟩
set_option maxHeartbeats 400000 in
theorem add15_13 (b : Nat) (p n u v : Int) (a4 a5 : Option Addr) (l4 l5 k4 k5 : Nat) (w : World) (h : Foot w b p n u) :
    Calls Try.prog 15 #[.pointer (some ⟨b, 0, none⟩), .agg #[.int .u8 13, .slice a4 l4 k4, .slice a5 l5 k5, .int .u8 v]] w fun r w' =>
      r = .returned (.tuple #[]) ∧ Foot w' b (wrap64 (p + 1)) (wrap64 (n + l5)) (wrap64 (u + l4)) ∧ Below b w w' := by
  obtain ⟨h0, h1, h2, hf, hs⟩ := h
  go_enter Try.func15, Try.ntmps15
  go_wp2
  go_region
  go_wp2
  go_region
  go_wp2
  go_end0
  refine ⟨rfl, ⟨?_, ?_, ?_, fun o => ?_, ?_⟩, ?_⟩
  · go_simp
  · go_simp
  · go_simp
  · go_simp
  · go_simp
  · refine Below.drew (Below.drew (Below.alloc (Below.setCell (Below.setCell (Below.setCell (Below.refl _ _) ?_ _) ?_ _) ?_ _) ?_ _))
    all_goals first | exact Nat.le_refl _ | (simp [World.setCell]; omega)
set_option maxHeartbeats 400000 in
theorem add15_no (b : Nat) (p n u tag v : Int) (a4 a5 : Option Addr) (l4 l5 k4 k5 : Nat) (w : World) (h : Foot w b p n u) (ht : (tag == 13) = false) :
    Calls Try.prog 15 #[.pointer (some ⟨b, 0, none⟩), .agg #[.int .u8 tag, .slice a4 l4 k4, .slice a5 l5 k5, .int .u8 v]] w fun r w' =>
      r = .returned (.tuple #[]) ∧ Foot w' b (wrap64 (p + 1)) (wrap64 (n + l5)) (u) ∧ Below b w w' := by
  obtain ⟨h0, h1, h2, hf, hs⟩ := h
  go_enter Try.func15, Try.ntmps15
  go_wp2
  go_region
  go_wp2
  go_end0
  refine ⟨rfl, ⟨?_, ?_, ?_, fun o => ?_, ?_⟩, ?_⟩
  · go_simp
  · go_simp
  · go_simp
  · go_simp
  · go_simp
  · refine Below.drew (Below.alloc (Below.setCell (Below.setCell (Below.refl _ _) ?_ _) ?_ _) ?_ _)
    all_goals first | exact Nat.le_refl _ | (simp [World.setCell]; omega)
set_option maxHeartbeats 400000 in
theorem rem16_13 (b : Nat) (p n u v : Int) (a4 a5 : Option Addr) (l4 l5 k4 k5 : Nat) (w : World) (h : Foot w b p n u) :
    Calls Try.prog 16 #[.pointer (some ⟨b, 0, none⟩), .agg #[.int .u8 13, .slice a4 l4 k4, .slice a5 l5 k5, .int .u8 v]] w fun r w' =>
      r = .returned (.tuple #[]) ∧ Foot w' b (wrap64 (p - 1)) (wrap64 (n - l5)) (wrap64 (u - l4)) ∧ Below b w w' := by
  obtain ⟨h0, h1, h2, hf, hs⟩ := h
  go_enter Try.func16, Try.ntmps16
  go_wp2
  go_region
  go_wp2
  go_region
  go_wp2
  go_end0
  refine ⟨rfl, ⟨?_, ?_, ?_, fun o => ?_, ?_⟩, ?_⟩
  · go_simp
  · go_simp
  · go_simp
  · go_simp
  · go_simp
  · refine Below.drew (Below.drew (Below.alloc (Below.setCell (Below.setCell (Below.setCell (Below.refl _ _) ?_ _) ?_ _) ?_ _) ?_ _))
    all_goals first | exact Nat.le_refl _ | (simp [World.setCell]; omega)
set_option maxHeartbeats 400000 in
theorem rem16_no (b : Nat) (p n u tag v : Int) (a4 a5 : Option Addr) (l4 l5 k4 k5 : Nat) (w : World) (h : Foot w b p n u) (ht : (tag == 13) = false) :
    Calls Try.prog 16 #[.pointer (some ⟨b, 0, none⟩), .agg #[.int .u8 tag, .slice a4 l4 k4, .slice a5 l5 k5, .int .u8 v]] w fun r w' =>
      r = .returned (.tuple #[]) ∧ Foot w' b (wrap64 (p - 1)) (wrap64 (n - l5)) (u) ∧ Below b w w' := by
  obtain ⟨h0, h1, h2, hf, hs⟩ := h
  go_enter Try.func16, Try.ntmps16
  go_wp2
  go_region
  go_wp2
  go_end0
  refine ⟨rfl, ⟨?_, ?_, ?_, fun o => ?_, ?_⟩, ?_⟩
  · go_simp
  · go_simp
  · go_simp
  · go_simp
  · go_simp
  · refine Below.drew (Below.alloc (Below.setCell (Below.setCell (Below.refl _ _) ?_ _) ?_ _) ?_ _)
    all_goals first | exact Nat.le_refl _ | (simp [World.setCell]; omega)

theorem add15_any (b : Nat) (p n u tag v : Int) (a4 a5 : Option Addr) (l4 l5 k4 k5 : Nat) (w : World) (h : Foot w b p n u) :
    Calls Try.prog 15 #[.pointer (some ⟨b, 0, none⟩), .agg #[.int .u8 tag, .slice a4 l4 k4, .slice a5 l5 k5, .int .u8 v]] w fun r w' =>
      r = .returned (.tuple #[]) ∧ Foot w' b (wrap64 (p + 1)) (wrap64 (n + l5)) (addU tag u l4) ∧ Below b w w' := by
  by_cases ht : tag = 13
  · subst ht
    exact add15_13 b p n u v a4 a5 l4 l5 k4 k5 w h
  · have e : addU tag u l4 = u := if_neg ht
    rw [e]
    exact add15_no b p n u tag v a4 a5 l4 l5 k4 k5 w h (by simpa using ht)

theorem add_any (b : Nat) (p n u tag v : Int) (a4 a5 : Option Addr) (l4 l5 k4 k5 : Nat) (w : World) (h : Foot w b p n u) :
    Calls Try.prog 8 #[.pointer (some ⟨b, 0, none⟩), .agg #[.int .u8 tag, .slice a4 l4 k4, .slice a5 l5 k5, .int .u8 v]] w fun r w' =>
      r = .returned (.tuple #[]) ∧ Foot w' b (wrap64 (p + 1)) (wrap64 (n + l5)) (addU tag u l4) ∧ Below b w w' := by
  go_enter Try.func8, Try.ntmps8
  go_wp2_with fail
  refine (add15_any b p n u tag v a4 a5 l4 l5 k4 k5 _ (h.alloc _)).mono ?_
  rintro r w' ⟨rfl, hF, hB⟩
  go_wp2
  go_end0
  exact ⟨rfl, hF, ((Below.refl _ _).alloc (Nat.le_of_lt h.sz) _).trans hB⟩

theorem rem16_any (b : Nat) (p n u tag v : Int) (a4 a5 : Option Addr) (l4 l5 k4 k5 : Nat) (w : World) (h : Foot w b p n u) :
    Calls Try.prog 16 #[.pointer (some ⟨b, 0, none⟩), .agg #[.int .u8 tag, .slice a4 l4 k4, .slice a5 l5 k5, .int .u8 v]] w fun r w' =>
      r = .returned (.tuple #[]) ∧ Foot w' b (wrap64 (p - 1)) (wrap64 (n - l5)) (subU tag u l4) ∧ Below b w w' := by
  by_cases ht : tag = 13
  · subst ht
    exact rem16_13 b p n u v a4 a5 l4 l5 k4 k5 w h
  · have e : subU tag u l4 = u := if_neg ht
    rw [e]
    exact rem16_no b p n u tag v a4 a5 l4 l5 k4 k5 w h (by simpa using ht)

theorem rem_any (b : Nat) (p n u tag v : Int) (a4 a5 : Option Addr) (l4 l5 k4 k5 : Nat) (w : World) (h : Foot w b p n u) :
    Calls Try.prog 9 #[.pointer (some ⟨b, 0, none⟩), .agg #[.int .u8 tag, .slice a4 l4 k4, .slice a5 l5 k5, .int .u8 v]] w fun r w' =>
      r = .returned (.tuple #[]) ∧ Foot w' b (wrap64 (p - 1)) (wrap64 (n - l5)) (subU tag u l4) ∧ Below b w w' := by
  go_enter Try.func9, Try.ntmps9
  go_wp2_with fail
  refine (rem16_any b p n u tag v a4 a5 l4 l5 k4 k5 _ (h.alloc _)).mono ?_
  rintro r w' ⟨rfl, hF, hB⟩
  go_wp2
  go_end0
  exact ⟨rfl, hF, ((Below.refl _ _).alloc (Nat.le_of_lt h.sz) _).trans hB⟩
end Go.Proofs.Qxb6609441a
