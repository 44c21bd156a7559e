import Derived.Test.Qxb6612240aBase
namespace Go.Proofs.Qxb6612240a
open Go.RowKit

def Vt.wt (v : Vt) : Nat := v.leader.size + v.origin.size + v.tl
def Pr.wt (p : Pr) : Nat := p.fr.size + p.n + (p.vs.map Vt.wt).sum
def Rd.wt (r : Rd) : Nat := r.n + (r.ps.map Pr.wt).sum
def rsWt (rs : List Rd) : Nat := rs.length + (rs.map Rd.wt).sum
def Pl.wt (p : Pl) : Nat := p.n + (p.ms.map ByteArray.size).sum
def psWt (ps : List Pl) : Nat := ps.length + (ps.map Pl.wt).sum

theorem sum_step {α : Type} (f : α → Nat) {l : List α} {k : Nat} {v : α} (h : l[k]? = some v) : ((l.take (k + 1)).map f).sum = ((l.take k).map f).sum + f v := by
  have hlt : k < l.length := (List.getElem?_eq_some_iff.1 h).1
  have e : l[k] = v := (List.getElem?_eq_some_iff.1 h).2
  rw [List.take_succ_eq_append_getElem hlt, e]
  simp
theorem sum_all {α : Type} (f : α → Nat) {l : List α} {n k : Nat} (hl : l.length = n) (h : ¬ k < n) : ((l.take k).map f).sum = (l.map f).sum := by
  rw [List.take_of_length_le (by omega)]
/-- It answers a bool, and where that is true this holds. -/
def BoolSaid (r : Ending) (p : Prop) : Prop := ∃ bo, r = .returned (.bool bo) ∧ (bo = true → p)
theorem said_no (p : Prop) : BoolSaid (.returned (.bool false)) p := ⟨false, rfl, fun h => absurd h (by decide)⟩
theorem said_yes {p : Prop} (h : p) : BoolSaid (.returned (.bool true)) p := ⟨true, rfl, fun _ => h⟩
theorem hide_get {α : Type} {l : List α} {k : Nat} {v : α} (h : l[k]? = some v) : Hid (l[k]? = some v) := h
end Go.Proofs.Qxb6612240a
