import Derived.Test.Qxb6612240aWt
namespace Go.Proofs.Qxb6612240a
open Go.RowKit

/-! ### The plain functions: what is reported -/
structure Ent where
  rd : Nat
  fr : ByteArray
  v : Vt
def Ent.cells (e : Ent) : List Value := .int .i64 e.rd :: .string e.fr :: e.v.cells

/-- Of a promise's votes, those below the round's end. -/
def repV (rd : Nat) (en : Int) (fr : ByteArray) (vs : List Vt) : List Ent := (vs.filter fun v => decide (v.slot < en)).map fun v => ⟨rd, fr, v⟩
/-- Of a round's promises. -/
def repP (rd : Nat) (en : Int) (ps : List Pr) : List Ent := ps.flatMap fun p => repV rd en p.fr p.vs
/-- Of round number k. -/
def repAt (rs : List Rd) (k : Nat) : List Ent := match rs[k]? with | some r => repP k r.en r.ps | none => []
/-- Of the first k rounds. -/
def repTo (rs : List Rd) (k : Nat) : List Ent := (List.range k).flatMap (repAt rs)
/-- Of all. -/
def reported (rs : List Rd) : List Ent := repTo rs rs.length

theorem repAt_eq {rs : List Rd} {k : Nat} {r : Rd} (h : rs[k]? = some r) : repAt rs k = repP k r.en r.ps := by simp [repAt, h]
theorem repTo_zero (rs : List Rd) : repTo rs 0 = [] := rfl
theorem repTo_succ {rs : List Rd} {k : Nat} {r : Rd} (h : rs[k]? = some r) : repTo rs (k + 1) = repTo rs k ++ repP k r.en r.ps := by
  simp [repTo, List.range_succ, List.flatMap_append, repAt_eq h]
theorem take_get {α : Type} {l : List α} {k : Nat} {v : α} (h : l[k]? = some v) : l.take (k + 1) = l.take k ++ [v] := by
  have hlt : k < l.length := (List.getElem?_eq_some_iff.1 h).1
  have e : l[k] = v := (List.getElem?_eq_some_iff.1 h).2
  rw [List.take_succ_eq_append_getElem hlt, e]
theorem repP_succ (rd : Nat) (en : Int) {ps : List Pr} {k : Nat} {p : Pr} (h : ps[k]? = some p) : repP rd en (ps.take (k + 1)) = repP rd en (ps.take k) ++ repV rd en p.fr p.vs := by
  simp [repP, take_get h, List.flatMap_append]
theorem repV_yes (rd : Nat) (en : Int) (fr : ByteArray) {vs : List Vt} {k : Nat} {v : Vt} (h : vs[k]? = some v) (hv : v.slot < en) : repV rd en fr (vs.take (k + 1)) = repV rd en fr (vs.take k) ++ [⟨rd, fr, v⟩] := by
  simp [repV, take_get h, List.filter_append, hv]
theorem repV_no (rd : Nat) (en : Int) (fr : ByteArray) {vs : List Vt} {k : Nat} {v : Vt} (h : vs[k]? = some v) (hv : ¬ v.slot < en) : repV rd en fr (vs.take (k + 1)) = repV rd en fr (vs.take k) := by
  simp [repV, take_get h, List.filter_append, hv]

/-! ### Bounds: there are no more reported votes than votes -/
def vcR (r : Rd) : Nat := (r.ps.map fun p => p.vs.length).sum
def vcount (rs : List Rd) : Nat := (rs.map vcR).sum
theorem repV_len (rd : Nat) (en : Int) (fr : ByteArray) (vs : List Vt) : (repV rd en fr vs).length ≤ vs.length := by
  simp only [repV, List.length_map]; exact List.length_filter_le _ _
theorem repP_len (rd : Nat) (en : Int) (ps : List Pr) : (repP rd en ps).length ≤ (ps.map fun p => p.vs.length).sum := by
  induction ps with
  | nil => simp [repP]
  | cons p ps ih =>
    have := repV_len rd en p.fr p.vs
    simp only [repP, List.flatMap_cons, List.length_append, List.map_cons, List.sum_cons] at *
    omega
theorem repTo_len (rs : List Rd) (k : Nat) : (repTo rs k).length ≤ ((rs.take k).map vcR).sum := by
  induction k with
  | zero => simp [repTo]
  | succ k ih =>
    by_cases hk : k < rs.length
    · obtain ⟨r, hr⟩ : ∃ r, rs[k]? = some r := ⟨_, List.getElem?_eq_getElem hk⟩
      have := repP_len k r.en r.ps
      rw [repTo_succ hr, sum_step _ hr, List.length_append]
      simp only [vcR] at *
      omega
    · have e : repTo rs (k + 1) = repTo rs k := by
        simp [repTo, List.range_succ, List.flatMap_append, repAt, List.getElem?_eq_none (Nat.le_of_not_lt hk)]
      rw [e, List.take_of_length_le (by omega)]
      rwa [List.take_of_length_le (by omega)] at ih
theorem sum_take_le {α : Type} (f : α → Nat) (l : List α) (k : Nat) : ((l.take k).map f).sum ≤ (l.map f).sum := by
  have e : (l.map f).sum = ((l.take k).map f).sum + ((l.drop k).map f).sum := by
    rw [← List.sum_append_nat, ← List.map_append, List.take_append_drop]
  omega
theorem sum_get_le {α : Type} (f : α → Nat) {l : List α} {k : Nat} {v : α} (h : l[k]? = some v) : ((l.take k).map f).sum + f v ≤ (l.map f).sum := by
  rw [← sum_step f h]; exact sum_take_le f l (k + 1)
theorem vcount_le (rs : List Rd) : (∀ r ∈ rs, ∀ p ∈ r.ps, p.vs.length = p.n) → vcount rs ≤ rsWt rs := by
  intro h
  have h1 : ∀ ps : List Pr, (∀ p ∈ ps, p.vs.length = p.n) → (ps.map fun p => p.vs.length).sum ≤ (ps.map Pr.wt).sum := by
    intro ps hp
    induction ps with
    | nil => simp
    | cons p ps ih =>
      have := ih fun q hq => hp q (List.mem_cons_of_mem _ hq)
      have hh := hp p List.mem_cons_self
      simp only [List.map_cons, List.sum_cons, Pr.wt] at *
      omega
  have h2 : (rs.map vcR).sum ≤ (rs.map Rd.wt).sum := by
    induction rs with
    | nil => simp
    | cons r rs ih =>
      have := ih fun q hq => h q (List.mem_cons_of_mem _ hq)
      have hh := h1 r.ps (h r List.mem_cons_self)
      simp only [List.map_cons, List.sum_cons, Rd.wt, vcR] at *
      omega
  simp only [vcount, rsWt]
  omega
/-- The bound as the innermost round wants it. -/
theorem rep_bound {rs : List Rd} {k q l : Nat} {r : Rd} {p : Pr} {N : Nat} (hr : rs[k]? = some r) (hp : r.ps[q]? = some p) (hl : l < p.vs.length) (hN : vcount rs ≤ N) :
    (repTo rs k).length + (repP k r.en (r.ps.take q)).length + (repV k r.en p.fr (p.vs.take l)).length + 1 ≤ N := by
  have h1 := repTo_len rs k
  have h2 := repP_len k r.en (r.ps.take q)
  have h3 := repV_len k r.en p.fr (p.vs.take l)
  have h4 := sum_get_le vcR hr
  have h5 := sum_get_le (fun p : Pr => p.vs.length) hp
  have h6 : (p.vs.take l).length = l := by simp; omega
  simp only [vcount, vcR] at *
  omega
end Go.Proofs.Qxb6612240a
