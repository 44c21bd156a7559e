import Derived.Test.Qxb6612256aGuard
import Derived.Deep.Slices
import Derived.ProofKit
import Derived.OpenShut
import Derived.ShutString
import Derived.ChangeOld
namespace Go.Proofs.Qxb6612256a
open Go.ChangeShapes Go.WideShapes Go.ChangeAt Go.RowKit Go.Deep

section
variable {H : Type} {enc : TypeId × Value → H} {w : World}

theorem spot_none {a : Addr} {x : Value} (h : w.cell? a = some x) : a = ⟨a.block, a.off, none⟩ := by
  unfold World.cell? at h
  split at h
  · cases hs : a.spot with
    | none => cases a; simp_all
    | some s => rw [hs] at h; simp at h
  · simp at h
theorem add_plain' (b o j : Nat) : (⟨b, o, none⟩ : Addr).add j = ⟨b, o + j, none⟩ := by
  unfold Addr.add
  split
  · next h => subst h; rfl
  · rfl

/-- A slice that came in, of whatever elements: a list. -/
theorem slice_list {α : Type} [Inhabited α] {t e : TypeId} {fuel : Nat} {cs : List Value} {x : DataW H × List MemPlace} (ht : Try.prog.underlying t = some (.slice e)) (sz : Nat) (hsz : Try.prog.cellsOf e = sz) (h0 : 0 < sz) (cells : α → List Value) (Ok : α → Prop)
    (hparse : ∀ n cs' y, DataW.trod enc Try.prog w 0 (fun _ => true) true n e cs' = some y → ∃ v, cs' = cells v ∧ Ok v)
    (h : DataW.trod enc Try.prog w 0 (fun _ => true) true fuel t cs = some x) :
    ∃ (a : Option Addr) (len cap : Nat) (l : List α), cs = [.slice a len cap] ∧ l.length = len ∧ len ≤ maxLen ∧ RowAt w a sz cells l ∧ ∀ v ∈ l, Ok v := by
  rcases open_slice ht h with ⟨rfl, _⟩ | ⟨a, len, cap, m, n, D, Pl, rfl, _, hl, hm, hmm, _, hx⟩
  · exact ⟨none, 0, 0, [], rfl, rfl, Nat.zero_le _, fun i v hi => by simp at hi, fun v hv => by simp at hv⟩
  · simp only [if_true] at hmm
    subst hmm
    rw [hsz] at hx
    obtain ⟨V, hV⟩ := choose_lt (α := α) (n := len) (p := fun i v => w.cells? 0 (a.add (i * sz)) sz = some (cells v) ∧ Ok v) (fun i hi => by
      obtain ⟨cs', h1, h2⟩ := hx i (by omega)
      obtain ⟨v, rfl, hv⟩ := hparse n cs' _ h2
      exact ⟨v, h1, hv⟩)
    refine ⟨some a, len, m, (List.range len).map V, rfl, by simp, Nat.le_trans hl hm, fun i v hi => ?_, fun v hv => ?_⟩
    · rw [List.getElem?_map] at hi
      cases hr : (List.range len)[i]? with
      | none => rw [hr] at hi; simp at hi
      | some r =>
        have hil : i < len := by have := (List.getElem?_eq_some_iff.1 hr).1; simpa using this
        have hir : r = i := by have := (List.getElem?_eq_some_iff.1 hr).2; simpa using this.symm
        subst hir
        rw [hr] at hi
        simp at hi
        subst hi
        obtain ⟨_, l0, c0⟩ := World.cells?_some (hV 0 (by omega)).1
        have hc0 := c0 0 h0
        rw [Nat.zero_mul] at hc0
        have e0 : a = ⟨a.block, a.off, none⟩ := by
          have hlt : 0 < (cells (V 0)).length := by omega
          rw [List.getElem?_eq_getElem hlt] at hc0
          exact spot_none (a := a) (by simpa [Addr.add] using hc0)
        obtain ⟨_, l1, c1⟩ := World.cells?_some (hV r hil).1
        refine ⟨a.block, a.off, by rw [← e0], fun j u hj => ?_⟩
        have hjl : j < sz := by have := (List.getElem?_eq_some_iff.1 hj).1; omega
        have := c1 j hjl
        rw [e0, add_plain', add_plain', hj] at this
        exact this
    · obtain ⟨r, hr, rfl⟩ := List.mem_map.1 hv
      exact (hV r (by simpa using hr)).2

theorem take_one {cs : List Value} {i : Nat} {v : Value} (h : (cs.drop i).take 1 = [v]) : cs[i]? = some v := by
  have : ((cs.drop i).take 1)[0]? = some v := by rw [h]; rfl
  rw [List.getElem?_take] at this
  simpa using this
theorem list_of3 {cs : List Value} {a b c : Value} (hl : cs.length = 3) (h0 : cs[0]? = some a) (h1 : cs[1]? = some b) (h2 : cs[2]? = some c) : cs = [a, b, c] := by
  match cs, hl with
  | [x, y, z], _ => simp at h0 h1 h2; rw [h0, h1, h2]
theorem some_of_len {β : Type} {xs : List β} {n i : Nat} (h : xs.length = n) (hi : i < n) : ∃ y, xs[i]? = some y := ⟨_, List.getElem?_eq_getElem (by omega)⟩

theorem struct_get {t : TypeId} {fs : Array Field} {fuel : Nat} {cs : List Value} {x : DataW H × List MemPlace} (ht : Try.prog.underlying t = some (.struct fs)) (h : DataW.trod enc Try.prog w 0 (fun _ => true) true fuel t cs = some x) :
    ∃ n, cs.length = Try.prog.cellsOf t ∧ ∀ (i : Nat) (f : Field), fs[i]? = some f → ∃ y, DataW.trod enc Try.prog w 0 (fun _ => true) true n f.type ((cs.drop f.offset).take (Try.prog.cellsOf f.type)) = some y := by
  obtain ⟨xs, n, _, _, hl, hxl, hf⟩ := DataW.trod_struct ht h
  refine ⟨n, hl, fun i f hif => ?_⟩
  obtain ⟨y, hy⟩ := some_of_len hxl (i := i) (Array.getElem?_eq_some_iff.1 hif).1
  exact ⟨y, (hf i f hif).trans hy⟩

theorem Try.cells9 : Try.prog.cellsOf 9 = 1 := by kernel_rfl
theorem Try.cells4 : Try.prog.cellsOf 4 = 1 := by kernel_rfl
theorem Try.cells3 : Try.prog.cellsOf 3 = 1 := by kernel_rfl
theorem Try.cells31 : Try.prog.cellsOf 31 = 3 := by kernel_rfl

instance : Inhabited Gr := ⟨⟨⟨#[]⟩, false, 0⟩⟩
def GrOk (g : Gr) : Prop := (-9223372036854775808 ≤ g.wn ∧ g.wn ≤ 9223372036854775807) ∧ g.key.size ≤ maxLen

theorem parse_gr (fuel : Nat) (cs : List Value) (x : DataW H × List MemPlace) (h : DataW.trod enc Try.prog w 0 (fun _ => true) true fuel 31 cs = some x) : ∃ v : Gr, cs = v.cells ∧ GrOk v := by
  obtain ⟨n, hl, g⟩ := struct_get Try.underlying31 h
  rw [Try.cells31] at hl
  obtain ⟨y0, p0⟩ : ∃ y, DataW.trod enc Try.prog w 0 (fun _ => true) true n 9 ((cs.drop 0).take (Try.prog.cellsOf 9)) = some y := g 0 _ rfl
  rw [Try.cells9] at p0
  obtain ⟨y1, p1⟩ : ∃ y, DataW.trod enc Try.prog w 0 (fun _ => true) true n 4 ((cs.drop 1).take (Try.prog.cellsOf 4)) = some y := g 1 _ rfl
  rw [Try.cells4] at p1
  obtain ⟨y2, p2⟩ : ∃ y, DataW.trod enc Try.prog w 0 (fun _ => true) true n 3 ((cs.drop 2).take (Try.prog.cellsOf 3)) = some y := g 2 _ rfl
  rw [Try.cells3] at p2
  obtain ⟨i0, e0, _, m0⟩ := DataW.trod_string Try.underlying9 p0
  obtain ⟨i1, e1, _⟩ := DataW.trod_bool Try.underlying4 p1
  obtain ⟨i2, e2, _, m2⟩ := DataW.trod_int Try.underlying3 p2
  refine ⟨⟨i0, i1, i2⟩, list_of3 hl (take_one e0) (take_one e1) (take_one e2), ?_, m0⟩
  have hmin : IntKind.i64.min = -9223372036854775808 := rfl
  have hmax : IntKind.i64.max = 9223372036854775807 := rfl
  simp only [Lit.wf, Bool.and_eq_true, decide_eq_true_eq] at m2
  show -9223372036854775808 ≤ i2 ∧ i2 ≤ 9223372036854775807
  omega
/-- THE GROUPS AS THEY COME IN. -/
theorem open_groups (fuel : Nat) (v : Value) (x : DataW H × List MemPlace) (h : DataW.trod enc Try.prog w 0 (fun _ => true) true fuel 22 v.cells.toList = some x) : ∃ a n c gs, v.cells.toList = [.slice a n c] ∧ GsOk w a n gs := by
  obtain ⟨a, len, cap, l, e, l1, l2, l3, l4⟩ := slice_list (α := Gr) Try.underlying22 3 Try.cells31 (by decide) Gr.cells GrOk (fun n cs' y hy => parse_gr n cs' y hy) h
  exact ⟨a, len, cap, l, e, ⟨l3, l1, l2, fun g hg => (l4 g hg).1, fun g hg => (l4 g hg).2⟩⟩
end
end Go.Proofs.Qxb6612256a
