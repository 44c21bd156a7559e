import Derived.Test.Qxb6612240aBase
import Derived.Deep.Slices
import Derived.ProofKit
import Derived.OpenShut
import Derived.ShutString
import Derived.ChangeOld
namespace Go.Proofs.Qxb6612240a
open Go.ChangeShapes Go.WideShapes Go.ChangeAt Go.RowKit Go.Deep

section
variable {H : Type} {enc : TypeId × Value → H} {w : World}

theorem spot_none {a : Addr} {x : Value} (h : w.cell? a = some x) : a = ⟨a.block, a.off, none⟩ := by
  unfold World.cell? at h
  split at h
  · cases hs : a.spot with
    | none => cases a; simp_all
    | some s => rw [hs] at h; simp at h
  · simp at h
theorem add_plain' (b o j : Nat) : (⟨b, o, none⟩ : Addr).add j = ⟨b, o + j, none⟩ := by
  unfold Addr.add
  split
  · next h => subst h; rfl
  · rfl

/-- A slice that came in, of whatever elements: a list. -/
theorem slice_list {α : Type} [Inhabited α] {t e : TypeId} {fuel : Nat} {cs : List Value} {x : DataW H × List MemPlace} (ht : Try.prog.underlying t = some (.slice e)) (sz : Nat) (hsz : Try.prog.cellsOf e = sz) (h0 : 0 < sz) (cells : α → List Value) (Ok : α → Prop)
    (hparse : ∀ n cs' y, DataW.trod enc Try.prog w 0 (fun _ => true) true n e cs' = some y → ∃ v, cs' = cells v ∧ Ok v)
    (h : DataW.trod enc Try.prog w 0 (fun _ => true) true fuel t cs = some x) :
    ∃ (a : Option Addr) (len cap : Nat) (l : List α), cs = [.slice a len cap] ∧ l.length = len ∧ len ≤ maxLen ∧ RowAt w a sz cells l ∧ ∀ v ∈ l, Ok v := by
  rcases open_slice ht h with ⟨rfl, _⟩ | ⟨a, len, cap, m, n, D, Pl, rfl, _, hl, hm, hmm, _, hx⟩
  · exact ⟨none, 0, 0, [], rfl, rfl, Nat.zero_le _, fun i v hi => by simp at hi, fun v hv => by simp at hv⟩
  · simp only [if_true] at hmm
    subst hmm
    rw [hsz] at hx
    obtain ⟨V, hV⟩ := choose_lt (α := α) (n := len) (p := fun i v => w.cells? 0 (a.add (i * sz)) sz = some (cells v) ∧ Ok v) (fun i hi => by
      obtain ⟨cs', h1, h2⟩ := hx i (by omega)
      obtain ⟨v, rfl, hv⟩ := hparse n cs' _ h2
      exact ⟨v, h1, hv⟩)
    refine ⟨some a, len, m, (List.range len).map V, rfl, by simp, Nat.le_trans hl hm, fun i v hi => ?_, fun v hv => ?_⟩
    · rw [List.getElem?_map] at hi
      cases hr : (List.range len)[i]? with
      | none => rw [hr] at hi; simp at hi
      | some r =>
        have hil : i < len := by have := (List.getElem?_eq_some_iff.1 hr).1; simpa using this
        have hir : r = i := by have := (List.getElem?_eq_some_iff.1 hr).2; simpa using this.symm
        subst hir
        rw [hr] at hi
        simp at hi
        subst hi
        obtain ⟨_, l0, c0⟩ := World.cells?_some (hV 0 (by omega)).1
        have hc0 := c0 0 h0
        rw [Nat.zero_mul] at hc0
        have e0 : a = ⟨a.block, a.off, none⟩ := by
          have hlt : 0 < (cells (V 0)).length := by omega
          rw [List.getElem?_eq_getElem hlt] at hc0
          exact spot_none (a := a) (by simpa [Addr.add] using hc0)
        obtain ⟨_, l1, c1⟩ := World.cells?_some (hV r hil).1
        refine ⟨a.block, a.off, by rw [← e0], fun j u hj => ?_⟩
        have hjl : j < sz := by have := (List.getElem?_eq_some_iff.1 hj).1; omega
        have := c1 j hjl
        rw [e0, add_plain', add_plain', hj] at this
        exact this
    · obtain ⟨r, hr, rfl⟩ := List.mem_map.1 hv
      exact (hV r (by simpa using hr)).2

theorem take_one {cs : List Value} {i : Nat} {v : Value} (h : (cs.drop i).take 1 = [v]) : cs[i]? = some v := by
  have : ((cs.drop i).take 1)[0]? = some v := by rw [h]; rfl
  rw [List.getElem?_take] at this
  simpa using this
theorem list_of2 {cs : List Value} {a b : Value} (hl : cs.length = 2) (h0 : cs[0]? = some a) (h1 : cs[1]? = some b) : cs = [a, b] := by
  match cs, hl with
  | [x, y], _ => simp at h0 h1; rw [h0, h1]
theorem list_of8 {cs : List Value} {a b c d e f g h : Value} (hl : cs.length = 8) (h0 : cs[0]? = some a) (h1 : cs[1]? = some b) (h2 : cs[2]? = some c) (h3 : cs[3]? = some d) (h4 : cs[4]? = some e) (h5 : cs[5]? = some f) (h6 : cs[6]? = some g) (h7 : cs[7]? = some h) : cs = [a, b, c, d, e, f, g, h] := by
  match cs, hl with
  | [x0, x1, x2, x3, x4, x5, x6, x7], _ => simp at h0 h1 h2 h3 h4 h5 h6 h7; rw [h0, h1, h2, h3, h4, h5, h6, h7]
theorem some_of_len {β : Type} {xs : List β} {n i : Nat} (h : xs.length = n) (hi : i < n) : ∃ y, xs[i]? = some y := ⟨_, List.getElem?_eq_getElem (by omega)⟩

theorem struct_get {t : TypeId} {fs : Array Field} {fuel : Nat} {cs : List Value} {x : DataW H × List MemPlace} (ht : Try.prog.underlying t = some (.struct fs)) (h : DataW.trod enc Try.prog w 0 (fun _ => true) true fuel t cs = some x) :
    ∃ n, cs.length = Try.prog.cellsOf t ∧ ∀ (i : Nat) (f : Field), fs[i]? = some f → ∃ y, DataW.trod enc Try.prog w 0 (fun _ => true) true n f.type ((cs.drop f.offset).take (Try.prog.cellsOf f.type)) = some y := by
  obtain ⟨xs, n, _, _, hl, hxl, hf⟩ := DataW.trod_struct ht h
  refine ⟨n, hl, fun i f hif => ?_⟩
  obtain ⟨y, hy⟩ := some_of_len hxl (i := i) (Array.getElem?_eq_some_iff.1 hif).1
  exact ⟨y, (hf i f hif).trans hy⟩

theorem Try.cells5 : Try.prog.cellsOf 5 = 1 := by kernel_rfl
theorem Try.cells9 : Try.prog.cellsOf 9 = 1 := by kernel_rfl
theorem Try.cells48 : Try.prog.cellsOf 48 = 1 := by kernel_rfl
theorem Try.cells22 : Try.prog.cellsOf 22 = 1 := by kernel_rfl
theorem Try.cells50 : Try.prog.cellsOf 50 = 8 := by kernel_rfl
theorem Try.cells69 : Try.prog.cellsOf 69 = 1 := by kernel_rfl
theorem Try.cells71 : Try.prog.cellsOf 71 = 2 := by kernel_rfl
theorem Try.cells72 : Try.prog.cellsOf 72 = 1 := by kernel_rfl
theorem Try.cells74 : Try.prog.cellsOf 74 = 2 := by kernel_rfl
theorem Try.cells75 : Try.prog.cellsOf 75 = 1 := by kernel_rfl

instance : Inhabited Vt := ⟨⟨0, 0, ⟨#[]⟩, ⟨#[]⟩, 0, 0, none, 0, 0, 0, []⟩⟩
instance : Inhabited Pr := ⟨⟨⟨#[]⟩, none, 0, 0, []⟩⟩
instance : Inhabited Rd := ⟨⟨0, none, 0, 0, []⟩⟩
instance : Inhabited Pl := ⟨⟨none, 0, 0, []⟩⟩

theorem parse_vt (fuel : Nat) (cs : List Value) (x : DataW H × List MemPlace) (h : DataW.trod enc Try.prog w 0 (fun _ => true) true fuel 50 cs = some x) : ∃ v : Vt, cs = v.cells ∧ VtOk w v := by
  obtain ⟨n, hl, g⟩ := struct_get Try.underlying50 h
  rw [Try.cells50] at hl
  obtain ⟨y0, p0⟩ : ∃ y, DataW.trod enc Try.prog w 0 (fun _ => true) true n 48 ((cs.drop 0).take (Try.prog.cellsOf 48)) = some y := g 0 _ rfl
  rw [Try.cells48] at p0
  obtain ⟨y1, p1⟩ : ∃ y, DataW.trod enc Try.prog w 0 (fun _ => true) true n 48 ((cs.drop 1).take (Try.prog.cellsOf 48)) = some y := g 1 _ rfl
  rw [Try.cells48] at p1
  obtain ⟨y2, p2⟩ : ∃ y, DataW.trod enc Try.prog w 0 (fun _ => true) true n 9 ((cs.drop 2).take (Try.prog.cellsOf 9)) = some y := g 2 _ rfl
  rw [Try.cells9] at p2
  obtain ⟨y3, p3⟩ : ∃ y, DataW.trod enc Try.prog w 0 (fun _ => true) true n 9 ((cs.drop 3).take (Try.prog.cellsOf 9)) = some y := g 3 _ rfl
  rw [Try.cells9] at p3
  obtain ⟨y4, p4⟩ : ∃ y, DataW.trod enc Try.prog w 0 (fun _ => true) true n 48 ((cs.drop 4).take (Try.prog.cellsOf 48)) = some y := g 4 _ rfl
  rw [Try.cells48] at p4
  obtain ⟨y5, p5⟩ : ∃ y, DataW.trod enc Try.prog w 0 (fun _ => true) true n 48 ((cs.drop 5).take (Try.prog.cellsOf 48)) = some y := g 5 _ rfl
  rw [Try.cells48] at p5
  obtain ⟨y6, p6⟩ : ∃ y, DataW.trod enc Try.prog w 0 (fun _ => true) true n 22 ((cs.drop 6).take (Try.prog.cellsOf 22)) = some y := g 6 _ rfl
  rw [Try.cells22] at p6
  obtain ⟨y7, p7⟩ : ∃ y, DataW.trod enc Try.prog w 0 (fun _ => true) true n 48 ((cs.drop 7).take (Try.prog.cellsOf 48)) = some y := g 7 _ rfl
  rw [Try.cells48] at p7
  obtain ⟨i0, e0, _⟩ := DataW.trod_int Try.underlying48 p0
  obtain ⟨i1, e1, _⟩ := DataW.trod_int Try.underlying48 p1
  obtain ⟨i2, e2, _⟩ := DataW.trod_string Try.underlying9 p2
  obtain ⟨i3, e3, _⟩ := DataW.trod_string Try.underlying9 p3
  obtain ⟨i4, e4, _⟩ := DataW.trod_int Try.underlying48 p4
  obtain ⟨i5, e5, _⟩ := DataW.trod_int Try.underlying48 p5
  obtain ⟨i7, e7, _⟩ := DataW.trod_int Try.underlying48 p7
  obtain ⟨a, len, cap, l, e6, l1, l2, l3, _⟩ := slice_list (α := Int) Try.underlying22 1 Try.cells5 (by decide) byteCells (fun _ => True) (fun n cs' y hy => by
    obtain ⟨z, e, _⟩ := DataW.trod_int Try.underlying5 hy
    exact ⟨z, e, trivial⟩) p6
  refine ⟨⟨i0, i1, i2, i3, i4, i5, a, len, cap, i7, l⟩, ?_, ⟨l3, l1, l2⟩⟩
  exact list_of8 hl (take_one e0) (take_one e1) (take_one e2) (take_one e3) (take_one e4) (take_one e5) (take_one e6) (take_one e7)
theorem parse_pr (fuel : Nat) (cs : List Value) (x : DataW H × List MemPlace) (h : DataW.trod enc Try.prog w 0 (fun _ => true) true fuel 74 cs = some x) : ∃ v : Pr, cs = v.cells ∧ PrOk w v := by
  obtain ⟨n, hl, g⟩ := struct_get Try.underlying74 h
  rw [Try.cells74] at hl
  obtain ⟨y0, p0⟩ : ∃ y, DataW.trod enc Try.prog w 0 (fun _ => true) true n 9 ((cs.drop 0).take (Try.prog.cellsOf 9)) = some y := g 0 _ rfl
  rw [Try.cells9] at p0
  obtain ⟨y1, p1⟩ : ∃ y, DataW.trod enc Try.prog w 0 (fun _ => true) true n 72 ((cs.drop 1).take (Try.prog.cellsOf 72)) = some y := g 1 _ rfl
  rw [Try.cells72] at p1
  obtain ⟨i0, e0, _⟩ := DataW.trod_string Try.underlying9 p0
  obtain ⟨a, len, cap, l, e1, l1, l2, l3, l4⟩ := slice_list (α := Vt) Try.underlying72 8 Try.cells50 (by decide) Vt.cells (VtOk w) (fun n cs' y hy => parse_vt n cs' y hy) p1
  exact ⟨⟨i0, a, len, cap, l⟩, list_of2 hl (take_one e0) (take_one e1), ⟨l3, l1, l2, l4⟩⟩
theorem parse_rd (fuel : Nat) (cs : List Value) (x : DataW H × List MemPlace) (h : DataW.trod enc Try.prog w 0 (fun _ => true) true fuel 71 cs = some x) : ∃ v : Rd, cs = v.cells ∧ RdOk w v := by
  obtain ⟨n, hl, g⟩ := struct_get Try.underlying71 h
  rw [Try.cells71] at hl
  obtain ⟨y0, p0⟩ : ∃ y, DataW.trod enc Try.prog w 0 (fun _ => true) true n 48 ((cs.drop 0).take (Try.prog.cellsOf 48)) = some y := g 0 _ rfl
  rw [Try.cells48] at p0
  obtain ⟨y1, p1⟩ : ∃ y, DataW.trod enc Try.prog w 0 (fun _ => true) true n 69 ((cs.drop 1).take (Try.prog.cellsOf 69)) = some y := g 1 _ rfl
  rw [Try.cells69] at p1
  obtain ⟨i0, e0, _⟩ := DataW.trod_int Try.underlying48 p0
  obtain ⟨a, len, cap, l, e1, l1, l2, l3, l4⟩ := slice_list (α := Pr) Try.underlying69 2 Try.cells74 (by decide) Pr.cells (PrOk w) (fun n cs' y hy => parse_pr n cs' y hy) p1
  exact ⟨⟨i0, a, len, cap, l⟩, list_of2 hl (take_one e0) (take_one e1), ⟨l3, l1, l2, l4⟩⟩
theorem parse_pl (fuel : Nat) (cs : List Value) (x : DataW H × List MemPlace) (h : DataW.trod enc Try.prog w 0 (fun _ => true) true fuel 75 cs = some x) : ∃ v : Pl, cs = v.cells ∧ PlOk w v := by
  obtain ⟨a, len, cap, l, rfl, l1, l2, l3, _⟩ := slice_list (α := ByteArray) Try.underlying75 1 Try.cells9 (by decide) strCells (fun _ => True) (fun n cs' y hy => by
    obtain ⟨z, e, _⟩ := DataW.trod_string Try.underlying9 hy
    exact ⟨z, e, trivial⟩) h
  exact ⟨⟨a, len, cap, l⟩, rfl, ⟨l3, l1, l2⟩⟩
/-- THE ROUNDS AS THEY COME IN. -/
theorem open_rounds (fuel : Nat) (v : Value) (x : DataW H × List MemPlace) (h : DataW.trod enc Try.prog w 0 (fun _ => true) true fuel 31 v.cells.toList = some x) : ∃ a n c rs, v.cells.toList = [.slice a n c] ∧ RsOk w a n rs := by
  obtain ⟨a, len, cap, l, e, l1, l2, l3, l4⟩ := slice_list (α := Rd) Try.underlying31 2 Try.cells71 (by decide) Rd.cells (RdOk w) (fun n cs' y hy => parse_rd n cs' y hy) h
  exact ⟨a, len, cap, l, e, ⟨l3, l1, l2, l4⟩⟩
theorem open_pools (fuel : Nat) (v : Value) (x : DataW H × List MemPlace) (h : DataW.trod enc Try.prog w 0 (fun _ => true) true fuel 32 v.cells.toList = some x) : ∃ a n c ps, v.cells.toList = [.slice a n c] ∧ PsOk w a n ps := by
  obtain ⟨a, len, cap, l, e, l1, l2, l3, l4⟩ := slice_list (α := Pl) Try.underlying32 1 Try.cells75 (by decide) Pl.cells (PlOk w) (fun n cs' y hy => parse_pl n cs' y hy) h
  exact ⟨a, len, cap, l, e, ⟨l3, l1, l2, l4⟩⟩
end
end Go.Proofs.Qxb6612240a
