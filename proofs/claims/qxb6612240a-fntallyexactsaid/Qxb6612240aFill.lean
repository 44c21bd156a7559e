import Derived.Test.Qxb6612240aPools
namespace Go.Proofs.Qxb6612240a
open Go.RowKit

/-! ### A made row that is filled one element after the other -/
structure Fill {α : Type} (cs : α → List Value) (sz ty : Nat) (w0 wx : World) (n : Nat) (done : List α) : Prop where
  ex : ∃ xs, wx.ownsRow w0.heap.size ty sz (.slice (some ⟨w0.heap.size, 0, none⟩) n n) n xs ∧ Filled cs sz done xs
  bel : Below w0.heap.size w0 wx
  sz : w0.heap.size + 1 ≤ wx.heap.size

theorem Fill.start {α : Type} {cs : α → List Value} {sz ty : Nat} {w0 wx : World} {n : Nat} {xs : List Value} (h : wx.ownsRow w0.heap.size ty sz (.slice (some ⟨w0.heap.size, 0, none⟩) n n) n xs) (g : w0.grownBy wx none) : Fill cs sz ty w0 wx n [] :=
  ⟨⟨xs, h, Filled.nil _ _ _⟩, (Below.refl _ _).grown g (Nat.le_refl _) (fun k hk => by cases hk), (h.lt w0.heap.size rfl).2⟩
theorem Fill.ext {α : Type} {cs : α → List Value} {sz ty : Nat} {w0 wx wy : World} {n : Nat} {done : List α} (h : Fill cs sz ty w0 wx n done) (k : Below wx.heap.size wx wy) : Fill cs sz ty w0 wy n done := by
  obtain ⟨⟨xs, h1, h2⟩, hb, hs⟩ := h
  exact ⟨⟨xs, h1.kept (row := none) ⟨k.os, k.tape, k.output, k.size, fun i hi _ => k.block i hi⟩ (by simp [Value.ownBlock]), h2⟩, hb.trans (k.mono hb.size), Nat.le_trans hs k.size⟩
theorem Fill.grows {α : Type} {cs : α → List Value} {sz ty : Nat} {w0 wx : World} {n : Nat} {done : List α} (h : Fill cs sz ty w0 wx n done) (o : Nat) (us : List Value) : wx.grownBy (storeAt wx w0.heap.size o us) (some w0.heap.size) ∧ (storeAt wx w0.heap.size o us).heap.size = wx.heap.size := by
  obtain ⟨⟨xs, h1, h2⟩, hb, hs⟩ := h
  exact (storeAt_owns us o h1).2
theorem Fill.push {α : Type} {cs : α → List Value} {sz ty : Nat} {w0 wx : World} {n : Nat} {done : List α} (hcs : ∀ x, (cs x).length = sz) (h : Fill cs sz ty w0 wx n done) (x : α) {k : Nat} (hd : done.length = k) (hk : k < n) : Fill cs sz ty w0 (storeAt wx w0.heap.size (k * sz) (cs x)) n (done ++ [x]) := by
  obtain ⟨⟨xs, h1, h2⟩, hb, hs⟩ := h
  obtain ⟨h3, h4, h5⟩ := storeAt_owns (cs x) (k * sz) h1
  refine ⟨⟨_, h3, ?_⟩, hb.grown h4 hb.size (fun k hk => by cases hk; exact Nat.le_refl _), by rw [h5]; exact hs⟩
  have hg : (done ++ [x])[k]? = some x := by rw [List.getElem?_append_right (by omega)]; simp [hd]
  have ht : (done ++ [x]).take k = done := by rw [← hd]; simp
  have ht' : (done ++ [x]).take (k + 1) = done ++ [x] := List.take_of_length_le (by simp [hd])
  have hst := Filled.step (cs := cs) (sz := sz) hcs (l := done ++ [x]) (k := k) (by rw [ht]; exact h2) hg (by rw [h1.1]; exact mul_le_of hk)
  rw [ht'] at hst
  exact hst
theorem Fill.cell {α : Type} {cs : α → List Value} {sz ty : Nat} {w0 wx : World} {n : Nat} {done : List α} (h : Fill cs sz ty w0 wx n done) {j : Nat} (hj : j < n * sz) : ∃ y, wx.cell? ⟨w0.heap.size, j, none⟩ = some y := by
  obtain ⟨⟨xs, h1, h2⟩, hb, hs⟩ := h
  exact ownsRow_some h1 j hj
theorem Fill.frozen {α : Type} {cs : α → List Value} {sz ty : Nat} {w0 wx : World} {n : Nat} {done : List α} (h : Fill cs sz ty w0 wx n done) (j : Nat) : wx.frozen? ⟨w0.heap.size, j, none⟩ = false := by
  obtain ⟨⟨xs, h1, h2⟩, hb, hs⟩ := h
  exact h1.frozenAt j
theorem Fill.rowAt {α : Type} {cs : α → List Value} {sz ty : Nat} {w0 wx : World} {n : Nat} {done : List α} (hcs : ∀ x, (cs x).length = sz) (h : Fill cs sz ty w0 wx n done) (hl : done.length = n) : RowAt wx (some ⟨w0.heap.size, 0, none⟩) sz cs done := by
  obtain ⟨⟨xs, h1, h2⟩, hb, hs⟩ := h
  exact h2.rowAt hcs hl h1

/-! ### The rounds as the program has them -/
theorem vt_len (v : Vt) : v.cells.length = 8 := rfl
/-- A message: a struct of eleven cells: who it is from, its votes. -/
def MsgAt (w : World) (lo m : Nat) (p : Pr) : Prop := ∃ g, lo ≤ m ∧ lo ≤ g ∧ w.cell? ⟨m, 1, none⟩ = some (.string p.fr) ∧ w.cell? ⟨m, 9, none⟩ = some (.slice (some ⟨g, 0, none⟩) p.vs.length p.vs.length) ∧ RowAt w (some ⟨g, 0, none⟩) 8 Vt.cells p.vs
theorem MsgAt.keep {w w' : World} {lo m : Nat} {p : Pr} (h : MsgAt w lo m p) (k : Keep lo w w') : MsgAt w' lo m p := by
  obtain ⟨g, h1, h2, h3, h4, h5⟩ := h
  exact ⟨g, h1, h2, k.cell h1 h3, k.cell h1 h4, k.rowAt h2 h5⟩
theorem MsgAt.mono {w : World} {lo lo' m : Nat} {p : Pr} (h : MsgAt w lo m p) (k : lo' ≤ lo) : MsgAt w lo' m p := by
  obtain ⟨g, h1, h2, h3, h4, h5⟩ := h
  exact ⟨g, Nat.le_trans k h1, Nat.le_trans k h2, h3, h4, h5⟩
/-- A round's messages: a row of pointers. -/
def MsgsAt (w : World) (lo g : Nat) (ps : List Pr) : Prop := ∃ Ms : List Nat, lo ≤ g ∧ Ms.length = ps.length ∧ RowAt w (some ⟨g, 0, none⟩) 1 ptrCells Ms ∧ ∀ (j : Nat) (p : Pr) (m : Nat), ps[j]? = some p → Ms[j]? = some m → MsgAt w lo m p
theorem MsgsAt.keep {w w' : World} {lo g : Nat} {ps : List Pr} (h : MsgsAt w lo g ps) (k : Keep lo w w') : MsgsAt w' lo g ps := by
  obtain ⟨Ms, h1, h2, h3, h4⟩ := h
  exact ⟨Ms, h1, h2, k.rowAt h1 h3, fun j p m hj hm => (h4 j p m hj hm).keep k⟩
theorem MsgsAt.mono {w : World} {lo lo' g : Nat} {ps : List Pr} (h : MsgsAt w lo g ps) (k : lo' ≤ lo) : MsgsAt w lo' g ps := by
  obtain ⟨Ms, h1, h2, h3, h4⟩ := h
  exact ⟨Ms, Nat.le_trans k h1, h2, h3, fun j p m hj hm => (h4 j p m hj hm).mono k⟩
/-- A round: its end, and the slice of its messages. -/
structure Br where
  en : Int
  n : Nat
  g : Nat
def Br.cells (x : Br) : List Value := [.int .u64 x.en, .slice (some ⟨x.g, 0, none⟩) x.n x.n]
theorem br_len (x : Br) : x.cells.length = 2 := rfl

/-! ### The two outer loops' relations -/
structure QInv (w0 wr : World) (n : Nat) (ps : List Pr) (q : Nat) : Prop where
  ex : ∃ Ms : List Nat, Ms.length = q ∧ Fill ptrCells 1 89 w0 wr n Ms ∧ ∀ (j : Nat) (p : Pr) (m : Nat), ps[j]? = some p → Ms[j]? = some m → MsgAt wr (w0.heap.size + 1) m p
structure RInv (w wr : World) (n : Nat) (rs : List Rd) (k : Nat) : Prop where
  ex : ∃ Ls : List Br, Ls.length = k ∧ Fill Br.cells 2 92 w wr n Ls ∧ ∀ (i : Nat) (r : Rd) (x : Br), rs[i]? = some r → Ls[i]? = some x → x.en = r.en ∧ x.n = r.ps.length ∧ MsgsAt wr (w.heap.size + 1) x.g r.ps

theorem get_snoc {α : Type} {l : List α} {k : Nat} (hl : l.length = k) {x y : α} {i : Nat} (h : (l ++ [x])[i]? = some y) : (i < k ∧ l[i]? = some y) ∨ (i = k ∧ x = y) := by
  by_cases hik : i < k
  · rw [List.getElem?_append_left (by omega)] at h
    exact .inl ⟨hik, h⟩
  · by_cases h0 : i = k
    · subst h0
      rw [List.getElem?_append_right (by omega)] at h
      simp [hl] at h
      exact .inr ⟨rfl, h⟩
    · rw [List.getElem?_eq_none (by simp; omega)] at h; simp at h

theorem QInv.fill {w0 wr : World} {n : Nat} {ps : List Pr} {q : Nat} (h : QInv w0 wr n ps q) : ∃ Ms : List Nat, Fill ptrCells 1 89 w0 wr n Ms := let ⟨Ms, _, hf, _⟩ := h.ex; ⟨Ms, hf⟩
theorem RInv.fill {w wr : World} {n : Nat} {rs : List Rd} {k : Nat} (h : RInv w wr n rs k) : ∃ Ls : List Br, Fill Br.cells 2 92 w wr n Ls := let ⟨Ls, _, hf, _⟩ := h.ex; ⟨Ls, hf⟩
theorem QInv.bel {w0 wr : World} {n : Nat} {ps : List Pr} {q : Nat} (h : QInv w0 wr n ps q) : Below w0.heap.size w0 wr := let ⟨_, hf⟩ := h.fill; hf.bel
theorem RInv.bel {w wr : World} {n : Nat} {rs : List Rd} {k : Nat} (h : RInv w wr n rs k) : Below w.heap.size w wr := let ⟨_, hf⟩ := h.fill; hf.bel

/-- Message q is made: its struct is boxed at 'wx', its address stored. -/
theorem QInv.step {w0 wr wx : World} {n : Nat} {ps : List Pr} {q : Nat} {fr : ByteArray} {pa : Option Addr} {pn pc : Nat} {pvs : List Vt} {V : Obj} {c : Array Value}
    (h : QInv w0 wr n ps q) (hp : ps[q]? = some ⟨fr, pa, pn, pc, pvs⟩) (hl : pvs.length = pn) (hq : q < n) (hf : Fill Vt.cells 8 87 wr wx pn pvs) (hV : V = .cells c 116) (h1 : c[1]? = some (.string fr)) (h9 : c[9]? = some (.slice (some ⟨wr.heap.size, 0, none⟩) pn pn)) :
    QInv w0 (storeAt (wx.alloc V) w0.heap.size (q * 1) (ptrCells wx.heap.size)) n ps (q + 1) := by
  obtain ⟨Ms, hMl, hfil, hmsg⟩ := h.ex
  have hb3 : Below wr.heap.size wr (wx.alloc V) := hf.bel.alloc hf.bel.size V
  have hf2 := hfil.ext hb3
  have hg := (hf2.grows (q * 1) (ptrCells wx.heap.size)).1
  have hk1 : Keep (w0.heap.size + 1) wr (wx.alloc V) := Keep.of_below hb3
  have hk2 : Keep (w0.heap.size + 1) (wx.alloc V) (storeAt (wx.alloc V) w0.heap.size (q * 1) (ptrCells wx.heap.size)) := Keep.of_grown hg (Nat.lt_succ_self _)
  have hrow := hf.rowAt vt_len hl
  have hsz := hfil.sz
  have hwx := hf.bel.size
  refine ⟨Ms ++ [wx.heap.size], by simp [hMl], hf2.push ptr_len wx.heap.size hMl hq, ?_⟩
  intro j p m hj hm
  rcases get_snoc hMl hm with ⟨_, hm'⟩ | ⟨rfl, rfl⟩
  · exact ((hmsg j p m hj hm').keep hk1).keep hk2
  · rw [hp] at hj
    simp at hj
    subst hj
    have hp0 : MsgAt (wx.alloc V) (w0.heap.size + 1) wx.heap.size ⟨fr, pa, pn, pc, pvs⟩ := by
      refine ⟨wr.heap.size, by omega, by omega, ?_, ?_, (Keep.of_below (lo := 0) (w := wx) (w' := wx.alloc V) ((Below.refl _ _).alloc (Nat.le_refl _) V)).rowAt (Nat.zero_le _) hrow⟩
      · rw [hV, World.cell?_alloc_at _ _ _ _ rfl, h1]
      · rw [hV, World.cell?_alloc_at _ _ _ _ rfl, h9]
        simp [hl]
    exact hp0.keep hk2
/-- Round k is made. -/
theorem RInv.step {w wr wx : World} {n : Nat} {rs : List Rd} {k : Nat} {en : Int} {ra : Option Addr} {rn rc : Nat} {rps : List Pr} {wy : World}
    (h : RInv w wr n rs k) (hp : rs[k]? = some ⟨en, ra, rn, rc, rps⟩) (hl : rps.length = rn) (hk : k < n) (hq : QInv wr wx rn rps rn) (hy : Below wx.heap.size wx wy) :
    RInv w (storeAt wy w.heap.size (k * 2) (Br.cells ⟨en, rn, wr.heap.size⟩)) n rs (k + 1) := by
  obtain ⟨Ls, hLl, hfil, hrnd⟩ := h.ex
  obtain ⟨Ms, hMl, hf, hmsg⟩ := hq.ex
  have hb3 : Below wr.heap.size wr wy := hf.bel.trans (hy.mono hf.bel.size)
  have hf2 := hfil.ext hb3
  have hg := (hf2.grows (k * 2) (Br.cells ⟨en, rn, wr.heap.size⟩)).1
  have hk1 : Keep (w.heap.size + 1) wr wy := Keep.of_below hb3
  have hk2 : Keep (w.heap.size + 1) wy (storeAt wy w.heap.size (k * 2) (Br.cells ⟨en, rn, wr.heap.size⟩)) := Keep.of_grown hg (Nat.lt_succ_self _)
  have hrow := hf.rowAt ptr_len hMl
  have hsz := hfil.sz
  refine ⟨Ls ++ [⟨en, rn, wr.heap.size⟩], by simp [hLl], hf2.push br_len ⟨en, rn, wr.heap.size⟩ hLl hk, ?_⟩
  intro i r x hi hx
  rcases get_snoc hLl hx with ⟨_, hx'⟩ | ⟨rfl, rfl⟩
  · obtain ⟨h1, h2, h3⟩ := hrnd i r x hi hx'
    exact ⟨h1, h2, (h3.keep hk1).keep hk2⟩
  · rw [hp] at hi
    simp at hi
    subst hi
    refine ⟨rfl, hl.symm, ?_⟩
    have hp0 : MsgsAt wx (w.heap.size + 1) wr.heap.size rps := ⟨Ms, by omega, by rw [hMl, hl], hrow, fun j p m hj hm => (hmsg j p m hj hm).mono (by omega)⟩
    exact (hp0.keep (Keep.of_below hy)).keep hk2
end Go.Proofs.Qxb6612240a
