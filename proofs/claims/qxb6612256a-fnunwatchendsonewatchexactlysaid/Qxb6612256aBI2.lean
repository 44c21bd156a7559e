import Derived.Test.Qxb6612256aBI
import Derived.Test.Qxb6612256aCnt1
namespace Go.Proofs.Qxb6612256a
open Go.RowKit Go.MapKept
open Go.ChangeMaps (setBlock)

theorem below_drew (w : World) : Below w.heap.size w w.drew := ⟨rfl, rfl, rfl, Nat.le_refl _, fun _ _ => rfl⟩
theorem BI.drew {w : World} {B hb mb wb n : Nat} {v : Value} {E : List GE} {xs : List Value} {ls : List (Int × Int)} (h : BI w B hb mb wb n v E xs ls) : BI w.drew B hb mb wb n v E xs ls :=
  ⟨h.len.ext (below_drew w), h.fis.of_block rfl, own_keep h.row (fun _ _ => rfl), h.ptr, h.grp, h.wat, h.apart, h.low⟩
/-- The lengths counted anew. -/
theorem BI.counted {w w' : World} {B hb mb wb n : Nat} {v : Value} {E : List GE} {xs : List Value} {ls ls' : List (Int × Int)} (h : BI w B hb mb wb n v E xs ls) (hp : CntPost w B hb (hist mb v) v ls' w') (hasc : Asc ls') (hsm : ls'.length ≤ 4096) (hBhb : B ≤ hb) :
    (∃ v', BI w' B hb mb wb n v' E xs ls') ∧ Below B w w' := by
  obtain ⟨v', hown, hblk, hf⟩ := hp
  rw [hist_set] at hblk
  obtain ⟨rc, hrb, hBw⟩ := h.row_block
  have hne1 : mb ≠ hb := ne_of_obj h.fis.block h.len.blk (by simp [fobj])
  have hne2 : wb ≠ hb := ne_of_obj hrb h.len.blk (by simp)
  have hS : ∀ (x : Nat) (o : Obj), w.heap[x]? = some o → (x = hb ∨ some x = v.ownBlock) → (∃ c, o = .cells c 66 (0, 0)) ∨ (∃ c, o = .cells c 80 (0, 0)) := by
    intro x o hx s
    rcases s with rfl | s
    · rw [h.len.blk] at hx; exact .inl ⟨_, (Option.some.inj hx).symm⟩
    · obtain ⟨c, hc, _⟩ := own_block h.len.own s.symm
      rw [hc] at hx
      exact .inr ⟨_, (Option.some.inj hx).symm⟩
  have hold := h.rest hf (fun x o hx s => .inr (.inr (hS x o hx s)))
  refine ⟨⟨v', ⟨hblk, rfl, rfl, hown, hasc, hsm, Nat.le_trans h.len.low hf.size⟩, ?_, ?_, h.ptr, hold.1, hold.2, h.apart, h.low⟩, ?_⟩
  · refine h.fis.of_block (hf.block mb h.fis.lt (fun s => ?_))
    rcases hS _ _ h.fis.block s with ⟨c, e⟩ | ⟨c, e⟩ <;> simp [fobj] at e
  · refine own_keep h.row (fun g hg => ?_)
    simp [Value.ownBlock] at hg
    subst hg
    refine hf.block wb (Array.getElem?_eq_some_iff.1 hrb).1 (fun s => ?_)
    rcases hS _ _ hrb s with ⟨c, e⟩ | ⟨c, e⟩ <;> simp at e
  · refine hf.below h.len.low (fun x s => ?_)
    rcases s with rfl | s
    · exact hBhb
    · exact (h.len.own_lt s.symm).2

def preLens (gs : List Gr) : List Int := (gs.filter (·.pre)).map fun g => (g.key.size : Int)
theorem preLens_snoc (gs : List Gr) (g : Gr) : preLens (gs ++ [g]) = if g.pre then preLens gs ++ [(g.key.size : Int)] else preLens gs := by
  unfold preLens
  cases hp : g.pre <;> simp [hp]
theorem preLens_len (gs : List Gr) : (preLens gs).length ≤ gs.length := by
  unfold preLens
  simp
  exact List.length_filter_le _ _
theorem Counted.congr {ls : List (Int × Int)} {f f' : Int → Int} (h : Counted ls f) (e : ∀ l, f l = f' l) : Counted ls f' := ⟨h.asc, h.pos, fun l => (h.eq l).trans (e l)⟩
theorem Counted.snoc {ls : List (Int × Int)} {xs : List Int} (h : Counted ls (cnt xs)) (l : Int) : Counted (addLen ls l 1) (cnt (xs ++ [l])) := by
  refine (h.add l 1 (by have := cnt_nonneg xs l; omega) (by omega)).congr (fun x => ?_)
  rw [cnt_append, cnt_cons, cnt_nil]
  by_cases hx : x = l
  · subst hx; simp
  · rw [if_neg hx, if_neg (Ne.symm hx)]; omega

/-- What holds behind k groups. -/
structure Built (w0 w : World) (gs : List Gr) (n k : Nat) (wb : Nat) (E : List GE) (v : Value) (xs : List Value) (ls : List (Int × Int)) : Prop where
  bi : BI w w0.heap.size (w0.heap.size + 1) w0.heap.size wb n v E xs ls
  gs_eq : E.map (·.g) = gs.take k
  full : ∀ e ∈ E, e.n = e.g.wn
  cnt : Counted ls (cnt (preLens (gs.take k)))
  few : ls.length ≤ k
  bel : Below w0.heap.size w0 w
theorem Built.len {w0 w : World} {gs : List Gr} {n k wb : Nat} {E : List GE} {v : Value} {xs : List Value} {ls : List (Int × Int)} (h : Built w0 w gs n k wb E v xs ls) (hn : gs.length = n) (hk : k ≤ n) : E.length = k := by
  have := congrArg List.length h.gs_eq
  simp at this
  omega
theorem Built.new_key {w0 w : World} {gs : List Gr} {n k wb : Nat} {E : List GE} {v : Value} {xs : List Value} {ls : List (Int × Int)} (h : Built w0 w gs n k wb E v xs ls) (hd : Distinct gs) {g : Gr} (hg : gs[k]? = some g) : ∀ x ∈ ents E, x.f ≠ g.filt := by
  intro x hx
  obtain ⟨e, he, h1, _⟩ := mem_ents hx
  rw [h1]
  have : e.g ∈ gs.take k := by rw [← h.gs_eq]; exact List.mem_map_of_mem he
  obtain ⟨j, hj⟩ := List.getElem?_of_mem this
  rw [List.getElem?_take] at hj
  split at hj
  · next hlt => exact hd j k _ _ hlt hj hg
  · simp at hj
/-- A group more. -/
theorem Built.step {w0 w w1 : World} {gs : List Gr} {n k wb : Nat} {E : List GE} {v : Value} {xs : List Value} {ls : List (Int × Int)} (h : Built w0 w gs n k wb E v xs ls) (hn : gs.length = n) (hk : k < n) {g : Gr} (hg : gs[k]? = some g)
    (ha : Added w.drew w0.heap.size (ents E) k g.filt g.wn w1) :
    BI (w1.setCell ⟨wb, k, none⟩ (.pointer (some ⟨w.heap.size + 1, 0, none⟩))) w0.heap.size (w0.heap.size + 1) w0.heap.size wb n v (E ++ [⟨g, g.wn, w.heap.size, w.heap.size + 1⟩]) (xs.set k (.pointer (some ⟨w.heap.size + 1, 0, none⟩))) ls ∧
      Below w0.heap.size w0 (w1.setCell ⟨wb, k, none⟩ (.pointer (some ⟨w.heap.size + 1, 0, none⟩))) ∧ (E ++ [(⟨g, g.wn, w.heap.size, w.heap.size + 1⟩ : GE)]).map (·.g) = gs.take (k + 1) ∧ (∀ e ∈ E ++ [(⟨g, g.wn, w.heap.size, w.heap.size + 1⟩ : GE)], e.n = e.g.wn) := by
  have hl := h.len hn (by omega)
  subst hl
  obtain ⟨h1, h2⟩ := h.bi.drew.added g ha hk (Nat.le_refl _)
  refine ⟨h1, h.bel.trans ((below_drew w).mono h.bel.size |>.trans h2), ?_, ?_⟩
  · rw [List.map_append, h.gs_eq, take_get hg]
    rfl
  · intro e he
    rcases List.mem_append.1 he with he | he
    · exact h.full e he
    · simp at he; subst he; rfl
theorem Built.plain {w0 w w1 : World} {gs : List Gr} {n k wb : Nat} {E : List GE} {v : Value} {xs : List Value} {ls : List (Int × Int)} (h : Built w0 w gs n k wb E v xs ls) (hn : gs.length = n) (hk : k < n) {g : Gr} (hg : gs[k]? = some g) (hp : g.pre = false)
    (ha : Added w.drew w0.heap.size (ents E) k g.filt g.wn w1) :
    ∃ E' v' xs' ls', Built w0 (w1.setCell ⟨wb, k, none⟩ (.pointer (some ⟨w.heap.size + 1, 0, none⟩))) gs n (k + 1) wb E' v' xs' ls' := by
  obtain ⟨h1, h2, h3, h4⟩ := h.step hn hk hg ha
  refine ⟨_, _, _, _, h1, h3, h4, ?_, by have := h.few; omega, h2⟩
  rw [take_get hg, preLens_snoc, hp]
  exact h.cnt
theorem Built.counted {w0 w w1 w2 : World} {gs : List Gr} {n k wb : Nat} {E : List GE} {v : Value} {xs : List Value} {ls : List (Int × Int)} (h : Built w0 w gs n k wb E v xs ls) (hn : gs.length = n) (hk : k < n) (hn2 : n ≤ 4096) {g : Gr} (hg : gs[k]? = some g) (hp : g.pre = true)
    (ha : Added w.drew w0.heap.size (ents E) k g.filt g.wn w1) (hc : CntPost (w1.setCell ⟨wb, k, none⟩ (.pointer (some ⟨w.heap.size + 1, 0, none⟩))) w0.heap.size (w0.heap.size + 1) (hist w0.heap.size v) v (addLen ls g.key.size 1) w2) :
    ∃ E' v' xs' ls', Built w0 w2 gs n (k + 1) wb E' v' xs' ls' := by
  obtain ⟨h1, h2, h3, h4⟩ := h.step hn hk hg ha
  have hcn := h.cnt.snoc g.key.size
  have hle := addLen_len g.key.size 1 ls
  have hfw := h.few
  obtain ⟨⟨v', h5⟩, h6⟩ := h1.counted hc hcn.asc (by omega) (by omega)
  refine ⟨_, _, _, _, h5, h3, h4, ?_, by omega, h2.trans h6⟩
  rw [take_get hg, preLens_snoc, hp]
  exact hcn
theorem Built.small {w0 w : World} {gs : List Gr} {n k wb : Nat} {E : List GE} {v : Value} {xs : List Value} {ls : List (Int × Int)} (h : Built w0 w gs n k wb E v xs ls) (hn : gs.length = n) (hn2 : n ≤ 4096) : ∀ p ∈ ls, -5000 ≤ p.2 ∧ p.2 ≤ 5000 := by
  intro p hp
  have hb := h.cnt.bound (M := 4096) (fun l => by
    have h1 := cnt_le (preLens (gs.take k)) l
    have h2 := preLens_len (gs.take k)
    have h3 : (gs.take k).length ≤ gs.length := by simp; omega
    omega) p hp
  omega
end Go.Proofs.Qxb6612256a
