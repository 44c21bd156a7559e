import Derived.Test.Qxb6612256aUnw2
namespace Go.Proofs.Qxb6612256a
open Go.RowKit Go.MapKept
open Go.ChangeMaps (setBlock)

theorem BI.ext {w w' : World} {B hb mb wb n : Nat} {v : Value} {E : List GE} {xs : List Value} {ls : List (Int × Int)} (h : BI w B hb mb wb n v E xs ls) (k : Below w.heap.size w w') : BI w' B hb mb wb n v E xs ls := by
  obtain ⟨rc, hrb, _⟩ := h.row_block
  refine ⟨h.len.ext k, h.fis.of_block (k.block mb h.fis.lt), own_keep h.row (fun g hg => ?_), h.ptr, fun e he => (k.block e.m (Array.getElem?_eq_some_iff.1 (h.grp e he)).1).trans (h.grp e he), fun e he => (k.block e.wt (Array.getElem?_eq_some_iff.1 (h.wat e he)).1).trans (h.wat e he), h.apart, h.low⟩
  simp [Value.ownBlock] at hg
  subst hg
  exact k.block wb (Array.getElem?_eq_some_iff.1 hrb).1

/-! ### What is left -/
def leftOf (gs : List Gr) (pick : Nat) (x : Int) : List Int := (gs.map (·.wn)).set pick x
def aliveZ (Z : List (Gr × Int)) : List Int := (Z.filter fun p => p.1.pre && decide (0 < p.2)).map fun p => (p.1.key.size : Int)

structure Fin (w0 w : World) (gs : List Gr) (left : List Int) (v : Value) (L : List FEnt) (c : Nat) (ls : List (Int × Int)) : Prop where
  blk : w.heap[w0.heap.size + 1]? = some (.cells (hist w0.heap.size v).toArray 66 (0, 0))
  own : w.ownsRow w0.heap.size 80 2 v ls.length (ls.flatMap lcells)
  fis : FIs w w0.heap.size L c
  yes : ∀ (j : Nat) (g : Gr) (x : Int), gs[j]? = some g → left[j]? = some x → 0 < x → ∃ e ∈ L, e.f = g.filt ∧ w.cell? ⟨e.m, 0, none⟩ = some (.int .i64 x)
  no : ∀ (j : Nat) (g : Gr) (x : Int), gs[j]? = some g → left[j]? = some x → x = 0 → ∀ e ∈ L, e.f ≠ g.filt
  nonneg : ∀ x ∈ left, 0 ≤ x
  num : L.length = (left.filter fun x => decide (0 < x)).length
  cnt : Counted ls (cnt (aliveZ (gs.zip left)))

theorem filter_len {α β : Type} (p : α → Bool) (q : β → Bool) : ∀ (A : List α) (B : List β), A.length = B.length → (∀ (j : Nat) (a : α) (b : β), A[j]? = some a → B[j]? = some b → p a = q b) → (A.filter p).length = (B.filter q).length := by
  intro A
  induction A with
  | nil => intro B h _; have := List.eq_nil_of_length_eq_zero h.symm; subst this; rfl
  | cons a A ih =>
    intro B h hp
    cases B with
    | nil => simp at h
    | cons b B =>
      have h0 := hp 0 a b rfl rfl
      have hi := ih B (by simpa using h) (fun j x y hx hy => hp (j + 1) x y (by simpa using hx) (by simpa using hy))
      simp only [List.filter_cons, h0]
      split
      · simp [hi]
      · exact hi
theorem alive_all : ∀ (gs : List Gr) (xs : List Int), gs.length = xs.length → (∀ x ∈ xs, 0 < x) → aliveZ (gs.zip xs) = preLens gs := by
  intro gs
  induction gs with
  | nil => intro xs _ _; rfl
  | cons g gs ih =>
    intro xs h hx
    cases xs with
    | nil => simp at h
    | cons x xs =>
      have hi := ih xs (by simpa using h) (fun y hy => hx y (by simp [hy]))
      have h0 := hx x (by simp)
      unfold aliveZ preLens at hi ⊢
      simp only [List.zip_cons_cons, List.filter_cons, h0, decide_true, Bool.and_true]
      split
      · simp [hi]
      · exact hi
theorem aliveZ_append (Z Z' : List (Gr × Int)) : aliveZ (Z ++ Z') = aliveZ Z ++ aliveZ Z' := by simp [aliveZ]
theorem aliveZ_cons (p : Gr × Int) (Z : List (Gr × Int)) : aliveZ (p :: Z) = if p.1.pre && decide (0 < p.2) then (p.1.key.size : Int) :: aliveZ Z else aliveZ Z := by
  simp only [aliveZ, List.filter_cons]
  split <;> simp
theorem preLens_append (a b : List Gr) : preLens (a ++ b) = preLens a ++ preLens b := by simp [preLens]
theorem preLens_cons (g : Gr) (b : List Gr) : preLens (g :: b) = if g.pre then (g.key.size : Int) :: preLens b else preLens b := by
  simp only [preLens, List.filter_cons]
  split <;> simp
/-- Parted at the group that is picked. -/
theorem parted {gs : List Gr} {pick : Nat} {g : Gr} (hg : gs[pick]? = some g) (x : Int) : ∃ G1 G2, gs = G1 ++ g :: G2 ∧ G1.length = pick ∧ leftOf gs pick x = G1.map (·.wn) ++ x :: G2.map (·.wn) := by
  obtain ⟨h1, h2⟩ := List.getElem?_eq_some_iff.1 hg
  have he : gs = gs.take pick ++ g :: gs.drop (pick + 1) := by
    rw [← h2, List.getElem_cons_drop, List.take_append_drop]
  have hl : (gs.take pick).length = pick := by simp; omega
  refine ⟨gs.take pick, gs.drop (pick + 1), he, hl, ?_⟩
  unfold leftOf
  have : gs.map (·.wn) = (gs.take pick).map (·.wn) ++ g.wn :: (gs.drop (pick + 1)).map (·.wn) := by
    have := congrArg (List.map (·.wn)) he
    simpa using this
  rw [this, List.set_append_right _ _ (by simp; omega)]
  simp [Nat.min_eq_left (Nat.le_of_lt h1)]
theorem alive_pick {gs : List Gr} {pick : Nat} {g : Gr} (hg : gs[pick]? = some g) (hpos : ∀ g ∈ gs, 1 ≤ g.wn) (x : Int) (hx : 0 ≤ x) (l : Int) :
    cnt (aliveZ (gs.zip (leftOf gs pick x))) l = cnt (preLens gs) l - (if g.pre = true ∧ x = 0 ∧ (g.key.size : Int) = l then 1 else 0) := by
  obtain ⟨G1, G2, he, hl, hleft⟩ := parted hg x
  have h1 : aliveZ (G1.zip (G1.map (·.wn))) = preLens G1 := alive_all G1 _ (by simp) (fun y hy => by
    obtain ⟨g', hg', rfl⟩ := List.mem_map.1 hy
    have := hpos g' (by rw [he]; simp [hg'])
    omega)
  have h2 : aliveZ (G2.zip (G2.map (·.wn))) = preLens G2 := alive_all G2 _ (by simp) (fun y hy => by
    obtain ⟨g', hg', rfl⟩ := List.mem_map.1 hy
    have := hpos g' (by rw [he]; simp [hg'])
    omega)
  rw [hleft, he, List.zip_append (by simp), List.zip_cons_cons, aliveZ_append, aliveZ_cons, h1, h2, preLens_append, preLens_cons]
  cases hp : g.pre
  · simp
  · by_cases hx0 : x = 0
    · subst hx0
      simp only [cnt_append]
      by_cases hgl : (g.key.size : Int) = l
      · simp [hgl, cnt_cons]; omega
      · simp [hgl, cnt_cons]
    · have : 0 < x := by omega
      simp [hx0, this]

theorem built_at {w0 w : World} {gs : List Gr} {n wb : Nat} {E : List GE} {v : Value} {xs : List Value} {ls : List (Int × Int)} (h : Built w0 w gs n n wb E v xs ls) (hn : gs.length = n) : E.map (·.g) = gs ∧ E.length = n := by
  refine ⟨?_, h.len hn (Nat.le_refl _)⟩
  rw [h.gs_eq, ← hn, List.take_length]
theorem entry_at {E : List GE} {gs : List Gr} (hE : E.map (·.g) = gs) {j : Nat} {g : Gr} (hg : gs[j]? = some g) : ∃ e, E[j]? = some e ∧ e.g = g := by
  rw [← hE, List.getElem?_map] at hg
  cases he : E[j]? with
  | none => rw [he] at hg; simp at hg
  | some e => rw [he] at hg; simp at hg; exact ⟨e, rfl, hg⟩
theorem apart_ne {E : List GE} (h : (E.map (·.m)).Nodup) {i j : Nat} {e e' : GE} (hi : E[i]? = some e) (hj : E[j]? = some e') (hne : i ≠ j) : e.m ≠ e'.m := by
  obtain ⟨a1, a2⟩ := List.getElem?_eq_some_iff.1 hi
  obtain ⟨b1, b2⟩ := List.getElem?_eq_some_iff.1 hj
  have hp := List.pairwise_iff_getElem.1 h
  rcases Nat.lt_or_gt_of_ne hne with hlt | hgt
  · have := hp i j (by simpa using a1) (by simpa using b1) hlt
    simpa [a2, b2] using this
  · have := hp j i (by simpa using b1) (by simpa using a1) hgt
    simp [a2, b2] at this
    exact fun e => this e.symm
theorem distinct_ne {gs : List Gr} (hd : Distinct gs) {i j : Nat} {g g' : Gr} (hi : gs[i]? = some g) (hj : gs[j]? = some g') (hne : i ≠ j) : g.filt ≠ g'.filt := by
  rcases Nat.lt_or_gt_of_ne hne with hlt | hgt
  · exact hd i j g g' hlt hi hj
  · exact fun e => hd j i g' g hgt hj hi e.symm
theorem left_get (gs : List Gr) (pick : Nat) (x : Int) (j : Nat) (hp : pick < gs.length) : (leftOf gs pick x)[j]? = if j = pick then some x else (gs[j]?).map (·.wn) := by
  unfold leftOf
  rw [List.getElem?_set]
  by_cases h : pick = j
  · subst h; simp [hp]
  · rw [if_neg h, if_neg (Ne.symm h), List.getElem?_map]

/-- Another group than the picked one. -/
theorem other_group {w0 w2 w3 : World} {gs : List Gr} {E : List GE} {e : GE} {pick j : Nat} {g : Gr} {v : Value} {L : List FEnt} {c : Nat} {ls : List (Int × Int)} (hE : E.map (·.g) = gs) (hfull : ∀ e ∈ E, e.n = e.g.wn) (hd : Distinct gs) (hap : (E.map (·.m)).Nodup) (he : E[pick]? = some e) (hne : j ≠ pick) (hg : gs[j]? = some g)
    (ha : After w2 w0.heap.size (w0.heap.size + 1) w0.heap.size E e v L c ls w3) :
    ∃ x ∈ ents E, x.f = g.filt ∧ x.f ≠ e.g.filt ∧ w3.cell? ⟨x.m, 0, none⟩ = some (.int .i64 g.wn) := by
  obtain ⟨e', he', rfl⟩ := entry_at hE hg
  have hep : gs[pick]? = some e.g := by rw [← hE, List.getElem?_map, he]; rfl
  obtain ⟨x, hx, hxf, hxm⟩ := ents_mem (List.mem_of_getElem? he')
  refine ⟨x, hx, hxf, ?_, ?_⟩
  · rw [hxf]; exact distinct_ne hd hg hep hne
  · rw [hxm, cell_of_block (ha.there e' (List.mem_of_getElem? he') (apart_ne hap he' he hne)), hfull e' (List.mem_of_getElem? he')]
    rfl
theorem left_nonneg {gs : List Gr} {pick : Nat} {x : Int} (hpos : ∀ g ∈ gs, 1 ≤ g.wn) (hx : 0 ≤ x) : ∀ y ∈ leftOf gs pick x, 0 ≤ y := by
  intro y hy
  unfold leftOf at hy
  rcases List.mem_or_eq_of_mem_set hy with h | h
  · obtain ⟨g, hg, rfl⟩ := List.mem_map.1 h
    have := hpos g hg
    omega
  · omega
/-- The entries and what is left, side by side. -/
theorem num_eq {gs : List Gr} {E : List GE} {e : GE} {pick : Nat} (hE : E.map (·.g) = gs) (hd : Distinct gs) (hpos : ∀ g ∈ gs, 1 ≤ g.wn) (he : E[pick]? = some e) :
    ((ents E).filter fun x => decide (x.f ≠ e.g.filt)).length = ((leftOf gs pick 0).filter fun x => decide (0 < x)).length := by
  have hep : gs[pick]? = some e.g := by rw [← hE, List.getElem?_map, he]; rfl
  have hpl : pick < gs.length := (List.getElem?_eq_some_iff.1 hep).1
  have hl : (ents E).length = (leftOf gs pick 0).length := by simp [ents, leftOf, ← hE]
  refine filter_len _ _ _ _ hl (fun j x y hx hy => ?_)
  rw [ents_get] at hx
  rw [left_get gs pick 0 j hpl] at hy
  cases hj : E[j]? with
  | none => rw [hj] at hx; simp at hx
  | some e' =>
    rw [hj] at hx
    simp at hx
    subst hx
    have hgj : gs[j]? = some e'.g := by rw [← hE, List.getElem?_map, hj]; rfl
    by_cases hjp : j = pick
    · subst hjp
      rw [he] at hj
      cases hj
      rw [if_pos rfl] at hy
      cases hy
      simp
    · rw [if_neg hjp, hgj] at hy
      simp at hy
      subst hy
      have h1 := distinct_ne hd hgj hep hjp
      have h2 := hpos e'.g (List.mem_of_getElem? hgj)
      have h3 : (0 : Int) < e'.g.wn := by omega
      simp [h1, h3]

theorem fin_A {w0 w1 w2 w3 : World} {gs : List Gr} {n wb pick : Nat} {E : List GE} {e : GE} {v : Value} {xs : List Value} {ls : List (Int × Int)} (h : Built w0 w1 gs n n wb E v xs ls) (hn : gs.length = n) (hd : Distinct gs) (hpos : ∀ g ∈ gs, 1 ≤ g.wn) (he : E[pick]? = some e) (hw : 1 < e.g.wn)
    (ha : After w2 w0.heap.size (w0.heap.size + 1) w0.heap.size E e v (ents E) E.length ls w3) : Fin w0 w3 gs (leftOf gs pick (e.g.wn - 1)) v (ents E) E.length ls := by
  obtain ⟨hE, hEl⟩ := built_at h hn
  have hep : gs[pick]? = some e.g := by rw [← hE, List.getElem?_map, he]; rfl
  have hpl : pick < gs.length := (List.getElem?_eq_some_iff.1 hep).1
  have hem := List.mem_of_getElem? he
  have hall : ∀ y ∈ leftOf gs pick (e.g.wn - 1), 0 < y := by
    intro y hy
    unfold leftOf at hy
    rcases List.mem_or_eq_of_mem_set hy with h | h
    · obtain ⟨g, hg, rfl⟩ := List.mem_map.1 h
      have := hpos g hg
      omega
    · omega
  refine ⟨ha.blk, ha.own, ha.fis, ?_, ?_, left_nonneg hpos (by omega), ?_, ?_⟩
  · intro j g x hg hx _
    rw [left_get gs pick _ j hpl] at hx
    by_cases hjp : j = pick
    · subst hjp
      rw [if_pos rfl] at hx
      cases hx
      rw [hep] at hg
      cases hg
      obtain ⟨y, hy, hyf, hym⟩ := ents_mem hem
      refine ⟨y, hy, hyf, ?_⟩
      rw [hym, cell_of_block ha.here, h.full e hem]
      rfl
    · rw [if_neg hjp, hg] at hx
      simp at hx
      subst hx
      obtain ⟨y, hy, hyf, _, hc⟩ := other_group hE h.full hd h.bi.apart he hjp hg ha
      exact ⟨y, hy, hyf, hc⟩
  · intro j g x _ hx h0
    have := hall x (List.mem_of_getElem? hx)
    omega
  · rw [List.filter_eq_self.2 (fun y hy => by simpa using hall y hy)]
    simp [ents, leftOf, ← hE]
  · have hc := h.cnt
    rw [← hn, List.take_length] at hc
    refine hc.congr (fun l => ?_)
    rw [alive_pick hep hpos _ (by omega) l, if_neg (by omega)]
    omega
theorem fin_B {w0 w1 w2 w3 : World} {gs : List Gr} {n wb pick : Nat} {E : List GE} {e : GE} {v v' : Value} {xs : List Value} {ls ls' : List (Int × Int)} (h : Built w0 w1 gs n n wb E v xs ls) (hn : gs.length = n) (hd : Distinct gs) (hpos : ∀ g ∈ gs, 1 ≤ g.wn) (he : E[pick]? = some e)
    (ha : After w2 w0.heap.size (w0.heap.size + 1) w0.heap.size E e v' ((ents E).filter fun x => decide (x.f ≠ e.g.filt)) E.length ls' w3) (hc : Counted ls' (cnt (aliveZ (gs.zip (leftOf gs pick 0))))) : Fin w0 w3 gs (leftOf gs pick 0) v' ((ents E).filter fun x => decide (x.f ≠ e.g.filt)) E.length ls' := by
  obtain ⟨hE, hEl⟩ := built_at h hn
  have hep : gs[pick]? = some e.g := by rw [← hE, List.getElem?_map, he]; rfl
  have hpl : pick < gs.length := (List.getElem?_eq_some_iff.1 hep).1
  refine ⟨ha.blk, ha.own, ha.fis, ?_, ?_, left_nonneg hpos (by omega), num_eq hE hd hpos he, hc⟩
  · intro j g x hg hx h0
    rw [left_get gs pick _ j hpl] at hx
    by_cases hjp : j = pick
    · rw [if_pos hjp] at hx
      cases hx
      omega
    · rw [if_neg hjp, hg] at hx
      simp at hx
      subst hx
      obtain ⟨y, hy, hyf, hyn, hcc⟩ := other_group hE h.full hd h.bi.apart he hjp hg ha
      exact ⟨y, List.mem_filter.2 ⟨hy, by simpa using hyn⟩, hyf, hcc⟩
  · intro j g x hg hx h0
    rw [left_get gs pick _ j hpl] at hx
    by_cases hjp : j = pick
    · subst hjp
      rw [hep] at hg
      cases hg
      intro y hy
      have := (List.mem_filter.1 hy).2
      simpa using this
    · rw [if_neg hjp, hg] at hx
      simp at hx
      have := hpos g (List.mem_of_getElem? hg)
      omega
end Go.Proofs.Qxb6612256a
