import Derived.Test.Qxb6612256aCnt0
namespace Go.Proofs.Qxb6612256a
open Go.RowKit Go.MapKept

/-! ### Counted lengths, plainly -/
def lkp : List (Int × Int) → Int → Int
  | [], _ => 0
  | p :: ls, l => if p.1 = l then p.2 else lkp ls l
def Asc (ls : List (Int × Int)) : Prop := ls.Pairwise fun p q => p.1 < q.1
structure Counted (ls : List (Int × Int)) (f : Int → Int) : Prop where
  asc : Asc ls
  pos : ∀ p ∈ ls, 0 < p.2
  eq : ∀ l, lkp ls l = f l

theorem look_none {ls : List (Int × Int)} {l : Int} (h : ∀ q ∈ ls, q.1 ≠ l) : lkp ls l = 0 := by
  induction ls with
  | nil => rfl
  | cons p ls ih =>
    unfold lkp
    rw [if_neg (h p (by simp))]
    exact ih (fun q hq => h q (by simp [hq]))
theorem look_mem {ls : List (Int × Int)} (h : Asc ls) {p : Int × Int} (hp : p ∈ ls) : lkp ls p.1 = p.2 := by
  induction ls with
  | nil => simp at hp
  | cons q ls ih =>
    unfold lkp
    have hc := List.pairwise_cons.1 h
    rcases List.mem_cons.1 hp with rfl | hp
    · simp
    · have := hc.1 p hp
      rw [if_neg (by omega)]
      exact ih hc.2 hp
theorem fst_addLen {l k : Int} : ∀ {ls : List (Int × Int)} {q : Int × Int}, q ∈ addLen ls l k → q.1 = l ∨ q ∈ ls := by
  intro ls
  induction ls with
  | nil => intro q hq; simp [addLen] at hq; subst hq; exact .inl rfl
  | cons p ls ih =>
    intro q hq
    unfold addLen at hq
    split at hq
    · rcases List.mem_cons.1 hq with rfl | hq
      · exact .inr (by simp)
      · rcases ih hq with h | h
        · exact .inl h
        · exact .inr (by simp [h])
    · split at hq
      · split at hq
        · exact .inr (by simp [hq])
        · rcases List.mem_cons.1 hq with rfl | hq
          · exact .inl rfl
          · exact .inr (by simp [hq])
      · rcases List.mem_cons.1 hq with rfl | hq
        · exact .inl rfl
        · exact .inr hq
theorem asc_addLen (l k : Int) : ∀ {ls : List (Int × Int)}, Asc ls → Asc (addLen ls l k) := by
  intro ls
  induction ls with
  | nil => intro _; simp [addLen, Asc]
  | cons p ls ih =>
    intro h
    have hc := List.pairwise_cons.1 h
    unfold addLen
    split
    · next hp =>
      refine List.pairwise_cons.2 ⟨fun q hq => ?_, ih hc.2⟩
      rcases fst_addLen hq with h1 | h1
      · omega
      · exact hc.1 q h1
    · next hp =>
      split
      · next he =>
        split
        · exact hc.2
        · refine List.pairwise_cons.2 ⟨fun q hq => ?_, hc.2⟩
          have := hc.1 q hq
          show l < q.1
          omega
      · next he =>
        refine List.pairwise_cons.2 ⟨fun q hq => ?_, h⟩
        show l < q.1
        rcases List.mem_cons.1 hq with rfl | hq
        · omega
        · have := hc.1 q hq
          omega
theorem look_addLen (l k : Int) : ∀ {ls : List (Int × Int)}, Asc ls → ∀ x, lkp (addLen ls l k) x = if x = l then lkp ls l + k else lkp ls x := by
  intro ls
  induction ls with
  | nil =>
    intro _ x
    simp only [addLen, lkp]
    by_cases hx : l = x
    · subst hx; simp
    · rw [if_neg hx, if_neg (Ne.symm hx)]
  | cons p ls ih =>
    intro h x
    have hc := List.pairwise_cons.1 h
    have hi := ih hc.2 x
    unfold addLen
    split
    · next hp =>
      simp only [lkp]
      rw [hi]
      by_cases hx : x = l
      · subst hx
        simp [show ¬ p.1 = x by omega]
      · rw [if_neg hx, if_neg hx]
    · next hp =>
      split
      · next he =>
        have h0 : lkp ls l = 0 := look_none (fun q hq => by have := hc.1 q hq; omega)
        split
        · next hz =>
          simp only [lkp, he, if_true]
          by_cases hx : x = l
          · subst hx; rw [if_pos rfl, h0]; omega
          · rw [if_neg hx, if_neg (Ne.symm hx)]
        · next hz =>
          simp only [lkp, he, if_true]
          by_cases hx : x = l
          · subst hx; simp
          · rw [if_neg hx, if_neg (Ne.symm hx), if_neg (Ne.symm hx)]
      · next he =>
        have h0 : lkp (p :: ls) l = 0 := look_none (fun q hq => by
          rcases List.mem_cons.1 hq with rfl | hq
          · exact he
          · have := hc.1 q hq; omega)
        rw [h0]
        by_cases hx : x = l
        · subst hx; simp [lkp]
        · rw [if_neg hx]
          show (if l = x then k else lkp (p :: ls) x) = _
          rw [if_neg (Ne.symm hx)]
theorem Counted.add {ls : List (Int × Int)} {f : Int → Int} (h : Counted ls f) (l k : Int) (h1 : 0 ≤ f l + k) (h2 : k ≠ 0) : Counted (addLen ls l k) (fun x => if x = l then f l + k else f x) := by
  have ha := asc_addLen l k h.asc
  refine ⟨ha, fun p hp => ?_, fun x => ?_⟩
  · have hl := look_mem ha hp
    rw [look_addLen l k h.asc] at hl
    rcases fst_addLen hp with he | he
    · rw [if_pos he, h.eq] at hl
      have hne : p.2 ≠ 0 := by
        intro h0
        -- an entry of count zero is never laid
        have : ∀ {ls : List (Int × Int)}, (∀ q ∈ ls, q.2 ≠ 0) → ∀ q ∈ addLen ls l k, q.2 ≠ 0 := by
          intro ls
          induction ls with
          | nil => intro _ q hq; simp [addLen] at hq; subst hq; exact h2
          | cons p ls ih =>
            intro hn q hq
            unfold addLen at hq
            split at hq
            · rcases List.mem_cons.1 hq with rfl | hq
              · exact hn _ (by simp)
              · exact ih (fun q hq => hn q (by simp [hq])) q hq
            · split at hq
              · split at hq
                · exact hn q (by simp [hq])
                · next hz =>
                  rcases List.mem_cons.1 hq with rfl | hq
                  · exact hz
                  · exact hn q (by simp [hq])
              · rcases List.mem_cons.1 hq with rfl | hq
                · exact h2
                · exact hn q hq
        exact this (fun q hq => by have := h.pos q hq; omega) p hp h0
      omega
    · exact h.pos p he
  · rw [look_addLen l k h.asc]
    by_cases hx : x = l
    · rw [if_pos hx, if_pos hx, h.eq]
    · rw [if_neg hx, if_neg hx, h.eq]
theorem Counted.unique : ∀ {ls ls' : List (Int × Int)} {f : Int → Int}, Counted ls f → Counted ls' f → ls = ls' := by
  intro ls
  induction ls with
  | nil =>
    intro ls' f h h'
    cases ls' with
    | nil => rfl
    | cons q ls' =>
      have h1 := h.eq q.1
      have h2 := h'.eq q.1
      have := h'.pos q (by simp)
      simp [lkp] at h1 h2
      omega
  | cons p ls ih =>
    intro ls' f h h'
    have hc := List.pairwise_cons.1 h.asc
    have hp := h.pos p (by simp)
    cases ls' with
    | nil =>
      have h1 := h.eq p.1
      have h2 := h'.eq p.1
      simp [lkp] at h1 h2
      omega
    | cons q ls' =>
      have hc' := List.pairwise_cons.1 h'.asc
      have hq := h'.pos q (by simp)
      have a1 : lkp (p :: ls) p.1 = p.2 := look_mem h.asc (by simp)
      have a2 : lkp (q :: ls') q.1 = q.2 := look_mem h'.asc (by simp)
      have e1 : lkp (p :: ls) p.1 = lkp (q :: ls') p.1 := (h.eq _).trans (h'.eq _).symm
      have e2 : lkp (p :: ls) q.1 = lkp (q :: ls') q.1 := (h.eq _).trans (h'.eq _).symm
      have hfst : p.1 = q.1 := by
        rcases Int.lt_trichotomy p.1 q.1 with hlt | heq | hgt
        · have : lkp (q :: ls') p.1 = 0 := look_none (fun r hr => by
            rcases List.mem_cons.1 hr with rfl | hr
            · omega
            · have := hc'.1 r hr; omega)
          omega
        · exact heq
        · have : lkp (p :: ls) q.1 = 0 := look_none (fun r hr => by
            rcases List.mem_cons.1 hr with rfl | hr
            · omega
            · have := hc.1 r hr; omega)
          omega
      have hsnd : p.2 = q.2 := by rw [hfst] at e1; rw [← a1, ← a2, ← hfst]; rw [hfst]; exact e1
      have hpq : p = q := Prod.ext hfst hsnd
      subst hpq
      have hl : ∀ x, lkp ls x = lkp ls' x := by
        intro x
        by_cases hx : p.1 = x
        · rw [look_none (fun r hr => by have := hc.1 r hr; omega), look_none (fun r hr => by have := hc'.1 r hr; omega)]
        · have e := (h.eq x).trans (h'.eq x).symm
          unfold lkp at e
          rw [if_neg hx, if_neg hx] at e
          exact e
      have := ih (f := fun x => lkp ls x) ⟨hc.2, fun r hr => h.pos r (by simp [hr]), fun _ => rfl⟩ ⟨hc'.2, fun r hr => h'.pos r (by simp [hr]), fun x => (hl x).symm⟩
      rw [this]
theorem addLen_len (l k : Int) : ∀ ls : List (Int × Int), (addLen ls l k).length ≤ ls.length + 1 := by
  intro ls
  induction ls with
  | nil => simp [addLen]
  | cons p ls ih =>
    unfold addLen
    split
    · simp; exact ih
    · split
      · split
        · simp; omega
        · simp
      · simp
/-- No more lengths than the counts sum to. -/
theorem Counted.bound {ls : List (Int × Int)} {f : Int → Int} (h : Counted ls f) {M : Int} (hM : ∀ l, f l ≤ M) : ∀ p ∈ ls, 0 < p.2 ∧ p.2 ≤ M := by
  intro p hp
  have := look_mem h.asc hp
  rw [h.eq] at this
  have := hM p.1
  exact ⟨h.pos p hp, by omega⟩

/-! ### A sorted list's runs -/
def cnt (xs : List Int) (l : Int) : Int := (xs.filter fun x => decide (x = l)).length
theorem cnt_nil (l : Int) : cnt [] l = 0 := rfl
theorem cnt_cons (x : Int) (xs : List Int) (l : Int) : cnt (x :: xs) l = (if x = l then 1 else 0) + cnt xs l := by
  unfold cnt
  by_cases h : x = l
  · simp [h]; omega
  · simp [h]
theorem cnt_append (xs ys : List Int) (l : Int) : cnt (xs ++ ys) l = cnt xs l + cnt ys l := by
  unfold cnt; simp
theorem cnt_perm {xs ys : List Int} (h : xs.Perm ys) (l : Int) : cnt xs l = cnt ys l := by
  unfold cnt
  exact congrArg Int.ofNat (h.filter _).length_eq
theorem cnt_nonneg (xs : List Int) (l : Int) : 0 ≤ cnt xs l := by unfold cnt; omega
theorem cnt_le (xs : List Int) (l : Int) : cnt xs l ≤ xs.length := by
  unfold cnt
  have := List.length_filter_le (fun x => decide (x = l)) xs
  omega
theorem cnt_zero {xs : List Int} {l : Int} (h : ∀ x ∈ xs, x ≠ l) : cnt xs l = 0 := by
  induction xs with
  | nil => rfl
  | cons x xs ih => rw [cnt_cons, if_neg (h x (by simp)), ih (fun y hy => h y (by simp [hy]))]; rfl
theorem cnt_same (x : Int) (m : Nat) : ∀ l, cnt (List.replicate m x) l = if x = l then (m : Int) else 0 := by
  intro l
  induction m with
  | zero => simp [cnt_nil]
  | succ m ih => rw [List.replicate_succ, cnt_cons, ih]; split <;> omega
/-- The next run. -/
theorem Counted.run {ls : List (Int × Int)} {x : Int} {m : Nat} {rest : List Int} (h : Counted ls (cnt (List.replicate m x ++ rest))) (hm : 0 < m) (hr : ∀ y ∈ rest, x < y) :
    ∃ ls', ls = (x, (m : Int)) :: ls' ∧ Counted ls' (cnt rest) := by
  have hx : cnt (List.replicate m x ++ rest) x = m := by rw [cnt_append, cnt_same, if_pos rfl, cnt_zero (fun y hy => by have := hr y hy; omega)]; omega
  have hlow : ∀ l, l < x → cnt (List.replicate m x ++ rest) l = 0 := by
    intro l hl
    rw [cnt_append, cnt_same, if_neg (by omega), cnt_zero (fun y hy => by have := hr y hy; omega)]; rfl
  cases ls with
  | nil =>
    have := h.eq x
    rw [hx] at this
    simp [lkp] at this
    omega
  | cons p ls =>
    have hc := List.pairwise_cons.1 h.asc
    have hp := h.pos p (by simp)
    have hl := look_mem h.asc (p := p) (by simp)
    rw [h.eq] at hl
    have hge : ¬ p.1 < x := fun hlt => by rw [hlow _ hlt] at hl; omega
    have hle : ¬ x < p.1 := fun hlt => by
      have h0 : lkp (p :: ls) x = 0 := look_none (fun q hq => by
        rcases List.mem_cons.1 hq with rfl | hq
        · omega
        · have := hc.1 q hq; omega)
      rw [h.eq, hx] at h0
      omega
    have hpx : p.1 = x := by omega
    rw [hpx, hx] at hl
    refine ⟨ls, by rw [← hpx, hl], hc.2, fun q hq => h.pos q (by simp [hq]), fun l => ?_⟩
    by_cases hlx : l = x
    · subst hlx
      rw [look_none (fun q hq => by have := hc.1 q hq; omega), cnt_zero (fun y hy => by have := hr y hy; omega)]
    · have e := h.eq l
      unfold lkp at e
      rw [if_neg (by omega), cnt_append, cnt_same, if_neg (by omega)] at e
      omega
theorem Counted.empty : Counted [] (cnt []) := ⟨List.Pairwise.nil, fun p hp => by simp at hp, fun _ => rfl⟩
theorem Counted.none {ls : List (Int × Int)} (h : Counted ls (cnt [])) : ls = [] := h.unique Counted.empty
end Go.Proofs.Qxb6612256a
