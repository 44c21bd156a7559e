import Derived.Test.Qxb6612256aPln
namespace Go.Proofs.Qxb6612256a

/-! ### Insertion sort, plainly -/
def SortedTo (ys : List Int) (i : Nat) : Prop := ∀ (a b : Nat) (x y : Int), a < b → b < i → ys[a]? = some x → ys[b]? = some y → x ≤ y
structure Almost (ys : List Int) (i j : Nat) : Prop where
  off : ∀ (a b : Nat) (x y : Int), a < b → b ≤ i → a ≠ j → b ≠ j → ys[a]? = some x → ys[b]? = some y → x ≤ y
  on : ∀ (b : Nat) (x y : Int), j < b → b ≤ i → ys[j]? = some x → ys[b]? = some y → x ≤ y
theorem SortedTo.almost {ys : List Int} {i : Nat} (h : SortedTo ys i) : Almost ys i i :=
  ⟨fun a b x y h1 h2 _ h4 h5 h6 => h a b x y h1 (by omega) h5 h6, fun b x y h1 h2 => by omega⟩
theorem Almost.stop0 {ys : List Int} {i : Nat} (h : Almost ys i 0) : SortedTo ys (i + 1) := by
  intro a b x y hab hb ha hb'
  by_cases h0 : a = 0
  · subst h0; exact h.on b x y hab (by omega) ha hb'
  · exact h.off a b x y hab (by omega) h0 (by omega) ha hb'
theorem Almost.stop {ys : List Int} {i j : Nat} (h : Almost ys i j) (hj : 0 < j) (hji : j ≤ i) {u v : Int} (hu : ys[j - 1]? = some u) (hv : ys[j]? = some v) (hle : u ≤ v) : SortedTo ys (i + 1) := by
  intro a b x y hab hb ha hb'
  by_cases h1 : a = j
  · subst h1; exact h.on b x y hab (by omega) ha hb'
  · by_cases h2 : b = j
    · subst h2
      rw [hv] at hb'
      cases hb'
      by_cases h3 : a = b - 1
      · subst h3
        rw [hu] at ha
        cases ha
        exact hle
      · have := h.off a (b - 1) x u (by omega) (by omega) h1 (by omega) ha hu
        omega
    · exact h.off a b x y hab (by omega) h1 h2 ha hb'
theorem swap_get (ys : List Int) (j : Nat) (hj : 0 < j) (hjl : j < ys.length) (x y : Int) (a : Nat) : ((ys.set (j - 1) y).set j x)[a]? = if a = j then some x else if a = j - 1 then some y else ys[a]? := by
  rw [List.getElem?_set, List.getElem?_set]
  by_cases h1 : j = a
  · subst h1; simp [hjl]
  · rw [if_neg h1, if_neg (Ne.symm h1)]
    by_cases h2 : j - 1 = a
    · subst h2; rw [if_pos rfl, if_pos rfl, if_pos (by omega)]
    · rw [if_neg h2, if_neg (Ne.symm h2)]
theorem Almost.swap {ys : List Int} {i j : Nat} (h : Almost ys i j) (hj : 0 < j) (hji : j ≤ i) (hil : i < ys.length) {u v : Int} (hu : ys[j - 1]? = some u) (hv : ys[j]? = some v) (hlt : v < u) : Almost ((ys.set (j - 1) v).set j u) i (j - 1) := by
  refine ⟨fun a b x y hab hb ha0 hb0 ha hb' => ?_, fun b x y hjb hb ha hb' => ?_⟩
  · rw [swap_get ys j hj (by omega)] at ha hb'
    rw [if_neg ha0] at ha
    rw [if_neg hb0] at hb'
    by_cases h1 : a = j
    · rw [if_pos h1] at ha
      cases ha
      rw [if_neg (by omega)] at hb'
      exact h.off (j - 1) b u y (by omega) hb (by omega) (by omega) hu hb'
    · rw [if_neg h1] at ha
      by_cases h2 : b = j
      · rw [if_pos h2] at hb'
        cases hb'
        exact h.off a (j - 1) x u (by omega) (by omega) h1 (by omega) ha hu
      · rw [if_neg h2] at hb'
        exact h.off a b x y hab hb h1 h2 ha hb'
  · rw [swap_get ys j hj (by omega)] at ha hb'
    rw [if_neg (by omega), if_pos rfl] at ha
    cases ha
    by_cases h1 : b = j
    · rw [if_pos h1] at hb'
      cases hb'
      omega
    · rw [if_neg h1, if_neg (by omega)] at hb'
      exact h.on b v y (by omega) hb hv hb'
theorem cnt_set (y l : Int) : ∀ (ys : List Int) (i : Nat) (z : Int), ys[i]? = some z → cnt (ys.set i y) l = cnt ys l + (if y = l then 1 else 0) - (if z = l then 1 else 0) := by
  intro ys
  induction ys with
  | nil => intro i z h; simp at h
  | cons a ys ih =>
    intro i z h
    cases i with
    | zero => simp at h; subst h; simp only [List.set_cons_zero, cnt_cons]; omega
    | succ i =>
      have := ih i z (by simpa using h)
      simp only [List.set_cons_succ, cnt_cons, this]
      omega
theorem cnt_swap (ys : List Int) (j : Nat) (hj : 0 < j) {u v : Int} (hu : ys[j - 1]? = some u) (hv : ys[j]? = some v) (l : Int) : cnt ((ys.set (j - 1) v).set j u) l = cnt ys l := by
  have h1 := cnt_set v l ys (j - 1) u hu
  have h2 : (ys.set (j - 1) v)[j]? = some v := by rw [List.getElem?_set_ne (by omega)]; exact hv
  have h3 := cnt_set u l _ j v h2
  omega
/-- A run's end. -/
theorem run_split {ys : List Int} {i j : Nat} {x : Int} (hs : SortedTo ys ys.length) (hij : i < j) (hj : j ≤ ys.length) (hall : ∀ t, i ≤ t → t < j → ys[t]? = some x) (hend : ∀ y, ys[j]? = some y → y ≠ x) :
    ys.drop i = List.replicate (j - i) x ++ ys.drop j ∧ ∀ y ∈ ys.drop j, x < y := by
  constructor
  · apply List.ext_getElem?
    intro t
    rw [List.getElem?_drop, List.getElem?_append]
    simp only [List.length_replicate]
    by_cases h : t < j - i
    · rw [if_pos h, hall (i + t) (by omega) (by omega), List.getElem?_replicate, if_pos h]
    · rw [if_neg h, List.getElem?_drop]
      congr 1
      omega
  · intro y hy
    obtain ⟨t, ht⟩ := List.getElem?_of_mem hy
    rw [List.getElem?_drop] at ht
    have htl := (List.getElem?_eq_some_iff.1 ht).1
    have hx := hall (j - 1) (by omega) (by omega)
    obtain ⟨z, hz⟩ : ∃ z, ys[j]? = some z := ⟨_, List.getElem?_eq_getElem (by omega)⟩
    have h1 := hs (j - 1) j x z (by omega) (by omega) hx hz
    have h2 := hend z hz
    by_cases h0 : t = 0
    · subst h0
      rw [Nat.add_zero, hz] at ht
      cases ht
      omega
    · have := hs j (j + t) z y (by omega) (by omega) hz ht
      omega
theorem sortedTo_one (ys : List Int) : SortedTo ys 1 := by intro a b x y hab hb; omega
theorem Counted.next {ls : List (Int × Int)} {k m : Nat} {x : Int} {rest : List Int} (h : Counted (ls.drop k) (cnt (List.replicate m x ++ rest))) (hm : 0 < m) (hr : ∀ y ∈ rest, x < y) :
    k < ls.length ∧ ls[k]? = some (x, (m : Int)) ∧ Counted (ls.drop (k + 1)) (cnt rest) := by
  obtain ⟨ls', h1, h2⟩ := h.run hm hr
  have hk : k < ls.length := by
    by_cases hk : k < ls.length
    · exact hk
    · rw [List.drop_eq_nil_of_le (by omega)] at h1; simp at h1
  have h3 : ls.drop (k + 1) = ls' := by
    have := congrArg List.tail h1
    simpa [List.tail_drop] using this
  refine ⟨hk, ?_, by rw [h3]; exact h2⟩
  have := congrArg (fun l => l[0]?) h1
  simpa [List.getElem?_drop] using this
end Go.Proofs.Qxb6612256a
