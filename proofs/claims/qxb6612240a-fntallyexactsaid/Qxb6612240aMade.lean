import Derived.Test.Qxb6612240aRowOwn
namespace Go.Proofs.Qxb6612240a
open Go.RowKit

/-! ### Stores into a row of the call's own -/
def setAt (xs : List Value) (o : Nat) : List Value → List Value
  | [] => xs
  | u :: us => setAt (xs.set o u) (o + 1) us
def storeAt (w : World) (g o : Nat) : List Value → World
  | [] => w
  | u :: us => storeAt (w.setCell ⟨g, o, none⟩ u) g (o + 1) us

theorem setAt_length (us : List Value) : ∀ (xs : List Value) (o : Nat), (setAt xs o us).length = xs.length := by
  induction us with
  | nil => intro xs o; rfl
  | cons u us ih => intro xs o; rw [setAt, ih]; simp
theorem setAt_before (us : List Value) : ∀ (xs : List Value) (o i : Nat), i < o → (setAt xs o us)[i]? = xs[i]? := by
  induction us with
  | nil => intro xs o i _; rfl
  | cons u us ih => intro xs o i h; rw [setAt, ih _ _ _ (by omega), List.getElem?_set_ne (by omega)]
theorem setAt_at (us : List Value) : ∀ (xs : List Value) (o j : Nat) (u : Value), us[j]? = some u → o + us.length ≤ xs.length → (setAt xs o us)[o + j]? = some u := by
  induction us with
  | nil => intro xs o j u h; simp at h
  | cons v us ih =>
    intro xs o j u h hl
    simp only [List.length_cons] at hl
    cases j with
    | zero =>
      simp at h
      subst h
      rw [setAt, setAt_before _ _ _ _ (by omega)]
      rw [Nat.add_zero, List.getElem?_set_self (by omega)]
    | succ j =>
      simp at h
      rw [setAt, show o + (j + 1) = o + 1 + j from by omega]
      exact ih _ _ _ _ h (by simp; omega)

theorem storeAt_owns {base : Nat} {e : TypeId} {size g n cap : Nat} (us : List Value) : ∀ {w : World} {xs : List Value} (o : Nat), w.ownsRow base e size (.slice (some ⟨g, 0, none⟩) n cap) n xs →
    (storeAt w g o us).ownsRow base e size (.slice (some ⟨g, 0, none⟩) n cap) n (setAt xs o us) ∧ w.grownBy (storeAt w g o us) (some g) ∧ (storeAt w g o us).heap.size = w.heap.size := by
  induction us with
  | nil => intro w xs o h; exact ⟨h, ⟨rfl, rfl, rfl, Nat.le_refl _, fun _ _ _ => rfl⟩, rfl⟩
  | cons u us ih =>
    intro w xs o h
    obtain ⟨h1, h2⟩ := h.stored o u
    obtain ⟨h3, h4, h5⟩ := ih (o + 1) h1
    exact ⟨h3, h2.trans h4, h5.trans (by simp [World.setCell])⟩

/-- The first k elements of a made row have been filled. -/
def Filled {α : Type} (cs : α → List Value) (sz : Nat) (done : List α) (xs : List Value) : Prop := ∀ i x, done[i]? = some x → ∀ j u, (cs x)[j]? = some u → xs[i * sz + j]? = some u
theorem Filled.nil {α : Type} (cs : α → List Value) (sz : Nat) (xs : List Value) : Filled cs sz ([] : List α) xs := by intro i x h; simp at h
theorem Filled.step {α : Type} {cs : α → List Value} {sz : Nat} (hcs : ∀ x, (cs x).length = sz) {l : List α} {k : Nat} {x : α} {xs : List Value} (h : Filled cs sz (l.take k) xs) (hx : l[k]? = some x) (hl : k * sz + sz ≤ xs.length) :
    Filled cs sz (l.take (k + 1)) (setAt xs (k * sz) (cs x)) := by
  have hk : k < l.length := (List.getElem?_eq_some_iff.1 hx).1
  intro i y hi j u hj
  have hjl : j < sz := by have := (List.getElem?_eq_some_iff.1 hj).1; rw [hcs] at this; exact this
  rw [take_get hx] at hi
  by_cases hik : i < k
  · rw [List.getElem?_append_left (by simp; omega)] at hi
    rw [setAt_before _ _ _ _ (by have : (i + 1) * sz ≤ k * sz := Nat.mul_le_mul_right _ hik; rw [Nat.succ_mul] at this; omega)]
    exact h i y hi j u hj
  · rw [List.getElem?_append_right (by simp; omega)] at hi
    have e : i - (l.take k).length = 0 := by
      by_cases h0 : i - (l.take k).length = 0
      · exact h0
      · rw [List.getElem?_eq_none (by simp; simp at h0; omega)] at hi; simp at hi
    have hik' : i = k := by simp at e; omega
    subst hik'
    rw [e] at hi
    simp at hi
    subst hi
    exact setAt_at _ _ _ _ _ hj (by rw [hcs]; exact hl)
/-- A row all of whose elements are filled is a list in memory. -/
theorem Filled.rowAt {α : Type} {cs : α → List Value} {sz : Nat} (hcs : ∀ x, (cs x).length = sz) {l : List α} {xs : List Value} {w : World} {base : Nat} {e : TypeId} {g n : Nat} (h : Filled cs sz l xs) (hl : l.length = n)
    (hown : w.ownsRow base e sz (.slice (some ⟨g, 0, none⟩) n n) n xs) : RowAt w (some ⟨g, 0, none⟩) sz cs l := by
  intro i x hi
  refine ⟨g, 0, rfl, fun j u hj => ?_⟩
  have hjl : j < sz := by have := (List.getElem?_eq_some_iff.1 hj).1; rw [hcs] at this; exact this
  have hil : i < n := by have := (List.getElem?_eq_some_iff.1 hi).1; omega
  have h1 := h i x hi j u hj
  have h2 := hown.cellAt (i * sz + j) (by have : (i + 1) * sz ≤ n * sz := Nat.mul_le_mul_right _ hil; rw [Nat.succ_mul] at this; omega)
  simp only [Nat.zero_add]
  rw [h2, h1]

/-! ### What stays while a row is written -/
/-- The blocks from number lo on are as they were. -/
def Keep (lo : Nat) (w w' : World) : Prop := ∀ k, lo ≤ k → k < w.heap.size → w'.heap[k]? = w.heap[k]?
theorem Keep.refl (lo : Nat) (w : World) : Keep lo w w := fun _ _ _ => rfl
theorem Keep.of_below {lo : Nat} {w w' : World} (h : Below w.heap.size w w') : Keep lo w w' := fun k _ hk => h.block k hk
theorem Keep.of_grown {lo g : Nat} {w w' : World} (h : w.grownBy w' (some g)) (hg : g < lo) : Keep lo w w' := fun k hk hs => h.block k hs (fun e => by cases e; omega)
theorem Keep.cell {lo : Nat} {w w' : World} (h : Keep lo w w') {b o : Nat} {x : Value} (hb : lo ≤ b) (hc : w.cell? ⟨b, o, none⟩ = some x) : w'.cell? ⟨b, o, none⟩ = some x :=
  (World.cell?_of_block (a := ⟨b, o, none⟩) (h b hb (lt_of_cell hc))).trans hc
theorem Keep.rowAt {α : Type} {cs : α → List Value} {sz lo g : Nat} {l : List α} {w w' : World} (h : Keep lo w w') (hg : lo ≤ g) (hr : RowAt w (some ⟨g, 0, none⟩) sz cs l) : RowAt w' (some ⟨g, 0, none⟩) sz cs l := by
  intro i x hi
  obtain ⟨b, off, e, hc⟩ := hr i x hi
  cases e
  exact ⟨g, 0, rfl, fun j u hj => h.cell hg (hc j u hj)⟩
theorem Below.of_grown {B g : Nat} {w w' : World} (h : w.grownBy w' (some g)) (hg : B ≤ g) (hB : B ≤ w.heap.size) : Below B w w' :=
  (Below.refl B w).grown h hB (fun k hk => by cases hk; exact hg)

/-- 'make([]T, n)': a row of its own. -/
theorem made_len (z : Array Value) (n : Nat) : (madeCells z n).toList.length = n := by simp [size_madeCells]
end Go.Proofs.Qxb6612240a
