import Derived.Test.Qxb6612240aPlain
import Derived.Test.Qxb6612240aStep
import Derived.Deep.Light
namespace Go.Proofs.Qxb6612240a
open Go.RowKit

theorem flatMap_get {α : Type} (cs : α → List Value) (sz : Nat) (hcs : ∀ x, (cs x).length = sz) : ∀ (l : List α) (i : Nat) (x : α), l[i]? = some x → ∀ j u, (cs x)[j]? = some u → (l.flatMap cs)[i * sz + j]? = some u := by
  intro l
  induction l with
  | nil => intro i x h; simp at h
  | cons y l ih =>
    intro i x h j u hj
    have hjl : j < sz := by have := (List.getElem?_eq_some_iff.1 hj).1; rw [hcs] at this; exact this
    cases i with
    | zero =>
      simp at h
      subst h
      simp only [List.flatMap_cons, Nat.zero_mul, Nat.zero_add]
      rw [List.getElem?_append_left (by rw [hcs]; exact hjl)]
      exact hj
    | succ i =>
      simp at h
      have := ih i x h j u hj
      simp only [List.flatMap_cons]
      rw [List.getElem?_append_right (by rw [hcs, Nat.succ_mul]; omega), hcs, show (i + 1) * sz + j - sz = i * sz + j from by rw [Nat.succ_mul]; omega]
      exact this

/-- What a row of the call's own holds, as a list in memory. -/
theorem ownsRow_rowAt {α : Type} {w : World} {base : Nat} {e : TypeId} {sz : Nat} {v : Value} {l : List α} (cs : α → List Value) (hcs : ∀ x, (cs x).length = sz) (h : w.ownsRow base e sz v l.length (l.flatMap cs)) :
    ∃ ao cap, v = .slice ao l.length cap ∧ RowAt w ao sz cs l := by
  rcases h.2 with ⟨rfl, hn⟩ | ⟨g, cap, cur, rfl, hb, hh, _, _, _, htake⟩
  · refine ⟨none, 0, by rw [hn], fun i x hi => ?_⟩
    have := List.eq_nil_of_length_eq_zero hn
    subst this
    simp at hi
  · refine ⟨_, cap, rfl, fun i x hi => ⟨g, 0, rfl, fun j u hj => ?_⟩⟩
    have h1 := flatMap_get cs sz hcs l i x hi j u hj
    have h2 := World.ownsRow.cells h (g := g) rfl (i * sz + j) u h1
    have e : (⟨g, 0, none⟩ : Addr).add (i * sz + j) = ⟨g, 0 + i * sz + j, none⟩ := by unfold Addr.add; split <;> simp_all
    rw [e] at h2
    exact h2

def u64Cells (s : Int) : List Value := [.int .u64 s]

theorem new_cells (w : World) (xs : List Value) (t : TypeId) : ∀ j u, xs[j]? = some u → (w.alloc (.cells xs.toArray t)).cell? ((⟨w.heap.size, 0, none⟩ : Addr).add j) = some u := by
  intro j u hj
  have e : (⟨w.heap.size, 0, none⟩ : Addr).add j = ⟨w.heap.size, j, none⟩ := by unfold Addr.add; split <;> simp_all
  rw [e]
  simp [World.cell?_alloc_at, hj]
theorem flatMap_snoc {α : Type} (f : α → List Value) (l : List α) (x : α) : (l ++ [x]).flatMap f = l.flatMap f ++ f x := by simp [List.flatMap_append]
end Go.Proofs.Qxb6612240a
