import Derived.Test.Qxb6612256aDel
import Derived.Deep.RegionHeld3
namespace Go.Proofs.Qxb6612256a
open Go.RowKit Go.MapKept
open Go.ChangeMaps (setBlock)

/-! ### The counted lengths -/
def addLen : List (Int × Int) → Int → Int → List (Int × Int)
  | [], l, k => [(l, k)]
  | p :: ls, l, k => if p.1 < l then p :: addLen ls l k else if p.1 = l then (if p.2 + k = 0 then ls else (l, p.2 + k) :: ls) else (l, k) :: p :: ls

theorem addLen_ins (l k : Int) : ∀ (ls : List (Int × Int)) (i : Nat), i ≤ ls.length → (∀ j p, j < i → ls[j]? = some p → p.1 < l) → (∀ p, ls[i]? = some p → l < p.1) → addLen ls l k = insAt ls i (l, k) := by
  intro ls
  induction ls with
  | nil => intro i hi _ _; simp at hi; subst hi; rfl
  | cons q ls ih =>
    intro i hi h1 h2
    cases i with
    | zero =>
      have := h2 q rfl
      have a1 : ¬ q.1 < l := by omega
      have a2 : ¬ q.1 = l := by omega
      simp [addLen, insAt, a1, a2]
    | succ i =>
      have := h1 0 q (by omega) rfl
      have hh := ih i (by simpa using hi) (fun j p hj hp => h1 (j + 1) p (by omega) (by simpa using hp)) (fun p hp => h2 p (by simpa using hp))
      simp only [addLen, this, if_true, hh]
      simp [insAt]
theorem addLen_del (l k : Int) : ∀ (ls : List (Int × Int)) (i : Nat) (p : Int × Int), ls[i]? = some p → (∀ j p, j < i → ls[j]? = some p → p.1 < l) → p.1 = l → p.2 + k = 0 → addLen ls l k = ls.eraseIdx i := by
  intro ls
  induction ls with
  | nil => intro i p hp; simp at hp
  | cons q ls ih =>
    intro i p hp h1 hl hk
    cases i with
    | zero =>
      simp at hp
      subst hp
      simp [addLen, hl, hk]
    | succ i =>
      have := h1 0 q (by omega) rfl
      have hh := ih i p (by simpa using hp) (fun j p hj hp => h1 (j + 1) p (by omega) (by simpa using hp)) hl hk
      simp only [addLen, this, if_true, hh]
      simp
theorem addLen_set (l k : Int) : ∀ (ls : List (Int × Int)) (i : Nat) (p : Int × Int), ls[i]? = some p → (∀ j p, j < i → ls[j]? = some p → p.1 < l) → p.1 = l → p.2 + k ≠ 0 → addLen ls l k = ls.set i (l, p.2 + k) := by
  intro ls
  induction ls with
  | nil => intro i p hp; simp at hp
  | cons q ls ih =>
    intro i p hp h1 hl hk
    cases i with
    | zero =>
      simp at hp
      subst hp
      simp [addLen, hl, hk]
    | succ i =>
      have := h1 0 q (by omega) rfl
      have hh := ih i p (by simpa using hp) (fun j p hj hp => h1 (j + 1) p (by omega) (by simpa using hp)) hl hk
      simp only [addLen, this, if_true, hh]
      simp

/-! ### What stays -/
structure Frame (S : Nat → Prop) (w w' : World) : Prop where
  os : w'.os = w.os
  tape : w'.tape = w.tape
  output : w'.output = w.output
  size : w.heap.size ≤ w'.heap.size
  block : ∀ k, k < w.heap.size → ¬ S k → w'.heap[k]? = w.heap[k]?
theorem Frame.refl (S : Nat → Prop) (w : World) : Frame S w w := ⟨rfl, rfl, rfl, Nat.le_refl _, fun _ _ _ => rfl⟩
theorem Frame.trans {S : Nat → Prop} {a b c : World} (h : Frame S a b) (k : Frame S b c) : Frame S a c :=
  ⟨k.os.trans h.os, k.tape.trans h.tape, k.output.trans h.output, Nat.le_trans h.size k.size, fun x hx hs => (k.block x (Nat.lt_of_lt_of_le hx h.size) hs).trans (h.block x hx hs)⟩
theorem Frame.mono {S T : Nat → Prop} {a b : World} (h : Frame S a b) (k : ∀ x, x < a.heap.size → S x → T x) : Frame T a b :=
  ⟨h.os, h.tape, h.output, h.size, fun x hx hs => h.block x hx (fun s => hs (k x hx s))⟩
theorem Frame.of_below {S : Nat → Prop} {a b : World} (h : Below a.heap.size a b) : Frame S a b := ⟨h.os, h.tape, h.output, h.size, fun x hx _ => h.block x hx⟩
theorem Frame.of_grown {S : Nat → Prop} {a b : World} {r : Option Nat} (h : a.grownBy b r) (k : ∀ x, r = some x → S x) : Frame S a b :=
  ⟨h.os, h.tape, h.output, h.size, fun x hx hs => h.block x hx (fun e => hs (k x e.symm))⟩
theorem Frame.below {S : Nat → Prop} {a b : World} {B : Nat} (h : Frame S a b) (hB : B ≤ a.heap.size) (k : ∀ x, S x → B ≤ x) : Below B a b :=
  ⟨h.os, h.tape, h.output, h.size, fun x hx => h.block x (by omega) (fun s => by have := k x s; omega)⟩
theorem grown_setCell (w : World) (g o : Nat) (v : Value) : w.grownBy (w.setCell ⟨g, o, none⟩ v) (some g) := by
  refine ⟨rfl, rfl, rfl, by simp [World.setCell], fun k hk hne => ?_⟩
  have : k ≠ g := fun e => hne (by rw [e])
  simp only [World.setCell]
  rw [Array.getElem?_modify, if_neg (Ne.symm this)]
theorem heap_setCell {w : World} {g o : Nat} {v : Value} {cur : List Value} {t : TypeId} (hg : w.heap[g]? = some (.cells cur.toArray t (0, 0))) : (w.setCell ⟨g, o, none⟩ v).heap[g]? = some (.cells (cur.set o v).toArray t (0, 0)) := by
  simp only [World.setCell]
  rw [Array.getElem?_modify, if_pos rfl, hg]
  simp
end Go.Proofs.Qxb6612256a
