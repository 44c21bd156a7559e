import Derived.Test.Qxb6612256aNew
import Derived.Test.Qxb6612256aPln
namespace Go.Proofs.Qxb6612256a
open Go.RowKit Go.MapKept
open Go.ChangeMaps (setBlock)

/-! ### The history, built -/
structure GE where
  g : Gr
  n : Int
  m : Nat
  wt : Nat
def ents (E : List GE) : List FEnt := E.zipIdx.map fun p => ⟨p.1.g.filt, p.1.m, p.2⟩
theorem ents_snoc (E : List GE) (e : GE) : ents (E ++ [e]) = ents E ++ [⟨e.g.filt, e.m, E.length⟩] := by
  simp [ents, List.zipIdx_append]
theorem ents_get (E : List GE) (j : Nat) : (ents E)[j]? = (E[j]?).map fun e => ⟨e.g.filt, e.m, j⟩ := by
  simp [ents, List.getElem?_map, List.getElem?_zipIdx]
  cases E[j]? <;> simp
theorem mem_ents {E : List GE} {x : FEnt} (h : x ∈ ents E) : ∃ e ∈ E, x.f = e.g.filt ∧ x.m = e.m := by
  obtain ⟨j, hj⟩ := List.getElem?_of_mem h
  rw [ents_get] at hj
  cases he : E[j]? with
  | none => rw [he] at hj; simp at hj
  | some e => rw [he] at hj; simp at hj; subst hj; exact ⟨e, List.mem_of_getElem? he, rfl, rfl⟩
theorem ents_mem {E : List GE} {e : GE} (h : e ∈ E) : ∃ x ∈ ents E, x.f = e.g.filt ∧ x.m = e.m := by
  obtain ⟨j, hj⟩ := List.getElem?_of_mem h
  have : (ents E)[j]? = some ⟨e.g.filt, e.m, j⟩ := by rw [ents_get, hj]; rfl
  exact ⟨_, List.mem_of_getElem? this, rfl, rfl⟩

structure BI (w : World) (B hb mb wb n : Nat) (v : Value) (E : List GE) (xs : List Value) (ls : List (Int × Int)) : Prop where
  len : LenAt w B hb (hist mb v) v ls
  fis : FIs w mb (ents E) E.length
  row : w.ownsRow B 33 1 (.slice (some ⟨wb, 0, none⟩) n n) n xs
  ptr : ∀ (j : Nat) (e : GE), E[j]? = some e → xs[j]? = some (Value.pointer (some ⟨e.wt, 0, none⟩))
  grp : ∀ e ∈ E, w.heap[e.m]? = some (.cells (gcells e.n).toArray 70 (0, 0))
  wat : ∀ e ∈ E, w.heap[e.wt]? = some (.cells (wcells e.g.filt e.m).toArray 74 (0, 0))
  apart : (E.map (·.m)).Nodup
  low : ∀ e ∈ E, B ≤ e.m

theorem ne_of_obj {w : World} {b b' : Nat} {o o' : Obj} (h : w.heap[b]? = some o) (h' : w.heap[b']? = some o') (hne : o ≠ o') : b ≠ b' := by
  intro e
  subst e
  rw [h] at h'
  exact hne (Option.some.inj h')
theorem own_block {w : World} {B e sz n : Nat} {v : Value} {xs : List Value} (h : w.ownsRow B e sz v n xs) {g : Nat} (hg : v.ownBlock = some g) : ∃ cur, w.heap[g]? = some (.cells cur e (0, 0)) ∧ B ≤ g := by
  rcases h.2 with ⟨rfl, _⟩ | ⟨g', cap, c, rfl, h2, h3, _⟩
  · simp [Value.ownBlock] at hg
  · simp [Value.ownBlock] at hg
    subst hg
    exact ⟨_, h3, h2⟩
theorem own_keep {w w' : World} {B e sz n : Nat} {v : Value} {xs : List Value} (h : w.ownsRow B e sz v n xs) (k : ∀ g, v.ownBlock = some g → w'.heap[g]? = w.heap[g]?) : w'.ownsRow B e sz v n xs := by
  refine ⟨h.1, ?_⟩
  rcases h.2 with h1 | ⟨g, cap, c, rfl, h2, h3, h4⟩
  · exact .inl h1
  · exact .inr ⟨g, cap, c, rfl, h2, (k g rfl).trans h3, h4⟩
theorem LenAt.frame {S : Nat → Prop} {w w' : World} {B hb : Nat} {cur : List Value} {v : Value} {ls : List (Int × Int)} (h : LenAt w B hb cur v ls) (k : Frame S w w') (h1 : ¬ S hb) (h2 : ∀ g, v.ownBlock = some g → ¬ S g) : LenAt w' B hb cur v ls :=
  ⟨(k.block hb h.lt h1).trans h.blk, h.len, h.sl, own_keep h.own (fun g hg => k.block g (h.own_lt hg).1 (h2 g hg)), h.asc, h.small, Nat.le_trans h.low k.size⟩

/-- The same history under another frame. -/
theorem BI.rest {S : Nat → Prop} {w w' : World} {B hb mb wb n : Nat} {v : Value} {E : List GE} {xs : List Value} {ls : List (Int × Int)} (h : BI w B hb mb wb n v E xs ls) (k : Frame S w w')
    (hS : ∀ x o, w.heap[x]? = some o → S x → (∃ a c, o = .map a c) ∨ (∃ c, o = .cells c 33 (0, 0)) ∨ (∃ c, o = .cells c 66 (0, 0)) ∨ (∃ c, o = .cells c 80 (0, 0))) :
    (∀ e ∈ E, w'.heap[e.m]? = some (.cells (gcells e.n).toArray 70 (0, 0))) ∧ (∀ e ∈ E, w'.heap[e.wt]? = some (.cells (wcells e.g.filt e.m).toArray 74 (0, 0))) := by
  constructor
  · intro e he
    have h1 := h.grp e he
    refine (k.block e.m (Array.getElem?_eq_some_iff.1 h1).1 (fun s => ?_)).trans h1
    rcases hS _ _ h1 s with ⟨a, c, e⟩ | ⟨c, e⟩ | ⟨c, e⟩ | ⟨c, e⟩ <;> simp at e
  · intro e he
    have h1 := h.wat e he
    refine (k.block e.wt (Array.getElem?_eq_some_iff.1 h1).1 (fun s => ?_)).trans h1
    rcases hS _ _ h1 s with ⟨a, c, e⟩ | ⟨c, e⟩ | ⟨c, e⟩ | ⟨c, e⟩ <;> simp at e

theorem BI.row_block {w : World} {B hb mb wb n : Nat} {v : Value} {E : List GE} {xs : List Value} {ls : List (Int × Int)} (h : BI w B hb mb wb n v E xs ls) : ∃ cur, w.heap[wb]? = some (.cells cur 33 (0, 0)) ∧ B ≤ wb := own_block h.row rfl

/-- A group more, its watcher stored. -/
theorem BI.added {w w1 : World} {B hb mb wb n : Nat} {v : Value} {E : List GE} {xs : List Value} {ls : List (Int × Int)} (h : BI w B hb mb wb n v E xs ls) (g : Gr) (ha : Added w mb (ents E) E.length g.filt g.wn w1) (hk : E.length < n) (hmb : B ≤ mb) :
    BI (w1.setCell ⟨wb, E.length, none⟩ (.pointer (some ⟨w.heap.size + 1, 0, none⟩))) B hb mb wb n v (E ++ [⟨g, g.wn, w.heap.size, w.heap.size + 1⟩]) (xs.set E.length (.pointer (some ⟨w.heap.size + 1, 0, none⟩))) ls ∧
      Below B w (w1.setCell ⟨wb, E.length, none⟩ (.pointer (some ⟨w.heap.size + 1, 0, none⟩))) := by
  obtain ⟨rc, hrb, hBw⟩ := h.row_block
  have hmw : mb ≠ wb := ne_of_obj h.fis.block hrb (by simp [fobj])
  have hg2 := grown_setCell w1 wb E.length (.pointer (some ⟨w.heap.size + 1, 0, none⟩))
  have hf2 : Frame (fun k => k = mb ∨ k = wb) w1 (w1.setCell ⟨wb, E.length, none⟩ (.pointer (some ⟨w.heap.size + 1, 0, none⟩))) := Frame.of_grown hg2 (fun x e => .inr (Option.some.inj e).symm)
  have hf : Frame (fun k => k = mb ∨ k = wb) w (w1.setCell ⟨wb, E.length, none⟩ (.pointer (some ⟨w.heap.size + 1, 0, none⟩))) := (ha.frame.mono (fun x _ s => .inl s)).trans hf2
  have hr1 : w1.ownsRow B 33 1 (.slice (some ⟨wb, 0, none⟩) n n) n xs := own_keep h.row (fun g' hg' => by
    simp [Value.ownBlock] at hg'
    subst hg'
    exact ha.frame.block wb (Array.getElem?_eq_some_iff.1 hrb).1 (Ne.symm hmw))
  obtain ⟨hr2, _⟩ := hr1.stored E.length (.pointer (some ⟨w.heap.size + 1, 0, none⟩))
  have hxl : xs.length = n := by have := h.row.1; omega
  have hne1 : hb ≠ mb := ne_of_obj h.len.blk h.fis.block (by simp [fobj])
  have hne2 : hb ≠ wb := ne_of_obj h.len.blk hrb (by simp)
  have hlt := Array.getElem?_eq_some_iff.1 hrb
  have hold := h.rest hf (fun x o hx s => by
    rcases s with rfl | rfl
    · rw [h.fis.block] at hx; exact .inl ⟨_, _, (Option.some.inj hx).symm⟩
    · rw [hrb] at hx; exact .inr (.inl ⟨_, (Option.some.inj hx).symm⟩))
  have hms : ∀ e ∈ E, e.m < w.heap.size := fun e he => (Array.getElem?_eq_some_iff.1 (h.grp e he)).1
  refine ⟨⟨h.len.frame hf (fun s => s.elim hne1 hne2) (fun g' hg' s => ?_), ?_, hr2, ?_, ?_, ?_, ?_, ?_⟩, ?_⟩
  · obtain ⟨c, hc, _⟩ := own_block h.len.own hg'
    rcases s with rfl | rfl
    · exact ne_of_obj hc h.fis.block (by simp [fobj]) rfl
    · exact ne_of_obj hc hrb (by simp) rfl
  · rw [ents_snoc, List.length_append]
    exact ha.fis.of_block (hg2.block mb ha.fis.lt (fun e => hmw (Option.some.inj e)))
  · intro j e hj
    rw [List.getElem?_append] at hj
    split at hj
    · next hlt => rw [List.getElem?_set_ne (by omega)]; exact h.ptr j e hj
    · next hge =>
      have : j - E.length = 0 := by
        by_cases h0 : j - E.length = 0
        · exact h0
        · rw [List.getElem?_eq_none (by simp; omega)] at hj; simp at hj
      rw [this] at hj
      simp at hj
      subst hj
      rw [show j = E.length by omega, List.getElem?_set_self (by omega)]
  · intro e he
    rcases List.mem_append.1 he with he | he
    · exact hold.1 e he
    · simp at he
      subst he
      exact (hf2.block w.heap.size (by rw [ha.size]; omega) (fun s => by have := h.fis.lt; have := hlt.1; omega)).trans ha.grp
  · intro e he
    rcases List.mem_append.1 he with he | he
    · exact hold.2 e he
    · simp at he
      subst he
      exact (hf2.block (w.heap.size + 1) (by rw [ha.size]; omega) (fun s => by have := h.fis.lt; have := hlt.1; omega)).trans ha.wat
  · rw [List.map_append]
    refine List.nodup_append.2 ⟨h.apart, by simp, fun a ha' b hb' => ?_⟩
    simp at hb'
    subst hb'
    obtain ⟨e, he, rfl⟩ := List.mem_map.1 ha'
    have := hms e he
    omega
  · intro e he
    rcases List.mem_append.1 he with he | he
    · exact h.low e he
    · simp at he; subst he; exact h.len.low
  · exact hf.below h.len.low (fun x s => by rcases s with rfl | rfl; exact hmb; exact hBw)
end Go.Proofs.Qxb6612256a
