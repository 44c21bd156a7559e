import Derived.Test.Qxb6612240aMaj
import Derived.Maps.RangeRun
namespace Go.Proofs.Qxb6612240a
open Go.RowKit Go.MapKept
open Go.ChangeMaps (setBlock)

theorem len_le {κ : Type} [DecidableEq κ] : ∀ (a b : List κ), a.Nodup → (∀ x ∈ a, x ∈ b) → a.length ≤ b.length
  | [], _, _, _ => Nat.zero_le _
  | x :: a, b, hn, hs => by
    have hn' := List.nodup_cons.1 hn
    have hx : x ∈ b := hs x List.mem_cons_self
    have h1 := len_le a (b.erase x) hn'.2 fun y hy => (List.mem_erase_of_ne (show y ≠ x from fun e => hn'.1 (e ▸ hy))).2 (hs y (List.mem_cons_of_mem _ hy))
    rw [List.length_erase_of_mem hx] at h1
    have := List.length_pos_of_mem hx
    simp only [List.length_cons]
    omega

section
variable {κ : Type} [DecidableEq κ] {k0 : KeyKind κ} {P : Program}
/-- Block r is an iterator over the map at bm, whose keys are 'keys'; those on S have come. -/
structure IterAt (w : World) (r bm : Nat) (keys S : List κ) : Prop where
  ex : ∃ seen c, w.heap[r]? = some (.mapIter (some bm) keys.length seen c) ∧ keys.length ≤ c ∧ seen.size = S.length ∧ (∀ i k, keys[i]? = some k → (i ∈ seen ↔ k ∈ S))
  nodup : S.Nodup
  sub : ∀ k ∈ S, k ∈ keys
def leftN (r n : Nat) (w : World) : Nat := match w.heap[r]? with | some (.mapIter _ _ seen _) => n - seen.size | _ => 0
omit [DecidableEq κ] in
theorem IterAt.left {w : World} {r bm : Nat} {keys S : List κ} (h : IterAt w r bm keys S) (n : Nat) : leftN r n w = n - S.length := by
  obtain ⟨seen, c, h1, _, h2, _⟩ := h.ex
  simp [leftN, h1, h2]
theorem IterAt.len {w : World} {r bm : Nat} {keys S : List κ} (h : IterAt w r bm keys S) : S.length ≤ keys.length := len_le S keys h.nodup h.sub
omit [DecidableEq κ] in
theorem IterAt.of_block {w w' : World} {r bm : Nat} {keys S : List κ} (h : IterAt w r bm keys S) (e : w'.heap[r]? = w.heap[r]?) : IterAt w' r bm keys S := ⟨by rw [e]; exact h.ex, h.nodup, h.sub⟩
omit [DecidableEq κ] in
theorem IterAt.start (w : World) (bm : Nat) (keys : List κ) : IterAt (w.alloc (.mapIter (some bm) keys.length #[] keys.length)) w.heap.size bm keys ([] : List κ) :=
  ⟨⟨#[], keys.length, (MapKept.heap_alloc _ _).1, Nat.le_refl _, rfl, fun i k _ => by simp⟩, List.nodup_nil, fun k hk => by simp at hk⟩

theorem ents_born (keys : List κ) (val : κ → Value) : ((entsOf k0 keys val).map (·.born)).Nodup := by
  have : (entsOf k0 keys val).map (·.born) = List.range keys.length := by
    unfold entsOf
    rw [List.map_map]
    apply List.ext_getElem?
    intro i
    rw [List.getElem?_map, List.getElem?_zipIdx]
    by_cases hi : i < keys.length
    · simp [hi]
    · simp [hi]
  rw [this]
  exact List.nodup_range
theorem mem_ents {keys : List κ} {val : κ → Value} {e : MapEntry} (h : e ∈ entsOf k0 keys val) : ∃ k, keys[e.born]? = some k ∧ e.key = k0.K k ∧ e.val = val k := by
  obtain ⟨j, hj⟩ := List.getElem?_of_mem h
  rw [entsOf_get] at hj
  cases hk : keys[j]? with
  | none => rw [hk] at hj; simp at hj
  | some k =>
    rw [hk] at hj
    simp at hj
    subst hj
    exact ⟨k, hk, rfl, rfl⟩
theorem range_iter {w : World} {bm : Nat} {keys : List κ} {val : κ → Value} {t kt e : TypeId} (ht : P.underlying t = some (.map kt e)) (h : MapIs k0 w bm keys val) :
    (Instr.range t (.map (some bm))).run P w = .ok (.pointer (some ⟨w.heap.size, 0, none⟩)) (w.alloc (.mapIter (some bm) keys.length #[] keys.length)) :=
  run_range_map w t kt e bm _ _ ht (show w.heap[bm]? = some (.map (entsOf k0 keys val).toArray keys.length) from h.block)
/-- The step. -/
theorem next_iter {w : World} {r bm : Nat} {keys S : List κ} {val : κ → Value} (ty : TypeId) (hr : r ≠ bm) (h : MapIs k0 w bm keys val) (hi : IterAt w r bm keys S) :
    ((∀ k ∈ keys, k ∈ S) ∧ (Instr.next (.pointer (some ⟨r, 0, none⟩)) false ty).run P w = .ok (.tuple #[.bool false]) w) ∨
    ∃ (k : κ) (w' : World), k ∈ keys ∧ k ∉ S ∧ (Instr.next (.pointer (some ⟨r, 0, none⟩)) false ty).run P w = .ok (.tuple #[.bool true, k0.K k, val k]) w' ∧ IterAt w' r bm keys (S ++ [k]) ∧ w.grownBy w' (some r) ∧ w'.heap.size = w.heap.size ∧
      (Instr.entry (.pointer (some ⟨r, 0, none⟩))).run P w' = .ok (.tuple #[k0.K k, val k]) w' := by
  obtain ⟨⟨seen, c, h1, h2, h3, h4⟩, hn, hs⟩ := hi
  have hb : w.heap[bm]? = some (.map (entsOf k0 keys val).toArray keys.length) := h.block
  have hold : ∀ x ∈ (entsOf k0 keys val).toArray.toList, x.born < keys.length := by
    intro x hx
    obtain ⟨k, hk, _⟩ := mem_ents (by simpa using hx)
    exact (List.getElem?_eq_some_iff.1 hk).1
  rcases run_next_at (P := P) w ty r bm keys.length c seen _ _ h1 hb hold h2 with ⟨h0, hrun⟩ | ⟨e, he, w1, hw1, hrun⟩
  · refine .inl ⟨fun k hk => ?_, hrun⟩
    obtain ⟨i, hi⟩ := List.getElem?_of_mem hk
    refine (h4 i k hi).1 ?_
    have he : (entsOf k0 keys val)[i]? = some { key := k0.K k, val := val k, born := i } := by rw [entsOf_get, hi]; rfl
    have hmem := List.mem_of_getElem? he
    have h00 : leftOf (entsOf k0 keys val).toArray seen = #[] := Array.eq_empty_of_size_eq_zero h0
    unfold leftOf at h00
    rw [Array.filter_eq_empty_iff] at h00
    have := h00 _ (by simpa using hmem)
    simpa using this
  · have hmem : e ∈ entsOf k0 keys val ∧ e.born ∉ seen := by
      unfold leftOf at he
      simpa using he
    obtain ⟨k, hk, hkey, hval⟩ := mem_ents hmem.1
    have hkS : k ∉ S := fun hks => hmem.2 ((h4 _ k hk).2 hks)
    have hkk : k ∈ keys := List.mem_of_getElem? hk
    rw [hkey, hval] at hrun
    have hg1 : w.grownBy w1 (some r) := by rcases hw1 with rfl | rfl <;> exact ⟨rfl, rfl, rfl, Nat.le_refl _, fun _ _ _ => rfl⟩
    have hsz1 : w1.heap.size = w.heap.size := by rcases hw1 with rfl | rfl <;> rfl
    have hr1 : w1.heap[r]? = some (.mapIter (some bm) keys.length seen c) := by rcases hw1 with rfl | rfl <;> exact h1
    have hb1 : w1.heap[bm]? = some (.map (entsOf k0 keys val).toArray keys.length) := by rcases hw1 with rfl | rfl <;> exact hb
    have hrlt : r < w1.heap.size := (Array.getElem?_eq_some_iff.1 hr1).1
    have hg2 := setBlock_grown w1 r (.mapIter (some bm) keys.length (seen.push e.born) keys.length)
    have hr2 : (setBlock w1 r (.mapIter (some bm) keys.length (seen.push e.born) keys.length)).heap[r]? = some (.mapIter (some bm) keys.length (seen.push e.born) keys.length) := by
      simp [setBlock, hrlt]
    have hb2 := (heap_setBlock_other (w := w1) (.mapIter (some bm) keys.length (seen.push e.born) keys.length) (Ne.symm hr)).trans hb1
    refine .inr ⟨k, _, hkk, hkS, hrun, ⟨⟨_, _, hr2, Nat.le_refl _, by simp [h3], ?_⟩, ?_, ?_⟩, ⟨by rw [hg2.os, hg1.os], by rw [hg2.tape, hg1.tape], by rw [hg2.output, hg1.output], Nat.le_trans hg1.size hg2.size, fun i hi hne => (hg2.block i (by omega) hne).trans (hg1.block i hi hne)⟩, by rw [size_setBlock, hsz1], ?_⟩
    · intro i k' hk'
      rw [Array.mem_push, List.mem_append, List.mem_singleton, h4 i k' hk']
      have : i = e.born ↔ k' = k := by
        constructor
        · rintro rfl
          rw [hk] at hk'
          exact (Option.some.inj hk').symm
        · rintro rfl
          obtain ⟨a1, a2⟩ := List.getElem?_eq_some_iff.1 hk
          obtain ⟨b1, b2⟩ := List.getElem?_eq_some_iff.1 hk'
          have hp := List.pairwise_iff_getElem.1 h.nodup
          rcases Nat.lt_trichotomy i e.born with hlt | heq | hgt
          · exact absurd (b2.trans a2.symm) (hp i _ b1 a1 hlt)
          · exact heq
          · exact absurd (a2.trans b2.symm) (hp _ i a1 b1 hgt)
      rw [this]
    · exact List.nodup_append.2 ⟨hn, by simp, fun a ha b hb' => by simp at hb'; subst hb'; exact fun e' => hkS (e' ▸ ha)⟩
    · intro k' hk'
      rcases List.mem_append.1 hk' with h' | h'
      · exact hs k' h'
      · simp at h'; subst h'; exact hkk
    · have := run_entry_at (P := P) _ r bm keys.length seen _ keys.length e hr2 hb2 (by simpa using hmem.1) (by simpa using ents_born (k0 := k0) keys val)
      rw [hkey, hval] at this
      exact this
end
end Go.Proofs.Qxb6612240a
