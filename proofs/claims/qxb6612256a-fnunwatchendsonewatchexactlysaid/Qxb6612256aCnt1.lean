import Derived.Test.Qxb6612256aCnt0
namespace Go.Proofs.Qxb6612256a
open Go.RowKit Go.MapKept
open Go.ChangeMaps (setBlock)

/-- What a history's lengths are: block hb holds 'cur', the slice v at 27, its row 'ls'. -/
structure LenAt (w : World) (B hb : Nat) (cur : List Value) (v : Value) (ls : List (Int × Int)) : Prop where
  blk : w.heap[hb]? = some (.cells cur.toArray 66 (0, 0))
  len : cur.length = 28
  sl : cur[27]? = some v
  own : w.ownsRow B 80 2 v ls.length (ls.flatMap lcells)
  asc : ls.Pairwise fun p q => p.1 < q.1
  small : ls.length ≤ 4096
  low : B ≤ w.heap.size
theorem LenAt.lt {w : World} {B hb : Nat} {cur : List Value} {v : Value} {ls : List (Int × Int)} (h : LenAt w B hb cur v ls) : hb < w.heap.size := (Array.getElem?_eq_some_iff.1 h.blk).1
theorem LenAt.ext {w w' : World} {B hb : Nat} {cur : List Value} {v : Value} {ls : List (Int × Int)} (h : LenAt w B hb cur v ls) (k : Below w.heap.size w w') : LenAt w' B hb cur v ls :=
  ⟨(k.block hb h.lt).trans h.blk, h.len, h.sl, by
    refine ⟨h.own.1, ?_⟩
    rcases h.own.2 with h1 | ⟨g, cap, c, h1, h2, h3, h4, h5, h6, h7⟩
    · exact .inl h1
    · exact .inr ⟨g, cap, c, h1, h2, (k.block g (Array.getElem?_eq_some_iff.1 h3).1).trans h3, h4, h5, h6, h7⟩, h.asc, h.small, Nat.le_trans h.low k.size⟩
theorem LenAt.own_ne {w : World} {B hb : Nat} {cur : List Value} {v : Value} {ls : List (Int × Int)} (h : LenAt w B hb cur v ls) : v.ownBlock ≠ some hb := by
  rcases h.own.2 with ⟨rfl, _⟩ | ⟨g, cap, c, rfl, _, h3, _⟩
  · simp [Value.ownBlock]
  · intro e
    simp [Value.ownBlock] at e
    subst e
    rw [h.blk] at h3
    simp at h3
theorem LenAt.own_lt {w : World} {B hb : Nat} {cur : List Value} {v : Value} {ls : List (Int × Int)} (h : LenAt w B hb cur v ls) {g : Nat} (e : v.ownBlock = some g) : g < w.heap.size ∧ B ≤ g := by
  rcases h.own.2 with ⟨rfl, _⟩ | ⟨g', cap, c, rfl, h2, h3, _⟩
  · simp [Value.ownBlock] at e
  · simp [Value.ownBlock] at e
    subst e
    exact ⟨(Array.getElem?_eq_some_iff.1 h3).1, h2⟩

theorem alloc_size (w : World) (o : Obj) : (w.alloc o).heap.size = w.heap.size + 1 := by
  show (w.heap.push o).size = _
  simp
theorem two_alloc (w : World) (o1 o2 : Obj) : Below w.heap.size w ((w.alloc o1).alloc o2) ∧ ((w.alloc o1).alloc o2).heap[w.heap.size]? = some o1 ∧ ((w.alloc o1).alloc o2).heap[w.heap.size + 1]? = some o2 := by
  refine ⟨bx (below_alloc1 w _) (below_alloc1 _ _), ?_, ?_⟩
  · exact ((MapKept.heap_alloc (w.alloc o1) o2).2 w.heap.size (by rw [alloc_size]; omega)).trans (MapKept.heap_alloc w o1).1
  · have := (MapKept.heap_alloc (w.alloc o1) o2).1
    rw [alloc_size] at this
    exact this

def CntPost (w : World) (B hb : Nat) (cur : List Value) (v : Value) (ls' : List (Int × Int)) (w' : World) : Prop :=
  ∃ v', w'.ownsRow B 80 2 v' ls'.length (ls'.flatMap lcells) ∧ w'.heap[hb]? = some (.cells (cur.set 27 v').toArray 66 (0, 0)) ∧ Frame (fun k => k = hb ∨ some k = v.ownBlock) w w'

theorem own_setCell {w : World} {B hb o : Nat} {cur : List Value} {v x : Value} {n : Nat} {xs : List Value} (h : w.ownsRow B 80 2 v n xs) (hb' : w.heap[hb]? = some (.cells cur.toArray 66 (0, 0))) : (w.setCell ⟨hb, o, none⟩ x).ownsRow B 80 2 v n xs := by
  refine ⟨h.1, ?_⟩
  rcases h.2 with h1 | ⟨g, cap, c, h1, h2, h3, h4⟩
  · exact .inl h1
  · refine .inr ⟨g, cap, c, h1, h2, ?_, h4⟩
    have hne : some g ≠ some hb := by
      intro e
      cases e
      rw [hb'] at h3
      simp at h3
    exact ((grown_setCell w hb o x).block g (Array.getElem?_eq_some_iff.1 h3).1 hne).trans h3
theorem LenAt.cell27 {w : World} {B hb : Nat} {cur : List Value} {v : Value} {ls : List (Int × Int)} (h : LenAt w B hb cur v ls) : w.cell? ⟨hb, 27, none⟩ = some v := by rw [cell_of_block h.blk]; exact h.sl
/-- Behind Insert or Delete, the store to come. -/
theorem cnt_post {w w1 w2 w3 : World} {B hb : Nat} {cur : List Value} {v v' : Value} {ls ls' : List (Int × Int)} (h : LenAt w B hb cur v ls) (hB1 : Below w.heap.size w w1) (hB2 : Below w1.heap.size w1 w2) (hg : w2.grownBy w3 v.ownBlock)
    (hown : w3.ownsRow B 80 2 v' ls'.length (ls'.flatMap lcells)) :
    w3.heap[hb]? = some (.cells cur.toArray 66 (0, 0)) ∧ CntPost w B hb cur v ls' (w3.setCell ⟨hb, 27, none⟩ v') := by
  have hb12 := bx hB1 hB2
  have h3 : w3.heap[hb]? = some (.cells cur.toArray 66 (0, 0)) := (hg.block hb (Nat.lt_of_lt_of_le h.lt hb12.size) (fun e => h.own_ne e.symm)).trans ((hb12.block hb h.lt).trans h.blk)
  refine ⟨h3, v', own_setCell hown h3, heap_setCell h3, ?_⟩
  exact (Frame.of_below hb12).trans ((Frame.of_grown hg (fun x e => .inr e.symm)).trans (Frame.of_grown (grown_setCell w3 hb 27 v') (fun x e => .inl (Option.some.inj e.symm))))
theorem own_slice {w : World} {B e sz n : Nat} {v : Value} {xs : List Value} (h : w.ownsRow B e sz v n xs) : ∃ a' n' c', v = .slice a' n' c' := by
  rcases h.2 with ⟨h1, _⟩ | ⟨g, cap, c, h1, _⟩
  · exact ⟨_, _, _, h1⟩
  · exact ⟨_, _, _, h1⟩
theorem kept_cell {w2 w3 : World} {r : Option Nat} (hg : w2.grownBy w3 r) {b o : Nat} {x : Value} (hc : w2.cell? ⟨b, o, none⟩ = some x) (hne : some b ≠ r) : w3.cell? ⟨b, o, none⟩ = some x :=
  (World.cell?_of_block (a := ⟨b, o, none⟩) (hg.block b (lt_of_cell hc) hne)).trans hc

theorem ins_call (w w1 : World) (B hb : Nat) (cur : List Value) (a : Option Addr) (n cap i d : Nat) (ls : List (Int × Int)) (l k : Int) (h : LenAt w B hb cur (.slice a n cap) ls) (hn : ls.length = n) (hB1 : Below w.heap.size w w1) (hi : i ≤ n) :
    Calls Try.prog 26 #[.slice a n cap, .int .i64 i, .slice (some ⟨w1.heap.size, 0, none⟩) 1 1] ((w1.drewN d).alloc (.cells #[.int .i64 l, .int .i64 k] 80)) fun r w3 =>
      ∃ a' n' c', r = .returned (.slice a' n' c') ∧ w3.cell? ⟨hb, 27, none⟩ = some (.slice a n cap) ∧ w3.frozen? ⟨hb, 27, none⟩ = false ∧ Hid (∀ b o x, w.heap.size ≤ b → w1.cell? ⟨b, o, none⟩ = some x → w3.cell? ⟨b, o, none⟩ = some x) ∧ Hid (CntPost w B hb cur (.slice a n cap) (insAt ls i (l, k)) (w3.setCell ⟨hb, 27, none⟩ (.slice a' n' c'))) := by
  have hB2 : Below w1.heap.size w1 ((w1.drewN d).alloc (.cells #[.int .i64 l, .int .i64 k] 80)) := bx (Below.draws w1 d) (below_alloc1 (w1.drewN d) _)
  have h2 := h.ext (bx hB1 hB2)
  have hv0 : ((w1.drewN d).alloc (.cells #[.int .i64 l, .int .i64 k] 80)).heap[w1.heap.size]? = some (.cells (lcells (l, k)).toArray 80 (0, 0)) := (MapKept.heap_alloc (w1.drewN d) _).1
  have hown := h2.own
  have hsm := h2.small
  rw [hn] at hown hsm
  refine (insert_any B _ n i w1.heap.size ls (l, k) _ hown hn (by omega) hi h2.low hv0 (fun e => ?_)).mono ?_
  · have := (h.own_lt e).1
    have := hB1.size
    omega
  · rintro r w3 ⟨v', rfl, hown', hg⟩
    have hown'' : w3.ownsRow B 80 2 v' (insAt ls i (l, k)).length ((insAt ls i (l, k)).flatMap lcells) := by rw [insAt_length _ _ _ (by omega), hn]; exact hown'
    obtain ⟨h3, hp⟩ := cnt_post h hB1 hB2 hg hown''
    obtain ⟨a', n', c', rfl⟩ := own_slice hown''
    refine ⟨a', n', c', rfl, by rw [cell_of_block h3]; exact h.sl, frozen_of_block h3 _, (show ∀ b o x, w.heap.size ≤ b → w1.cell? ⟨b, o, none⟩ = some x → w3.cell? ⟨b, o, none⟩ = some x from fun b o x hb0 c0 => kept_cell hg (cell_ext hB2 c0) (fun e => by have := (h.own_lt e.symm).1; omega)), hp⟩
theorem del_call (w w1 : World) (B hb : Nat) (cur : List Value) (a : Option Addr) (n cap i d : Nat) (ls : List (Int × Int)) (h : LenAt w B hb cur (.slice a n cap) ls) (hn : ls.length = n) (hB1 : Below w.heap.size w w1) (hi : i < n) :
    Calls Try.prog 27 #[.slice a n cap, .int .i64 i, .int .i64 ((i : Int) + 1)] (w1.drewN d) fun r w3 =>
      ∃ a' n' c', r = .returned (.slice a' n' c') ∧ w3.cell? ⟨hb, 27, none⟩ = some (.slice a n cap) ∧ w3.frozen? ⟨hb, 27, none⟩ = false ∧ Hid (∀ b o x, w.heap.size ≤ b → w1.cell? ⟨b, o, none⟩ = some x → w3.cell? ⟨b, o, none⟩ = some x) ∧ Hid (CntPost w B hb cur (.slice a n cap) (ls.eraseIdx i) (w3.setCell ⟨hb, 27, none⟩ (.slice a' n' c'))) := by
  have hB2 : Below w1.heap.size w1 (w1.drewN d) := Below.draws w1 d
  have h2 := h.ext (bx hB1 hB2)
  have hown := h2.own
  have hsm := h2.small
  rw [hn] at hown hsm
  obtain ⟨g, rfl⟩ : ∃ g, a = some ⟨g, 0, none⟩ := by
    rcases hown.2 with ⟨_, h0⟩ | ⟨g, cap', c, e, _⟩
    · omega
    · simp at e; exact ⟨g, e.1⟩
  obtain ⟨m, rfl⟩ : ∃ m, n = m + 1 := ⟨n - 1, by omega⟩
  refine (delete_any B g cap m i ls _ hown hn (by omega) (by omega)).mono ?_
  rintro r w3 ⟨v', rfl, hown', hg⟩
  have hown'' : w3.ownsRow B 80 2 v' (ls.eraseIdx i).length ((ls.eraseIdx i).flatMap lcells) := by rw [List.length_eraseIdx_of_lt (by omega), hn]; exact hown'
  obtain ⟨h3, hp⟩ := cnt_post h hB1 hB2 hg hown''
  obtain ⟨a', n', c', rfl⟩ := own_slice hown''
  refine ⟨a', n', c', rfl, by rw [cell_of_block h3]; exact h.sl, frozen_of_block h3 _, (show ∀ b o x, w.heap.size ≤ b → w1.cell? ⟨b, o, none⟩ = some x → w3.cell? ⟨b, o, none⟩ = some x from fun b o x hb0 c0 => kept_cell hg (cell_ext hB2 c0) (fun e => by have := (h.own_lt e.symm).1; omega)), hp⟩
theorem flat_set (x : Int) : ∀ (ls : List (Int × Int)) (i : Nat) (p : Int × Int), ls[i]? = some p → (ls.flatMap lcells).set (i * 2 + 1) (.int .i64 x) = (ls.set i (p.1, x)).flatMap lcells := by
  intro ls
  induction ls with
  | nil => intro i p hp; simp at hp
  | cons q ls ih =>
    intro i p hp
    cases i with
    | zero => simp at hp; subst hp; simp [lcells]
    | succ i =>
      have hh := ih i p (by simpa using hp)
      rw [show (i + 1) * 2 + 1 = (i * 2 + 1) + 1 + 1 from by omega]
      simp only [List.flatMap_cons, lcells, List.cons_append, List.nil_append, List.set_cons_succ]
      rw [hh]
theorem set_call (w w1 : World) (B hb g : Nat) (cur : List Value) (n cap i : Nat) (ls : List (Int × Int)) (p : Int × Int) (x : Int) (h : LenAt w B hb cur (.slice (some ⟨g, 0, none⟩) n cap) ls) (hn : ls.length = n) (hB1 : Below w.heap.size w w1) (hp : ls[i]? = some p) :
    CntPost w B hb cur (.slice (some ⟨g, 0, none⟩) n cap) (ls.set i (p.1, x)) (w1.setCell ⟨g, i * 2 + 1, none⟩ (.int .i64 x)) := by
  have h1 := h.ext hB1
  have hown := h1.own
  rw [hn] at hown
  obtain ⟨ho, hg⟩ := hown.stored (i * 2 + 1) (.int .i64 x)
  rw [flat_set x ls i p hp] at ho
  have hne : some hb ≠ some g := fun e => h.own_ne (by rw [e]; rfl)
  refine ⟨.slice (some ⟨g, 0, none⟩) n cap, by rw [List.length_set, hn]; exact ho, ?_, ?_⟩
  · have e : cur.set 27 (.slice (some ⟨g, 0, none⟩) n cap) = cur := by
      apply List.ext_getElem?
      intro j
      rw [List.getElem?_set]
      split
      · next hj => subst hj; rw [h.sl]; simp [h.len]
      · rfl
    rw [e]
    exact (hg.block hb h1.lt hne).trans h1.blk
  · exact (Frame.of_below hB1).trans (Frame.of_grown hg (fun y e => .inr (by rw [← e]; rfl)))

end Go.Proofs.Qxb6612256a
