import Derived.Test.Qxb6612256aBI2
import Derived.Test.Qxb6612256aLock
namespace Go.Proofs.Qxb6612256a
open Go.RowKit Go.MapKept
open Go.ChangeMaps (setBlock)

/-! ### unwatch, its worlds -/
def lockd (mb : Nat) (v : Value) : List Value := ((hist mb v).set 0 (.int .i32 1)).set 4 (.int .i32 (-1073741824))
theorem lockd_set (mb : Nat) (v v' : Value) : (lockd mb v).set 27 v' = lockd mb v' := rfl
theorem unlockd (mb : Nat) (v : Value) : ((lockd mb v).set 4 (.int .i32 0)).set 0 (.int .i32 0) = hist mb v := rfl

/-- The lock's cells, free. -/
theorem hist_free {w : World} {hb mb : Nat} {v : Value} (h : w.heap[hb]? = some (.cells (hist mb v).toArray 66 (0, 0))) :
    w.cell? ⟨hb, 0, none⟩ = some (.int .i32 0) ∧ w.cell? ⟨hb, 0 + 2, none⟩ = some (.int .u32 0) ∧ w.cell? ⟨hb, 0 + 3, none⟩ = some (.int .u32 0) ∧ w.cell? ⟨hb, 0 + 4, none⟩ = some (.int .i32 0) ∧ w.frozen? ⟨hb, 0, none⟩ = false ∧ w.frozen? ⟨hb, 0 + 4, none⟩ = false := by
  refine ⟨?_, ?_, ?_, ?_, frozen_of_block h _, frozen_of_block h _⟩ <;> rw [cell_of_block h] <;> rfl
theorem lockd_held {w : World} {hb mb : Nat} {v : Value} (h : w.heap[hb]? = some (.cells (lockd mb v).toArray 66 (0, 0))) :
    w.cell? ⟨hb, 0, none⟩ = some (.int .i32 1) ∧ w.cell? ⟨hb, 0 + 2, none⟩ = some (.int .u32 0) ∧ w.cell? ⟨hb, 0 + 3, none⟩ = some (.int .u32 0) ∧ w.cell? ⟨hb, 0 + 4, none⟩ = some (.int .i32 (-1073741824)) ∧ w.frozen? ⟨hb, 0, none⟩ = false ∧ w.frozen? ⟨hb, 0 + 4, none⟩ = false := by
  refine ⟨?_, ?_, ?_, ?_, frozen_of_block h _, frozen_of_block h _⟩ <;> rw [cell_of_block h] <;> rfl
theorem locked {w : World} {hb mb : Nat} {v : Value} (h : w.heap[hb]? = some (.cells (hist mb v).toArray 66 (0, 0))) :
    ((w.setCell ⟨hb, 0, none⟩ (.int .i32 1)).setCell ⟨hb, 0 + 4, none⟩ (.int .i32 (-1073741824))).heap[hb]? = some (.cells (lockd mb v).toArray 66 (0, 0)) := heap_setCell (heap_setCell h)
theorem unlocked {w : World} {hb mb : Nat} {v : Value} (h : w.heap[hb]? = some (.cells (lockd mb v).toArray 66 (0, 0))) :
    ((w.setCell ⟨hb, 0 + 4, none⟩ (.int .i32 0)).setCell ⟨hb, 0, none⟩ (.int .i32 0)).heap[hb]? = some (.cells (hist mb v).toArray 66 (0, 0)) := by
  have := heap_setCell (o := 0) (v := .int .i32 0) (heap_setCell (o := 0 + 4) (v := .int .i32 0) h)
  exact this
theorem grown_two (w : World) (hb o o' : Nat) (x x' : Value) : w.grownBy ((w.setCell ⟨hb, o, none⟩ x).setCell ⟨hb, o', none⟩ x') (some hb) := (grown_setCell w hb o x).trans (grown_setCell _ hb o' x')

/-- What unwatch leaves. -/
structure After (w : World) (B hb mb : Nat) (E : List GE) (e : GE) (v : Value) (L : List FEnt) (c : Nat) (ls : List (Int × Int)) (w' : World) : Prop where
  blk : w'.heap[hb]? = some (.cells (hist mb v).toArray 66 (0, 0))
  own : w'.ownsRow B 80 2 v ls.length (ls.flatMap lcells)
  fis : FIs w' mb L c
  here : w'.heap[e.m]? = some (.cells (gcells (e.n - 1)).toArray 70 (0, 0))
  there : ∀ e' ∈ E, e'.m ≠ e.m → w'.heap[e'.m]? = some (.cells (gcells e'.n).toArray 70 (0, 0))
  oth : ∀ (b : Nat) (c : Array Value), w.heap[b]? = some (.cells c 3 (0, 0)) → w'.heap[b]? = some (.cells c 3 (0, 0))
  bel : Below B w w'
/-- .. and the same while the lock is held. -/
structure Mid (w : World) (B hb mb : Nat) (E : List GE) (e : GE) (v : Value) (L : List FEnt) (c : Nat) (ls : List (Int × Int)) (w' : World) : Prop where
  len : LenAt w' B hb (lockd mb v) v ls
  fis : FIs w' mb L c
  here : w'.heap[e.m]? = some (.cells (gcells (e.n - 1)).toArray 70 (0, 0))
  there : ∀ e' ∈ E, e'.m ≠ e.m → w'.heap[e'.m]? = some (.cells (gcells e'.n).toArray 70 (0, 0))
  wat : w'.heap[e.wt]? = some (.cells (wcells e.g.filt e.m).toArray 74 (0, 0))
  oth : ∀ (b : Nat) (c : Array Value), w.heap[b]? = some (.cells c 3 (0, 0)) → w'.heap[b]? = some (.cells c 3 (0, 0))
  bel : Below B w w'

theorem Mid.done {w w' : World} {B hb mb : Nat} {E : List GE} {e : GE} {v : Value} {L : List FEnt} {c : Nat} {ls : List (Int × Int)} (h : Mid w B hb mb E e v L c ls w') (hB : B ≤ hb) :
    After w B hb mb E e v L c ls ((w'.setCell ⟨hb, 0 + 4, none⟩ (.int .i32 0)).setCell ⟨hb, 0, none⟩ (.int .i32 0)) := by
  have hg := grown_two w' hb (0 + 4) 0 (.int .i32 0) (.int .i32 0)
  have keep : ∀ b o, w'.heap[b]? = some o → b ≠ hb → ((w'.setCell ⟨hb, 0 + 4, none⟩ (.int .i32 0)).setCell ⟨hb, 0, none⟩ (.int .i32 0)).heap[b]? = some o := fun b o h1 h2 => (hg.block b (Array.getElem?_eq_some_iff.1 h1).1 (fun e => h2 (Option.some.inj e))).trans h1
  refine ⟨unlocked h.len.blk, own_keep h.len.own (fun g hg' => ?_), h.fis.of_block ((keep mb _ h.fis.block ?_).trans h.fis.block.symm), keep _ _ h.here (ne_of_obj h.here h.len.blk (by simp)), fun e' he' hne => keep _ _ (h.there e' he' hne) (ne_of_obj (h.there e' he' hne) h.len.blk (by simp)), fun b c hb' => keep _ _ (h.oth b c hb') (ne_of_obj (h.oth b c hb') h.len.blk (by simp)), h.bel.trans (Below.of_grown hg hB h.len.low)⟩
  · exact hg.block g (h.len.own_lt hg').1 (fun e' => h.len.own_ne (by rw [hg', e']))
  · exact ne_of_obj h.fis.block h.len.blk (by simp [fobj])

/-- The lock taken, the count of the group lowered. -/
theorem Mid.first {w : World} {B hb mb wb n : Nat} {v : Value} {E : List GE} {xs : List Value} {ls : List (Int × Int)} (h : BI w B hb mb wb n v E xs ls) {e : GE} (he : e ∈ E) (hB : B ≤ hb) (hBm : B ≤ e.m) :
    Mid w B hb mb E e v (ents E) E.length ls (((w.setCell ⟨hb, 0, none⟩ (.int .i32 1)).setCell ⟨hb, 0 + 4, none⟩ (.int .i32 (-1073741824))).setCell ⟨e.m, 0, none⟩ (.int .i64 (e.n - 1))) := by
  have hg1 := grown_two w hb 0 (0 + 4) (.int .i32 1) (.int .i32 (-1073741824))
  have hl := locked h.len.blk
  obtain ⟨w1, hw1⟩ : ∃ w1, w1 = (w.setCell ⟨hb, 0, none⟩ (.int .i32 1)).setCell ⟨hb, 0 + 4, none⟩ (.int .i32 (-1073741824)) := ⟨_, rfl⟩
  rw [← hw1] at hg1 hl ⊢
  have hm0 := h.grp e he
  have hnm : e.m ≠ hb := ne_of_obj hm0 h.len.blk (by simp)
  have k1 : ∀ b o, w.heap[b]? = some o → b ≠ hb → w1.heap[b]? = some o := fun b o h1 h2 => (hg1.block b (Array.getElem?_eq_some_iff.1 h1).1 (fun e => h2 (Option.some.inj e))).trans h1
  have hg2 := grown_setCell w1 e.m 0 (.int .i64 (e.n - 1))
  have k2 : ∀ b o, w.heap[b]? = some o → b ≠ hb → b ≠ e.m → (w1.setCell ⟨e.m, 0, none⟩ (.int .i64 (e.n - 1))).heap[b]? = some o := fun b o h1 h2 h3 => (hg2.block b (Array.getElem?_eq_some_iff.1 (k1 b o h1 h2)).1 (fun e => h3 (Option.some.inj e))).trans (k1 b o h1 h2)
  have hs : Below B w w1 := Below.of_grown hg1 hB h.len.low
  refine ⟨⟨?_, rfl, rfl, own_keep h.len.own (fun g hg => ?_), h.len.asc, h.len.small, Nat.le_trans h.len.low (Nat.le_trans hg1.size hg2.size)⟩, h.fis.of_block ?_, ?_, ?_, ?_, ?_, ?_⟩
  · exact (hg2.block hb (Array.getElem?_eq_some_iff.1 hl).1 (fun e => hnm (Option.some.inj e).symm)).trans hl
  · obtain ⟨c, hc, _⟩ := own_block h.len.own hg
    rw [hc]
    exact k2 g _ hc (ne_of_obj hc h.len.blk (by simp)) (ne_of_obj hc hm0 (by simp))
  · rw [h.fis.block]
    exact k2 mb _ h.fis.block (ne_of_obj h.fis.block h.len.blk (by simp [fobj])) (ne_of_obj h.fis.block hm0 (by simp [fobj]))
  · exact heap_setCell (o := 0) (v := .int .i64 (e.n - 1)) (k1 e.m _ hm0 hnm)
  · intro e' he' hne
    exact k2 e'.m _ (h.grp e' he') (ne_of_obj (h.grp e' he') h.len.blk (by simp)) hne
  · exact k2 e.wt _ (h.wat e he) (ne_of_obj (h.wat e he) h.len.blk (by simp)) (ne_of_obj (h.wat e he) hm0 (by simp))
  · exact fun b c hb' => k2 b _ hb' (ne_of_obj hb' h.len.blk (by simp)) (ne_of_obj hb' hm0 (by simp))
  · exact hs.trans (Below.of_grown hg2 hBm (Nat.le_trans h.len.low hg1.size))
/-- The entry taken out of the map. -/
theorem Mid.dropped {w w' : World} {B hb mb : Nat} {E : List GE} {e : GE} {v : Value} {L : List FEnt} {c : Nat} {ls : List (Int × Int)} (h : Mid w B hb mb E e v L c ls w') (f : Filt) (hB : B ≤ mb) :
    Mid w B hb mb E e v (L.filter fun x => decide (x.f ≠ f)) c ls (setBlock w' mb (fobj (L.filter fun x => decide (x.f ≠ f)) c)) := by
  have hg := setBlock_grown w' mb (fobj (L.filter fun x => decide (x.f ≠ f)) c)
  have keep : ∀ b o, w'.heap[b]? = some o → b ≠ mb → (setBlock w' mb (fobj (L.filter fun x => decide (x.f ≠ f)) c)).heap[b]? = some o := fun b o h1 h2 => (hg.block b (Array.getElem?_eq_some_iff.1 h1).1 (fun e => h2 (Option.some.inj e))).trans h1
  refine ⟨⟨keep _ _ h.len.blk (ne_of_obj h.len.blk h.fis.block (by simp [fobj])), rfl, rfl, own_keep h.len.own (fun g hg' => ?_), h.len.asc, h.len.small, Nat.le_trans h.len.low hg.size⟩, h.fis.afterDrop f, keep _ _ h.here (ne_of_obj h.here h.fis.block (by simp [fobj])), fun e' he' hne => keep _ _ (h.there e' he' hne) (ne_of_obj (h.there e' he' hne) h.fis.block (by simp [fobj])), keep _ _ h.wat (ne_of_obj h.wat h.fis.block (by simp [fobj])), fun b c hb' => keep _ _ (h.oth b c hb') (ne_of_obj (h.oth b c hb') h.fis.block (by simp [fobj])), h.bel.trans (Below.of_grown hg hB h.len.low)⟩
  obtain ⟨cc, hc, _⟩ := own_block h.len.own hg'
  rw [hc]
  exact keep g _ hc (ne_of_obj hc h.fis.block (by simp [fobj]))
theorem Mid.drewN {w w' : World} {B hb mb : Nat} {E : List GE} {e : GE} {v : Value} {L : List FEnt} {c : Nat} {ls : List (Int × Int)} (h : Mid w B hb mb E e v L c ls w') (d : Nat) : Mid w B hb mb E e v L c ls (w'.drewN d) :=
  ⟨h.len.ext (Below.draws w' d), h.fis.of_block rfl, h.here, h.there, h.wat, h.oth, below_drewN h.bel d⟩
theorem Mid.drew {w w' : World} {B hb mb : Nat} {E : List GE} {e : GE} {v : Value} {L : List FEnt} {c : Nat} {ls : List (Int × Int)} (h : Mid w B hb mb E e v L c ls w') : Mid w B hb mb E e v L c ls w'.drew := h.drewN 1
/-- The lengths counted. -/
theorem Mid.counted {w w' w2 : World} {B hb mb : Nat} {E : List GE} {e : GE} {v : Value} {L : List FEnt} {c : Nat} {ls ls' : List (Int × Int)} (h : Mid w B hb mb E e v L c ls w') (hp : CntPost w' B hb (lockd mb v) v ls' w2) (hasc : Asc ls') (hsm : ls'.length ≤ 4096) (hB : B ≤ hb) :
    ∃ v', Mid w B hb mb E e v' L c ls' w2 := by
  obtain ⟨v', hown, hblk, hf⟩ := hp
  rw [lockd_set] at hblk
  have hS : ∀ (x : Nat) (o : Obj), w'.heap[x]? = some o → (x = hb ∨ some x = v.ownBlock) → (∃ c, o = .cells c 66 (0, 0)) ∨ (∃ c, o = .cells c 80 (0, 0)) := by
    intro x o hx s
    rcases s with rfl | s
    · rw [h.len.blk] at hx; exact .inl ⟨_, (Option.some.inj hx).symm⟩
    · obtain ⟨c, hc, _⟩ := own_block h.len.own s.symm
      rw [hc] at hx
      exact .inr ⟨_, (Option.some.inj hx).symm⟩
  have keep : ∀ (b : Nat) (o : Obj), w'.heap[b]? = some o → (∀ c, o ≠ Obj.cells c 66 (0, 0)) → (∀ c, o ≠ Obj.cells c 80 (0, 0)) → w2.heap[b]? = some o := fun b o h1 h2 h3 => (hf.block b (Array.getElem?_eq_some_iff.1 h1).1 (fun s => by
    rcases hS b o h1 s with ⟨c, e⟩ | ⟨c, e⟩
    · exact h2 c e
    · exact h3 c e)).trans h1
  refine ⟨v', ⟨hblk, rfl, rfl, hown, hasc, hsm, Nat.le_trans h.len.low hf.size⟩, h.fis.of_block ?_, keep _ _ h.here (by simp) (by simp), fun e' he' hne => keep _ _ (h.there e' he' hne) (by simp) (by simp), keep _ _ h.wat (by simp) (by simp), fun b c hb' => keep _ _ (h.oth b c hb') (by simp) (by simp), h.bel.trans (hf.below h.len.low (fun x s => ?_))⟩
  · rw [h.fis.block]; exact keep mb _ h.fis.block (by simp [fobj]) (by simp [fobj])
  · rcases s with rfl | s
    · exact hB
    · exact (h.len.own_lt s.symm).2
end Go.Proofs.Qxb6612256a
