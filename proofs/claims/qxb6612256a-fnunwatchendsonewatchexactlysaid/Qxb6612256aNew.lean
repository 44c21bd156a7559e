import Derived.Test.Qxb6612256aCnt1
namespace Go.Proofs.Qxb6612256a
open Go.RowKit Go.MapKept
open Go.ChangeMaps (setBlock)

/-- A history's cells: the map's block, the slice of lengths. -/
def hist (mb : Nat) (v : Value) : List Value :=
  [.int .i32 0, .int .u32 0, .int .u32 0, .int .u32 0, .int .i32 0, .int .i32 0, .int .i32 0, .int .u32 0, .slice none 0 0, .int .i64 0, .int .i64 0, .int .i64 0, .int .i64 0, .int .i64 0, .bool false, .int .u64 0, .int .u64 0, .int .i64 0, .bool false, .int .i64 0, .int .i64 0, .int .u64 0, .int .i64 0, .int .i64 0, .int .i64 0, .int .i64 0, .map (some mb), v]
theorem hist_set (mb : Nat) (v v' : Value) : (hist mb v).set 27 v' = hist mb v' := rfl

theorem newHistory_any (w : World) : Calls Try.prog 11 #[] w fun r w' => r = .returned (.pointer (some ⟨w.heap.size + 1, 0, none⟩)) ∧ w'.heap[w.heap.size]? = some (fobj [] 0) ∧ w'.heap[w.heap.size + 1]? = some (.cells (hist w.heap.size (.slice none 0 0)).toArray 66 (0, 0)) ∧ Below w.heap.size w w' := by
  have hmm := @run_makeMap Try.prog
  have h2 := two_alloc w (.map #[] 0) (.cells (hist w.heap.size (.slice none 0 0)).toArray 66 (0, 0))
  have H2 := hideP h2
  clear h2
  go_enter Try.func11, Try.ntmps11
  go_wp2
  go_ret
  exact ⟨rfl, H2.out.2.1, H2.out.2.2, H2.out.1⟩

theorem FIs.alloc {w : World} {b : Nat} {L : List FEnt} {c : Nat} (h : FIs w b L c) (o : Obj) : FIs (w.alloc o) b L c := h.of_block ((MapKept.heap_alloc w o).2 b h.lt)
def gcells (n : Int) : List Value := [.int .i64 n, .int .i64 (-1), .chan none, .bool false]
def wcells (f : Filt) (m : Nat) : List Value := [.string f.1, .bool f.2, .pointer (some ⟨m, 0, none⟩), .int .u64 0, .int .i64 0, .bool false, .int .u64 0]
structure Added (w : World) (mb : Nat) (L : List FEnt) (c : Nat) (f : Filt) (n : Int) (w' : World) : Prop where
  grp : w'.heap[w.heap.size]? = some (.cells (gcells n).toArray 70 (0, 0))
  wat : w'.heap[w.heap.size + 1]? = some (.cells (wcells f w.heap.size).toArray 74 (0, 0))
  fis : FIs w' mb (L ++ [⟨f, w.heap.size, c⟩]) (c + 1)
  frame : Frame (fun k => k = mb) w w'
  size : w'.heap.size = w.heap.size + 2
theorem setBlock_size (w : World) (b : Nat) (o : Obj) : (setBlock w b o).heap.size = w.heap.size := size_setBlock w b o
theorem added {w : World} {mb : Nat} {L : List FEnt} {c : Nat} {f : Filt} (n : Int) (h : FIs w mb L c) (hf : ∀ e ∈ L, e.f ≠ f) :
    Added w mb L c f n ((setBlock (w.alloc (.cells (gcells n).toArray 70)) mb (fobj (L ++ [⟨f, w.heap.size, c⟩]) (c + 1))).alloc (.cells (wcells f w.heap.size).toArray 74)) := by
  have hne : w.heap.size ≠ mb := by have := h.lt; omega
  have hs1 : (w.alloc (.cells (gcells n).toArray 70)).heap.size = w.heap.size + 1 := alloc_size _ _
  have hs2 : (setBlock (w.alloc (.cells (gcells n).toArray 70)) mb (fobj (L ++ [⟨f, w.heap.size, c⟩]) (c + 1))).heap.size = w.heap.size + 1 := (setBlock_size _ _ _).trans hs1
  have hfi := (h.alloc (.cells (gcells n).toArray 70)).afterPut hf w.heap.size
  refine ⟨?_, ?_, hfi.alloc _, ?_, ?_⟩
  · rw [(MapKept.heap_alloc _ _).2 _ (by rw [hs2]; omega), heap_setBlock_other _ hne]
    exact (MapKept.heap_alloc w _).1
  · have := (MapKept.heap_alloc (setBlock (w.alloc (.cells (gcells n).toArray 70)) mb (fobj (L ++ [⟨f, w.heap.size, c⟩]) (c + 1))) (.cells (wcells f w.heap.size).toArray 74)).1
    rw [hs2] at this
    exact this
  · exact (Frame.of_below (below_alloc1 w _)).trans ((Frame.of_grown (setBlock_grown _ mb _) (fun x e => (Option.some.inj e).symm)).trans (Frame.of_below (below_alloc1 _ _)))
  · rw [alloc_size, hs2]

set_option maxRecDepth 100000 in
theorem addGroup_any (hb mb : Nat) (cur : List Value) (L : List FEnt) (c : Nat) (f : Filt) (n : Int) (w : World) (hh : w.heap[hb]? = some (.cells cur.toArray 66 (0, 0))) (h26 : cur[26]? = some (.map (some mb))) (h : FIs w mb L c) (hf : ∀ e ∈ L, e.f ≠ f) :
    Calls Try.prog 12 #[.pointer (some ⟨hb, 0, none⟩), .string f.1, .bool f.2, .int .i64 n] w fun r w' => r = .returned (.pointer (some ⟨w.heap.size + 1, 0, none⟩)) ∧ Added w mb L c f n w' := by
  have c26 : w.cell? ⟨hb, 26, none⟩ = some (.map (some mb)) := by rw [cell_of_block hh]; exact h26
  have hbl : hb < w.heap.size := (Array.getElem?_eq_some_iff.1 hh).1
  have hp : ∀ o, (Instr.mapUpdate 43 (.map (some mb)) (.agg #[.string f.1, .bool f.2]) (.pointer (some ⟨w.heap.size, 0, none⟩))).run Try.prog (w.alloc o) = .ok () (setBlock (w.alloc o) mb (fobj (L ++ [⟨f, w.heap.size, c⟩]) (c + 1))) := fun o => (h.alloc o).put hf w.heap.size
  have hs : ∀ o o', (setBlock (w.alloc o) mb o').heap.size = w.heap.size + 1 := fun o o' => (setBlock_size _ _ _).trans (alloc_size _ _)
  have HA := hideP (added n h hf)
  clear h hf hh h26
  go_enter Try.func12, Try.ntmps12
  go_wp2
  go_ret
  exact ⟨rfl, HA.out⟩
end Go.Proofs.Qxb6612256a
