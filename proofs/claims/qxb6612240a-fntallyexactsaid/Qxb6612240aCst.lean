import Derived.Test.Qxb6612240aTInv
import Derived.Deep.RegionHeld3
namespace Go.Proofs.Qxb6612240a
open Go.RowKit Go.MapKept
open Go.ChangeMaps (setBlock)

theorem hideP {p : Prop} (h : p) : Hid p := h
theorem below_alloc1 (w : World) (o1 : Obj) : Below w.heap.size w (w.alloc o1) := (Below.refl _ _).alloc (Nat.le_refl _) _
theorem Try.info119 : (Try.prog.info? 119).map (fun i => (i.zero, i.size, i.bytes)) = some (some (.agg #[.string ⟨#[]⟩, .int .u64 0, .int .u64 0, .string ⟨#[]⟩, .string ⟨#[]⟩, .int .u64 0, .int .u64 0, .slice none 0 0, .int .u64 0]), 9, 112) := by kernel_rfl
theorem cst_oneCell (x : Ent) : ∀ u ∈ cstCells x, u.oneCell' = true := by
  intro u hu
  simp only [cstCells, Vt.cells, List.mem_cons, List.not_mem_nil, or_false] at hu
  rcases hu with rfl | rfl | rfl | rfl | rfl | rfl | rfl | rfl | rfl <;> rfl

theorem cell_setBlock_other {w : World} {b b' j : Nat} {o : Obj} (hne : b' ≠ b) : (setBlock w b o).cell? ⟨b', j, none⟩ = w.cell? ⟨b', j, none⟩ := World.cell?_of_block (a := ⟨b', j, none⟩) (heap_setBlock_other o hne)

/-- THE STEP: one vote more at a slot: the append alone. -/
theorem cst_append {ops : Array Oper} {o : Oper} {a : Act} {W : World} {K : Act → World → Prop} {Q : Exit → Act → World → Prop} {F : Prop} {lo : Nat} {G : List Ent} {v : Value} {xad : Nat}
    (hown : W.ownsRow lo 119 9 v G.length (G.flatMap cstCells)) (x : Ent) (hcs : ∀ j u, (cstCells x)[j]? = some u → W.cell? ⟨xad, j, none⟩ = some u) (hb : G.length + 1 ≤ 1048576) (hB : lo ≤ W.heap.size)
    (hg : o.guard = none) (hop : o.op = Op.call { callee := Callee.builtin Builtin.append, args := #[.tmp 75, .tmp 82], argTypes := #[117, 117] })
    (hs : a.eval (.tmp 75) = v) (hx : a.eval (.tmp 82) = .slice (some ⟨xad, 0, none⟩) 1 1)
    (hK : ∀ v' w', w'.ownsRow lo 119 9 v' (G.length + 1) (G.flatMap cstCells ++ cstCells x) → W.grownBy w' v.ownBlock → (v'.ownBlock = v.ownBlock ∨ v'.ownBlock = some W.heap.size) → K (a.put o.dst v') w') :
    if Region.wanted o (yielded ops a.tmps) = true then Oper.wp Try.prog o a W K Q else F := by
  obtain ⟨i0, hi, hz0, hz1, hz2⟩ := info_parts Try.info119
  refine step_append_own hg (.tmp 75) (.tmp 82) 117 hop lo 119 i0 _ 9 112 Try.underlying117 hi hz0 hz1 hz2 rfl (by decide) v G.length (G.flatMap cstCells) hs hown ⟨xad, 0, none⟩ 1 1 (cstCells x) hx rfl ?_ (cst_oneCell x) ?_ ?_ hB hK
  · intro j u hj
    have e : (⟨xad, 0, none⟩ : Addr).add j = ⟨xad, j, none⟩ := by unfold Addr.add; split <;> simp_all
    rw [e]
    exact hcs j u hj
  · unfold maxLen; omega
  · omega

theorem new_cells' (w : World) (xs : List Value) (t : TypeId) : ∀ j u, xs[j]? = some u → (w.alloc (.cells xs.toArray t)).cell? ⟨w.heap.size, j, none⟩ = some u := by
  intro j u hj
  simp [World.cell?_alloc_at, hj]
theorem keepCell {W w' : World} {lo n : Nat} {v : Value} {xs : List Value} (hold : W.ownsRow lo 119 9 v n xs) (hg : W.grownBy w' v.ownBlock) {b j : Nat} {x : Value} (hc : W.cell? ⟨b, j, none⟩ = some x) (hb : b < lo ∨ ∃ c, W.heap[b]? = some (.cells c 87 (0, 0))) : w'.cell? ⟨b, j, none⟩ = some x := by
  refine hg.cell hc fun e => ?_
  obtain ⟨h1, cur, h2⟩ := own_block hold e.symm
  rcases hb with hb | ⟨c, hb⟩
  · have h1' : lo ≤ b := h1
    omega
  · have h2' : W.heap[b]? = some (.cells cur 119 (0, 0)) := h2
    rw [hb] at h2'
    simp at h2'
end Go.Proofs.Qxb6612240a
