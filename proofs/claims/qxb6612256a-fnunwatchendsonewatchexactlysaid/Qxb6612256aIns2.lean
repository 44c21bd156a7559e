import Derived.Test.Qxb6612256aIns
import Derived.Lib.Overlaps
import Derived.Deep.RegionLaw
namespace Go.Proofs.Qxb6612256a
open Go.RowKit Go.MapKept
open Go.ChangeMaps (setBlock)

theorem Try.size80 (w : World) : (sizeOf 80).run Try.prog w = .ok 2 w := by kernel_rfl
theorem Try.sz80 : (Try.prog.info? 80).map (·.size) = some 2 := by kernel_rfl
/-- THE OPERATION 'copy(d, s)' where its run is known by an equation. -/
theorem wpList_copy_run {P : Program} (w : World) {ops : Array Oper} {rest : List Oper} {o : Oper} {a : Act} {Q : Exit → Act → World → Prop} (hgd : o.guard = none) (d s : Operand) (t t' : TypeId)
    (ho : o.op = .call { callee := .builtin .copy, args := #[d, s], argTypes := #[t, t'] }) (v u : Value) (hd : a.eval d = v) (hs : a.eval s = u) {v' : Value} {w' : World}
    (hr : (Builtin.copy_ #[t, t'] o.type #[v, u]).run P w = .ok v' w') (h : wpList P ops Q rest (a.put o.dst v') w') : wpList P ops Q (o :: rest) a w := by
  refine wpList_plain hgd fun K hK => ?_
  unfold Oper.wp
  simp [execOp, ho, resolve, invoke, builtin, hd, hs, hr, Result.andThen]
  exact hK _ _ h
theorem step_copy_run {P : Program} {ops : Array Oper} {o : Oper} {a : Act} {w : World} {K : Act → World → Prop} {Q : Exit → Act → World → Prop} {E : Prop} (hgd : o.guard = none) (d s : Operand) (t t' : TypeId)
    (ho : o.op = .call { callee := .builtin .copy, args := #[d, s], argTypes := #[t, t'] }) (v u : Value) (hd : a.eval d = v) (hs : a.eval s = u) {v' : Value} {w' : World}
    (hr : (Builtin.copy_ #[t, t'] o.type #[v, u]).run P w = .ok v' w') (h : K (a.put o.dst v') w') : if Region.wanted o (yielded ops a.tmps) = true then Oper.wp P o a w K Q else E := by
  have hw : Region.wanted o (yielded ops a.tmps) = true := by simp [Region.wanted, hgd]
  rw [if_pos hw]
  unfold Oper.wp
  simp [execOp, ho, resolve, invoke, builtin, hd, hs, hr, Result.andThen]
  exact h

theorem ov_run (w : World) (a b : Addr) (la ca lb cb : Nat) (hne : a.block ≠ b.block) (tA tB : TypeId) (kA kB : Nat)
    (hsa : w.shape? a.block = some (tA, kA)) (hsb : w.shape? b.block = some (tB, kB)) (hkB : kB ≠ 0) (hfa : w.frozen? a = false) (hfe : w.frozen? { block := a.block, off := kA } = false) :
    (callFunc 40 #[.slice (some a) la ca, .slice (some b) lb cb]).run Try.prog w = .ok (.value (.bool false)) w := by
  rw [run_callFunc_extern Try.func40 (by kernel_rfl) (by kernel_rfl) (by kernel_rfl) (e := Extern.SlicesOverlaps.overlaps #[64, 64] #[4]) (by kernel_rfl),
    Lib.run_overlaps_apart w 64 4 80 Try.underlying64 2 Try.size80 a b la ca lb cb hne tA tB kA kB hsa hsb hkB hfa hfe]
  rfl
end Go.Proofs.Qxb6612256a
