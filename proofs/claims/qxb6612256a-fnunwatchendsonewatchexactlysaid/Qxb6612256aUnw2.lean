import Derived.Test.Qxb6612256aUnw
import Derived.Test.Qxb6612256aCnt
import Derived.Deep.RegionHeld3
import Derived.Deep.Cut
import Derived.Deep.RegionLaw
namespace Go.Proofs.Qxb6612256a
open Go.RowKit Go.MapKept Go.RwLone
open Go.ChangeMaps (setBlock)

theorem step_delete_run {P : Program} {ops : Array Oper} {o : Oper} {a : Act} {w : World} {K : Act → World → Prop} {Q : Exit → Act → World → Prop} {E : Prop} (hgd : o.guard = none) (d s : Operand) (t t' : TypeId)
    (ho : o.op = .call { callee := .builtin .delete, args := #[d, s], argTypes := #[t, t'] }) (v u : Value) (hd : a.eval d = v) (hs : a.eval s = u) {v' : Value} {w' : World}
    (hr : (Builtin.delete_ #[t, t'] o.type #[v, u]).run P w = .ok v' w') (h : K (a.put o.dst v') w') : if Region.wanted o (yielded ops a.tmps) = true then Oper.wp P o a w K Q else E := by
  have hw : Region.wanted o (yielded ops a.tmps) = true := by simp [Region.wanted, hgd]
  rw [if_pos hw]
  unfold Oper.wp
  simp only [execOp, ho, resolve, invoke, builtin, Sem.run_bind, Sem.run_pure, Result.andThen_ok, List.map_toArray, List.map_cons, List.map_nil, hd, hs, hr]
  exact h
/-- The entry of e taken out. -/
theorem Mid.delete {w w2 : World} {B hb mb wb n : Nat} {v : Value} {E : List GE} {xs : List Value} {ls : List (Int × Int)} {e : GE} (h : BI w B hb mb wb n v E xs ls) (he : e ∈ E) (hm : Mid w B hb mb E e v (ents E) E.length ls w2) (hBmb : B ≤ mb) :
    ∃ w3, (∀ ty, (Builtin.delete_ #[43, 72] ty #[.map (some mb), .agg #[.string e.g.key, .bool e.g.pre]]).run Try.prog w2.drew = .ok (.tuple #[]) w3) ∧ Mid w B hb mb E e v ((ents E).filter fun x => decide (x.f ≠ e.g.filt)) E.length ls w3 := by
  have _ := h
  obtain ⟨x, hx, hxf, _⟩ := ents_mem he
  refine ⟨_, fun ty => ?_, hm.drew.dropped e.g.filt hBmb⟩
  have := hm.drew.fis.drop hx ty
  rw [hxf] at this
  exact this

set_option maxHeartbeats 1600000 in
set_option maxRecDepth 100000 in
theorem unw_A {w : World} {B hb mb wb n : Nat} {v : Value} {E : List GE} {xs : List Value} {ls : List (Int × Int)} (h : BI w B hb mb wb n v E xs ls) {e : GE} (he : e ∈ E) (hB : B ≤ hb) (hBm : B ≤ e.m) (hn : 1 < e.n) (hn2 : e.n ≤ 9223372036854775807) :
    Calls Try.prog 14 #[.pointer (some ⟨hb, 0, none⟩), .pointer (some ⟨e.wt, 0, none⟩)] w fun r w' => r = .returned (.tuple #[]) ∧ After w B hb mb E e v (ents E) E.length ls w' := by
  obtain ⟨c0, c2, c3, c4, z0, z4⟩ := hist_free h.len.blk
  have hm := Mid.first h he hB hBm
  have HM := hideP hm
  have hg1 := grown_two w hb 0 (0 + 4) (.int .i32 1) (.int .i32 (-1073741824))
  have hwm : ¬ e.m = e.wt := ne_of_obj (h.grp e he) (h.wat e he) (by simp)
  have hmh : e.m ≠ hb := ne_of_obj (h.grp e he) h.len.blk (by simp)
  have hwh : e.wt ≠ hb := ne_of_obj (h.wat e he) h.len.blk (by simp)
  have d0 : w.cell? ⟨e.wt, 2, none⟩ = some (.pointer (some ⟨e.m, 0, none⟩)) := by rw [cell_of_block (h.wat e he)]; rfl
  have d1 : w.cell? ⟨e.m, 0, none⟩ = some (.int .i64 e.n) := by rw [cell_of_block (h.grp e he)]; rfl
  have d2 : w.frozen? ⟨e.m, 0, none⟩ = false := frozen_of_block (h.grp e he) _
  have hne1 : some e.wt ≠ some hb := fun e => hwh (Option.some.inj e)
  have hne2 : some e.m ≠ some hb := fun e => hmh (Option.some.inj e)
  have HU := hideP (lockd_held hm.len.blk)
  clear hm h he
  go_enter_defers Try.func14, Try.ntmps14
  go_wp2_with fail
  refine (wlock_free rwW hb 0 _ _ _ c0 c2 c3 c4 z0 z4).mono ?_
  rintro r1 w1 ⟨rfl, hw1⟩
  rw [← hw1] at hg1 HM HU
  have k0 := kept_cell hg1 d0 hne1
  have k1 := kept_cell hg1 d1 hne2
  have k2 : w1.frozen? ⟨e.m, 0, none⟩ = false := (World.frozen?_of_block (a := ⟨e.m, 0, none⟩) (hg1.block e.m (lt_of_cell d1) hne2)).trans d2
  clear hw1 hg1 c0 c2 c3 c4 z0 z4 d0 d1 d2
  go_wp2
  refine leaves_cons (f := 21) (args := #[.pointer (some ⟨hb, 0, none⟩)]) (by simp) (by simp [go_sem]) ?_
  refine (wunlock_deferred rwW hb 0 _ _ .returning _ HU.out.1 HU.out.2.1 HU.out.2.2.1 HU.out.2.2.2.1 HU.out.2.2.2.2.1 HU.out.2.2.2.2.2).mono ?_
  rintro r5 u5 w5 ⟨rfl, rfl, rfl⟩
  exact ⟨_, results_none rfl _ _ _, rfl, HM.out.done hB⟩
set_option maxHeartbeats 1600000 in
set_option maxRecDepth 100000 in
theorem unw_B1 {w : World} {B hb mb wb n : Nat} {v : Value} {E : List GE} {xs : List Value} {ls : List (Int × Int)} (h : BI w B hb mb wb n v E xs ls) {e : GE} (he : e ∈ E) (hB : B ≤ hb) (hBm : B ≤ e.m) (hn : e.n = 1) (hp : e.g.pre = false) (hBmb : B ≤ mb) :
    Calls Try.prog 14 #[.pointer (some ⟨hb, 0, none⟩), .pointer (some ⟨e.wt, 0, none⟩)] w fun r w' => r = .returned (.tuple #[]) ∧ After w B hb mb E e v ((ents E).filter fun x => decide (x.f ≠ e.g.filt)) E.length ls w' := by
  obtain ⟨c0, c2, c3, c4, z0, z4⟩ := hist_free h.len.blk
  have hm := Mid.first h he hB hBm
  have HM := hideP hm
  have hg1 := grown_two w hb 0 (0 + 4) (.int .i32 1) (.int .i32 (-1073741824))
  have hwm : ¬ e.m = e.wt := ne_of_obj (h.grp e he) (h.wat e he) (by simp)
  have hmh : e.m ≠ hb := ne_of_obj (h.grp e he) h.len.blk (by simp)
  have hwh : e.wt ≠ hb := ne_of_obj (h.wat e he) h.len.blk (by simp)
  have d0 : w.cell? ⟨e.wt, 2, none⟩ = some (.pointer (some ⟨e.m, 0, none⟩)) := by rw [cell_of_block (h.wat e he)]; rfl
  have d1 : w.cell? ⟨e.m, 0, none⟩ = some (.int .i64 e.n) := by rw [cell_of_block (h.grp e he)]; rfl
  have d3 : w.cell? ⟨e.wt, 0, none⟩ = some (.string e.g.key) := by rw [cell_of_block (h.wat e he)]; rfl
  have d4 : w.cell? ⟨e.wt, 1, none⟩ = some (.bool false) := by rw [cell_of_block (h.wat e he), ← hp]; rfl
  have d5 : w.cell? ⟨hb, 26, none⟩ = some (.map (some mb)) := by rw [cell_of_block h.len.blk]; rfl
  have d2 : w.frozen? ⟨e.m, 0, none⟩ = false := frozen_of_block (h.grp e he) _
  have hne1 : some e.wt ≠ some hb := fun e => hwh (Option.some.inj e)
  have hne2 : some e.m ≠ some hb := fun e => hmh (Option.some.inj e)
  have HDE : Hid (∀ w2, Mid w B hb mb E e v (ents E) E.length ls w2 → _) := fun w2 h2 => Mid.delete h he h2 hBmb
  have hn0 : e.n - 1 = 0 := by omega
  clear hm h he
  go_enter_defers Try.func14, Try.ntmps14
  go_wp2_with fail
  refine (wlock_free rwW hb 0 _ _ _ c0 c2 c3 c4 z0 z4).mono ?_
  rintro r1 w1 ⟨rfl, hw1⟩
  rw [← hw1] at hg1 HM
  have k0 := kept_cell hg1 d0 hne1
  have k1 := kept_cell hg1 d1 hne2
  have k2 : w1.frozen? ⟨e.m, 0, none⟩ = false := (World.frozen?_of_block (a := ⟨e.m, 0, none⟩) (hg1.block e.m (lt_of_cell d1) hne2)).trans d2
  have k3 := kept_cell hg1 d3 hne1
  have k4 := kept_cell hg1 d4 hne1
  have hlt1 : hb < w1.heap.size := Nat.lt_of_lt_of_le (lt_of_cell d5) hg1.size
  clear hw1 hg1 c0 c2 c3 c4 z0 z4 d0 d1 d2 d3 d4 d5 hlt1
  rw [hn] at k1
  go_upto_region 4 with fail
  rw [hn0] at HM
  obtain ⟨w2, hw2⟩ : ∃ w2, w2 = w1.setCell ⟨e.m, 0, none⟩ (.int .i64 0) := ⟨_, rfl⟩
  rw [← hw2] at HM ⊢
  have q0 : w2.cell? ⟨hb, 26, none⟩ = some (.map (some mb)) := by rw [cell_of_block HM.out.len.blk]; rfl
  have q1 : w2.cell? ⟨e.wt, 0, none⟩ = some (.string e.g.key) := by rw [cell_of_block HM.out.wat]; rfl
  have q2 : w2.cell? ⟨e.wt, 1, none⟩ = some (.bool false) := by rw [cell_of_block HM.out.wat, ← hp]; rfl
  obtain ⟨w3, hr3, hm3⟩ := HDE.out w2 HM.out
  rw [hp] at hr3
  have HM3 := hideP hm3
  have j1 : w3.cell? ⟨e.wt, 1, none⟩ = some (.bool false) := by rw [cell_of_block hm3.wat, ← hp]; rfl
  have HU := hideP (lockd_held hm3.len.blk)
  clear hm3 hw2 k0 k1 k2 k3 k4
  refine wp_region_noPanic ?_
  go_region_law (refine step_delete_run rfl (.tmp 32) (.tmp 36) 43 72 rfl _ _ (by simp [Act.eval]) (by simp [Act.eval]) (hr3 _) ?_)
  all_goals
    refine NoPanic.normal ?_
    go_wp2
    refine leaves_cons (f := 21) (args := #[.pointer (some ⟨hb, 0, none⟩)]) (by simp) (by simp [go_sem]) ?_
    refine (wunlock_deferred rwW hb 0 _ _ .returning _ HU.out.1 HU.out.2.1 HU.out.2.2.1 HU.out.2.2.2.1 HU.out.2.2.2.2.1 HU.out.2.2.2.2.2).mono ?_
    rintro r5 u5 w5 ⟨rfl, rfl, rfl⟩
    exact ⟨_, results_none rfl _ _ _, rfl, HM3.out.done hB⟩
set_option maxHeartbeats 1600000 in
set_option maxRecDepth 100000 in
theorem unw_B2 {w : World} {B hb mb wb n : Nat} {v : Value} {E : List GE} {xs : List Value} {ls : List (Int × Int)} (h : BI w B hb mb wb n v E xs ls) {e : GE} (he : e ∈ E) (hB : B ≤ hb) (hBm : B ≤ e.m) (hn : e.n = 1) (hp : e.g.pre = true) (hBmb : B ≤ mb) (hp2 : ∀ p ∈ ls, -5000 ≤ p.2 ∧ p.2 ≤ 5000) (hasc : Asc (addLen ls e.g.key.size (-1))) (hsm : (addLen ls e.g.key.size (-1)).length ≤ 4096) (_hks : e.g.key.size ≤ 9223372036854775807) :
    Calls Try.prog 14 #[.pointer (some ⟨hb, 0, none⟩), .pointer (some ⟨e.wt, 0, none⟩)] w fun r w' => r = .returned (.tuple #[]) ∧ ∃ v', After w B hb mb E e v' ((ents E).filter fun x => decide (x.f ≠ e.g.filt)) E.length (addLen ls e.g.key.size (-1)) w' := by
  obtain ⟨c0, c2, c3, c4, z0, z4⟩ := hist_free h.len.blk
  have hm := Mid.first h he hB hBm
  have HM := hideP hm
  have hg1 := grown_two w hb 0 (0 + 4) (.int .i32 1) (.int .i32 (-1073741824))
  have hwm : ¬ e.m = e.wt := ne_of_obj (h.grp e he) (h.wat e he) (by simp)
  have hmh : e.m ≠ hb := ne_of_obj (h.grp e he) h.len.blk (by simp)
  have hwh : e.wt ≠ hb := ne_of_obj (h.wat e he) h.len.blk (by simp)
  have d0 : w.cell? ⟨e.wt, 2, none⟩ = some (.pointer (some ⟨e.m, 0, none⟩)) := by rw [cell_of_block (h.wat e he)]; rfl
  have d1 : w.cell? ⟨e.m, 0, none⟩ = some (.int .i64 e.n) := by rw [cell_of_block (h.grp e he)]; rfl
  have d3 : w.cell? ⟨e.wt, 0, none⟩ = some (.string e.g.key) := by rw [cell_of_block (h.wat e he)]; rfl
  have d4 : w.cell? ⟨e.wt, 1, none⟩ = some (.bool true) := by rw [cell_of_block (h.wat e he), ← hp]; rfl
  have d5 : w.cell? ⟨hb, 26, none⟩ = some (.map (some mb)) := by rw [cell_of_block h.len.blk]; rfl
  have d2 : w.frozen? ⟨e.m, 0, none⟩ = false := frozen_of_block (h.grp e he) _
  have hne1 : some e.wt ≠ some hb := fun e => hwh (Option.some.inj e)
  have hne2 : some e.m ≠ some hb := fun e => hmh (Option.some.inj e)
  have HDE : Hid (∀ w2, Mid w B hb mb E e v (ents E) E.length ls w2 → _) := fun w2 h2 => Mid.delete h he h2 hBmb
  have hn0 : e.n - 1 = 0 := by omega
  have HP2 := hideP hp2
  have HAS := hideP hasc
  have HSM := hideP hsm
  clear hp2 hasc hsm
  clear hm h he
  go_enter_defers Try.func14, Try.ntmps14
  go_wp2_with fail
  refine (wlock_free rwW hb 0 _ _ _ c0 c2 c3 c4 z0 z4).mono ?_
  rintro r1 w1 ⟨rfl, hw1⟩
  rw [← hw1] at hg1 HM
  have k0 := kept_cell hg1 d0 hne1
  have k1 := kept_cell hg1 d1 hne2
  have k2 : w1.frozen? ⟨e.m, 0, none⟩ = false := (World.frozen?_of_block (a := ⟨e.m, 0, none⟩) (hg1.block e.m (lt_of_cell d1) hne2)).trans d2
  have k3 := kept_cell hg1 d3 hne1
  have k4 := kept_cell hg1 d4 hne1
  have hlt1 : hb < w1.heap.size := Nat.lt_of_lt_of_le (lt_of_cell d5) hg1.size
  clear hw1 hg1 c0 c2 c3 c4 z0 z4 d0 d1 d2 d3 d4 d5 hlt1
  rw [hn] at k1
  go_upto_region 4 with fail
  rw [hn0] at HM
  obtain ⟨w2, hw2⟩ : ∃ w2, w2 = w1.setCell ⟨e.m, 0, none⟩ (.int .i64 0) := ⟨_, rfl⟩
  rw [← hw2] at HM ⊢
  have q0 : w2.cell? ⟨hb, 26, none⟩ = some (.map (some mb)) := by rw [cell_of_block HM.out.len.blk]; rfl
  have q1 : w2.cell? ⟨e.wt, 0, none⟩ = some (.string e.g.key) := by rw [cell_of_block HM.out.wat]; rfl
  have q2 : w2.cell? ⟨e.wt, 1, none⟩ = some (.bool true) := by rw [cell_of_block HM.out.wat, ← hp]; rfl
  obtain ⟨w3, hr3, hm3⟩ := HDE.out w2 HM.out
  rw [hp] at hr3
  have HM3 := hideP hm3
  have j1 : w3.cell? ⟨e.wt, 1, none⟩ = some (.bool true) := by rw [cell_of_block hm3.wat, ← hp]; rfl
  have j0 : w3.cell? ⟨e.wt, 0, none⟩ = some (.string e.g.key) := by rw [cell_of_block hm3.wat]; rfl
  clear hm3 hw2 k0 k1 k2 k3 k4
  refine wp_region_noPanic ?_
  go_region_law (refine step_delete_run rfl (.tmp 32) (.tmp 36) 43 72 rfl _ _ (by simp [Act.eval]) (by simp [Act.eval]) (hr3 _) ?_)
  all_goals
    refine NoPanic.normal ?_
    go_wp2_with fail
    refine (countLength_any B hb (lockd mb v) v ls e.g.key.size (-1) w3 HM3.out.len (by omega) HP2.out).mono ?_
    rintro r4 w4 ⟨rfl, hc4⟩
    obtain ⟨v', hm4⟩ := HM3.out.counted hc4 HAS.out HSM.out hB
    have HM4 := hideP hm4
    have HU := hideP (lockd_held hm4.len.blk)
    clear hm4 hc4
    go_wp2
    refine leaves_cons (f := 21) (args := #[.pointer (some ⟨hb, 0, none⟩)]) (by simp) (by simp [go_sem]) ?_
    refine (wunlock_deferred rwW hb 0 _ _ .returning _ HU.out.1 HU.out.2.1 HU.out.2.2.1 HU.out.2.2.2.1 HU.out.2.2.2.2.1 HU.out.2.2.2.2.2).mono ?_
    rintro r5 u5 w5 ⟨rfl, rfl, rfl⟩
    exact ⟨_, results_none rfl _ _ _, rfl, v', HM4.out.done hB⟩
end Go.Proofs.Qxb6612256a
