import Derived.Test.Qxb6612256aIns3
namespace Go.Proofs.Qxb6612256a
open Go.RowKit Go.MapKept
open Go.ChangeMaps (setBlock)

/-- slices.Insert, every way. -/
theorem insert_any (B : Nat) (v : Value) (n i vb : Nat) (ls : List (Int × Int)) (p : Int × Int) (w : World) (hown : w.ownsRow B 80 2 v n (ls.flatMap lcells)) (hl : ls.length = n) (hn : n ≤ 4096) (hi : i ≤ n) (hB : B ≤ w.heap.size)
    (hv : w.heap[vb]? = some (.cells (lcells p).toArray 80 (0, 0))) (hvb : v.ownBlock ≠ some vb) :
    Calls Try.prog 26 #[v, .int .i64 i, .slice (some ⟨vb, 0, none⟩) 1 1] w fun r w' => ∃ v', r = .returned v' ∧ w'.ownsRow B 80 2 v' (n + 1) ((insAt ls i p).flatMap lcells) ∧ w.grownBy w' v.ownBlock := by
  rcases Nat.lt_or_eq_of_le hi with hlt | rfl
  · rcases hown.2 with ⟨_, rfl⟩ | ⟨g, cap, cur, rfl, hBg, hg, hcap, hmax, hsz, htake⟩
    · omega
    · have hcl : cur.toList.length = cap * 2 := by simpa using hsz
      have hg' : w.heap[g]? = some (.cells cur.toList.toArray 80 (0, 0)) := by simpa using hg
      by_cases hr : n + 1 ≤ cap
      · exact insert_room B g cap n i vb cur.toList ls p w hBg hg' hcl htake hl hn hlt hr (by unfold maxLen at hmax; omega) (fun e => hvb (by rw [e]; rfl)) hv
      · have : cap = n := by omega
        subst this
        exact insert_grow B g cap i vb cur.toList ls p w hB hg' hcl htake hl hn hlt hv
  · exact insert_end B v i vb ls p w hown hl hn hB (by rw [cell_of_block hv]; rfl) (by rw [cell_of_block hv]; rfl)

/-! ### append in place and clear at elements of two cells -/
theorem run_append2 {P : Program} (w : World) (t ty e : TypeId) (hu : P.underlying t = some (.slice e)) (hsz : (P.info? e).map (·.size) = some 2) (g sLen sCap : Nat) (sp : Addr) (m sc : Nat) (cs cur : List Value) (te : TypeId)
    (hg : w.heap[g]? = some (.cells cur.toArray te (0, 0))) (hn : cs.length = m * 2) (hsrc : ∀ j v, cs[j]? = some v → w.cell? (sp.add j) = some v) (hroom : sLen + m ≤ sCap) (hfit : sLen * 2 + cs.length ≤ cur.length) (h1 : ∀ v ∈ cs, v.oneCell' = true) :
    ∃ w', (Builtin.append_ #[t, t] ty #[.slice (some ⟨g, 0, none⟩) sLen sCap, .slice (some sp) m sc]).run P w = .ok (.slice (some ⟨g, 0, none⟩) (sLen + m) sCap) w' ∧ w'.heap[g]? = some (.cells (splice cur (sLen * 2) cs).toArray te (0, 0)) ∧ w.grownBy w' (some g) := by
  have hl := run_loadCells_list (P := P) w sp cs hsrc
  have hst := run_storeCells_at P g (sLen * 2) te cs 0 cur.toArray w hg (by simpa using hfit) h1
  cases hq : P.info? e with
  | none => simp [hq] at hsz
  | some i =>
    have hi : i.size = 2 := by simpa [hq] using hsz
    rw [hn] at hl
    have hst' : (storeCells ⟨g, sLen * 2, none⟩ cs).run P w = .ok () (w.setRow g (splice cur (sLen * 2) cs).toArray) := by simpa [splice] using hst
    refine ⟨w.setRow g (splice cur (sLen * 2) cs).toArray, ?_, setRow_heap w g _ _ te _ hg, grown_setRow _ _ _⟩
    simp [Builtin.append_, run_underlying hu, sizeOf, typeInfo, hq, hi, Builtin.lenOf, Builtin.firstCells, hroom, hl, add_off, hst']
theorem run_clear2 {P : Program} (w : World) (t ty e : TypeId) (z0 z1 : Value) (hu : P.underlying t = some (.slice e)) (hz : ∀ w : World, (zeroValue e).run P w = .ok (.agg #[z0, z1]) w) (hc : (Value.agg #[z0, z1]).cells = #[z0, z1]) (h1 : ∀ v ∈ [z0, z1], v.oneCell' = true) (g o sc : Nat) (cur : List Value) (te : TypeId)
    (hg : w.heap[g]? = some (.cells cur.toArray te (0, 0))) (hfit : o + 2 ≤ cur.length) :
    ∃ w', (Builtin.clear_ #[t] ty #[.slice (some ⟨g, o, none⟩) 1 sc]).run P w = .ok (.tuple #[]) w' ∧ w'.heap[g]? = some (.cells (splice cur o [z0, z1]).toArray te (0, 0)) ∧ w.grownBy w' (some g) := by
  have hst := run_storeCells_at P g o te [z0, z1] 0 cur.toArray w hg (by simpa using hfit) h1
  have hzc : (Builtin.zeroCells #[z0, z1] 1).toList = [z0, z1] := by
    have : Array.range 2 = #[0, 1] := by decide
    simp [Builtin.zeroCells, this]
  have hst' : (storeCells ⟨g, o, none⟩ [z0, z1]).run P w = .ok () (w.setRow g (splice cur o [z0, z1]).toArray) := by simpa [splice] using hst
  refine ⟨w.setRow g (splice cur o [z0, z1]).toArray, ?_, setRow_heap w g _ _ te _ hg, grown_setRow _ _ _⟩
  simp [Builtin.clear_, run_underlying hu, hz, hc, hzc, hst']
theorem step_append_run {P : Program} {ops : Array Oper} {o : Oper} {a : Act} {w : World} {K : Act → World → Prop} {Q : Exit → Act → World → Prop} {E : Prop} (hgd : o.guard = none) (d s : Operand) (t t' : TypeId)
    (ho : o.op = .call { callee := .builtin .append, args := #[d, s], argTypes := #[t, t'] }) (v u : Value) (hd : a.eval d = v) (hs : a.eval s = u) {v' : Value} {w' : World}
    (hr : (Builtin.append_ #[t, t'] o.type #[v, u]).run P w = .ok v' w') (h : K (a.put o.dst v') w') : if Region.wanted o (yielded ops a.tmps) = true then Oper.wp P o a w K Q else E := by
  have hw : Region.wanted o (yielded ops a.tmps) = true := by simp [Region.wanted, hgd]
  rw [if_pos hw]
  unfold Oper.wp
  simp only [execOp, ho, resolve, invoke, builtin, Sem.run_bind, Sem.run_pure, Result.andThen_ok, List.map_toArray, List.map_cons, List.map_nil, hd, hs, hr]
  exact h
theorem Try.zero80 (w : World) : (zeroValue 80).run Try.prog w = .ok (.agg #[.int .i64 0, .int .i64 0]) w := by kernel_rfl

set_option maxHeartbeats 400000 in
set_option maxRecDepth 100000 in
theorem delete_any (B g cap k i : Nat) (ls : List (Int × Int)) (w : World) (hown : w.ownsRow B 80 2 (.slice (some ⟨g, 0, none⟩) (k + 1) cap) (k + 1) (ls.flatMap lcells)) (hl : ls.length = k + 1) (hn : k ≤ 4096) (hi : i ≤ k) :
    Calls Try.prog 27 #[.slice (some ⟨g, 0, none⟩) (k + 1) cap, .int .i64 i, .int .i64 ((i : Int) + 1)] w fun r w' => ∃ v', r = .returned v' ∧ w'.ownsRow B 80 2 v' k ((ls.eraseIdx i).flatMap lcells) ∧ w.grownBy w' (some g) := by
  obtain ⟨cur, hBg, hg, hcap, hmax, hcl, htake⟩ : ∃ cur : List Value, B ≤ g ∧ w.heap[g]? = some (.cells cur.toArray 80 (0, 0)) ∧ k + 1 ≤ cap ∧ cap ≤ maxLen ∧ cur.length = cap * 2 ∧ cur.take ((k + 1) * 2) = ls.flatMap lcells := by
    rcases hown.2 with ⟨h, _⟩ | ⟨g', cap', cur, hv, hBg, hg, hcap, hmax, hsz, htake⟩
    · simp at h
    · simp at hv
      obtain ⟨rfl, rfl⟩ := hv
      exact ⟨cur.toList, hBg, by simpa using hg, hcap, hmax, by simpa using hsz, htake⟩
  clear hown
  have hc63 : cap ≤ 9223372036854775807 := by unfold maxLen at hmax; omega
  clear hmax
  obtain ⟨X, hX⟩ : ∃ X, X = (ls.take i).flatMap lcells := ⟨_, rfl⟩
  obtain ⟨Y, hY⟩ : ∃ Y, Y = (ls.drop (i + 1)).flatMap lcells := ⟨_, rfl⟩
  have hXl : X.length = i * 2 := by rw [hX, lcells_length, List.length_take]; omega
  have hYl : Y.length = (k - i) * 2 := by rw [hY, lcells_length, List.length_drop]; omega
  have hY1 : ∀ u ∈ Y, u.oneCell' = true := by rw [hY]; exact lcells_one _
  have hcur : ∃ R, cur = X ++ R := ⟨_, by rw [hX]; exact cur_parts ls i cur (k + 1) htake⟩
  obtain ⟨R, hR⟩ := hcur
  have hYc : ∀ j v, Y[j]? = some v → cur[(i + 1) * 2 + j]? = some v := by
    intro j v hj
    have hp := cur_parts ls (i + 1) cur (k + 1) htake
    have hl2 : ((ls.take (i + 1)).flatMap lcells).length = (i + 1) * 2 := by rw [lcells_length, List.length_take]; omega
    rw [hp, List.getElem?_append_right (by omega), hl2, Nat.add_sub_cancel_left, ← hY, List.getElem?_append_left (List.getElem?_eq_some_iff.1 hj).1]
    exact hj
  obtain ⟨A, hA, hsrc⟩ : ∃ A : Addr, (if cap = i + 1 then some (⟨g, 0, none⟩ : Addr) else some ⟨g, (i + 1) * 2, none⟩) = some A ∧ (∀ t u, Y[t]? = some u → w.drew.cell? (A.add t) = some u) := by
    by_cases h : cap = i + 1
    · refine ⟨⟨g, 0, none⟩, by simp [h], fun t u hu => ?_⟩
      have : Y.length = 0 := by omega
      rw [List.length_eq_zero_iff.1 this] at hu
      simp at hu
    · refine ⟨⟨g, (i + 1) * 2, none⟩, by simp [h], fun t u hu => ?_⟩
      rw [add_off]
      show w.cell? _ = _
      rw [cell_of_block hg]
      exact hYc t u hu
  obtain ⟨w1, hr1, hG1, hB1⟩ := run_append2 w.drew 64 64 80 Try.underlying64 Try.sz80 g i cap A (k - i) (cap - (i + 1)) Y cur 80 hg hYl hsrc (by omega) (by omega) hY1
  have hf1 : (splice cur (i * 2) Y).length = cap * 2 := by rw [length_splice _ _ _ (by omega), hcl]
  obtain ⟨w2, hr2, hG2, hB2⟩ := run_clear2 w1 64 0 80 (.int .i64 0) (.int .i64 0) Try.underlying64 Try.zero80 rfl (by simp [Value.oneCell']) g (k * 2) (cap - k) _ 80 hG1 (by omega)
  have hres : (splice (splice cur (i * 2) Y) (k * 2) [.int .i64 0, .int .i64 0]).take (k * 2) = X ++ Y := by
    have e1 : splice cur (i * 2) Y = X ++ (Y ++ cur.drop (i * 2 + Y.length)) := by
      unfold splice
      rw [hR, List.take_append_of_le_length (by omega), List.take_of_length_le (by omega)]
    unfold splice
    rw [List.take_append_of_le_length (by rw [List.length_take]; unfold splice at hf1; omega), List.take_take, Nat.min_self]
    have e2 : List.take (i * 2) cur ++ (Y ++ List.drop (i * 2 + Y.length) cur) = splice cur (i * 2) Y := rfl
    rw [e2, e1, ← List.append_assoc, List.take_append_of_le_length (by simp; omega), List.take_of_length_le (by simp; omega)]
  have hfin : w2.ownsRow B 80 2 (.slice (some ⟨g, 0, none⟩) k cap) k ((ls.eraseIdx i).flatMap lcells) := by
    have he : (ls.eraseIdx i).flatMap lcells = X ++ Y := by rw [List.eraseIdx_eq_take_drop_succ, List.flatMap_append, hX, hY]
    refine ⟨by rw [he, List.length_append, hXl, hYl]; omega, .inr ⟨g, cap, _, rfl, hBg, hG2, by omega, by unfold maxLen; omega, ?_, ?_⟩⟩
    · simp
      rw [length_splice _ _ _ (by simp [hf1]; omega), hf1]
    · rw [he]; exact hres
  have hgr : w.grownBy w2 (some g) := (grown_drew w _).trans (hB1.trans hB2)
  have hik : i + (k - i) = k := by omega
  rw [hik] at hr1
  have HF := hideP hfin
  have HGR := hideP hgr
  have hz2 : ¬ ((i : Int) = (i : Int) + 1) := by omega
  have hw1 : IntKind.i64.wrap ((i : Int) + 1) = (i : Int) + 1 := by rw [IntKind.wrap_i64]; omega
  have hb1 : (0 : Int) ≤ (i : Int) + 1 := by omega
  have htn : ((i : Int) + 1).toNat = i + 1 := by omega
  have hb3 : (i : Int) ≤ (k : Int) := by omega
  have hb6 : (i : Int) ≤ (k : Int) + 1 := by omega
  have hik2 : k + 1 - (i + 1) = k - i := by omega
  have hicap : i ≤ cap := by omega
  have hkcap : k ≤ cap := by omega
  have hck : ¬ (cap = k) := by omega
  have hci : ¬ (cap = i) := by omega
  clear hfin hgr hres hf1 hG1 hB1 hG2 hB2 hsrc hYc hR hY1 hXl hYl hX hY htake hcl hg
  go_enter Try.func27, Try.ntmps27
  go_wp2_with fail
  go_region_law (refine step_append_run rfl (.tmp 22) (.tmp 25) 64 64 rfl _ _ (by simp [Act.eval, Act.put]) (by simp [Act.eval, Act.put]) hr1 ?_)
  go_wp2
  go_ret
  exact ⟨_, rfl, HF.out, HGR.out⟩
end Go.Proofs.Qxb6612256a
