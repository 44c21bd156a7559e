import Derived.Test.Qxb6612240aRowOwn
namespace Go.Proofs.Qxb6612240a
open Go.RowKit

theorem Try.info52 : (Try.prog.info? 52).map (fun i => (i.zero, i.size, i.bytes)) = some (some (.agg #[.int .i64 0, .string ⟨#[]⟩, .int .u64 0, .int .u64 0, .string ⟨#[]⟩, .string ⟨#[]⟩, .int .u64 0, .int .u64 0, .slice none 0 0, .int .u64 0]), 10, 120) := by kernel_rfl

theorem Ent.oneCell (x : Ent) : ∀ u ∈ x.cells, u.oneCell' = true := by
  intro u hu
  simp only [Ent.cells, Vt.cells, List.mem_cons, List.not_mem_nil, or_false] at hu
  rcases hu with rfl | rfl | rfl | rfl | rfl | rfl | rfl | rfl | rfl | rfl <;> rfl

/-- THE STEP: one entry more. -/
theorem ent_append {ops : Array Oper} {o : Oper} {a : Act} {wr : World} {K : Act → World → Prop} {Q : Exit → Act → World → Prop} {F : Prop} {B m : Nat} {E : List Ent} {v : Value} {V : Obj}
    (hown : wr.ownsRow B 52 10 v E.length (E.flatMap Ent.cells)) (x : Ent) (hb : E.length + 1 ≤ 1048576) (hB : B ≤ wr.heap.size)
    (hg : o.guard = none) (hop : o.op = Op.call { callee := Callee.builtin Builtin.append, args := #[.tmp 52, .tmp 61], argTypes := #[38, 38] })
    (hs : a.eval (.tmp 52) = v) (hx : a.eval (.tmp 61) = .slice (some ⟨wr.heap.size + 1, 0, none⟩) 1 1)
    (hK : ∀ v' w', Hid (w'.ownsRow B 52 10 v' (E ++ [x]).length ((E ++ [x]).flatMap Ent.cells)) → (∀ w0, Below B w0 wr → Below B w0 w') → K (a.put o.dst v') w') :
    if Region.wanted o (yielded ops a.tmps) = true then Oper.wp Try.prog o a (((wr.alloc V).drewN m).alloc (.cells x.cells.toArray 52)) K Q else F := by
  obtain ⟨i0, hi, hz0, hz1, hz2⟩ := info_parts Try.info52
  have e1 : ((wr.alloc V).drewN m).heap.size = wr.heap.size + 1 := by simp
  refine step_append_own hg (.tmp 52) (.tmp 61) 38 hop B 52 i0 _ 10 120 Try.underlying38 hi hz0 hz1 hz2 rfl (by decide) v E.length (E.flatMap Ent.cells) hs ?_ ⟨wr.heap.size + 1, 0, none⟩ 1 1 x.cells hx rfl ?_ x.oneCell ?_ ?_ ?_ ?_
  · exact World.ownsRow.alloc (w := (wr.alloc V).drewN m) (hown.alloc V) _
  · have := new_cells ((wr.alloc V).drewN m) x.cells 52
    rwa [e1] at this
  · unfold maxLen; omega
  · omega
  · simp; omega
  · intro v' w' h1 h2 _
    refine hK v' w' ?_ fun w0 h0 => ?_
    · rw [flatMap_snoc]; simpa [Hid] using h1
    · have hlt := hown.lt
      exact ((((h0.alloc hB V)).trans ⟨rfl, rfl, rfl, Nat.le_refl _, fun _ _ => rfl⟩ : Below B w0 ((wr.alloc V).drewN m)).alloc (by simp; omega) _).grown h2 (by simp; omega) (fun k hk => (hlt k hk).1)

set_option maxRecDepth 100000 in
set_option maxHeartbeats 4000000 in
theorem reported_any (a : Option Addr) (n c : Nat) (rs : List Rd) (w : World) (h : RsOk w a n rs) (hN : vcount rs ≤ 1048576) :
    Calls Try.prog 15 #[.slice a n c] w fun r w' => ∃ v, r = .returned v ∧ w'.ownsRow w.heap.size 52 10 v (reported rs).length ((reported rs).flatMap Ent.cells) ∧ Below w.heap.size w w' := by
  obtain ⟨i0, hi, hz0, hz1, hz2⟩ := info_parts Try.info52
  have hn := h.n_max
  have B0 : Hid (vcount rs ≤ 1048576) := hN
  clear hN
  go_enter Try.func15, Try.ntmps15
  go_wp2
  go_loopw [3, 4, 5, 6, 7, 8] (fun v i _ _ _ _ wr => ∃ k : Nat, k ≤ n ∧ i = .int .i64 k ∧ wr.ownsRow w.heap.size 52 10 v (repTo rs k).length ((repTo rs k).flatMap Ent.cells) ∧ Below w.heap.size w wr) (fun _ i _ _ _ _ _ => n - (intOf i).toNat)
  case atStart => exact ⟨0, Nat.zero_le _, rfl, World.ownsRow_nil _ _ _ _, Below.refl _ _⟩
  case round =>
    obtain ⟨k, hk, rfl, hown, hbel⟩ := hrel
    by_cases hlt : k < n
    · obtain ⟨ren, ra, rn, rc, rps, b, off, hg, rfl, c0, c1, hp⟩ := h.get hlt
      have HG := hide_get hg
      clear hg
      have pm := hp.n_max
      have c1' := cell_ext hbel c1
      have OWN : Hid (wr.ownsRow w.heap.size 52 10 u3 (repTo rs k).length ((repTo rs k).flatMap Ent.cells)) := hown
      clear hown
      go_wp2
      go_loopw [3, 6, 7, 8] (fun v i _ _ wx => ∃ q : Nat, q ≤ rn ∧ i = .int .i64 q ∧ Hid (wx.ownsRow w.heap.size 52 10 v (repTo rs k ++ repP k ren (rps.take q)).length ((repTo rs k ++ repP k ren (rps.take q)).flatMap Ent.cells)) ∧ Below w.heap.size w wx) (fun _ i _ _ _ => rn - (intOf i).toNat)
      case atStart => exact ⟨0, Nat.zero_le _, rfl, by simpa [repP] using OWN, hbel⟩
      case round =>
        clear OWN hbel c1'
        obtain ⟨q, hq, rfl, hown, hbel⟩ := hrel
        by_cases hlq : q < rn
        · obtain ⟨pfr, pa, pn, pc, pvs, b', off', hg', rfl, d0, d1, hv⟩ := hp.get hlq
          have HG' := hide_get hg'
          clear hg'
          have vm := hv.n_max
          have d1' := cell_ext hbel d1
          go_wp2
          go_loopw [3, 7, 8] (fun v i _ wy => ∃ l : Nat, l ≤ pn ∧ i = .int .i64 l ∧ Hid (wy.ownsRow w.heap.size 52 10 v (repTo rs k ++ repP k ren (rps.take q) ++ repV k ren pfr (pvs.take l)).length ((repTo rs k ++ repP k ren (rps.take q) ++ repV k ren pfr (pvs.take l)).flatMap Ent.cells)) ∧ Below w.heap.size w wy) (fun _ i _ _ => pn - (intOf i).toNat)
          case atStart => exact ⟨0, Nat.zero_le _, rfl, by simpa [repV] using hown, hbel⟩
          case round =>
            clear hown hbel d1'
            rename_i wy _
            obtain ⟨l, hl, rfl, hown, hbel⟩ := hrel
            by_cases hll : l < pn
            · obtain ⟨v, b'', off'', hg'', rfl, e0, e1, e2, e3, e4, e5, e6, e7, hvt⟩ := hv.get hll
              have HG'' := hide_get hg''
              clear hg''
              have c0' := cell_ext hbel c0
              have d0' := cell_ext hbel d0
              have d1' := cell_ext hbel d1
              have e0' := cell_ext hbel e0
              have e1' := cell_ext hbel e1
              have e2' := cell_ext hbel e2
              have e3' := cell_ext hbel e3
              have e4' := cell_ext hbel e4
              have e5' := cell_ext hbel e5
              have e6' := cell_ext hbel e6
              have e7' := cell_ext hbel e7
              have hb0 := lt_of_cell c0'
              have hb1 := lt_of_cell d0'
              by_cases hs : v.slot < ren
              · go_wp2
                go_quiet (fail)
                go_wp2
                have hbd := rep_bound HG.out HG'.out (by rw [hv.len]; exact hll) B0.out
                have hBw := hbel.size
                go_region_law (refine ent_append hown.out ⟨k, pfr, v⟩ (by simp only [List.length_append]; exact hbd) hBw rfl rfl rfl rfl ?_; intro v' w' hown' hbel')
                all_goals
                  go_wp2
                  go_roundw
                  case rel =>
                    go_light
                    exact ⟨l + 1, by omega, by go_num, by rw [repV_yes k ren pfr HG''.out hs, ← List.append_assoc]; exact hown', hbel' _ hbel⟩
                  case measure => simp [intOf]; omega
              · have hsb : decide (v.slot < ren) = false := by simpa using hs
                go_wp2
                go_quiet (fail)
                go_wp2
                go_roundw
                case rel =>
                  go_light
                  exact ⟨l + 1, by omega, by go_num, by rw [repV_no k ren pfr HG''.out (Int.not_lt.2 hs)]; exact World.ownsRow.alloc hown.out _, below_drewN (hbel.alloc hbel.size _) _⟩
                case measure => simp [intOf]; omega
            · have d1' := cell_ext hbel d1
              go_wp2
              go_roundw
              case rel =>
                go_light
                refine ⟨q + 1, by omega, by go_num, ?_, hbel⟩
                rw [repP_succ k ren HG'.out, ← List.append_assoc]
                have evs : pvs.take l = pvs := List.take_of_length_le (by have := hv.len; simp only at this; omega)
                rw [evs] at hown
                exact hown
              case measure => simp [intOf]; omega
        · go_wp2
          go_roundw
          case rel =>
            go_light
            refine ⟨k + 1, by omega, by go_num, ?_, hbel⟩
            rw [repTo_succ HG.out]
            have evs : rps.take q = rps := List.take_of_length_le (by have := hp.len; simp only at this; omega)
            rw [evs] at hown
            exact hown
          case measure => simp [intOf]; omega
    · go_wp2
      go_ret
      refine ⟨_, rfl, ?_, hbel⟩
      have e : k = rs.length := by rw [h.len]; omega
      rw [e] at hown
      exact hown
end Go.Proofs.Qxb6612240a
