import Derived.Test.Qxb6612240aJoin
import Derived.Test.Qxb6612240aZz1
import Derived.Test.Qxb6612240aMay2
import Derived.Test.Qxb6612240aHigh
namespace Go.Proofs.Qxb6612240a
open Go.RowKit Go.MapKept
open Go.ChangeMaps (setBlock)

set_option maxRecDepth 100000 in
set_option maxHeartbeats 8000000 in
theorem exact_any (a : Option Addr) (n c : Nat) (rs : List Rd) (w : World) (h : RsOk w a n rs) (a1 : Option Addr) (n1 c1 : Nat) (ps1 : List Pl) (h1 : PsOk w a1 n1 ps1) :
    Calls Try.prog 4 #[.slice a n c, .slice a1 n1 c1] w fun r w' => r = .returned (.bool true) ∧ Below w.heap.size w w' := by
  have H := hideP h
  have H1 := hideP h1
  have hn := h.n_max
  have hn1 := h1.n_max
  clear h h1
  go_enter Try.func4, Try.ntmps4
  go_wp2_with fail
  refine (zzExact a n c rs w H.out a1 n1 c1 ps1 H1.out).mono ?_
  rintro r' w' ⟨⟨bo, rfl, hbo⟩, rfl⟩
  cases bo
  · go_wp2
    go_ret
    exact ⟨rfl, Below.refl _ _⟩
  · have HW := hideP (hbo rfl)
    clear hbo
    go_wp2_with fail
    refine (roundsSize_any a n c rs w H.out).mono ?_
    rintro r' w' ⟨⟨x, y, z, rfl⟩, m0, rfl⟩
    have hb0 := Below.draws w m0
    go_wp2_with fail
    refine (poolsSize_any a1 n1 c1 ps1 _ (H1.out.ext hb0)).mono ?_
    rintro r' w' ⟨⟨x1, y1, rfl⟩, rfl⟩
    generalize w.drewN m0 = w0 at hb0
    go_wp2_with fail
    all_goals try (go_ret; exact ⟨rfl, hb0⟩)
    clear hn hn1
    obtain ⟨hn, bv, bm, bm'⟩ := bounds_rs H.out (by have := HW.out; omega)
    obtain ⟨hn1, bp1, bq1⟩ := bounds_ps H1.out (by have := HW.out; omega)
    have BV := hideP bv
    have BM := hideP bm
    have BM' := hideP bm'
    have BP1 := hideP bp1
    have BQ1 := hideP bq1
    clear bv bm bm' bp1 bq1
    refine (reported_any a n c rs w0 (H.out.ext hb0) BV.out).mono ?_
    rintro r' w1 ⟨v, rfl, hown, hb1⟩
    obtain ⟨ao, ecap, rfl, hrowE⟩ := ownsRow_rowAt Ent.cells (fun _ => rfl) hown
    clear hown
    have hEn : (reported rs).length ≤ 1048576 := Nat.le_trans (rep_len rs) BV.out
    have hSn : (slotsOf (reported rs)).length ≤ 1048576 := Nat.le_trans (slotsOf_len _) hEn
    have hbw1 : Below w.heap.size w w1 := bx hb0 hb1
    go_wp2_with fail
    refine (slots_any ao _ ecap (reported rs) w1 hrowE rfl hEn).mono ?_
    rintro r' w2 ⟨v, rfl, hown, hb2⟩
    obtain ⟨so, scap, rfl, hrowS⟩ := ownsRow_rowAt u64Cells u64_len hown
    clear hown
    have hbw2 := bx hbw1 hb2
    go_wp2_with fail
    refine (buildRounds_any a n c rs w2 (H.out.ext hbw2) hn BM.out).mono ?_
    rintro r' w3 ⟨rfl, hR⟩
    obtain ⟨hBR, hb3⟩ := hR.built H.out.len
    clear hR
    have hbw3 := bx hbw2 hb3
    go_wp2_with fail
    refine (buildPools_any a1 n1 c1 ps1 w3 (H1.out.ext hbw3) hn1 BP1.out).mono ?_
    rintro r' w4 ⟨rfl, hP1⟩
    obtain ⟨Ms1, hl1, hr1, hp1, hb4⟩ := hP1.built
    clear hP1
    have hbw4 := bx hbw3 hb4
    have HP1 : Hid (BuiltPs w4 (some ⟨w3.heap.size, 0, none⟩) n1 (ps1.map (·.ms))) := Pls.built ⟨by rw [hl1, List.length_map, H1.out.len], hp1⟩ hr1 (by rw [List.length_map, H1.out.len])
    have HBR := hideP (hBR.ext hb4)
    have HRE := hideP (hrowE.ext (bx (bx hb2 hb3) hb4))
    have HRS := hideP (hrowS.ext (bx hb3 hb4))
    have HBW := hideP hbw4
    clear hp1 hr1 hl1 hBR hrowE hrowS hbw1 hbw2 hbw3 hbw4 hb0 hb1 hb2 hb3 hb4
    go_wp2_with fail
    refine (zztally_any _ n _ rs _ n1 _ (ps1.map (·.ms)) w4 HBR.out HP1.out hn BV.out BM'.out hn1 BQ1.out).mono ?_
    rintro r' w11 ⟨ta, SA, rfl, q1, q2, q3, hb9⟩
    have RA : Hid (Res w11 ta rs (ps1.map (·.ms))) := ⟨SA, q1, q2, q3⟩
    clear q1 q2 q3
    have HRE11 := hideP (HRE.out.ext hb9)
    have HRS11 := hideP (HRS.out.ext hb9)
    have HBW11 := hideP (bx HBW.out hb9)
    clear HRE HRS HBW HBR HP1 hb9
    have ca := RA.out.count
    go_wp2
    clear ca
    go_loopw [13, 14] (fun i _ wr => ∃ k : Nat, k ≤ (slotsOf (reported rs)).length ∧ i = .int .i64 k ∧ Below w11.heap.size w11 wr) (fun i _ _ => (slotsOf (reported rs)).length - (intOf i).toNat)
    case atStart => exact ⟨0, Nat.zero_le _, rfl, Below.refl _ _⟩
    case round =>
      rename World => wr
      obtain ⟨k, hk, rfl, hbr⟩ := hrel
      by_cases hlt : k < (slotsOf (reported rs)).length
      · obtain ⟨s, hs⟩ := get_of_lt rfl hlt
        have hsm := List.mem_of_getElem? hs
        obtain ⟨b, off, rfl, hc⟩ := (HRS11.out.ext hbr) k s hs
        have c0 : wr.cell? ⟨b, off + k, none⟩ = some (.int .u64 s) := by simpa using hc 0 _ rfl
        have HSM := hideP hsm
        clear hc hs hsm
        obtain ⟨v, hv⟩ : ∃ v, v = ansV rs s := ⟨_, rfl⟩
        obtain ⟨m, hm⟩ : ∃ m, m = ansM rs (ps1.map (·.ms)) s := ⟨_, rfl⟩
        have HV := hideP hv
        have HMA := hideP hm
        have HMM : Hid (mayOf (namesOf rs (reported rs) s) (grp (reported rs) s) v (ps1.map (·.ms)) = m) := by show _ = _; rw [hv, hm]; rfl
        clear hv hm
        go_wp2_with fail
        refine (highest_any ao _ ecap (reported rs) s wr (HRE11.out.ext hbr) rfl hEn HSM.out).mono ?_
        rintro r' wB ⟨⟨i, e, rfl, hi, hbest⟩, hbB⟩
        have hrB := HRE11.out.ext (bx hbr hbB)
        obtain ⟨eb, eoff, rfl, _⟩ := hrB i e hi
        obtain ⟨f0, f1, f2, f3, f4, f5, f6, f7⟩ := ent_get hrB hi
        have hil : i < (reported rs).length := (List.getElem?_eq_some_iff.1 hi).1
        have hev : e.v = v := by rw [HV.out]; exact hbest
        rw [hev] at f0 f1 f2 f3 f4 f5 f6 f7
        clear hev hbest hrB hi
        have cB := hideP (new_cells' wB [.int .u64 v.slot, .int .u64 v.round, .string v.leader, .string v.origin, .int .u64 v.inc, .int .u64 v.seq, .slice v.ta v.tl v.tc, .int .u64 v.nxt] 50)
        have hbB' := hideP (below_alloc1 wB (.cells #[.int .u64 v.slot, .int .u64 v.round, .string v.leader, .string v.origin, .int .u64 v.inc, .int .u64 v.seq, .slice v.ta v.tl v.tc, .int .u64 v.nxt] 50))
        go_wp2_with fail
        generalize hwB : wB.alloc (.cells #[.int .u64 v.slot, .int .u64 v.round, .string v.leader, .string v.origin, .int .u64 v.inc, .int .u64 v.seq, .slice v.ta v.tl v.tc, .int .u64 v.nxt] 50) = wB' at hbB' ⊢
        have cB' : Hid (∀ j u, [.int .u64 v.slot, .int .u64 v.round, .string v.leader, .string v.origin, .int .u64 v.inc, .int .u64 v.seq, .slice v.ta v.tl v.tc, .int .u64 v.nxt][j]? = some u → wB'.cell? ⟨wB.heap.size, j, none⟩ = some u) := hwB ▸ cB.out
        clear cB hwB f0 f1 f2 f3 f4 f5 f6 f7
        have hbrB : Below w11.heap.size w11 wB' := bx hbr (bx hbB hbB'.out)
        refine ((RA.out.ext hbrB).view HSM.out HV.out HMA.out).mono ?_
        rintro r' wA ⟨rfl, hbA⟩
        have cA := hideP (new_cells' wA [Value.bool true, .int .u64 v.slot, .int .u64 v.round, .string v.leader, .string v.origin, .int .u64 v.inc, .int .u64 v.seq, .slice v.ta v.tl v.tc, .int .u64 v.nxt, .bool m] 55)
        have hbA' := hideP (below_alloc1 wA (.cells #[.bool true, .int .u64 v.slot, .int .u64 v.round, .string v.leader, .string v.origin, .int .u64 v.inc, .int .u64 v.seq, .slice v.ta v.tl v.tc, .int .u64 v.nxt, .bool m] 55))
        obtain ⟨wz, hwz⟩ : ∃ wz, wz = wA.alloc (.cells #[.bool true, .int .u64 v.slot, .int .u64 v.round, .string v.leader, .string v.origin, .int .u64 v.inc, .int .u64 v.seq, .slice v.ta v.tl v.tc, .int .u64 v.nxt, .bool m] 55) := ⟨_, rfl⟩
        rw [← hwz] at hbA'
        have cA' : Hid (∀ j u, [Value.bool true, .int .u64 v.slot, .int .u64 v.round, .string v.leader, .string v.origin, .int .u64 v.inc, .int .u64 v.seq, .slice v.ta v.tl v.tc, .int .u64 v.nxt, .bool m][j]? = some u → wz.cell? ⟨wA.heap.size, j, none⟩ = some u) := hwz ▸ cA.out
        have HWZ := hideP hwz
        clear cA hwz
        have hbBz : Below wB'.heap.size wB' wz := bx hbA hbA'.out
        have hbrZ : Below w11.heap.size w11 wz := bx hbrB hbBz
        have CB := hideP (fun j u hj => cell_ext hbBz (cB'.out j u hj))
        have HQ : Hid (∀ W, Below wz.drew.heap.size wz.drew W → W.cell? ⟨wA.heap.size, 0, none⟩ = some (.bool true) ∧ W.cell? ⟨wA.heap.size, 1, none⟩ = some (.int .u64 v.slot) ∧ W.cell? ⟨wA.heap.size, 2, none⟩ = some (.int .u64 v.round) ∧ W.cell? ⟨wA.heap.size, 3, none⟩ = some (.string v.leader) ∧ W.cell? ⟨wA.heap.size, 4, none⟩ = some (.string v.origin) ∧ W.cell? ⟨wA.heap.size, 5, none⟩ = some (.int .u64 v.inc) ∧ W.cell? ⟨wA.heap.size, 6, none⟩ = some (.int .u64 v.seq) ∧ W.cell? ⟨wA.heap.size, 7, none⟩ = some (.slice v.ta v.tl v.tc) ∧ W.cell? ⟨wA.heap.size, 8, none⟩ = some (.int .u64 v.nxt) ∧ W.cell? ⟨wA.heap.size, 9, none⟩ = some (.bool m) ∧ W.cell? ⟨wB.heap.size, 0, none⟩ = some (.int .u64 v.slot) ∧ W.cell? ⟨wB.heap.size, 1, none⟩ = some (.int .u64 v.round) ∧ W.cell? ⟨wB.heap.size, 2, none⟩ = some (.string v.leader) ∧ W.cell? ⟨wB.heap.size, 3, none⟩ = some (.string v.origin) ∧ W.cell? ⟨wB.heap.size, 4, none⟩ = some (.int .u64 v.inc) ∧ W.cell? ⟨wB.heap.size, 5, none⟩ = some (.int .u64 v.seq) ∧ W.cell? ⟨wB.heap.size, 6, none⟩ = some (.slice v.ta v.tl v.tc) ∧ W.cell? ⟨wB.heap.size, 7, none⟩ = some (.int .u64 v.nxt)) := fun W hW => by
          have hbW : Below wz.heap.size wz W := (Below.draws wz 1).trans hW
          exact ⟨cell_ext hbW (cA'.out 0 _ rfl), cell_ext hbW (cA'.out 1 _ rfl), cell_ext hbW (cA'.out 2 _ rfl), cell_ext hbW (cA'.out 3 _ rfl), cell_ext hbW (cA'.out 4 _ rfl), cell_ext hbW (cA'.out 5 _ rfl), cell_ext hbW (cA'.out 6 _ rfl), cell_ext hbW (cA'.out 7 _ rfl), cell_ext hbW (cA'.out 8 _ rfl), cell_ext hbW (cA'.out 9 _ rfl), cell_ext hbW (CB.out 0 _ rfl), cell_ext hbW (CB.out 1 _ rfl), cell_ext hbW (CB.out 2 _ rfl), cell_ext hbW (CB.out 3 _ rfl), cell_ext hbW (CB.out 4 _ rfl), cell_ext hbW (CB.out 5 _ rfl), cell_ext hbW (CB.out 6 _ rfl), cell_ext hbW (CB.out 7 _ rfl)⟩
        have HX : Hid (∀ W, Below wz.drew.heap.size wz.drew W → RsOk W a n rs ∧ RowAt W (some ⟨eb, eoff, none⟩) 10 Ent.cells (reported rs) ∧ PsOk W a1 n1 ps1 ∧ VtOk W v) := fun W hW => by
          have hbW : Below wz.heap.size wz W := (Below.draws wz 1).trans hW
          have hb11 : Below w11.heap.size w11 W := bx hbrZ hbW
          have hbw : Below w.heap.size w W := bx HBW11.out hb11
          exact ⟨H.out.ext hbw, HRE11.out.ext hb11, H1.out.ext hbw, by rw [HV.out]; exact (ans_ok H.out HSM.out).ext hbw⟩
        go_upto_region 20 with fail
        rw [← HWZ.out]
        have xa0 := cA'.out 0 _ rfl
        have xa1 := cA'.out 1 _ rfl
        have xa2 := cA'.out 2 _ rfl
        have xa3 := cA'.out 3 _ rfl
        have xa4 := cA'.out 4 _ rfl
        have xa5 := cA'.out 5 _ rfl
        have xa6 := cA'.out 6 _ rfl
        have xa7 := cA'.out 7 _ rfl
        have xa8 := cA'.out 8 _ rfl
        have xa9 := cA'.out 9 _ rfl
        have xb0 := CB.out 0 _ rfl
        have xb1 := CB.out 1 _ rfl
        have xb2 := CB.out 2 _ rfl
        have xb3 := CB.out 3 _ rfl
        have xb4 := CB.out 4 _ rfl
        have xb5 := CB.out 5 _ rfl
        have xb6 := CB.out 6 _ rfl
        have xb7 := CB.out 7 _ rfl
        go_region_held3 (fun W => W.cell? ⟨wA.heap.size, 0, none⟩ = some (.bool true) ∧ W.cell? ⟨wA.heap.size, 1, none⟩ = some (.int .u64 v.slot) ∧ W.cell? ⟨wA.heap.size, 2, none⟩ = some (.int .u64 v.round) ∧ W.cell? ⟨wA.heap.size, 3, none⟩ = some (.string v.leader) ∧ W.cell? ⟨wA.heap.size, 4, none⟩ = some (.string v.origin) ∧ W.cell? ⟨wA.heap.size, 5, none⟩ = some (.int .u64 v.inc) ∧ W.cell? ⟨wA.heap.size, 6, none⟩ = some (.int .u64 v.seq) ∧ W.cell? ⟨wA.heap.size, 7, none⟩ = some (.slice v.ta v.tl v.tc) ∧ W.cell? ⟨wA.heap.size, 8, none⟩ = some (.int .u64 v.nxt) ∧ W.cell? ⟨wA.heap.size, 9, none⟩ = some (.bool m) ∧ W.cell? ⟨wB.heap.size, 0, none⟩ = some (.int .u64 v.slot) ∧ W.cell? ⟨wB.heap.size, 1, none⟩ = some (.int .u64 v.round) ∧ W.cell? ⟨wB.heap.size, 2, none⟩ = some (.string v.leader) ∧ W.cell? ⟨wB.heap.size, 3, none⟩ = some (.string v.origin) ∧ W.cell? ⟨wB.heap.size, 4, none⟩ = some (.int .u64 v.inc) ∧ W.cell? ⟨wB.heap.size, 5, none⟩ = some (.int .u64 v.seq) ∧ W.cell? ⟨wB.heap.size, 6, none⟩ = some (.slice v.ta v.tl v.tc) ∧ W.cell? ⟨wB.heap.size, 7, none⟩ = some (.int .u64 v.nxt)) (go_keep) (first | (go_at_call 22; refine (viewIs_any v v m _ (HX.out wz.drew (Below.refl _ _)).2.2.2 (HX.out wz.drew (Below.refl _ _)).2.2.2).mono ?_; rintro r' w3 ⟨rfl, hb3⟩; rw [sameV_self]; obtain ⟨t0, t1, t2, t3, t4, t5, t6, t7, t8, t9, t10, t11, t12, t13, t14, t15, t16, t17⟩ := HQ.out w3 hb3) | (go_at_call 23; refine (mayBe_any a n c rs _ ecap s v a1 n1 c1 ps1 w3 (HX.out w3 hb3).1 (HX.out w3 hb3).2.1 hEn HSM.out (HX.out w3 hb3).2.2.1 hn1 BP1.out).mono ?_; rintro r'' w4 ⟨rfl, hb4⟩; rw [HMM.out]; obtain ⟨u0', u1', u2', u3', u4', u5', u6', u7', u8', u9', u10', u11', u12', u13', u14', u15', u16', u17'⟩ := HQ.out w4 (bx hb3 hb4)))
        all_goals
          have hb34 : Below wz.heap.size wz w4 := (Below.draws wz 1).trans (bx hb3 hb4)
          go_wp2
          exact ⟨⟨k + 1, by omega, by go_num, bx hbrZ hb34⟩, by simp [intOf]; omega⟩
      · go_wp2
        go_ret
        exact ⟨rfl, bx HBW11.out hbr⟩
end Go.Proofs.Qxb6612240a
