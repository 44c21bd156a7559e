import Derived.Test.Qxb6612240aFill
namespace Go.Proofs.Qxb6612240a
open Go.RowKit

theorem below_alloc2 (w : World) (o1 o2 : Obj) : Below w.heap.size w ((w.alloc o1).alloc o2) := ((Below.refl _ _).alloc (Nat.le_refl _) _).alloc (by simp) _
theorem store1_alloc (w : World) (V : Obj) (g o : Nat) (u : Value) (h : g < w.heap.size) : storeAt (w.alloc V) g o [u] = (w.setCell ⟨g, o, none⟩ u).alloc V := World.setCell_alloc_past _ _ _ _ h
theorem store2_alloc (w : World) (V : Obj) (g o : Nat) (u1 u2 : Value) (h : g < w.heap.size) : storeAt (w.alloc V) g o [u1, u2] = ((w.setCell ⟨g, o, none⟩ u1).setCell ⟨g, o + 1, none⟩ u2).alloc V := by
  show ((w.alloc V).setCell ⟨g, o, none⟩ u1).setCell ⟨g, o + 1, none⟩ u2 = _
  rw [World.setCell_alloc_past _ _ _ _ h, World.setCell_alloc_past _ _ _ _ (by simpa [World.setCell] using h)]

theorem newVote_any (v : Vt) (w : World) :
    Calls Try.prog 29 #[.int .u64 v.slot, .int .u64 v.round, .string v.leader, .string v.origin, .int .u64 v.inc, .int .u64 v.seq, .slice v.ta v.tl v.tc, .int .u64 v.nxt] w fun r w' => r = .returned (.agg #[.int .u64 v.slot, .int .u64 v.round, .string v.leader, .string v.origin, .int .u64 v.inc, .int .u64 v.seq, .slice v.ta v.tl v.tc, .int .u64 v.nxt]) ∧ w.alloc (.cells #[.int .u64 v.slot, .int .u64 v.round, .string v.leader, .string v.origin, .int .u64 v.inc, .int .u64 v.seq, .slice v.ta v.tl v.tc, .int .u64 v.nxt] 87) = w' := by
  go_enter Try.func29, Try.ntmps29
  go_wp2
  exact bodyPost_ret (v := .agg #[.int .u64 v.slot, .int .u64 v.round, .string v.leader, .string v.origin, .int .u64 v.inc, .int .u64 v.seq, .slice v.ta v.tl v.tc, .int .u64 v.nxt]) (by simp [results, Try.results29, go_sem]) rfl ⟨rfl, rfl⟩
theorem newPromise_any (fr : ByteArray) (a : Option Addr) (n c : Nat) (w : World) :
    Calls Try.prog 30 #[.string fr, .slice a n c] w fun r w' => r = .returned (.pointer (some ⟨w.heap.size, 0, none⟩)) ∧ w.alloc (.cells #[.string ⟨#[]⟩, .string fr, .int .u64 0, .string ⟨#[]⟩, .int .u64 0, .int .u64 0, .int .u64 0, .int .u64 0, .slice none 0 0, .slice a n c, .slice none 0 0] 116) = w' := by
  go_enter Try.func30, Try.ntmps30
  go_wp2
  go_ret
  exact ⟨rfl, rfl⟩
theorem newRound_any (en : Int) (a : Option Addr) (n c : Nat) (w : World) :
    Calls Try.prog 31 #[.int .u64 en, .slice a n c] w fun r w' => r = .returned (.agg #[.int .u64 en, .slice a n c]) ∧ w.alloc (.cells #[.int .u64 en, .slice a n c] 92) = w' := by
  go_enter Try.func31, Try.ntmps31
  go_wp2
  exact bodyPost_ret (v := .agg #[.int .u64 en, .slice a n c]) (by simp [results, Try.results31, go_sem]) rfl ⟨rfl, rfl⟩

theorem Try.info92 : (Try.prog.info? 92).map (fun i => (i.zero, i.size, i.bytes)) = some (some (.agg #[.int .u64 0, .slice none 0 0]), 2, 32) := by kernel_rfl
theorem Try.info89 : (Try.prog.info? 89).map (fun i => (i.zero, i.size, i.bytes)) = some (some (.pointer none), 1, 8) := by kernel_rfl
theorem Try.info87 : (Try.prog.info? 87).map (fun i => (i.zero, i.size, i.bytes)) = some (some (.agg #[.int .u64 0, .int .u64 0, .string ⟨#[]⟩, .string ⟨#[]⟩, .int .u64 0, .int .u64 0, .slice none 0 0, .int .u64 0]), 8, 96) := by kernel_rfl

set_option maxRecDepth 100000 in
set_option maxHeartbeats 8000000 in
theorem buildRounds_any (a : Option Addr) (n c : Nat) (rs : List Rd) (w : World) (h : RsOk w a n rs) (hn : n ≤ 1048576) (hm : ∀ r ∈ rs, r.n ≤ 1048576 ∧ ∀ p ∈ r.ps, p.n ≤ 1048576) :
    Calls Try.prog 18 #[.slice a n c] w fun r w' => r = .returned (.slice (some ⟨w.heap.size, 0, none⟩) n n) ∧ RInv w w' n rs n := by
  obtain ⟨i0, hi, hz0, hz1, hz2⟩ := info_parts Try.info92
  obtain ⟨j0, ji, jz0, jz1, jz2⟩ := info_parts Try.info89
  obtain ⟨l0, li, lz0, lz1, lz2⟩ := info_parts Try.info87
  go_enter Try.func18, Try.ntmps18
  go_wp2_with (at_make; refine wpList_make_full _ rfl (.tmp 12) (.tmp 12) 44 rfl w.heap.size 92 i0 _ 2 Try.underlying44 hi hz0 hz1 .i64 .i64 n n n rfl rfl rfl rfl (by rw [hz2]; omega) (by unfold maxLen; omega) (Nat.le_refl _) ?_; intro w1 hown1 hgr1)
  have hst : RInv w w1 n rs 0 := ⟨[], rfl, Fill.start hown1 hgr1, fun i r x _ hx => by simp at hx⟩
  clear hown1 hgr1
  go_loopw [4, 5, 6, 7, 8, 9, 10] (fun i _ _ _ _ _ _ wr => ∃ k : Nat, k ≤ n ∧ i = .int .i64 k ∧ RInv w wr n rs k) (fun i _ _ _ _ _ _ _ => n - (intOf i).toNat)
  case atStart => exact ⟨0, Nat.zero_le _, rfl, hst⟩
  case round =>
    clear hst
    rename World => wo
    obtain ⟨k, hk, rfl, hinv⟩ := hrel
    by_cases hlt : k < n
    · obtain ⟨ren, ra, rn, rc, rps, b, off, hg, rfl, c0, c1, hp⟩ := h.get hlt
      obtain ⟨hrn, hpm⟩ := hm _ (List.mem_of_getElem? hg)
      have hrn' : rn ≤ 1048576 := hrn
      have HPM : Hid (∀ p ∈ rps, p.n ≤ 1048576) := hpm
      have HG := hide_get hg
      clear hg hpm hrn
      have c1' := cell_ext hinv.bel c1
      go_wp2_with (at_make; refine wpList_make_full _ rfl (.tmp 26) (.tmp 26) 78 rfl wo.heap.size 89 j0 _ 1 Try.underlying78 ji jz0 jz1 .i64 .i64 rn rn rn rfl rfl rfl rfl (by rw [jz2]; omega) (by unfold maxLen; omega) (Nat.le_refl _) ?_; intro w2 hown2 hgr2)
      have hst2 : QInv wo w2 rn rps 0 := ⟨[], rfl, Fill.start hown2 hgr2, fun i r x _ hx => by simp at hx⟩
      clear hown2 hgr2 c1'
      go_loopw [7, 8, 9, 10] (fun j _ _ _ wx => ∃ q : Nat, q ≤ rn ∧ j = .int .i64 q ∧ QInv wo wx rn rps q) (fun j _ _ _ _ => rn - (intOf j).toNat)
      case atStart => exact ⟨0, Nat.zero_le _, rfl, hst2⟩
      case round =>
        clear hst2
        rename World => wp
        obtain ⟨q, hq, rfl, hqi⟩ := hrel
        have hbp : Below w.heap.size w wp := hinv.bel.trans (hqi.bel.mono hinv.bel.size)
        by_cases hlq : q < rn
        · obtain ⟨pfr, pa, pn, pc, pvs, b', off', hg', rfl, d0, d1, hv⟩ := hp.get hlq
          have hpn : pn ≤ 1048576 := HPM.out _ (List.mem_of_getElem? hg')
          have HG' := hide_get hg'
          clear hg'
          have d1' := cell_ext hbp d1
          go_wp2_with (at_make; refine wpList_make_full _ rfl (.tmp 39) (.tmp 39) 79 rfl wp.heap.size 87 l0 _ 8 Try.underlying79 li lz0 lz1 .i64 .i64 pn pn pn rfl rfl rfl rfl (by rw [lz2]; omega) (by unfold maxLen; omega) (Nat.le_refl _) ?_; intro w3 hown3 hgr3)
          have hst3 : Fill Vt.cells 8 87 wp w3 pn (pvs.take 0) := Fill.start hown3 hgr3
          clear hown3 hgr3 d1'
          go_loopw [9, 10] (fun j _ wx => ∃ l : Nat, l ≤ pn ∧ j = .int .i64 l ∧ Fill Vt.cells 8 87 wp wx pn (pvs.take l)) (fun j _ _ => pn - (intOf j).toNat)
          case atStart => exact ⟨0, Nat.zero_le _, rfl, hst3⟩
          case round =>
            clear hst3
            rename World => wx
            obtain ⟨l, hl, rfl, hfi⟩ := hrel
            have hbx : Below w.heap.size w wx := hbp.trans (hfi.bel.mono hbp.size)
            have d1' := cell_ext hbx d1
            by_cases hll : l < pn
            · obtain ⟨v, b'', off'', hg'', rfl, e0, e1, e2, e3, e4, e5, e6, e7, hvt⟩ := hv.get hll
              have HG'' := hide_get hg''
              clear hg''
              have e0' := cell_ext hbx e0
              have e1' := cell_ext hbx e1
              have e2' := cell_ext hbx e2
              have e3' := cell_ext hbx e3
              have e4' := cell_ext hbx e4
              have e5' := cell_ext hbx e5
              have e6' := cell_ext hbx e6
              have e7' := cell_ext hbx e7
              obtain ⟨y0, hy0⟩ := hfi.cell (j := l * 8) (mul_lt_of (j := 0) hll (by decide))
              obtain ⟨y1, hy1⟩ := hfi.cell (j := l * 8 + 1) (mul_lt_of hll (by decide))
              obtain ⟨y2, hy2⟩ := hfi.cell (j := l * 8 + 2) (mul_lt_of hll (by decide))
              obtain ⟨y3, hy3⟩ := hfi.cell (j := l * 8 + 3) (mul_lt_of hll (by decide))
              obtain ⟨y4, hy4⟩ := hfi.cell (j := l * 8 + 4) (mul_lt_of hll (by decide))
              obtain ⟨y5, hy5⟩ := hfi.cell (j := l * 8 + 5) (mul_lt_of hll (by decide))
              obtain ⟨y6, hy6⟩ := hfi.cell (j := l * 8 + 6) (mul_lt_of hll (by decide))
              obtain ⟨y7, hy7⟩ := hfi.cell (j := l * 8 + 7) (mul_lt_of hll (by decide))
              have hfz := hfi.frozen
              have hlw : wp.heap.size < wx.heap.size := lt_of_cell hy0
              go_wp2_with fail
              refine (newVote_any v _).mono ?_
              rintro r w' ⟨rfl, rfl⟩
              have hstv := hfi.push vt_len v (k := l) (by rw [List.length_take]; have := hv.len; simp only at this; omega) hll
              rw [← take_get HG''.out] at hstv
              have HST : Hid (Fill Vt.cells 8 87 wp (storeAt wx wp.heap.size (l * 8) v.cells) pn (pvs.take (l + 1))) := hstv
              clear hstv
              go_wp2_with fail
              go_light
              exact ⟨⟨l + 1, by omega, by go_num, HST.out.ext (below_alloc2 _ _ _)⟩, by simp [intOf]; omega⟩
            · have hle : l = pn := by omega
              have d0' := cell_ext hbx d0
              obtain ⟨Ms, hfq⟩ := hqi.fill
              obtain ⟨y, hy⟩ := hfq.cell (j := q) (by omega)
              have hyf := hfq.frozen q
              have hlw0 := lt_of_cell hy
              have hy' := cell_ext hfi.bel hy
              have hyf' : wx.frozen? ⟨wo.heap.size, q, none⟩ = false := (hfi.bel.frozen (p := ⟨wo.heap.size, q, none⟩) hlw0).trans hyf
              have hlw := lt_of_cell hy'
              subst hle
              have evs : pvs.take l = pvs := List.take_of_length_le (by have := hv.len; simp only at this; omega)
              rw [evs] at hfi
              have hst5 := hqi.step (V := .cells #[.string ⟨#[]⟩, .string pfr, .int .u64 0, .string ⟨#[]⟩, .int .u64 0, .int .u64 0, .int .u64 0, .int .u64 0, .slice none 0 0, .slice (some ⟨wp.heap.size, 0, none⟩) l l, .slice none 0 0] 116) HG'.out hv.len hlq hfi rfl rfl rfl
              rw [Nat.mul_one, ptrCells, store1_alloc _ _ _ _ _ hlw] at hst5
              have HST : Hid (QInv wo ((wx.setCell ⟨wo.heap.size, q, none⟩ (.pointer (some ⟨wx.heap.size, 0, none⟩))).alloc (.cells #[.string ⟨#[]⟩, .string pfr, .int .u64 0, .string ⟨#[]⟩, .int .u64 0, .int .u64 0, .int .u64 0, .int .u64 0, .slice none 0 0, .slice (some ⟨wp.heap.size, 0, none⟩) l l, .slice none 0 0] 116)) rn rps (q + 1)) := hst5
              clear hst5 hy hyf hfq evs
              go_wp2_with fail
              refine (newPromise_any _ _ _ _ _).mono ?_
              rintro r w' ⟨rfl, rfl⟩
              go_wp2_with fail
              go_light
              exact ⟨⟨q + 1, by omega, by go_num, HST.out⟩, by simp [intOf]; omega⟩
        · have hqe : q = rn := by omega
          have c0' := cell_ext hbp c0
          obtain ⟨Ls, hfr⟩ := hinv.fill
          obtain ⟨y0, hy0⟩ := hfr.cell (j := k * 2) (mul_lt_of (j := 0) hlt (by decide))
          obtain ⟨y1, hy1⟩ := hfr.cell (j := k * 2 + 1) (mul_lt_of hlt (by decide))
          have hyf := hfr.frozen
          have hlw0 := lt_of_cell hy0
          have hy0' := cell_ext hqi.bel hy0
          have hy1' := cell_ext hqi.bel hy1
          have hyf' : ∀ j, wp.frozen? ⟨w.heap.size, j, none⟩ = false := fun j => (hqi.bel.frozen (p := ⟨w.heap.size, j, none⟩) hlw0).trans (hyf j)
          have hlw := lt_of_cell hy0'
          subst hqe
          have hst6 := hinv.step (wy := wp.alloc (.cells #[.int .u64 ren, .slice (some ⟨wo.heap.size, 0, none⟩) q q] 92)) HG.out hp.len hlt hqi ((Below.refl _ _).alloc (Nat.le_refl _) _)
          rw [Br.cells, store2_alloc _ _ _ _ _ _ hlw] at hst6
          have HST : Hid (RInv w (((wp.setCell ⟨w.heap.size, k * 2, none⟩ (.int .u64 ren)).setCell ⟨w.heap.size, k * 2 + 1, none⟩ (.slice (some ⟨wo.heap.size, 0, none⟩) q q)).alloc (.cells #[.int .u64 ren, .slice (some ⟨wo.heap.size, 0, none⟩) q q] 92)) n rs (k + 1)) := hst6
          clear hst6 hy0 hy1 hyf hfr
          go_wp2_with fail
          refine (newRound_any _ _ _ _ _).mono ?_
          rintro r w' ⟨rfl, rfl⟩
          go_wp2_with fail
          go_light
          exact ⟨⟨k + 1, by omega, by go_num, HST.out⟩, by simp [intOf]; omega⟩
    · go_wp2
      go_ret
      have e : k = n := by omega
      subst e
      exact ⟨rfl, hinv⟩
end Go.Proofs.Qxb6612240a
