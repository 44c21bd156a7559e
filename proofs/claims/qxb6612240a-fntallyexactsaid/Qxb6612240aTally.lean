import Derived.Test.Qxb6612240aTail
namespace Go.Proofs.Qxb6612240a
open Go.RowKit Go.MapKept
open Go.ChangeMaps (setBlock)

set_option maxRecDepth 100000 in
set_option maxHeartbeats 8000000 in
theorem tally_any (a : Option Addr) (n c : Nat) (rs : List Rd) (pa : Option Addr) (pn pc : Nat) (L : List (List ByteArray)) (w : World) (h : BuiltRs w a n rs) (hps : BuiltPs w pa pn L) (hn : n ≤ 1048576) (hN : vcount rs ≤ 1048576)
    (hsm : ∀ r ∈ rs, r.ps.length ≤ 1048576 ∧ ∀ p ∈ r.ps, p.vs.length ≤ 1048576) (hpn : pn ≤ 1048576) (hpm : ∀ ms ∈ L, ms.length ≤ 1048576) :
    Calls Try.prog 28 #[.slice a n c, .slice pa pn pc] w fun r w' => ∃ tb S, r = .returned (.map (some tb)) ∧ MapIs kind64 w' tb S (tv rs (reported rs) L) ∧ (∀ s, s ∈ S ↔ s ∈ slotsOf (reported rs)) ∧ S.length = (slotsOf (reported rs)).length ∧ Below w.heap.size w w' := by
  have hmm := @run_makeMap Try.prog
  have BN : Hid (vcount rs ≤ 1048576) := hN
  have SM : Hid (∀ r ∈ rs, r.ps.length ≤ 1048576 ∧ ∀ p ∈ r.ps, p.vs.length ≤ 1048576) := hsm
  have PM : Hid (∀ ms ∈ L, ms.length ≤ 1048576) := hpm
  clear hN hsm hpm
  go_enter Try.func28, Try.ntmps28
  go_wp2
  have hst : TInv w (((w.alloc (.map #[] 0)).alloc (.map #[] 0)).alloc (.cells #[.map (some (w.heap.size + 1))] 110)) rs [] [] := by
    refine ⟨⟨fun _ => .slice none 0 0, ⟨((MapIs.made w _).alloc _).alloc _, fun s hs => by simp [slotsOf] at hs, fun s hs => by simp [slotsOf] at hs⟩⟩, ?_, ?_, fun i r b _ hb => by simp at hb, ?_, ?_⟩
    · have := (MapIs.made (k0 := kind64) (w.alloc (.map #[] 0)) (hval [] [])).alloc (.cells #[.map (some (w.heap.size + 1))] 110)
      rw [World.size_alloc] at this
      exact this
    · go_simp
    · exact (((Below.refl _ _).alloc (Nat.le_refl _) _).alloc (by simp) _).alloc (by simp; omega) _
    · simp
  go_loopw [30] (fun i wr => ∃ (k : Nat) (PB : List Nat), k ≤ n ∧ i = .int .i64 k ∧ PB.length = k ∧ TInv w wr rs (repTo rs k) PB) (fun i _ => n - (intOf i).toNat)
  case atStart => exact ⟨0, [], Nat.zero_le _, rfl, rfl, hst⟩
  case round =>
    clear hst
    rename World => wo
    obtain ⟨k, PB, hk, rfl, hPl, hinv⟩ := hrel
    have HPL : Hid (PB.length = k) := hPl
    clear hPl
    by_cases hlt : k < n
    · obtain ⟨⟨ren, ra, rn', rc', rps⟩, g, b, off, hg, rfl, c0, c1, hmsgs⟩ := h.get hlt
      have hrl : rps.length ≤ 1048576 := (SM.out _ (List.mem_of_getElem? hg)).1
      have HPM : Hid (∀ p ∈ rps, p.vs.length ≤ 1048576) := (SM.out _ (List.mem_of_getElem? hg)).2
      have HG := hide_get hg
      clear hg
      have c0' := cell_ext hinv.bel c0
      have c1' := cell_ext hinv.bel c1
      simp only at c0 c1 c0' c1' hmsgs
      go_wp2
      have hz : TInv w ((wo.alloc (.cells #[.int .u64 ren, .slice (some ⟨g, 0, none⟩) rps.length rps.length] 92)).alloc (.map #[] 0)) rs (repTo rs k) PB := hinv.ext (below_alloc2 _ _ _)
      have hrb : ((wo.alloc (.cells #[.int .u64 ren, .slice (some ⟨g, 0, none⟩) rps.length rps.length] 92)).alloc (.map #[] 0)).heap[wo.heap.size]? = some (.cells #[.int .u64 ren, .slice (some ⟨g, 0, none⟩) rps.length rps.length] 92 (0, 0)) := by
        rw [(MapKept.heap_alloc _ _).2 _ (by simp)]
        exact (MapKept.heap_alloc _ _).1
      have hpm : MapIs kindStr ((wo.alloc (.cells #[.int .u64 ren, .slice (some ⟨g, 0, none⟩) rps.length rps.length] 92)).alloc (.map #[] 0)) (wo.heap.size + 1) [] (fun _ => .bool true) := by
        have := MapIs.made (k0 := kindStr) (wo.alloc (.cells #[.int .u64 ren, .slice (some ⟨g, 0, none⟩) rps.length rps.length] 92)) (fun _ => .bool true)
        simpa using this
      have hnew : ∀ b' ∈ PB, b' ≠ wo.heap.size + 1 := by
        intro b' hb' e
        obtain ⟨i, hi⟩ := List.getElem?_of_mem hb'
        have hil : i < n := by have := (List.getElem?_eq_some_iff.1 hi).1; have := HPL.out; omega
        obtain ⟨r', hr'⟩ := get_of_lt h.len hil
        have := (hinv.proms i r' b' hr' hi).2.lt
        omega
      have hsz0 := hinv.sz
      clear hinv c0' c1'
      generalize (wo.alloc (.cells #[.int .u64 ren, .slice (some ⟨g, 0, none⟩) rps.length rps.length] 92)).alloc (.map #[] 0) = wz at hz hrb hpm ⊢
      go_loopw [38] (fun j wx => ∃ q : Nat, q ≤ rps.length ∧ j = .int .i64 q ∧ MapIs kindStr wx (wo.heap.size + 1) (fromsOf (rps.take q)) (fun _ => .bool true) ∧ wz.grownBy wx (some (wo.heap.size + 1))) (fun j _ => rps.length - (intOf j).toNat)
      case atStart => exact ⟨0, Nat.zero_le _, rfl, hpm, ⟨rfl, rfl, rfl, Nat.le_refl _, fun _ _ _ => rfl⟩⟩
      case round =>
        rename World => wx
        obtain ⟨q, hq, rfl, hmq, hgq⟩ := hrel
        have hbx : Below w.heap.size w wx := hz.bel.grown hgq hz.bel.size (fun j hj => by cases hj; omega)
        by_cases hlq : q < rps.length
        · obtain ⟨p, m, gv, hp, d0, d1, d9, hvr⟩ := hmsgs.get hlq
          have HP := hide_get hp
          clear hp
          have d0' := cell_ext hbx d0
          have d1' := cell_ext hbx d1
          have hput : (Instr.mapUpdate 111 (.map (some (wo.heap.size + 1))) (.string p.fr) (.bool true)).run Try.prog wx = .ok () (setBlock wx (wo.heap.size + 1) (mkF kindStr (addKey (fromsOf (rps.take q)) p.fr) (updV (fun _ => .bool true) p.fr (.bool true)))) := hmq.put (P := Try.prog) (t := 111) (kt := 9) (e := 4) Try.underlying111 Try.underlying9 p.fr (.bool true)
          have hmq' := hmq.afterPut p.fr (.bool true)
          have HM : Hid (MapIs kindStr (setBlock wx (wo.heap.size + 1) (mkF kindStr (addKey (fromsOf (rps.take q)) p.fr) (updV (fun _ => .bool true) p.fr (.bool true)))) (wo.heap.size + 1) (fromsOf (rps.take (q + 1))) (fun _ => .bool true)) := by
            rw [fromsOf_succ HP.out]
            exact hmq'.congr fun k _ => by simp [updV]
          clear hmq'
          go_wp2
          go_roundw
          case rel =>
            go_light
            exact ⟨q + 1, by omega, by go_num, HM.out, hgq.trans (setBlock_grown _ _ _)⟩
          case measure => simp [intOf]; omega
        · have efs : rps.take q = rps := List.take_of_length_le (by omega)
          have hrbx : wx.heap[wo.heap.size]? = some (.cells #[.int .u64 ren, .slice (some ⟨g, 0, none⟩) rps.length rps.length] 92 (0, 0)) := (hgq.block _ (Array.getElem?_eq_some_iff.1 hrb).1 (by simp)).trans hrb
          have hT : TInv w wx rs (repTo rs k) (PB ++ [wo.heap.size + 1]) := hz.addRound HPL.out HG.out hgq (by omega) (fun cur e => by rw [hpm.block] at e; simp [mkF] at e) hnew (by rw [efs] at hmq; exact hmq)
          have hPB : Hid ((PB ++ [wo.heap.size + 1])[k]? = some (wo.heap.size + 1)) := by
            show _ = _
            rw [List.getElem?_append_right (by have := HPL.out; omega)]
            simp [HPL.out]
          have hPL2 : Hid ((PB ++ [wo.heap.size + 1]).length = k + 1) := by show _ = _; simp [HPL.out]
          have r1 : wx.cell? ⟨wo.heap.size, 1, none⟩ = some (.slice (some ⟨g, 0, none⟩) rps.length rps.length) := by simp [World.cell?, hrbx]
          clear hz hrb hpm hnew hmq hgq hbx efs
          generalize PB ++ [wo.heap.size + 1] = PB2 at hT hPB hPL2
          go_wp2
          clear r1
          go_loopw [51] (fun j wy => ∃ q2 : Nat, q2 ≤ rps.length ∧ j = .int .i64 q2 ∧ TInv w wy rs (repTo rs k ++ repP k ren (rps.take q2)) PB2 ∧ wy.heap[wo.heap.size]? = some (.cells #[.int .u64 ren, .slice (some ⟨g, 0, none⟩) rps.length rps.length] 92 (0, 0))) (fun j _ => rps.length - (intOf j).toNat)
          case atStart => exact ⟨0, Nat.zero_le _, rfl, by simpa [repP] using hT, hrbx⟩
          case round =>
            clear hT hrbx
            rename World => wy
            obtain ⟨q2, hq2, rfl, hT, hrby⟩ := hrel
            by_cases hlq2 : q2 < rps.length
            · obtain ⟨⟨pfr, ppa, ppn, ppc, pvs⟩, m, gv, hp, d0, d1, d9, hvr⟩ := hmsgs.get hlq2
              have hvl : pvs.length ≤ 1048576 := HPM.out _ (List.mem_of_getElem? hp)
              have HP := hide_get hp
              clear hp
              simp only at d1 d9 hvr
              have d0' := cell_ext hT.bel d0
              have d9' := cell_ext hT.bel d9
              go_wp2
              clear d0' d9'
              go_loopw [60] (fun j wv => ∃ l : Nat, l ≤ pvs.length ∧ j = .int .i64 l ∧ TInv w wv rs (repTo rs k ++ repP k ren (rps.take q2) ++ repV k ren pfr (pvs.take l)) PB2 ∧ wv.heap[wo.heap.size]? = some (.cells #[.int .u64 ren, .slice (some ⟨g, 0, none⟩) rps.length rps.length] 92 (0, 0))) (fun j _ => pvs.length - (intOf j).toNat)
              case atStart => exact ⟨0, Nat.zero_le _, rfl, by simpa [repV] using hT, hrby⟩
              case round =>
                clear hT hrby
                rename World => wv
                obtain ⟨l, hl, rfl, hT, hrbv⟩ := hrel
                by_cases hll : l < pvs.length
                · obtain ⟨v, hv⟩ := get_of_lt rfl hll
                  obtain ⟨e0, e1, e2, e3, e4, e5, e6, e7⟩ := votes_get hvr hv
                  have HV := hide_get hv
                  clear hv
                  have e0' := cell_ext hT.bel e0
                  have e1' := cell_ext hT.bel e1
                  have e2' := cell_ext hT.bel e2
                  have e3' := cell_ext hT.bel e3
                  have e4' := cell_ext hT.bel e4
                  have e5' := cell_ext hT.bel e5
                  have e6' := cell_ext hT.bel e6
                  have e7' := cell_ext hT.bel e7
                  clear e0 e1 e2 e3 e4 e5 e6 e7
                  have r0 : wv.cell? ⟨wo.heap.size, 0, none⟩ = some (.int .u64 ren) := by simp [World.cell?, hrbv]
                  have hb0 : wo.heap.size < wv.heap.size := lt_of_cell r0
                  by_cases hs : v.slot < ren
                  · have hbd := rep_bound HG.out HP.out hll BN.out
                    go_wp2
                    clear e0' e1' e2' e3' e4' e5' e6' e7' r0
                    have hTu : TInv w (wv.alloc (.cells v.cells.toArray 87)) rs (repTo rs k ++ repP k ren (rps.take q2) ++ repV k ren pfr (pvs.take l)) PB2 := hT.ext (below_alloc1 _ _)
                    have hvb : (wv.alloc (.cells v.cells.toArray 87)).heap[wv.heap.size]? = some (.cells v.cells.toArray 87 (0, 0)) := (MapKept.heap_alloc _ _).1
                    have hrbu : (wv.alloc (.cells v.cells.toArray 87)).heap[wo.heap.size]? = some (.cells #[.int .u64 ren, .slice (some ⟨g, 0, none⟩) rps.length rps.length] 92 (0, 0)) := ((MapKept.heap_alloc _ _).2 _ hb0).trans hrbv
                    have hvz : w.heap.size + 3 ≤ wv.heap.size := hT.sz
                    have EW : wv.alloc (.cells v.cells.toArray 87) = wv.alloc (.cells #[.int .u64 v.slot, .int .u64 v.round, .string v.leader, .string v.origin, .int .u64 v.inc, .int .u64 v.seq, .slice v.ta v.tl v.tc, .int .u64 v.nxt] 87) := rfl
                    rw [EW] at hTu hvb hrbu
                    clear hT hrbv EW hb0
                    generalize wv.alloc (.cells #[.int .u64 v.slot, .int .u64 v.round, .string v.leader, .string v.origin, .int .u64 v.inc, .int .u64 v.seq, .slice v.ta v.tl v.tc, .int .u64 v.nxt] 87) = wu at hTu hvb hrbu ⊢
                    generalize wv.heap.size = vb at hvb hvz ⊢
                    have HE : Hid (repV k ren pfr (pvs.take (l + 1)) = repV k ren pfr (pvs.take l) ++ [⟨k, pfr, v⟩]) := repV_yes k ren pfr HV.out hs
                    have hbE : (repTo rs k ++ repP k ren (rps.take q2) ++ repV k ren pfr (pvs.take l)).length + 1 ≤ 1048576 := by simp only [List.length_append]; exact hbd
                    clear hbd hs
                    obtain ⟨E, hE⟩ : ∃ E, E = repTo rs k ++ repP k ren (rps.take q2) ++ repV k ren pfr (pvs.take l) := ⟨_, rfl⟩
                    rw [← hE] at hTu hbE
                    have HEE : Hid (E = repTo rs k ++ repP k ren (rps.take q2) ++ repV k ren pfr (pvs.take l)) := hE
                    clear hE
                    have f0 : wu.cell? ⟨vb, 0, none⟩ = some (.int .u64 v.slot) := by simp [World.cell?, hvb, Vt.cells]
                    have f1 : wu.cell? ⟨vb, 1, none⟩ = some (.int .u64 v.round) := by simp [World.cell?, hvb, Vt.cells]
                    have f2 : wu.cell? ⟨vb, 2, none⟩ = some (.string v.leader) := by simp [World.cell?, hvb, Vt.cells]
                    have f3 : wu.cell? ⟨vb, 3, none⟩ = some (.string v.origin) := by simp [World.cell?, hvb, Vt.cells]
                    have f4 : wu.cell? ⟨vb, 4, none⟩ = some (.int .u64 v.inc) := by simp [World.cell?, hvb, Vt.cells]
                    have f5 : wu.cell? ⟨vb, 5, none⟩ = some (.int .u64 v.seq) := by simp [World.cell?, hvb, Vt.cells]
                    have f6 : wu.cell? ⟨vb, 6, none⟩ = some (.slice v.ta v.tl v.tc) := by simp [World.cell?, hvb, Vt.cells]
                    have f7 : wu.cell? ⟨vb, 7, none⟩ = some (.int .u64 v.nxt) := by simp [World.cell?, hvb, Vt.cells]
                    have d1u := cell_ext hTu.bel d1
                    have hml := lt_of_cell d1
                    have hmlu := lt_of_cell d1u
                    have hvlu := lt_of_cell f0
                    obtain ⟨val, hc⟩ := hTu.casts
                    have hlook : ∀ W, MapIs kind64 W w.heap.size (slotsOf E) val → (Instr.lookup 109 (.map (some w.heap.size)) (.int .u64 v.slot) false).run Try.prog W = .ok (oldV E val v.slot) W := fun W hW => hW.look (P := Try.prog) (t := 109) (kt := 48) (e := 117) Try.underlying109 Try.underlying48 (z := .slice none 0 0) (by kernel_rfl) v.slot
                    have hputc : ∀ W x, MapIs kind64 W w.heap.size (slotsOf E) val → (Instr.mapUpdate 109 (.map (some w.heap.size)) (.int .u64 v.slot) x).run Try.prog W = .ok () (setBlock W w.heap.size (mkF kind64 (addKey (slotsOf E) v.slot) (updV val v.slot x))) := fun W x hW => hW.put (P := Try.prog) (t := 109) (kt := 48) (e := 117) Try.underlying109 Try.underlying48 v.slot x
                    have hm0 : MapIs kind64 wu w.heap.size (slotsOf E) val := hc.map
                    have hm1 : MapIs kind64 wu.drew w.heap.size (slotsOf E) val := hm0.drew
                    have hm2 : ∀ o, MapIs kind64 (wu.alloc o).drew w.heap.size (slotsOf E) val := fun o => (hm0.alloc o).drew
                    have hcold := hc.old v.slot
                    have hgl := grp_len E v.slot
                    have hTW : TInv w ((wu.alloc (.cells (cstCells ⟨k, pfr, v⟩).toArray 119)).drew) rs E PB2 := hTu.ext (below_drewN (below_alloc1 wu (.cells (cstCells ⟨k, pfr, v⟩).toArray 119)) 1)
                    have hcW : CastsIs ((wu.alloc (.cells (cstCells ⟨k, pfr, v⟩).toArray 119)).drew) (w.heap.size + 3) w.heap.size E val := hc.ext (below_drewN (below_alloc1 wu (.cells (cstCells ⟨k, pfr, v⟩).toArray 119)) 1)
                    have hoW : ((wu.alloc (.cells (cstCells ⟨k, pfr, v⟩).toArray 119)).drew).ownsRow (w.heap.size + 3) 119 9 (oldV E val v.slot) (grp E v.slot).length ((grp E v.slot).flatMap cstCells) := World.ownsRow.alloc (w := wu) hcold (.cells (cstCells ⟨k, pfr, v⟩).toArray 119)
                    have hvbW : ((wu.alloc (.cells (cstCells ⟨k, pfr, v⟩).toArray 119)).drew).heap[vb]? = some (.cells v.cells.toArray 87 (0, 0)) := ((MapKept.heap_alloc wu (.cells (cstCells ⟨k, pfr, v⟩).toArray 119)).2 vb hvlu).trans hvb
                    have hrbW : ((wu.alloc (.cells (cstCells ⟨k, pfr, v⟩).toArray 119)).drew).heap[wo.heap.size]? = some (.cells #[.int .u64 ren, .slice (some ⟨g, 0, none⟩) rps.length rps.length] 92 (0, 0)) := ((MapKept.heap_alloc wu (.cells (cstCells ⟨k, pfr, v⟩).toArray 119)).2 _ (Array.getElem?_eq_some_iff.1 hrbu).1).trans hrbu
                    have hsW : w.heap.size + 3 ≤ ((wu.alloc (.cells (cstCells ⟨k, pfr, v⟩).toArray 119)).drew).heap.size := hTW.sz
                    have hncW : ∀ j u, (cstCells ⟨k, pfr, v⟩)[j]? = some u → ((wu.alloc (.cells (cstCells ⟨k, pfr, v⟩).toArray 119)).drew).cell? ⟨wu.heap.size, j, none⟩ = some u := new_cells' wu (cstCells ⟨k, pfr, v⟩) 119
                    have q0 : ((wu.alloc (.cells (cstCells ⟨k, pfr, v⟩).toArray 119)).drew).cell? ⟨vb, 0, none⟩ = some (.int .u64 v.slot) := cell_ext (below_alloc1 wu (.cells (cstCells ⟨k, pfr, v⟩).toArray 119)) f0
                    have q1 : ((wu.alloc (.cells (cstCells ⟨k, pfr, v⟩).toArray 119)).drew).cell? ⟨vb, 1, none⟩ = some (.int .u64 v.round) := cell_ext (below_alloc1 wu (.cells (cstCells ⟨k, pfr, v⟩).toArray 119)) f1
                    have q2c : ((wu.alloc (.cells (cstCells ⟨k, pfr, v⟩).toArray 119)).drew).cell? ⟨vb, 2, none⟩ = some (.string v.leader) := cell_ext (below_alloc1 wu (.cells (cstCells ⟨k, pfr, v⟩).toArray 119)) f2
                    have q3 : ((wu.alloc (.cells (cstCells ⟨k, pfr, v⟩).toArray 119)).drew).cell? ⟨vb, 3, none⟩ = some (.string v.origin) := cell_ext (below_alloc1 wu (.cells (cstCells ⟨k, pfr, v⟩).toArray 119)) f3
                    have q4 : ((wu.alloc (.cells (cstCells ⟨k, pfr, v⟩).toArray 119)).drew).cell? ⟨vb, 4, none⟩ = some (.int .u64 v.inc) := cell_ext (below_alloc1 wu (.cells (cstCells ⟨k, pfr, v⟩).toArray 119)) f4
                    have q5 : ((wu.alloc (.cells (cstCells ⟨k, pfr, v⟩).toArray 119)).drew).cell? ⟨vb, 5, none⟩ = some (.int .u64 v.seq) := cell_ext (below_alloc1 wu (.cells (cstCells ⟨k, pfr, v⟩).toArray 119)) f5
                    have q6 : ((wu.alloc (.cells (cstCells ⟨k, pfr, v⟩).toArray 119)).drew).cell? ⟨vb, 6, none⟩ = some (.slice v.ta v.tl v.tc) := cell_ext (below_alloc1 wu (.cells (cstCells ⟨k, pfr, v⟩).toArray 119)) f6
                    have q7 : ((wu.alloc (.cells (cstCells ⟨k, pfr, v⟩).toArray 119)).drew).cell? ⟨vb, 7, none⟩ = some (.int .u64 v.nxt) := cell_ext (below_alloc1 wu (.cells (cstCells ⟨k, pfr, v⟩).toArray 119)) f7
                    have q8 : ((wu.alloc (.cells (cstCells ⟨k, pfr, v⟩).toArray 119)).drew).cell? ⟨m, 1, none⟩ = some (.string pfr) := cell_ext (below_alloc1 wu (.cells (cstCells ⟨k, pfr, v⟩).toArray 119)) d1u
                    have hvne : vb ≠ w.heap.size := by omega
                    have hmne : m ≠ w.heap.size := by omega
                    have HQ : Hid (∀ w', ((wu.alloc (.cells (cstCells ⟨k, pfr, v⟩).toArray 119)).drew).grownBy w' (oldV E val v.slot).ownBlock → w'.cell? ⟨vb, 0, none⟩ = some (.int .u64 v.slot) ∧ w'.cell? ⟨vb, 1, none⟩ = some (.int .u64 v.round) ∧ w'.cell? ⟨vb, 2, none⟩ = some (.string v.leader) ∧ w'.cell? ⟨vb, 3, none⟩ = some (.string v.origin) ∧ w'.cell? ⟨vb, 4, none⟩ = some (.int .u64 v.inc) ∧ w'.cell? ⟨vb, 5, none⟩ = some (.int .u64 v.seq) ∧ w'.cell? ⟨vb, 6, none⟩ = some (.slice v.ta v.tl v.tc) ∧ w'.cell? ⟨vb, 7, none⟩ = some (.int .u64 v.nxt) ∧ w'.cell? ⟨m, 1, none⟩ = some (.string pfr)) := fun w' hg' => ⟨keepCell hoW hg' q0 (.inr ⟨_, hvbW⟩), keepCell hoW hg' q1 (.inr ⟨_, hvbW⟩), keepCell hoW hg' q2c (.inr ⟨_, hvbW⟩), keepCell hoW hg' q3 (.inr ⟨_, hvbW⟩), keepCell hoW hg' q4 (.inr ⟨_, hvbW⟩), keepCell hoW hg' q5 (.inr ⟨_, hvbW⟩), keepCell hoW hg' q6 (.inr ⟨_, hvbW⟩), keepCell hoW hg' q7 (.inr ⟨_, hvbW⟩), keepCell hoW hg' q8 (.inl (by omega))⟩
                    have HPUSH := hideP (fun v' w' h1 h2 h3 => hTW.push (e := ⟨k, pfr, v⟩) (v' := v') (w' := w') hcW hPB.out h1 h2 h3)
                    have HTW : Hid (TInv w ((wu.alloc (.cells (cstCells ⟨k, pfr, v⟩).toArray 119)).drew) rs E PB2) := hTW
                    have HCW : Hid (CastsIs ((wu.alloc (.cells (cstCells ⟨k, pfr, v⟩).toArray 119)).drew) (w.heap.size + 3) w.heap.size E val) := hcW
                    have HOW : Hid (((wu.alloc (.cells (cstCells ⟨k, pfr, v⟩).toArray 119)).drew).ownsRow (w.heap.size + 3) 119 9 (oldV E val v.slot) (grp E v.slot).length ((grp E v.slot).flatMap cstCells)) := hoW
                    have HNC : Hid (∀ j u, (cstCells ⟨k, pfr, v⟩)[j]? = some u → ((wu.alloc (.cells (cstCells ⟨k, pfr, v⟩).toArray 119)).drew).cell? ⟨wu.heap.size, j, none⟩ = some u) := hncW
                    have HRB : Hid (((wu.alloc (.cells (cstCells ⟨k, pfr, v⟩).toArray 119)).drew).heap[wo.heap.size]? = some (.cells #[.int .u64 ren, .slice (some ⟨g, 0, none⟩) rps.length rps.length] 92 (0, 0))) := hrbW
                    have HSW : Hid (w.heap.size + 3 ≤ ((wu.alloc (.cells (cstCells ⟨k, pfr, v⟩).toArray 119)).drew).heap.size) := hsW
                    clear hTW hcW hoW hncW hrbW hvbW hsW q0 q1 q2c q3 q4 q5 q6 q7 q8 hcold hvb hrbu
                    go_region_held3 (fun W => W.cell? ⟨vb, 0, none⟩ = some (.int .u64 v.slot) ∧ W.cell? ⟨vb, 1, none⟩ = some (.int .u64 v.round) ∧ W.cell? ⟨vb, 2, none⟩ = some (.string v.leader) ∧ W.cell? ⟨vb, 3, none⟩ = some (.string v.origin) ∧ W.cell? ⟨vb, 4, none⟩ = some (.int .u64 v.inc) ∧ W.cell? ⟨vb, 5, none⟩ = some (.int .u64 v.seq) ∧ W.cell? ⟨vb, 6, none⟩ = some (.slice v.ta v.tl v.tc) ∧ W.cell? ⟨vb, 7, none⟩ = some (.int .u64 v.nxt) ∧ W.cell? ⟨m, 1, none⟩ = some (.string pfr)) (first | go_keep | simp [cell_setBlock_other hvne, cell_setBlock_other hmne, *]) (first | (refine cst_append HOW.out ⟨k, pfr, v⟩ HNC.out (by omega) HSW.out rfl rfl rfl rfl ?_; intro v' w' hown' hg' hloc'; obtain ⟨p1, p2, p3, p4, p5⟩ := HPUSH.out v' w' hown' hg' hloc'; obtain ⟨g0, g1, g2, g3, g4, g5, g6, g7, g8⟩ := HQ.out w' hg'))
                    all_goals
                      rename_i hheld
                      obtain ⟨k0, _⟩ := hheld
                      dsimp only at p2 p3 p4 p5
                      have hput2 : (Instr.mapUpdate 110 (.map (some (w.heap.size + 1))) (.int .u64 v.slot) (.map (some (wo.heap.size + 1)))).run Try.prog (setBlock w' w.heap.size (mkF kind64 (addKey (slotsOf E) v.slot) (updV val v.slot v'))) = .ok () (setBlock (setBlock w' w.heap.size (mkF kind64 (addKey (slotsOf E) v.slot) (updV val v.slot v'))) (w.heap.size + 1) (mkF kind64 (addKey (slotsOf E) v.slot) (updV (hval E PB2) v.slot (.map (some (wo.heap.size + 1)))))) := p3.put (P := Try.prog) (t := 110) (kt := 48) (e := 111) Try.underlying110 Try.underlying48 v.slot (.map (some (wo.heap.size + 1)))
                      have p2' : (setBlock w' w.heap.size (mkF kind64 (addKey (slotsOf E) v.slot) (updV val v.slot v'))).cell? ⟨w.heap.size + 1 + 1, 0, none⟩ = some (.map (some (w.heap.size + 1))) := p2
                      have p6 := p5 wo.heap.size hsz0 (fun cur e => by rw [HRB.out] at e; simp at e) (Array.getElem?_eq_some_iff.1 HRB.out).1
                      rw [HRB.out] at p6
                      have P4 := hideP p4
                      have P6 := hideP p6
                      clear p1 p2 p3 p4 p5 p6 g0 g1 g2 g3 g4 g5 g6 g7 g8 hown' hg' hloc' hm0 hm1 hm2 hlook hputc hc hTu f0 f1 f2 f3 f4 f5 f6 f7 d1u HQ HPUSH HTW HCW HOW HNC HSW
                      generalize setBlock w' w.heap.size (mkF kind64 (addKey (slotsOf E) v.slot) (updV val v.slot v')) = wc at k0 hput2 p2' P4 P6 ⊢
                      go_wp2
                      go_roundw
                      case rel =>
                        go_light
                        refine ⟨l + 1, by omega, by go_num, ?_, P6.out⟩
                        rw [HE.out, ← List.append_assoc, ← HEE.out]
                        exact P4.out
                      case measure => simp [intOf]; omega
                  · have hsb : decide (v.slot < ren) = false := by simpa using hs
                    go_wp2
                    go_roundw
                    case rel =>
                      go_light
                      refine ⟨l + 1, by omega, by go_num, ?_, ?_⟩
                      · rw [repV_no k ren pfr HV.out (by omega)]
                        exact hT.ext (below_alloc1 _ _)
                      · rw [(MapKept.heap_alloc _ _).2 _ hb0]; exact hrbv
                    case measure => simp [intOf]; omega
                · go_wp2
                  go_roundw
                  case rel =>
                    go_light
                    refine ⟨q2 + 1, by omega, by go_num, ?_, hrbv⟩
                    have evs : pvs.take l = pvs := List.take_of_length_le (by omega)
                    rw [evs] at hT
                    rw [repP_succ k ren HP.out, ← List.append_assoc]
                    exact hT
                  case measure => simp [intOf]; omega
            · go_wp2
              go_roundw
              case rel =>
                go_light
                have eps : rps.take q2 = rps := List.take_of_length_le (by omega)
                rw [eps] at hT
                refine ⟨k + 1, PB2, by omega, by go_num, hPL2.out, ?_⟩
                rw [repTo_succ HG.out]
                exact hT
              case measure => simp [intOf]; omega
    · have ek : k = n := by omega
      subst ek
      have er : repTo rs k = reported rs := by rw [← h.len]; rfl
      have HE : Hid (reported rs = repTo rs k) := er.symm
      have hTE : Hid (TInv w wo rs (reported rs) PB) := by rw [← er]; exact hinv
      obtain ⟨hrg, hq0⟩ := QI.start L hTE.out
      have hbw : Below w.heap.size w wo := hinv.bel
      have hwsz : w.heap.size + 3 ≤ wo.heap.size := hinv.sz
      clear hinv er
      have HL : Hid (rs.length = k) := h.len
      go_wp2
      clear hrg
      generalize (wo.alloc (.map #[] 0)).alloc (.mapIter (some w.heap.size) (slotsOf (reported rs)).length #[] (slotsOf (reported rs)).length) = wz at hq0 ⊢
      go_loopw [17] (fun _ wr => ∃ S, QI w wo wr rs (reported rs) L S) (fun _ wr => leftN (wo.heap.size + 1) (slotsOf (reported rs)).length wr)
      case atStart => exact ⟨[], hq0⟩
      case round =>
        clear hq0
        rename World => wr
        obtain ⟨S, hqi⟩ := hrel
        rcases QI.step 0 hTE.out hqi with ⟨hall, hrun⟩ | ⟨s, w1, gg, cap, e0, G, hs, hsS, hG, hrun, hent, hrow, hcap, hcm, hsz1, hb1, htal, hit⟩
        · go_wp2
          go_ret
          refine ⟨wo.heap.size, S, rfl, hqi.tal, fun s => ⟨hqi.it.sub s, hall s⟩, Nat.le_antisymm hqi.it.len (len_le _ _ (slotsOf_nodup _) hall), hbw.trans (hqi.bel.mono (by omega))⟩
        · obtain ⟨x0, x1, x2, x3, x4, x5, x6, x7, x8⟩ := cst_get0 hrow
          have hgl : gg < w1.heap.size := lt_of_cell x0
          have hgsm : G.length + 1 ≤ 1048576 := by have := grp_len (reported rs) s; rw [hG] at this; have := rep_len rs; have := BN.out; simp only [List.length_cons] at *; omega
          have y1 := cell_ext (below_alloc2 w1 (.cells #[.int .u64 s] 48) (.cells #[.slice (some ⟨gg, 0, none⟩) (G.length + 1) cap] 117)) x1
          have y2 := cell_ext (below_alloc2 w1 (.cells #[.int .u64 s] 48) (.cells #[.slice (some ⟨gg, 0, none⟩) (G.length + 1) cap] 117)) x2
          have y3 := cell_ext (below_alloc2 w1 (.cells #[.int .u64 s] 48) (.cells #[.slice (some ⟨gg, 0, none⟩) (G.length + 1) cap] 117)) x3
          have y4 := cell_ext (below_alloc2 w1 (.cells #[.int .u64 s] 48) (.cells #[.slice (some ⟨gg, 0, none⟩) (G.length + 1) cap] 117)) x4
          have y5 := cell_ext (below_alloc2 w1 (.cells #[.int .u64 s] 48) (.cells #[.slice (some ⟨gg, 0, none⟩) (G.length + 1) cap] 117)) x5
          have y6 := cell_ext (below_alloc2 w1 (.cells #[.int .u64 s] 48) (.cells #[.slice (some ⟨gg, 0, none⟩) (G.length + 1) cap] 117)) x6
          have y7 := cell_ext (below_alloc2 w1 (.cells #[.int .u64 s] 48) (.cells #[.slice (some ⟨gg, 0, none⟩) (G.length + 1) cap] 117)) x7
          have y8 := cell_ext (below_alloc2 w1 (.cells #[.int .u64 s] 48) (.cells #[.slice (some ⟨gg, 0, none⟩) (G.length + 1) cap] 117)) x8
          clear x0 x1 x2 x3 x4 x5 x6 x7 x8
          have HG := hideP hG
          have HSS := hideP hsS
          clear hG hsS
          have HS1 := hideP hsz1
          clear hsz1
          by_cases hc1 : cap = 1
          · subst hc1
            have hG0 : Hid (G.length = 0) := by show _ = _; omega
            go_wp2
            clear hrun hent y1 y2 y3 y4 y5 y6 y7 y8
            have hw3 : ∃ w3, w3 = (((w1.alloc (.cells #[.int .u64 s] 48)).alloc (.cells #[.slice (some ⟨gg, 0, none⟩) (G.length + 1) 1] 117)).alloc (.cells e0.v.cells.toArray 87)) := ⟨_, rfl⟩
            obtain ⟨w3, hw3⟩ := hw3
            have HW3 : Hid (w3 = (((w1.alloc (.cells #[.int .u64 s] 48)).alloc (.cells #[.slice (some ⟨gg, 0, none⟩) (G.length + 1) 1] 117)).alloc (.cells e0.v.cells.toArray 87))) := hw3
            have hbs0 : BestIs w3 (w1.heap.size + 1 + 1) e0.v := by
              have := BestIs.new ((w1.alloc (.cells #[.int .u64 s] 48)).alloc (.cells #[.slice (some ⟨gg, 0, none⟩) (G.length + 1) 1] 117)) e0.v
              rw [World.size_alloc, World.size_alloc] at this
              rw [hw3]
              exact this
            rw [show (((w1.alloc (.cells #[.int .u64 s] 48)).alloc (.cells #[.slice (some ⟨gg, 0, none⟩) (G.length + 1) 1] 117)).alloc (.cells #[.int .u64 e0.v.slot, .int .u64 e0.v.round, .string e0.v.leader, .string e0.v.origin, .int .u64 e0.v.inc, .int .u64 e0.v.seq, .slice e0.v.ta e0.v.tl e0.v.tc, .int .u64 e0.v.nxt] 87)) = w3 from hw3.symm]
            clear hw3
            go_loopw [21, 106] (fun _ i wr => ∃ q : Nat, q ≤ G.length ∧ i = .int .i64 q ∧ BestIs wr (w1.heap.size + 1 + 1) (bestFold e0.v (G.take q)) ∧ w3.grownBy wr (some (w1.heap.size + 1 + 1))) (fun _ i _ => G.length - (intOf i).toNat)
            case atStart => exact ⟨0, Nat.zero_le _, rfl, hbs0, ⟨rfl, rfl, rfl, Nat.le_refl _, fun _ _ _ => rfl⟩⟩
            case round =>
              clear hbs0
              rename World => w6
              obtain ⟨q, hq, rfl, hbs, hgr⟩ := hrel
              have hbl6 : Below w1.heap.size w1 w6 := below6 (HW3.out ▸ hgr)
              by_cases hqq : q < G.length
              · exact absurd hqq (by have := hG0.out; omega)
              · have eG : G.take q = G := List.take_of_length_le (by omega)
                rw [eG] at hbs
                obtain ⟨best, hbe⟩ : ∃ best, best = bestFold e0.v G := ⟨_, rfl⟩
                have HBE := hideP hbe
                rw [← hbe] at hbs
                clear hbe eG
                obtain ⟨hcl, _⟩ := clos_ok hTE.out HPL.out HL.out HE.out hs hrow hb1 hgsm (HW3.out ▸ hgr) hbs
                have HCL := hideP hcl
                go_wp2
                go_loopw [23, 122] (fun m i wr => ∃ q : Nat, q ≤ pn ∧ m = .bool ((L.take q).any fun ms => majOf (mhv (namesOf rs (reported rs) s) (e0 :: G) best) ms) ∧ i = .int .i64 q ∧ Below w6.heap.size w6 wr) (fun _ i _ => pn - (intOf i).toNat)
                case atStart => exact ⟨0, Nat.zero_le _, by simp, rfl, Below.refl _ _⟩
                case round =>
                  rename World => wx
                  obtain ⟨q7, hq7, rfl, rfl, hbx⟩ := hrel
                  obtain ⟨f, hf⟩ : ∃ f, f = fun ms => majOf (mhv (namesOf rs (reported rs) s) (e0 :: G) best) ms := ⟨_, rfl⟩
                  rw [← hf]
                  have HF := hideP hf
                  clear hf
                  by_cases hq7q : q7 < pn
                  · obtain ⟨ms, m, bb, off, hms, rfl, hcell, hpool⟩ := hps.get hq7q
                    have hbwx : Below w.heap.size w wx := hbw.trans ((hb1.trans ((hbl6.trans (hbx.mono hbl6.size)).mono hb1.size)).mono hbw.size)
                    have hcx := cell_ext hbwx hcell
                    have HMS := hideP hms
                    have hmsl := PM.out ms (List.mem_of_getElem? hms)
                    clear hms
                    have HSU : Hid ((L.take (q7 + 1)).any f = ((L.take q7).any f || f ms)) := may_succ HMS.out
                    cases hmy : (L.take q7).any f
                    · go_wp2_with fail
                      refine (maj_any (w.heap.size + 1 + 1) (w.heap.size + 1) w1.heap.size (w1.heap.size + 1) (w1.heap.size + 1 + 1) wx.heap.size m s (namesOf rs (reported rs) s) (e0 :: G) best ms _ (HCL.out.ext (hbx.alloc hbx.size _)) (new_cells' wx [.pointer (some ⟨m, 0, none⟩)] _ 0 _ rfl) (hpool.ext (hbwx.alloc hbwx.size _)) hmsl).mono ?_
                      rintro r' w8 ⟨rfl, hb8⟩
                      have hb9 := (hbx.alloc hbx.size _).trans (hb8.mono (hbx.alloc hbx.size _).size)
                      go_wp2
                      refine ⟨⟨q7 + 1, by omega, by rw [HSU.out, hmy, HF.out]; rfl, by go_num, hb9⟩, by simp [intOf]; omega⟩
                    · go_wp2
                      refine ⟨⟨q7 + 1, by omega, by rw [HSU.out, hmy]; rfl, by go_num, hbx⟩, by simp [intOf]; omega⟩
                  · have eL : L.take q7 = L := List.take_of_length_le (by have := hps.len; omega)
                    obtain ⟨hput, hqn⟩ := QI.put hb1 htal hit HSS.out (hbl6.trans (hbx.mono hbl6.size)) (by obtain ⟨_, _, h1, _⟩ := hit.ex; exact (Array.getElem?_eq_some_iff.1 h1).1)
                    generalize setBlock wx wo.heap.size (mkF kind64 (addKey S s) (updV (tv rs (reported rs) L) s (tv rs (reported rs) L s))) = wn at hput hqn
                    rw [tv_eq HG.out HBE.out (m := (L.take q7).any f) (by rw [eL, HF.out]; rfl)] at hput
                    have HQN := hideP hqn
                    have HQI := hideP hqi
                    clear hqn hqi
                    obtain ⟨c0, c1, c2, c3, c4, c5, c6, c7, cz⟩ := (hbs.below hbx).cells
                    have hsl := (HCL.out.ext hbx).slot
                    clear eL
                    go_wp2
                    refine ⟨⟨S ++ [s], HQN.out⟩, ?_⟩
                    have hl := HQN.out.it.len
                    rw [HQN.out.it.left, HQI.out.it.left]
                    simp at hl ⊢
                    omega
            
          · go_wp2
            clear hrun hent y1 y2 y3 y4 y5 y6 y7 y8
            have hw3 : ∃ w3, w3 = (((w1.alloc (.cells #[.int .u64 s] 48)).alloc (.cells #[.slice (some ⟨gg, 0, none⟩) (G.length + 1) cap] 117)).alloc (.cells e0.v.cells.toArray 87)) := ⟨_, rfl⟩
            obtain ⟨w3, hw3⟩ := hw3
            have HW3 : Hid (w3 = (((w1.alloc (.cells #[.int .u64 s] 48)).alloc (.cells #[.slice (some ⟨gg, 0, none⟩) (G.length + 1) cap] 117)).alloc (.cells e0.v.cells.toArray 87))) := hw3
            have hbs0 : BestIs w3 (w1.heap.size + 1 + 1) e0.v := by
              have := BestIs.new ((w1.alloc (.cells #[.int .u64 s] 48)).alloc (.cells #[.slice (some ⟨gg, 0, none⟩) (G.length + 1) cap] 117)) e0.v
              rw [World.size_alloc, World.size_alloc] at this
              rw [hw3]
              exact this
            rw [show (((w1.alloc (.cells #[.int .u64 s] 48)).alloc (.cells #[.slice (some ⟨gg, 0, none⟩) (G.length + 1) cap] 117)).alloc (.cells #[.int .u64 e0.v.slot, .int .u64 e0.v.round, .string e0.v.leader, .string e0.v.origin, .int .u64 e0.v.inc, .int .u64 e0.v.seq, .slice e0.v.ta e0.v.tl e0.v.tc, .int .u64 e0.v.nxt] 87)) = w3 from hw3.symm]
            clear hw3
            go_loopw [21, 106] (fun _ i wr => ∃ q : Nat, q ≤ G.length ∧ i = .int .i64 q ∧ BestIs wr (w1.heap.size + 1 + 1) (bestFold e0.v (G.take q)) ∧ w3.grownBy wr (some (w1.heap.size + 1 + 1))) (fun _ i _ => G.length - (intOf i).toNat)
            case atStart => exact ⟨0, Nat.zero_le _, rfl, hbs0, ⟨rfl, rfl, rfl, Nat.le_refl _, fun _ _ _ => rfl⟩⟩
            case round =>
              clear hbs0
              rename World => w6
              obtain ⟨q, hq, rfl, hbs, hgr⟩ := hrel
              have hbl6 : Below w1.heap.size w1 w6 := below6 (HW3.out ▸ hgr)
              by_cases hqq : q < G.length
              · obtain ⟨e, he⟩ := get_of_lt rfl hqq
                obtain ⟨f0, f1, f2, f3, f4, f5, f6, f7, f8⟩ := cst_get1 (hrow.ext hbl6) he
                have HEE := hide_get he
                clear he
                obtain ⟨b0, b1, b2, b3, b4, b5, b6, b7, bz⟩ := hbs.cells
                have hbst := bestFold_succ (b := e0.v) HEE.out
                obtain ⟨best, hbe⟩ : ∃ best, best = bestFold e0.v (G.take q) := ⟨_, rfl⟩
                rw [← hbe] at hbs b0 b1 b2 b3 b4 b5 b6 b7 hbst
                have HBST := hideP hbst
                clear hbe hbst
                have hlt6 := hbs.lt
                cases hbl : bless best.round best.leader e.v.round e.v.leader
                · go_wp2_with fail
                  refine (less_any best.round best.leader e.v.round e.v.leader _).mono ?_
                  rintro r' w7 ⟨rfl, hb7⟩
                  rw [hbl]
                  have hub : Hid (up best e = best) := by show _ = _; simp [up, hbl]
                  go_wp2
                  refine ⟨⟨q + 1, by omega, by go_num, ?_, ?_⟩, by simp [intOf]; omega⟩
                  · rw [HBST.out, hub.out]
                    exact (hbs.alloc _).below hb7
                  · exact grown_below hgr (below_alloc1 _ _) hb7
                · go_wp2_with fail
                  refine (less_any best.round best.leader e.v.round e.v.leader _).mono ?_
                  rintro r' w7 ⟨rfl, hb7⟩
                  rw [hbl]
                  have hub : Hid (up best e = e.v) := by show _ = _; simp [up, hbl]
                  have hbs7 := (hbs.alloc _).below hb7
                  obtain ⟨p0, p1, p2, p3, p4, p5, p6, p7, p8⟩ := cst_new hb7
                  obtain ⟨c0, c1, c2, c3, c4, c5, c6, c7, cz⟩ := hbs7.cells
                  have hgr7 := grown_below hgr (below_alloc1 _ _) hb7
                  obtain ⟨s1, s2, s3⟩ := hbs7.store e.v
                  have S1 := hideP s1
                  have S2 := hideP s2
                  clear s1 s2 s3
                  go_wp2
                  refine ⟨⟨q + 1, by omega, by go_num, ?_, ?_⟩, by simp [intOf]; omega⟩
                  · rw [HBST.out, hub.out]
                    exact S1.out
                  · exact hgr7.trans S2.out
              · have eG : G.take q = G := List.take_of_length_le (by omega)
                rw [eG] at hbs
                obtain ⟨best, hbe⟩ : ∃ best, best = bestFold e0.v G := ⟨_, rfl⟩
                have HBE := hideP hbe
                rw [← hbe] at hbs
                clear hbe eG
                obtain ⟨hcl, _⟩ := clos_ok hTE.out HPL.out HL.out HE.out hs hrow hb1 hgsm (HW3.out ▸ hgr) hbs
                have HCL := hideP hcl
                go_wp2
                go_loopw [23, 122] (fun m i wr => ∃ q : Nat, q ≤ pn ∧ m = .bool ((L.take q).any fun ms => majOf (mhv (namesOf rs (reported rs) s) (e0 :: G) best) ms) ∧ i = .int .i64 q ∧ Below w6.heap.size w6 wr) (fun _ i _ => pn - (intOf i).toNat)
                case atStart => exact ⟨0, Nat.zero_le _, by simp, rfl, Below.refl _ _⟩
                case round =>
                  rename World => wx
                  obtain ⟨q7, hq7, rfl, rfl, hbx⟩ := hrel
                  obtain ⟨f, hf⟩ : ∃ f, f = fun ms => majOf (mhv (namesOf rs (reported rs) s) (e0 :: G) best) ms := ⟨_, rfl⟩
                  rw [← hf]
                  have HF := hideP hf
                  clear hf
                  by_cases hq7q : q7 < pn
                  · obtain ⟨ms, m, bb, off, hms, rfl, hcell, hpool⟩ := hps.get hq7q
                    have hbwx : Below w.heap.size w wx := hbw.trans ((hb1.trans ((hbl6.trans (hbx.mono hbl6.size)).mono hb1.size)).mono hbw.size)
                    have hcx := cell_ext hbwx hcell
                    have HMS := hideP hms
                    have hmsl := PM.out ms (List.mem_of_getElem? hms)
                    clear hms
                    have HSU : Hid ((L.take (q7 + 1)).any f = ((L.take q7).any f || f ms)) := may_succ HMS.out
                    cases hmy : (L.take q7).any f
                    · go_wp2_with fail
                      refine (maj_any (w.heap.size + 1 + 1) (w.heap.size + 1) w1.heap.size (w1.heap.size + 1) (w1.heap.size + 1 + 1) wx.heap.size m s (namesOf rs (reported rs) s) (e0 :: G) best ms _ (HCL.out.ext (hbx.alloc hbx.size _)) (new_cells' wx [.pointer (some ⟨m, 0, none⟩)] _ 0 _ rfl) (hpool.ext (hbwx.alloc hbwx.size _)) hmsl).mono ?_
                      rintro r' w8 ⟨rfl, hb8⟩
                      have hb9 := (hbx.alloc hbx.size _).trans (hb8.mono (hbx.alloc hbx.size _).size)
                      go_wp2
                      refine ⟨⟨q7 + 1, by omega, by rw [HSU.out, hmy, HF.out]; rfl, by go_num, hb9⟩, by simp [intOf]; omega⟩
                    · go_wp2
                      refine ⟨⟨q7 + 1, by omega, by rw [HSU.out, hmy]; rfl, by go_num, hbx⟩, by simp [intOf]; omega⟩
                  · have eL : L.take q7 = L := List.take_of_length_le (by have := hps.len; omega)
                    obtain ⟨hput, hqn⟩ := QI.put hb1 htal hit HSS.out (hbl6.trans (hbx.mono hbl6.size)) (by obtain ⟨_, _, h1, _⟩ := hit.ex; exact (Array.getElem?_eq_some_iff.1 h1).1)
                    generalize setBlock wx wo.heap.size (mkF kind64 (addKey S s) (updV (tv rs (reported rs) L) s (tv rs (reported rs) L s))) = wn at hput hqn
                    rw [tv_eq HG.out HBE.out (m := (L.take q7).any f) (by rw [eL, HF.out]; rfl)] at hput
                    have HQN := hideP hqn
                    have HQI := hideP hqi
                    clear hqn hqi
                    obtain ⟨c0, c1, c2, c3, c4, c5, c6, c7, cz⟩ := (hbs.below hbx).cells
                    have hsl := (HCL.out.ext hbx).slot
                    clear eL
                    go_wp2
                    refine ⟨⟨S ++ [s], HQN.out⟩, ?_⟩
                    have hl := HQN.out.it.len
                    rw [HQN.out.it.left, HQI.out.it.left]
                    simp at hl ⊢
                    omega
            
end Go.Proofs.Qxb6612240a
