import Derived.Test.Qxb6612240aMay
namespace Go.Proofs.Qxb6612240a
open Go.RowKit Go.MapKept
open Go.ChangeMaps (setBlock)

theorem PsOk.get' {w : World} {a : Option Addr} {n : Nat} {ps : List Pl} {k : Nat} (h : PsOk w a n ps) (hk : k < n) :
    ∃ pa pn pc ms b off, ps[k]? = some ⟨pa, pn, pc, ms⟩ ∧ a = some ⟨b, off, none⟩ ∧ w.cell? ⟨b, off + k, none⟩ = some (.slice pa pn pc) ∧ PlOk w ⟨pa, pn, pc, ms⟩ := by
  obtain ⟨⟨pa, pn, pc, ms⟩, hp⟩ := get_of_lt h.len hk
  obtain ⟨b, off, e, hc⟩ := h.row k _ hp
  exact ⟨pa, pn, pc, ms, b, off, hp, e, by simpa using hc 0 _ rfl, h.all _ (List.mem_of_getElem? hp)⟩
theorem PlOk.get' {w : World} {pa : Option Addr} {pn pc : Nat} {ms : List ByteArray} {k : Nat} (h : PlOk w ⟨pa, pn, pc, ms⟩) (hk : k < pn) :
    ∃ x b off, ms[k]? = some x ∧ pa = some ⟨b, off, none⟩ ∧ w.cell? ⟨b, off + k, none⟩ = some (.string x) := by
  obtain ⟨x, hx⟩ := get_of_lt h.len hk
  obtain ⟨b, off, e, hc⟩ := h.row k _ hx
  exact ⟨x, b, off, hx, e, by simpa using hc 0 _ rfl⟩
theorem any_no {α : Type} {l : List α} {k : Nat} {x : α} (h : l[k]? = some x) (f : α → Bool) (h0 : (l.take k).any f = false) (hx : f x = false) : (l.take (k + 1)).any f = false := by
  rw [take_get h, List.any_append, h0]; simp [hx]
theorem any_yes {α : Type} {l : List α} {k : Nat} {x : α} (h : l[k]? = some x) (f : α → Bool) (hx : f x = true) : l.any f = true := List.any_eq_true.2 ⟨x, List.mem_of_getElem? h, hx⟩

set_option maxRecDepth 100000 in
set_option maxHeartbeats 8000000 in
theorem mayBe_any (a : Option Addr) (n c : Nat) (rs : List Rd) (ea : Option Addr) (ec : Nat) (s : Int) (best : Vt) (pa : Option Addr) (pn pc : Nat) (ps : List Pl) (w : World) (h : RsOk w a n rs) (hrow : RowAt w ea 10 Ent.cells (reported rs)) (hEn : (reported rs).length ≤ 1048576) (hs : s ∈ slotsOf (reported rs)) (hps : PsOk w pa pn ps) (hpn : pn ≤ 1048576) (hpm : ∀ p ∈ ps, p.n ≤ 1048576) :
    Calls Try.prog 23 #[.slice a n c, .slice ea (reported rs).length ec, .int .u64 s, .agg #[.int .u64 best.slot, .int .u64 best.round, .string best.leader, .string best.origin, .int .u64 best.inc, .int .u64 best.seq, .slice best.ta best.tl best.tc, .int .u64 best.nxt], .slice pa pn pc] w fun r w' => r = .returned (.bool (mayOf (namesOf rs (reported rs) s) (grp (reported rs) s) best (ps.map (·.ms)))) ∧ Below w.heap.size w w' := by
  obtain ⟨f, hf⟩ : ∃ f, f = mhv (namesOf rs (reported rs) s) (grp (reported rs) s) best := ⟨_, rfl⟩
  have HF := hideP hf
  have HM : Hid (mayOf (namesOf rs (reported rs) s) (grp (reported rs) s) best (ps.map (·.ms)) = ps.any fun p => majOf f p.ms) := by
    show _ = _
    rw [mayOf, List.any_map, hf]
    rfl
  have H := hideP h
  have HRow := hideP hrow
  have HS := hideP hs
  have HP := hideP hps
  have HPM := hideP hpm
  clear h hrow hs hps hpm hf
  have hbb := below_alloc1 w (.cells #[.int .u64 best.slot, .int .u64 best.round, .string best.leader, .string best.origin, .int .u64 best.inc, .int .u64 best.seq, .slice best.ta best.tl best.tc, .int .u64 best.nxt] 50)
  have hcb := hideP (new_cells' w [.int .u64 best.slot, .int .u64 best.round, .string best.leader, .string best.origin, .int .u64 best.inc, .int .u64 best.seq, .slice best.ta best.tl best.tc, .int .u64 best.nxt] 50)
  go_enter Try.func23, Try.ntmps23
  go_wp2
  generalize hwb : w.alloc (.cells #[.int .u64 best.slot, .int .u64 best.round, .string best.leader, .string best.origin, .int .u64 best.inc, .int .u64 best.seq, .slice best.ta best.tl best.tc, .int .u64 best.nxt] 50) = wb at hbb hcb ⊢
  clear hwb
  go_loopw [11, 12, 13] (fun i _ _ wr => ∃ k : Nat, k ≤ pn ∧ i = .int .i64 k ∧ Hid ((ps.take k).any (fun p => majOf f p.ms) = false) ∧ Below wb.heap.size wb wr) (fun i _ _ _ => pn - (intOf i).toNat)
  case atStart => exact ⟨0, Nat.zero_le _, rfl, by show _ = _; simp, Below.refl _ _⟩
  case round =>
    rename World => wr
    obtain ⟨k, hk, rfl, HNo, hbr⟩ := hrel
    have hbwr : Below w.heap.size w wr := hbb.trans (hbr.mono hbb.size)
    by_cases hlt : k < pn
    · obtain ⟨qa, qn, qc, ms, b, off, hp, rfl, d0, hok⟩ := HP.out.get' hlt
      have hqn : qn ≤ 1048576 := HPM.out _ (List.mem_of_getElem? hp)
      have hml : ms.length = qn := hok.len
      have HG := hide_get hp
      have HML := hideP hml
      clear hp hml
      go_wp2
      go_loopw [12, 13] (fun m j wx => ∃ q : Nat, q ≤ qn ∧ m = .int .i64 (cntOf f (ms.take q)) ∧ j = .int .i64 q ∧ Below wb.heap.size wb wx) (fun _ j _ => qn - (intOf j).toNat)
      case atStart => exact ⟨0, Nat.zero_le _, by simp [cntOf], rfl, hbr⟩
      case round =>
        rename World => wx
        obtain ⟨q, hq, rfl, rfl, hbx⟩ := hrel
        have hbwx : Below w.heap.size w wx := hbb.trans (hbx.mono hbb.size)
        have d0x := cell_ext hbwx d0
        have hcl := cnt_le f (ms.take q)
        have htl : (ms.take q).length ≤ q := List.length_take_le _ _
        by_cases hlq : q < qn
        · obtain ⟨x, b2, off2, hx, rfl, e0⟩ := hok.get' hlq
          have e0x := cell_ext hbwx e0
          have HX := hide_get hx
          clear hx
          have v0 := cell_ext hbx (hcb.out 0 _ rfl)
          have v1 := cell_ext hbx (hcb.out 1 _ rfl)
          have v2 := cell_ext hbx (hcb.out 2 _ rfl)
          have v3 := cell_ext hbx (hcb.out 3 _ rfl)
          have v4 := cell_ext hbx (hcb.out 4 _ rfl)
          have v5 := cell_ext hbx (hcb.out 5 _ rfl)
          have v6 := cell_ext hbx (hcb.out 6 _ rfl)
          have v7 := cell_ext hbx (hcb.out 7 _ rfl)
          have HRS := hideP (H.out.ext hbwx.drew)
          have HRW := hideP (HRow.out.ext hbwx.drew)
          cases hfx : f x
          · have HC := hideP (cnt_no HX.out hfx)
            have HFX : Hid (mhv (namesOf rs (reported rs) s) (grp (reported rs) s) best x = false) := by show _ = _; rw [← HF.out]; exact hfx
            go_wp2
            go_region_with (go_at_call 34; refine (mayHave_any a n c rs ea ec s best x wx.drew HRS.out HRW.out hEn HS.out).mono ?_; rintro r' w3 ⟨rfl, hb3⟩; rw [HFX.out])
            all_goals
              have hb4 : Below wb.heap.size wb w3 := hbx.trans (((Below.draws wx 1).trans hb3).mono hbx.size)
              go_wp2
              exact ⟨⟨q + 1, by omega, by rw [HC.out], by go_num, hb4⟩, by simp [intOf]; omega⟩
          · have HC := hideP (cnt_yes HX.out hfx)
            have HFX : Hid (mhv (namesOf rs (reported rs) s) (grp (reported rs) s) best x = true) := by show _ = _; rw [← HF.out]; exact hfx
            go_wp2
            go_region_with (go_at_call 34; refine (mayHave_any a n c rs ea ec s best x wx.drew HRS.out HRW.out hEn HS.out).mono ?_; rintro r' w3 ⟨rfl, hb3⟩; rw [HFX.out])
            all_goals
              have hb4 : Below wb.heap.size wb w3 := hbx.trans (((Below.draws wx 1).trans hb3).mono hbx.size)
              go_wp2
              exact ⟨⟨q + 1, by omega, by rw [HC.out]; go_num, by go_num, hb4⟩, by simp [intOf]; omega⟩
        · have e : ms.take q = ms := List.take_of_length_le (by have := HML.out; omega)
          simp only [e] at hcl htl ⊢
          by_cases hmj : qn < 2 * cntOf f ms
          · have HY : Hid (majOf f ms = true) := by show _ = _; simp [majOf, HML.out, hmj]
            have HR := hideP (any_yes HG.out (fun p => majOf f p.ms) HY.out)
            go_wp2
            go_ret
            rw [HM.out, HR.out]
            exact ⟨rfl, hbwx⟩
          · have HY : Hid (majOf f ms = false) := by show _ = _; simp [majOf, HML.out, hmj]
            have HR := hideP (any_no HG.out (fun p => majOf f p.ms) HNo.out HY.out)
            go_wp2
            exact ⟨⟨k + 1, by omega, by go_num, HR, hbx⟩, by simp [intOf]; omega⟩
    · have e : ps.take k = ps := List.take_of_length_le (by have := HP.out.len; omega)
      rw [e] at HNo
      go_wp2
      go_ret
      rw [HM.out, HNo.out]
      exact ⟨rfl, hbwr⟩
end Go.Proofs.Qxb6612240a
