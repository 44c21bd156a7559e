import Derived.Test.Qxb6612256aBI2
import Derived.Test.Qxb6612256aCnt
namespace Go.Proofs.Qxb6612256a
open Go.RowKit Go.MapKept
open Go.ChangeMaps (setBlock)

theorem Try.info33 : (Try.prog.info? 33).map (fun i => (i.zero, i.size, i.bytes)) = some (some (.pointer none), 1, 8) := by kernel_rfl

theorem Built.start {w0 w1 w2 : World} {gs : List Gr} {n : Nat} {xs : List Value} (hm : w1.heap[w0.heap.size]? = some (fobj [] 0)) (hh : w1.heap[w0.heap.size + 1]? = some (.cells (hist w0.heap.size (.slice none 0 0)).toArray 66 (0, 0))) (hb : Below w0.heap.size w0 w1)
    (hown : w2.ownsRow w1.heap.size 33 1 (.slice (some ⟨w1.heap.size, 0, none⟩) n n) n xs) (hg : w1.grownBy w2 none) : Built w0 w2 gs n 0 w1.heap.size [] (.slice none 0 0) xs [] := by
  have hb2 := gnb hg
  refine ⟨⟨⟨(hb2.block _ (Array.getElem?_eq_some_iff.1 hh).1).trans hh, rfl, rfl, ⟨rfl, .inl ⟨rfl, rfl⟩⟩, List.Pairwise.nil, by simp, (bx hb hb2).size⟩, ⟨(hb2.block _ (Array.getElem?_eq_some_iff.1 hm).1).trans hm, List.nodup_nil⟩, ?_, ?_, ?_, ?_, List.nodup_nil, ?_⟩, rfl, ?_, ?_, Nat.le_refl _, bx hb hb2⟩
  · refine ⟨hown.1, ?_⟩
    rcases hown.2 with h1 | ⟨g, cap, c, h1, h2, h3⟩
    · exact .inl h1
    · exact .inr ⟨g, cap, c, h1, Nat.le_trans hb.size h2, h3⟩
  · intro j e h; simp at h
  · intro e h; simp at h
  · intro e h; simp at h
  · intro e h; simp at h
  · intro e h; simp at h
  · exact Counted.empty

theorem Built.row_cell {w0 w : World} {gs : List Gr} {n k wb : Nat} {E : List GE} {v : Value} {xs : List Value} {ls : List (Int × Int)} (h : Built w0 w gs n k wb E v xs ls) {j : Nat} (hj : j < n) {w1 : World} (hw : w1.heap[wb]? = w.heap[wb]?) : (∃ x, w1.cell? ⟨wb, j, none⟩ = some x) ∧ w1.frozen? ⟨wb, j, none⟩ = false := by
  rcases h.bi.row.2 with ⟨e, _⟩ | ⟨g, cap, c, e, _, h3, h4, _, h5, _⟩
  · simp at e
  · simp at e
    obtain ⟨rfl, rfl⟩ := e
    have hg : w1.heap[wb]? = some (.cells c.toList.toArray 33 (0, 0)) := by rw [hw, h3]
    refine ⟨?_, frozen_of_block hg _⟩
    rw [cell_of_block hg]
    exact ⟨_, List.getElem?_eq_getElem (by have := h5; simp; omega)⟩

theorem Built.add_call {w w1 : World} {gs : List Gr} {n k wb : Nat} {E : List GE} {v : Value} {xs : List Value} {ls : List (Int × Int)} (h : Built w w1 gs n k wb E v xs ls) (hn : gs.length = n) (hk : k < n) (hd : Distinct gs) {g : Gr} (hg : gs[k]? = some g) :
    Calls Try.prog 12 #[.pointer (some ⟨w.heap.size + 1, 0, none⟩), .string g.key, .bool g.pre, .int .i64 g.wn] w1.drew fun r w3 => r = .returned (.pointer (some ⟨w1.heap.size + 1, 0, none⟩)) ∧ (∃ x, w3.cell? ⟨wb, k, none⟩ = some x) ∧ w3.frozen? ⟨wb, k, none⟩ = false ∧
      Hid (∀ b o x, w.cell? ⟨b, o, none⟩ = some x → w3.cell? ⟨b, o, none⟩ = some x) ∧ Hid (Added w1.drew w.heap.size (ents E) k g.filt g.wn w3) := by
  have hl := h.len hn (by omega)
  have hfi := h.bi.drew.fis
  rw [hl] at hfi
  refine (addGroup_any (w.heap.size + 1) w.heap.size (hist w.heap.size v) (ents E) k g.filt g.wn w1.drew h.bi.drew.len.blk rfl hfi (h.new_key hd hg)).mono ?_
  rintro r w3 ⟨rfl, ha⟩
  obtain ⟨rc, hrb, _⟩ := h.bi.row_block
  have hmw : wb ≠ w.heap.size := ne_of_obj hrb h.bi.fis.block (by simp [fobj])
  obtain ⟨hx, hf⟩ := h.row_cell hk (w1 := w3) (ha.frame.block wb (Array.getElem?_eq_some_iff.1 hrb).1 hmw)
  refine ⟨rfl, hx, hf, ?_, ha⟩
  intro b o x hc
  have hbl := lt_of_cell hc
  have hc1 := cell_ext h.bel hc
  exact (World.cell?_of_block (a := ⟨b, o, none⟩) (ha.frame.block b (lt_of_cell hc1) (by omega))).trans hc1
theorem Built.cell_ne {w w1 : World} {gs : List Gr} {n k wb : Nat} {E : List GE} {v : Value} {xs : List Value} {ls : List (Int × Int)} (h : Built w w1 gs n k wb E v xs ls) {b o : Nat} {x : Value} (hc : w.cell? ⟨b, o, none⟩ = some x) : ¬ wb = b := by
  obtain ⟨rc, hrb, hB⟩ := h.bi.row_block
  have := lt_of_cell hc
  omega

set_option maxHeartbeats 4000000 in
set_option maxRecDepth 100000 in
theorem build_any (a : Option Addr) (n c : Nat) (gs : List Gr) (w : World) (h : GsOk w a n gs) (hn : n ≤ 4096) (hd : Distinct gs) :
    Calls Try.prog 7 #[.slice a n c] w fun r w' => ∃ wb E v xs ls, r = .returned (.tuple #[.pointer (some ⟨w.heap.size + 1, 0, none⟩), .slice (some ⟨wb, 0, none⟩) n n]) ∧ Built w w' gs n n wb E v xs ls := by
  obtain ⟨i0, hi, hz0, hz1, hz2⟩ := info_parts Try.info33
  have HD := hideP hd
  have HL := hideP h.len
  clear hd
  go_enter Try.func7, Try.ntmps7
  go_wp2_with fail
  refine (newHistory_any w).mono ?_
  rintro r' w1 ⟨rfl, hm1, hh1, hb1⟩
  have HM1 := hideP hm1
  have HH1 := hideP hh1
  have HB1 := hideP hb1
  clear hm1 hh1 hb1
  go_wp2_with (at_make; refine wpList_make_full _ rfl (.tmp 9) (.tmp 9) 26 rfl w1.heap.size 33 i0 _ 1 Try.underlying26 hi hz0 hz1 .i64 .i64 n n n rfl rfl rfl rfl (by rw [hz2]; omega) (by unfold maxLen; omega) (Nat.le_refl _) ?_; intro w2 hown2 hgr2)
  have HST : Hid (Built w w2 gs n 0 w1.heap.size [] (.slice none 0 0) _ []) := Built.start HM1.out HH1.out HB1.out hown2 hgr2
  clear hown2 hgr2 HM1 HH1 HB1
  obtain ⟨wb, hwb⟩ : ∃ wb, wb = w1.heap.size := ⟨_, rfl⟩
  rw [← hwb] at HST ⊢
  clear hwb
  go_loopw [6] (fun i wr => ∃ (k : Nat) (E : List GE) (v : Value) (xs : List Value) (ls : List (Int × Int)), k ≤ n ∧ i = .int .i64 k ∧ Hid (Built w wr gs n k wb E v xs ls)) (fun i _ => n - (intOf i).toNat)
  case atStart => exact ⟨0, _, _, _, _, Nat.zero_le _, rfl, HST⟩
  case round =>
    clear HST
    rename World => wr
    obtain ⟨k, E, v, xs, ls, hk, rfl, HB⟩ := hrel
    by_cases hlt : k < n
    · obtain ⟨g, b, off, hg, rfl, c0, c1, c2, hks⟩ := h.get hlt
      have HG := hide_get hg
      clear hg
      have hbel := HB.out.bel
      have t0 := cell_ext hbel c0
      have t1 := cell_ext hbel c1
      have t2 := cell_ext hbel c2
      have hbb : b < w.heap.size := lt_of_cell c0
      have hbw := HB.out.cell_ne c0
      have hbw2 : ¬ b = wb := fun e => hbw e.symm
      have HAC := hideP (HB.out.add_call HL.out hlt HD.out HG.out)
      clear hbel
      cases hp : g.pre
      · rw [hp] at c1 t1 HAC
        go_wp2
        go_region_held3 (fun W => W.cell? ⟨b, off + k * 3, none⟩ = some (.string g.key) ∧ W.cell? ⟨b, off + k * 3 + 1, none⟩ = some (.bool false) ∧ W.cell? ⟨b, off + k * 3 + 2, none⟩ = some (.int .i64 g.wn)) (go_keep) (first | (go_at_call 12; refine HAC.out.mono ?_; rintro r3 w3 ⟨rfl, ⟨x3, d1⟩, d2, HK, HA⟩; have u0 := HK.out _ _ _ c0; have u1 := HK.out _ _ _ c1; have u2 := HK.out _ _ _ c2))
        all_goals
          obtain ⟨E', v', xs', ls', hB'⟩ := HB.out.plain HL.out hlt HG.out hp HA.out
          have HB' := hideP hB'
          clear hB'
          obtain ⟨w4, hw4⟩ : ∃ w4, w4 = w3.setCell ⟨wb, k, none⟩ (.pointer (some ⟨wr.heap.size + 1, 0, none⟩)) := ⟨_, rfl⟩
          rw [← hw4] at HB' ⊢
          have s1 := cell_ext HB'.out.bel c1
          clear hw4 d1 d2 u0 u1 u2 t0 t1 t2
          go_wp2
          exact ⟨⟨k + 1, _, _, _, _, by omega, by go_num, HB'⟩, by simp [intOf]; omega⟩
      · rw [hp] at c1 t1 HAC
        go_wp2
        go_region_held3 (fun W => W.cell? ⟨b, off + k * 3, none⟩ = some (.string g.key) ∧ W.cell? ⟨b, off + k * 3 + 1, none⟩ = some (.bool true) ∧ W.cell? ⟨b, off + k * 3 + 2, none⟩ = some (.int .i64 g.wn)) (go_keep) (first | (go_at_call 12; refine HAC.out.mono ?_; rintro r3 w3 ⟨rfl, ⟨x3, d1⟩, d2, HK, HA⟩; have u0 := HK.out _ _ _ c0; have u1 := HK.out _ _ _ c1; have u2 := HK.out _ _ _ c2))
        all_goals
          have HLN : Hid (LenAt (w3.setCell ⟨wb, k, none⟩ (.pointer (some ⟨wr.heap.size + 1, 0, none⟩))) w.heap.size (w.heap.size + 1) (hist w.heap.size v) v ls) := (HB.out.step HL.out hlt HG.out HA.out).1.len
          have HBE : Hid (Below w.heap.size w (w3.setCell ⟨wb, k, none⟩ (.pointer (some ⟨wr.heap.size + 1, 0, none⟩)))) := (HB.out.step HL.out hlt HG.out HA.out).2.1
          have HBC : Hid (∀ w5, CntPost (w3.setCell ⟨wb, k, none⟩ (.pointer (some ⟨wr.heap.size + 1, 0, none⟩))) w.heap.size (w.heap.size + 1) (hist w.heap.size v) v (addLen ls g.key.size 1) w5 → ∃ E' v' xs' ls', Built w w5 gs n (k + 1) wb E' v' xs' ls') := fun w5 h5 => HB.out.counted HL.out hlt hn HG.out hp HA.out h5
          obtain ⟨w4, hw4⟩ : ∃ w4, w4 = w3.setCell ⟨wb, k, none⟩ (.pointer (some ⟨wr.heap.size + 1, 0, none⟩)) := ⟨_, rfl⟩
          rw [← hw4] at HLN HBE HBC ⊢
          have s0 := cell_ext HBE.out c0
          have s1 := cell_ext HBE.out c1
          clear hw4 d1 d2 u0 u1 u2 t0 t1 t2
          go_wp2_with fail
          refine (zzCount_any w.heap.size (w.heap.size + 1) (hist w.heap.size v) v ls g.key.size 1 w4 HLN.out (by omega) (HB.out.small HL.out hn)).mono ?_
          rintro r5 w5 ⟨rfl, hc5⟩
          obtain ⟨E', v', xs', ls', hB'⟩ := HBC.out w5 hc5
          have HB' := hideP hB'
          clear hB' hc5
          go_wp2
          exact ⟨⟨k + 1, _, _, _, _, by omega, by go_num, HB'⟩, by simp [intOf]; omega⟩
    · have hke : k = n := by omega
      subst hke
      go_wp2
      go_ret2
      exact ⟨_, _, _, _, _, rfl, HB.out⟩
end Go.Proofs.Qxb6612256a
