import Derived.Test.Qxb6612256aMat
import Derived.Test.Qxb6612256aSrt
import Derived.Maps.AppendAt
namespace Go.Proofs.Qxb6612256a
open Go.RowKit Go.MapKept
open Go.ChangeMaps (setBlock)

theorem Try.info3 : (Try.prog.info? 3).map (fun i => (i.zero, i.size, i.bytes)) = some (some (.int .i64 0), 1, 8) := by kernel_rfl
def ivals (ys : List Int) : List Value := ys.map fun y => .int .i64 y
/-- A list of ints of the call's own. -/
structure Ints (w0 w : World) (v : Value) (ys : List Int) : Prop where
  own : w.ownsRow w0.heap.size 3 1 v ys.length (ivals ys)
  bel : Below w0.heap.size w0 w
theorem Ints.slice {w0 w : World} {v : Value} {ys : List Int} (h : Ints w0 w v ys) : ∃ a c, v = .slice a ys.length c ∧ ys.length ≤ c ∧ c ≤ 9223372036854775807 := by
  rcases h.own.2 with ⟨h1, h2⟩ | ⟨g, cap, cur, h1, _, _, h2, h3, _⟩
  · exact ⟨none, 0, by rw [h1, h2], by omega, by omega⟩
  · exact ⟨_, cap, h1, h2, by unfold maxLen at h3; omega⟩
theorem Ints.at {w0 w : World} {v : Value} {ys : List Int} (h : Ints w0 w v ys) {j : Nat} {y : Int} (hj : ys[j]? = some y) : ∃ g c, v = .slice (some ⟨g, 0, none⟩) ys.length c ∧ w.cell? ⟨g, j, none⟩ = some (.int .i64 y) ∧ w.frozen? ⟨g, j, none⟩ = false := by
  rcases h.own.2 with ⟨h1, h2⟩ | ⟨g, cap, cur, h1, _, h3, h4, _, h5, h6⟩
  · rw [List.length_eq_zero_iff.1 h2] at hj; simp at hj
  · have hg : w.heap[g]? = some (.cells cur.toList.toArray 3 (0, 0)) := by rw [h3]
    have hjl := (List.getElem?_eq_some_iff.1 hj).1
    refine ⟨g, cap, h1, ?_, frozen_of_block hg _⟩
    rw [cell_of_block hg]
    have h7 : (cur.toList.take (ys.length * 1))[j]? = some (.int .i64 y) := by rw [h6]; simp [ivals, hj]
    rw [List.getElem?_take] at h7
    split at h7
    · exact h7
    · simp at h7
theorem Ints.stored {w0 w : World} {g c : Nat} {ys : List Int} (h : Ints w0 w (.slice (some ⟨g, 0, none⟩) ys.length c) ys) (j : Nat) (y : Int) : Ints w0 (w.setCell ⟨g, j, none⟩ (.int .i64 y)) (.slice (some ⟨g, 0, none⟩) (ys.set j y).length c) (ys.set j y) := by
  obtain ⟨h1, h2⟩ := h.own.stored j (.int .i64 y)
  obtain ⟨cu, _, hB⟩ := own_block h.own (g := g) rfl
  refine ⟨?_, h.bel.trans (Below.of_grown h2 hB h.bel.size)⟩
  have e : ivals (ys.set j y) = (ivals ys).set j (.int .i64 y) := by simp [ivals, List.map_set]
  rw [List.length_set, e]
  exact h1

theorem Ints.alloc {w0 w : World} {v : Value} {ys : List Int} (h : Ints w0 w v ys) (o : Obj) : Ints w0 (w.alloc o) v ys := by
  have hb := below_alloc1 w o
  refine ⟨own_keep h.own (fun g hg => ?_), bx h.bel hb⟩
  obtain ⟨cu, hc, _⟩ := own_block h.own hg
  exact hb.block g (Array.getElem?_eq_some_iff.1 hc).1
theorem Ints.appended {w0 w w' : World} {v v' : Value} {ys : List Int} {y : Int} (h : Ints w0 w v ys) (h1 : w'.ownsRow w0.heap.size 3 1 v' (ys.length + 1) (ivals ys ++ [.int .i64 y])) (h2 : w.grownBy w' v.ownBlock) : Ints w0 w' v' (ys ++ [y]) := by
  refine ⟨by rw [List.length_append]; simpa [ivals] using h1, h.bel.trans ((Below.refl _ _).grown h2 h.bel.size (fun g hg => ?_))⟩
  exact (own_block h.own hg).choose_spec.2
theorem Ints.drewN {w0 w : World} {v : Value} {ys : List Int} (h : Ints w0 w v ys) (d : Nat) : Ints w0 (w.drewN d) v ys := ⟨own_keep h.own (fun _ _ => rfl), below_drewN h.bel d⟩
theorem alive_len (Z : List (Gr × Int)) : (aliveZ Z).length ≤ Z.length := by
  unfold aliveZ
  simp
  exact List.length_filter_le _ _

set_option maxHeartbeats 4000000 in
set_option maxRecDepth 100000 in
theorem lengthsMatch_any (w : World) (hb mb : Nat) (v : Value) (L : List FEnt) (c : Nat) (ls : List (Int × Int)) (a : Option Addr) (n ca : Nat) (gs : List Gr) (lb : Nat) (left : List Int) (h : Chk w hb mb v L c ls a n gs lb left) (hn : n ≤ 4096) :
    Calls Try.prog 10 #[.pointer (some ⟨hb, 0, none⟩), .slice a n ca, .slice (some ⟨lb, 0, none⟩) n n] w fun r w' => r = .returned (.bool true) ∧ Below w.heap.size w w' := by
  obtain ⟨i0, hi, hz0, hz1, hz2⟩ := info_parts Try.info3
  have H := hideP h
  have HL := hideP h.llen
  have HGL := hideP h.gok.len
  have hst : Ints w w (.slice none 0 0) (aliveZ ((gs.zip left).take 0)) := ⟨⟨rfl, .inl ⟨rfl, rfl⟩⟩, Below.refl _ _⟩
  have HST := hideP hst
  clear h hst
  go_enter Try.func10, Try.ntmps10
  go_wp2
  go_loopw [7, 8] (fun s i wr => ∃ (k : Nat), k ≤ n ∧ i = .int .i64 k ∧ Hid (Ints w wr s (aliveZ ((gs.zip left).take k)))) (fun _ i _ => n - (intOf i).toNat)
  case atStart => exact ⟨0, Nat.zero_le _, rfl, HST⟩
  case round =>
    clear HST
    rename World => wr
    obtain ⟨k, hk, rfl, HI⟩ := hrel
    by_cases hlt : k < n
    · obtain ⟨g, b, off, hg, rfl, c0, c1, c2, hks⟩ := (H.out.ext HI.out.bel).gok.get hlt
      obtain ⟨x, hx⟩ := get_of_lt HL.out hlt
      have c3 : wr.cell? ⟨lb, k, none⟩ = some (.int .i64 x) := by
        have := (H.out.ext HI.out.bel).row.at hx 0 _ rfl
        simpa using this
      have hz : (gs.zip left)[k]? = some (g, x) := by rw [List.getElem?_zip_eq_some]; exact ⟨hg, hx⟩
      have HT : Hid ((gs.zip left).take (k + 1) = (gs.zip left).take k ++ [(g, x)]) := take_get hz
      have hyl : (aliveZ ((gs.zip left).take k)).length ≤ 4096 := by
        have h1 := alive_len ((gs.zip left).take k)
        have h2 : ((gs.zip left).take k).length ≤ k := by simp; omega
        omega
      clear hg hx hz
      by_cases hgo : g.pre = true ∧ 0 < x
      · obtain ⟨hp, hx0⟩ := hgo
        rw [hp] at c1
        have HN : Hid (aliveZ ((gs.zip left).take (k + 1)) = aliveZ ((gs.zip left).take k) ++ [(g.key.size : Int)]) := by
          show _ = _
          rw [HT.out, aliveZ_append, aliveZ_cons, hp]
          simp [hx0, aliveZ]
        have HO := hideP (HI.out.alloc (.cells #[.int .i64 g.key.size] 3))
        have HNC : Hid (∀ j u, ([.int .i64 g.key.size] : List Value)[j]? = some u → (wr.alloc (.cells #[.int .i64 g.key.size] 3)).cell? ((⟨wr.heap.size, 0, none⟩ : Addr).add j) = some u) := new_cells wr [.int .i64 g.key.size] 3
        go_wp2_with (at_builtin; refine wpList_append_own_at _ rfl (.tmp 36) (.tmp 43) 29 rfl w.heap.size 3 i0 _ 1 8 Try.underlying29 hi hz0 hz1 hz2 rfl (by decide) _ _ _ rfl HO.out.own ⟨wr.heap.size, 0, none⟩ 1 1 [.int .i64 g.key.size] rfl rfl HNC.out (by simp [Value.oneCell']) (by unfold maxLen; omega) (by omega) HO.out.bel.size ?_; intro v' w' hown' hg' _ _)
        have HI2 := hideP (HO.out.appended hown' hg')
        rw [← HN.out] at HI2
        clear hown' hg' HO HNC
        go_wp2
        exact ⟨⟨k + 1, by omega, by go_num, HI2⟩, by simp [intOf]; omega⟩
      · have HN : Hid (aliveZ ((gs.zip left).take (k + 1)) = aliveZ ((gs.zip left).take k)) := by
          show _ = _
          rw [HT.out, aliveZ_append, aliveZ_cons]
          simp only [Bool.and_eq_true, decide_eq_true_eq, hgo, if_false]
          simp [aliveZ]
        rw [← HN.out] at HI
        cases hp : g.pre
        · rw [hp] at c1
          go_wp2
          exact ⟨⟨k + 1, by omega, by go_num, HI⟩, by simp [intOf]; omega⟩
        · have hx0 : ¬ 0 < x := fun e => hgo ⟨hp, e⟩
          rw [hp] at c1
          go_wp2
          exact ⟨⟨k + 1, by omega, by go_num, HI⟩, by simp [intOf]; omega⟩
    · have hke : k = n := by omega
      subst hke
      have HN : Hid (aliveZ ((gs.zip left).take k) = aliveZ (gs.zip left)) := by
        show _ = _
        rw [List.take_of_length_le (by simp [HL.out, HGL.out])]
      rw [HN.out] at HI
      obtain ⟨ys0, hys0⟩ : ∃ ys0, ys0 = aliveZ (gs.zip left) := ⟨_, rfl⟩
      have HC0 : Hid (Counted ls (cnt ys0)) := by rw [hys0]; exact H.out.cnt
      have hm4 : ys0.length ≤ 4096 := by
        have h1 := alive_len (gs.zip left)
        have h2 : (gs.zip left).length ≤ gs.length := by simp; omega
        have h3 := HGL.out
        rw [← hys0] at h1
        omega
      rw [← hys0] at HI
      obtain ⟨a1, cap1, rfl, hcap1, hcap2⟩ := HI.out.slice
      obtain ⟨m, hm⟩ : ∃ m, m = ys0.length := ⟨_, rfl⟩
      rw [← hm] at HI hm4 hcap1 ⊢
      have HM := hideP hm
      clear hys0 HN hm
      go_wp2
      go_loopw [9, 10, 11] (fun i _ _ wt => ∃ (k2 : Nat) (ys : List Int), 1 ≤ k2 ∧ (k2 ≤ m ∨ k2 = 1) ∧ i = .int .i64 k2 ∧ Hid (ys.length = m) ∧ Hid (Ints w wt (.slice a1 m cap1) ys) ∧ Hid (SortedTo ys k2) ∧ Hid (∀ l, cnt ys l = cnt ys0 l)) (fun i _ _ _ => m - (intOf i).toNat)
      case atStart => exact ⟨1, ys0, Nat.le_refl _, .inr rfl, rfl, HM.out.symm, HI, sortedTo_one ys0, fun _ => rfl⟩
      case round =>
        clear HI
        rename World => wt
        obtain ⟨k2, ys, hk1, hk2, rfl, HYL, HI, HSO, HCN⟩ := hrel
        by_cases hlt2 : k2 < m
        · go_wp2
          go_loopw [10, 11] (fun j _ wx => ∃ (q : Nat) (zs : List Int), q ≤ k2 ∧ j = .int .i64 q ∧ Hid (zs.length = m) ∧ Hid (Ints w wx (.slice a1 m cap1) zs) ∧ Hid (Almost zs k2 q) ∧ Hid (∀ l, cnt zs l = cnt ys0 l)) (fun j _ _ => (intOf j).toNat)
          case atStart => exact ⟨k2, ys, Nat.le_refl _, rfl, HYL, HI, HSO.out.almost, HCN⟩
          case round =>
            clear HI HSO HCN HYL
            rename World => wx
            obtain ⟨q, zs, hq, rfl, HZL, HI, HAL, HCN⟩ := hrel
            cases q with
            | zero =>
              have HS2 := hideP HAL.out.stop0
              go_wp2
              go_quiet (fail)
              go_wp2
              exact ⟨⟨k2 + 1, zs, by omega, .inl (by omega), by go_num, HZL, HI.out.drewN _, HS2, HCN⟩, by simp [intOf]; omega⟩
            | succ p =>
              obtain ⟨x1, hx1⟩ := get_of_lt HZL.out (show p < m by omega)
              obtain ⟨x2, hx2⟩ := get_of_lt HZL.out (show p + 1 < m by omega)
              obtain ⟨g, c1', e1, d1, f1⟩ := HI.out.at hx1
              simp at e1
              obtain ⟨rfl, hl1, rfl⟩ := e1
              obtain ⟨g', c2', e2, d2, f2⟩ := HI.out.at hx2
              simp at e2
              obtain ⟨rfl, hl2, rfl⟩ := e2
              have HX1 := hide_get hx1
              have HX2 := hide_get hx2
              have hpm : (p : Int) + 1 < (m : Int) := by omega
              have hpm' : (p : Int) < (m : Int) := by omega
              have hq' : (p : Int) + 1 ≤ (k2 : Int) := by omega
              clear hx1 hx2 hl1 hl2
              by_cases hgt : x2 < x1
              · have HS2 : Hid (Almost ((zs.set p x2).set (p + 1) x1) k2 p) := HAL.out.swap (by omega) hq (by rw [HZL.out]; omega) HX1.out HX2.out hgt
                have HC2 : Hid (∀ l, cnt ((zs.set p x2).set (p + 1) x1) l = cnt ys0 l) := fun l => (cnt_swap zs (p + 1) (by omega) HX1.out HX2.out l).trans (HCN.out l)
                have HI2 : Hid (∀ d, Ints w (((wx.drewN d).setCell ⟨g, p, none⟩ (.int .i64 x2)).setCell ⟨g, p + 1, none⟩ (.int .i64 x1)) (.slice (some ⟨g, 0, none⟩) m cap1) ((zs.set p x2).set (p + 1) x1)) := fun d => by
                  have h1 := HI.out.drewN d
                  rw [← HZL.out] at h1
                  have h2 := (h1.stored p x2).stored (p + 1) x1
                  rw [List.length_set, List.length_set, HZL.out] at h2
                  exact h2
                have HZ2 : Hid (((zs.set p x2).set (p + 1) x1).length = m) := by show _ = _; rw [List.length_set, List.length_set]; exact HZL.out
                go_wp2
                go_quiet (fail)
                go_wp2
                exact ⟨⟨p, _, by omega, rfl, HZ2, HI2.out _, HS2, HC2⟩, by simp [intOf]⟩
              · have hgf : decide (x2 < x1) = false := by simpa using hgt
                have HS2 := hideP (HAL.out.stop (by omega) hq HX1.out HX2.out (by omega))
                go_wp2
                go_quiet (fail)
                go_wp2
                exact ⟨⟨k2 + 1, zs, by omega, .inl (by omega), by go_num, HZL, HI.out.drewN _, HS2, HCN⟩, by simp [intOf]; omega⟩
        · have HSS : Hid (SortedTo ys ys.length) := by
            rw [HYL.out]
            intro x1 x2 y1 y2 h1 h2 h3 h4
            exact HSO.out x1 x2 y1 y2 h1 (by omega) h3 h4
          obtain ⟨ao, capv, hv, hlr⟩ := H.out.lens
          have hlm := H.out.lmax
          have H27 : Hid (∀ wz, Below w.heap.size w wz → wz.cell? ⟨hb, 27, none⟩ = some (.slice ao ls.length capv)) := fun wz hz => by rw [← hv]; exact cell_ext hz H.out.c27
          have HC1 : Hid (Counted (ls.drop 0) (cnt (ys.drop 0))) := by
            simp only [List.drop_zero]
            exact HC0.out.congr (fun l => (HCN.out l).symm)
          have HLR := hideP hlr
          clear hv hlr HSO HCN
          go_wp2_with fail
          refine (lengthCount_any hb ao ls.length capv wt (H27.out wt HI.out.bel)).mono ?_
          rintro r5 w5 ⟨rfl, rfl⟩
          go_wp2
          go_loopw [13, 14, 15, 16, 17] (fun kk i _ _ _ wy => ∃ (kq iq : Nat), iq ≤ m ∧ kq ≤ ls.length ∧ kk = .int .i64 kq ∧ i = .int .i64 iq ∧ Hid (Counted (ls.drop kq) (cnt (ys.drop iq))) ∧ Hid (Ints w wy (.slice a1 m cap1) ys)) (fun _ i _ _ _ _ => m - (intOf i).toNat)
          case atStart => exact ⟨0, 0, Nat.zero_le _, Nat.zero_le _, rfl, rfl, HC1, HI⟩
          case round =>
            clear HI HC1
            rename World => wy
            obtain ⟨kq, iq, hiq, hkq, rfl, rfl, HC1, HI⟩ := hrel
            by_cases hlt3 : iq < m
            · obtain ⟨x, hx⟩ := get_of_lt HYL.out hlt3
              obtain ⟨g, c1', e1, d1, f1⟩ := HI.out.at hx
              simp at e1
              obtain ⟨rfl, hl1, rfl⟩ := e1
              have HX := hide_get hx
              have HX0 : Hid (∀ t, iq ≤ t → t < iq → ys[t]? = some x) := fun t h1 h2 => by omega
              clear hx hl1 d1 f1
              go_wp2
              go_loopw [15] (fun j wz => ∃ q : Nat, iq ≤ q ∧ q ≤ m ∧ j = .int .i64 q ∧ Hid (∀ t, iq ≤ t → t < q → ys[t]? = some x) ∧ Hid (Ints w wz (.slice (some ⟨g, 0, none⟩) m cap1) ys)) (fun j _ => m - (intOf j).toNat)
              case atStart => exact ⟨iq, Nat.le_refl _, hiq, rfl, HX0, HI⟩
              case round =>
                clear HI HX0
                rename World => wz
                obtain ⟨q, hq1, hq2, rfl, HXA, HI⟩ := hrel
                obtain ⟨g', c1', e1, d1, f1⟩ := HI.out.at HX.out
                simp at e1
                obtain ⟨rfl, hl1, rfl⟩ := e1
                clear hl1
                by_cases hqm : q < m
                · obtain ⟨y, hy⟩ := get_of_lt HYL.out hqm
                  obtain ⟨g', c2', e2, d2, f2⟩ := HI.out.at hy
                  simp at e2
                  obtain ⟨rfl, hl2, rfl⟩ := e2
                  have HY := hide_get hy
                  clear hl2 hy
                  by_cases hyx : y = x
                  · subst hyx
                    have HX2 : Hid (∀ t, iq ≤ t → t < q + 1 → ys[t]? = some y) := fun t h1 h2 => by
                      rcases Nat.lt_or_eq_of_le (Nat.le_of_lt_succ h2) with h3 | rfl
                      · exact HXA.out t h1 h3
                      · exact HY.out
                    go_wp2
                    go_quiet (fail)
                    go_wp2
                    exact ⟨⟨q + 1, by omega, by omega, by go_num, HX2, HI.out.drewN _⟩, by simp [intOf]; omega⟩
                  · have hqi : iq < q := by
                      rcases Nat.lt_or_eq_of_le hq1 with h1 | h1
                      · exact h1
                      · subst h1
                        have h2 := HY.out
                        rw [HX.out] at h2
                        exact absurd (Option.some.inj h2).symm hyx
                    have HEN : Hid (∀ z, ys[q]? = some z → z ≠ x) := fun z hz => by
                      rw [HY.out] at hz
                      cases hz
                      exact hyx
                    have hyf : (y == x) = false := by simpa using hyx
                    obtain ⟨hsp1, hsp2⟩ := run_split HSS.out hqi (by rw [HYL.out]; exact hq2) HXA.out HEN.out
                    have hnx := HC1.out
                    rw [hsp1] at hnx
                    obtain ⟨hkl, hpk, hcn⟩ := hnx.next (by omega) hsp2
                    have hcast : (((q - iq : Nat)) : Int) = (q : Int) - (iq : Int) := by omega
                    rw [hcast] at hpk
                    obtain ⟨bl, ol, rfl, _⟩ := HLR.out kq _ hpk
                    have HPK := hideP hpk
                    have HC2 := hideP hcn
                    have hqi2 : (iq : Int) ≤ (q : Int) := by omega
                    have hqm2 : (q : Int) ≤ (m : Int) := by omega
                    have hkl2 : (kq : Int) < (ls.length : Int) := by omega
                    clear hsp1 hsp2 hnx hpk hcn hcast
                    go_wp2
                    go_quiet (fail)
                    go_wp2_with fail
                    refine (lengthAt_any hb bl ol ls.length capv kq ls (x, (q : Int) - (iq : Int)) _ (H27.out _ (below_drewN HI.out.bel _)) (HLR.out.ext (below_drewN HI.out.bel _)) rfl HPK.out).mono ?_
                    rintro r6 w6 ⟨rfl, d6, rfl⟩
                    go_wp2
                    exact ⟨⟨kq + 1, q, hq2, by omega, by go_num, rfl, HC2, HI.out.drewN _⟩, by simp [intOf]; omega⟩
                · have hqi : iq < q := by omega
                  have HEN : Hid (∀ z, ys[q]? = some z → z ≠ x) := fun z hz => by
                    have := (List.getElem?_eq_some_iff.1 hz).1
                    have := HYL.out
                    omega
                  obtain ⟨hsp1, hsp2⟩ := run_split HSS.out hqi (by rw [HYL.out]; exact hq2) HXA.out HEN.out
                  have hnx := HC1.out
                  rw [hsp1] at hnx
                  obtain ⟨hkl, hpk, hcn⟩ := hnx.next (by omega) hsp2
                  have hcast : (((q - iq : Nat)) : Int) = (q : Int) - (iq : Int) := by omega
                  rw [hcast] at hpk
                  obtain ⟨bl, ol, rfl, _⟩ := HLR.out kq _ hpk
                  have HPK := hideP hpk
                  have HC2 := hideP hcn
                  have hqi2 : (iq : Int) ≤ (q : Int) := by omega
                  have hqm2 : (q : Int) ≤ (m : Int) := by omega
                  have hkl2 : (kq : Int) < (ls.length : Int) := by omega
                  clear hsp1 hsp2 hnx hpk hcn hcast
                  go_wp2
                  go_quiet (fail)
                  go_wp2_with fail
                  refine (lengthAt_any hb bl ol ls.length capv kq ls (x, (q : Int) - (iq : Int)) _ (H27.out _ (below_drewN HI.out.bel _)) (HLR.out.ext (below_drewN HI.out.bel _)) rfl HPK.out).mono ?_
                  rintro r6 w6 ⟨rfl, d6, rfl⟩
                  go_wp2
                  exact ⟨⟨kq + 1, q, hq2, by omega, by go_num, rfl, HC2, HI.out.drewN _⟩, by simp [intOf]; omega⟩
            · have hie : iq = m := by omega
              subst hie
              have hke2 : kq = ls.length := by
                have h1 := HC1.out
                rw [List.drop_eq_nil_of_le (show ys.length ≤ iq by rw [HYL.out]; omega)] at h1
                have h2 := congrArg List.length h1.none
                simp at h2
                omega
              go_wp2
              go_ret
              exact ⟨by rw [hke2]; simp, HI.out.bel⟩
end Go.Proofs.Qxb6612256a
