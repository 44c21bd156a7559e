import Derived.Test.Qxb6612256aLen
import Derived.Test.Qxb6612256aBld
namespace Go.Proofs.Qxb6612256a
open Go.RowKit Go.MapKept
open Go.ChangeMaps (setBlock)

theorem ivals_flat (ys : List Int) : ys.flatMap icell = ivals ys := by
  induction ys with
  | nil => rfl
  | cons y ys ih => rw [List.flatMap_cons, ih]; rfl
theorem left_len (gs : List Gr) (p : Nat) (x : Int) : (leftOf gs p x).length = gs.length := by simp [leftOf]
/-- All that the two tests read, behind unwatch. -/
theorem chk_of {w w0 w6 w7 : World} {gs : List Gr} {left : List Int} {v : Value} {L : List FEnt} {c : Nat} {ls : List (Int × Int)} {a : Option Addr} {n lb B : Nat} (hg : GsOk w a n gs) (hb : Below w.heap.size w w7) (hf : Fin w0 w7 gs left v L c ls)
    (hrow : w6.ownsRow B 3 1 (.slice (some ⟨lb, 0, none⟩) n n) n (ivals left)) (hoth : ∀ (b : Nat) (c : Array Value), w6.heap[b]? = some (.cells c 3 (0, 0)) → w7.heap[b]? = some (.cells c 3 (0, 0))) (hl : left.length = n) :
    Chk w7 (w0.heap.size + 1) w0.heap.size v L c ls a n gs lb left := by
  have hrow7 : w7.ownsRow B 3 1 (.slice (some ⟨lb, 0, none⟩) n n) n (ivals left) := own_keep hrow (fun g hg' => by
    obtain ⟨cu, hc, _⟩ := own_block hrow hg'
    rw [hc]
    exact hoth g cu hc)
  subst hl
  rw [← ivals_flat] at hrow7
  obtain ⟨ao, cap, e1, hr⟩ := ownsRow_rowAt icell (fun _ => rfl) hrow7
  simp at e1
  obtain ⟨rfl, rfl⟩ := e1
  obtain ⟨ao2, cap2, e2, hr2⟩ := ownsRow_rowAt lcells l_len hf.own
  refine ⟨hg.ext hb, hr, rfl, by rw [cell_of_block hf.blk]; rfl, by rw [cell_of_block hf.blk]; rfl, hf.fis, ⟨ao2, cap2, e2, hr2⟩, ?_, hf.yes, hf.no, hf.nonneg, hf.num, hf.cnt⟩
  rcases hf.own.2 with ⟨_, h2⟩ | ⟨g, cap, cur, _, _, _, h2, h3, _⟩
  · omega
  · unfold maxLen at h3; omega
/-- The counts copied. -/
def CopiedTo (gs : List Gr) (k : Nat) (xs : List Value) : Prop := ∀ (j : Nat) (g : Gr), j < k → gs[j]? = some g → xs[j]? = some (.int .i64 g.wn)
theorem CopiedTo.step {gs : List Gr} {k : Nat} {xs : List Value} (h : CopiedTo gs k xs) {g : Gr} (hg : gs[k]? = some g) (hl : k < xs.length) : CopiedTo gs (k + 1) (xs.set k (.int .i64 g.wn)) := by
  intro j g' hj hg'
  by_cases hjk : j = k
  · subst hjk
    rw [hg] at hg'
    cases hg'
    rw [List.getElem?_set_self hl]
  · rw [List.getElem?_set_ne (Ne.symm hjk)]
    exact h j g' (by omega) hg'
theorem CopiedTo.left {gs : List Gr} {n p : Nat} {xs : List Value} (h : CopiedTo gs n xs) (hn : gs.length = n) (hx : xs.length = n) (hp : p < n) (x : Int) : xs.set p (.int .i64 x) = ivals (leftOf gs p x) := by
  apply List.ext_getElem?
  intro j
  unfold ivals
  rw [List.getElem?_map, left_get gs p x j (by omega), List.getElem?_set]
  by_cases hj : p = j
  · subst hj; simp [hx, hp]
  · rw [if_neg hj, if_neg (Ne.symm hj)]
    cases hg : gs[j]? with
    | none =>
      have := List.getElem?_eq_none_iff.1 hg
      rw [List.getElem?_eq_none (by omega)]; rfl
    | some g =>
      have := (List.getElem?_eq_some_iff.1 hg).1
      rw [h j g (by omega) hg]; rfl
theorem own_cell {w : World} {B lb n : Nat} {xs : List Value} (h : w.ownsRow B 3 1 (.slice (some ⟨lb, 0, none⟩) n n) n xs) {j : Nat} (hj : j < n) : w.cell? ⟨lb, j, none⟩ = xs[j]? ∧ w.frozen? ⟨lb, j, none⟩ = false ∧ j < xs.length := by
  have hl := h.1
  have h2 := h.cellAt j (by omega)
  refine ⟨h2, ?_, by omega⟩
  obtain ⟨cu, hc, _⟩ := own_block h (g := lb) rfl
  exact frozen_of_block (cur := cu.toList) (by rw [hc]) _

set_option maxHeartbeats 4000000 in
set_option maxRecDepth 100000 in
theorem law_any (a : Option Addr) (n c : Nat) (gs : List Gr) (pick : Int) (w : World) (h : GsOk w a n gs) :
    Calls Try.prog 3 #[.slice a n c, .int .i64 pick] w fun r w' => r = .returned (.bool true) ∧ Below w.heap.size w w' := by
  obtain ⟨i0, hi, hz0, hz1, hz2⟩ := info_parts Try.info3
  have hnm := h.n_max
  have H := hideP h
  clear h
  go_enter Try.func3, Try.ntmps3
  go_wp2_with fail
  refine (zzBytes_any a n c gs pick w H.out).mono ?_
  rintro r1 w1 ⟨⟨b1, rfl, _⟩, rfl⟩
  cases b1
  · go_wp2
    go_ret
    exact ⟨rfl, Below.refl _ _⟩
  · go_wp2_with fail
    refine (tooBig_any a n c gs w H.out).mono ?_
    rintro r2 w2 ⟨⟨b2, rfl, hb2⟩, rfl⟩
    cases b2
    · obtain ⟨hn, hks⟩ := hb2 rfl
      have HKS := hideP hks
      clear hks hb2
      by_cases hneg : pick < 0
      · go_wp2
        go_ret
        exact ⟨rfl, Below.refl _ _⟩
      · by_cases hbig : (n : Int) ≤ pick
        · go_wp2
          go_ret
          exact ⟨rfl, Below.refl _ _⟩
        · obtain ⟨p, rfl⟩ : ∃ p : Nat, pick = p := ⟨pick.toNat, by omega⟩
          have hpn : p < n := by omega
          go_wp2_with fail
          refine (wellFormed_any a n c gs w H.out hn).mono ?_
          rintro r3 w3 ⟨⟨b3, rfl, hb3⟩, d3, rfl⟩
          cases b3
          · go_wp2
            go_ret
            exact ⟨rfl, Below.draws w d3⟩
          · obtain ⟨hpos, hd⟩ := hb3 rfl
            have HPO := hideP hpos
            have HD := hideP hd
            clear hpos hd hb3
            have HB0 := hideP (Below.draws w d3)
            obtain ⟨w0, hw0⟩ : ∃ w0, w0 = w.drewN d3 := ⟨_, rfl⟩
            rw [← hw0] at HB0 ⊢
            have HSZ : Hid (w.heap.size = w0.heap.size) := by rw [hw0]; rfl
            have H0 := hideP (H.out.ext HB0.out)
            clear hw0
            go_wp2_with fail
            refine (build_any a n c gs w0 H0.out hn HD.out).mono ?_
            rintro r4 w4 ⟨wb, E, v, xs, ls, rfl, hB4⟩
            have HB4 := hideP hB4
            clear hB4
            go_wp2_with (at_make; refine wpList_make_full _ rfl (.tmp 32) (.tmp 32) 29 rfl w4.heap.size 3 i0 _ 1 Try.underlying29 hi hz0 hz1 .i64 .i64 n n n rfl rfl rfl rfl (by rw [hz2]; omega) (by unfold maxLen; omega) (Nat.le_refl _) ?_; intro w5 hown5 hgr5)
            obtain ⟨lb, hlb⟩ : ∃ lb, lb = w4.heap.size := ⟨_, rfl⟩
            have HB5 := hideP (gnb hgr5)
            rw [← hlb] at hown5 ⊢
            have HO5 := hideP hown5
            have HLB := hideP hlb
            clear hown5 hgr5 hlb
            go_loopw [8] (fun i wr => ∃ (k : Nat) (ys : List Value), k ≤ n ∧ i = .int .i64 k ∧ Hid (wr.ownsRow lb 3 1 (.slice (some ⟨lb, 0, none⟩) n n) n ys) ∧ Hid (CopiedTo gs k ys) ∧ Hid (Below w4.heap.size w4 wr)) (fun i _ => n - (intOf i).toNat)
            case atStart => exact ⟨0, _, Nat.zero_le _, rfl, HO5, fun j g hj => by omega, HB5⟩
            case round =>
              clear HO5 HB5
              rename World => wr
              obtain ⟨k, ys, hk, rfl, HO, HC, HB⟩ := hrel
              have HBW : Hid (Below w.heap.size w wr) := by
                have h1 : Below w.heap.size w w4 := by have := HB4.out.bel; rw [← HSZ.out] at this; exact HB0.out.trans this
                exact bx h1 HB.out
              by_cases hlt : k < n
              · obtain ⟨g, b, off, hg, rfl, c0, c1, c2, hks⟩ := (H.out.ext HBW.out).get hlt
                have HG := hide_get hg
                obtain ⟨o1, o2, o3⟩ := own_cell HO.out hlt
                obtain ⟨y0, hy0⟩ := get_of_lt rfl o3
                rw [hy0] at o1
                obtain ⟨HO2, hg2⟩ := HO.out.stored k (.int .i64 g.wn)
                have HO3 := hideP HO2
                have HC3 := hideP (HC.out.step HG.out o3)
                have HB3 : Hid (Below w4.heap.size w4 (wr.setCell ⟨lb, k, none⟩ (.int .i64 g.wn))) := HB.out.trans (Below.of_grown hg2 (by rw [HLB.out]; exact Nat.le_refl _) HB.out.size)
                clear hg HO2 hg2 o3 hy0
                go_wp2
                exact ⟨⟨k + 1, _, by omega, by go_num, HO3, HC3, HB3⟩, by simp [intOf]; omega⟩
              · have hke : k = n := by omega
                subst hke
                obtain ⟨g, hgp⟩ := get_of_lt H.out.len hpn
                obtain ⟨hE, hEl⟩ := built_at HB4.out H.out.len
                obtain ⟨e, he, heg⟩ := entry_at hE hgp
                obtain ⟨o1, o2, o3⟩ := own_cell HO.out hpn
                rw [HC.out p g hpn hgp] at o1
                have hw1 := HPO.out g (List.mem_of_getElem? hgp)
                have hw2 := (H.out.wf g (List.mem_of_getElem? hgp)).2
                obtain ⟨hO6, hg6⟩ := HO.out.stored p (.int .i64 (g.wn - 1))
                have hB6 : Below w4.heap.size w4 (wr.setCell ⟨lb, p, none⟩ (.int .i64 (g.wn - 1))) := HB.out.trans (Below.of_grown hg6 (by rw [HLB.out]; exact Nat.le_refl _) HB.out.size)
                rw [HC.out.left H.out.len (by have := HO.out.1; omega) hpn] at hO6
                have hbi := HB4.out.bi.ext HB.out
                have hws : wr.cell? ⟨wb, p, none⟩ = some (.pointer (some ⟨e.wt, 0, none⟩)) := by
                  rw [hbi.row.cellAt p (by omega), hbi.ptr p e he]
                obtain ⟨rc, hrb, _⟩ := HB4.out.bi.row_block
                have hwb : ¬ lb = wb := by
                  have := (Array.getElem?_eq_some_iff.1 hrb).1
                  have := HLB.out
                  omega
                have hwb' : ¬ wb = lb := fun e => hwb e.symm
                have HO6 := hideP hO6
                have HB6 := hideP hB6
                have HUW := hideP (zzUnwatch_any (pick := p) HB4.out hB6 H.out.len hn HD.out HPO.out (fun g hg => (H.out.wf g hg).2) (fun g hg => H.out.str g hg) he)
                rw [heg] at HUW
                clear hgp hE hEl he hO6 hg6 hB6 hbi hrb o3
                go_wp2_with fail
                refine HUW.out.mono ?_
                rintro r7 w7 ⟨rfl, hE7⟩
                obtain ⟨⟨v7, L7, c7, ls7, hfin⟩, hoth, hbel⟩ := hE7
                have hb7 : Below w.heap.size w w7 := by
                  have h1 : Below w.heap.size w w4 := by have := HB4.out.bel; rw [← HSZ.out] at this; exact HB0.out.trans this
                  have h2 := bx h1 HB6.out
                  rw [← HSZ.out] at hbel
                  exact h2.trans hbel
                have HB7 := hideP hb7
                have HCK := hideP (chk_of H.out hb7 hfin HO6.out hoth (by rw [left_len]; exact H.out.len))
                clear hfin hoth hbel hb7
                go_wp2_with fail
                refine (groupsMatch_any w7 _ _ _ _ _ _ _ _ c _ _ _ HCK.out hn).mono ?_
                rintro r8 w8 ⟨rfl, hb8⟩
                have HB8 := hideP hb8
                have HCK8 := hideP (HCK.out.ext hb8)
                clear hb8
                go_wp2_with fail
                refine (lengthsMatch_any w8 _ _ _ _ _ _ _ _ c _ _ _ HCK8.out hn).mono ?_
                rintro r9 w9 ⟨rfl, hb9⟩
                go_wp2
                go_ret
                exact ⟨rfl, bx (bx HB7.out HB8.out) hb9⟩
    · go_wp2
      go_ret
      exact ⟨rfl, Below.refl _ _⟩
end Go.Proofs.Qxb6612256a
