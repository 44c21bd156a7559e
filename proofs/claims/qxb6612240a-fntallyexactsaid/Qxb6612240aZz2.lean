import Derived.Test.Qxb6612240aWt
namespace Go.Proofs.Qxb6612240a
open Go.RowKit

set_option maxRecDepth 100000 in
set_option maxHeartbeats 8000000 in
theorem zzJoins (a : Option Addr) (n c : Nat) (rs : List Rd) (w : World) (h : RsOk w a n rs) (a1 : Option Addr) (n1 c1 : Nat) (ps1 : List Pl) (a2 : Option Addr) (n2 c2 : Nat) (ps2 : List Pl) (h1 : PsOk w a1 n1 ps1) (h2 : PsOk w a2 n2 ps2) :
    Calls Try.prog 24 #[.slice a n c, .slice a1 n1 c1, .slice a2 n2 c2] w fun r w' => BoolSaid r (rsWt rs + psWt ps1 + psWt ps2 ≤ 1048576) ∧ w = w' := by
  have hn := h.n_max
  have hn1 := h1.n_max
  have hn2 := h2.n_max
  go_enter Try.func24, Try.ntmps24
  go_wp2
  · go_ret
    exact ⟨said_no _, rfl⟩
  go_loop [7, 8, 9, 10] (fun s i _ _ => ∃ k acc : Nat, k ≤ n ∧ i = .int .i64 k ∧ s = .int .i64 acc ∧ acc ≤ 1048576 ∧ Hid (acc = n + ((rs.take k).map Rd.wt).sum)) (fun _ i _ _ => n - (intOf i).toNat)
  case atStart => exact ⟨0, n, Nat.zero_le _, rfl, by go_num, by omega, by show _ = _; simp⟩
  case round =>
    obtain ⟨k, acc, hk, rfl, rfl, hb, hs⟩ := hrel
    by_cases hlt : k < n
    · obtain ⟨ren, ra, rn, rc, rps, b, off, hg, rfl, c0, c1, hp⟩ := h.get hlt
      have HG := hide_get hg
      clear hg
      have pm := hp.n_max
      go_wp2
      · go_ret
        exact ⟨said_no _, rfl⟩
      · go_ret
        exact ⟨said_no _, rfl⟩
      go_loop [7, 9, 10] (fun s i _ => ∃ q acc' : Nat, q ≤ rn ∧ i = .int .i64 q ∧ s = .int .i64 acc' ∧ acc' ≤ 1048576 ∧ Hid (acc' = acc + rn + ((rps.take q).map Pr.wt).sum)) (fun _ i _ => rn - (intOf i).toNat)
      case atStart => exact ⟨0, acc + rn, Nat.zero_le _, rfl, by go_num, by omega, by show _ = _; simp⟩
      case round =>
        obtain ⟨q, acc', hq, rfl, rfl, hb', hs'⟩ := hrel
        by_cases hlq : q < rn
        · obtain ⟨pfr, pa, pn, pc, pvs, b', off', hg', rfl, d0, d1, hv⟩ := hp.get hlq
          have HG' := hide_get hg'
          clear hg'
          have vm := hv.n_max
          go_wp2
          · go_ret
            exact ⟨said_no _, rfl⟩
          · go_ret
            exact ⟨said_no _, rfl⟩
          · go_ret
            exact ⟨said_no _, rfl⟩
          · go_ret
            exact ⟨said_no _, rfl⟩
          go_loop [7, 10] (fun s i => ∃ l acc'' : Nat, l ≤ pn ∧ i = .int .i64 l ∧ s = .int .i64 acc'' ∧ acc'' ≤ 1048576 ∧ Hid (acc'' = acc' + pfr.size + pn + ((pvs.take l).map Vt.wt).sum)) (fun _ i => pn - (intOf i).toNat)
          case atStart => exact ⟨0, acc' + pfr.size + pn, Nat.zero_le _, rfl, by go_num, by omega, by show _ = _; simp⟩
          case round =>
            obtain ⟨l, acc'', hl, rfl, rfl, hb'', hs''⟩ := hrel
            by_cases hll : l < pn
            · obtain ⟨v, b'', off'', hg'', rfl, e0, e1, e2, e3, e4, e5, e6, e7, hvt⟩ := hv.get hll
              have HG'' := hide_get hg''
              clear hg''
              have tm : v.tl ≤ 9223372036854775807 := hvt.max
              go_wp2
              · go_ret
                exact ⟨said_no _, rfl⟩
              · go_ret
                exact ⟨said_no _, rfl⟩
              · go_ret
                exact ⟨said_no _, rfl⟩
              · go_ret
                exact ⟨said_no _, rfl⟩
              · go_ret
                exact ⟨said_no _, rfl⟩
              · go_ret
                exact ⟨said_no _, rfl⟩
              exact ⟨⟨l + 1, acc'' + v.leader.size + v.origin.size + v.tl, by omega, by go_num, by go_num, by omega, by show _ = _; rw [sum_step _ HG''.out, hs''.out, Vt.wt]; omega⟩, by simp [intOf]; omega⟩
            · go_wp2
              refine ⟨⟨q + 1, acc'', by omega, by go_num, rfl, hb'', ?_⟩, by simp [intOf]; omega⟩
              show _ = _
              rw [sum_step _ HG'.out, hs''.out, hs'.out, sum_all _ hv.len hll]
              simp [Pr.wt]; omega
        · go_wp2
          refine ⟨⟨k + 1, acc', by omega, by go_num, rfl, hb', ?_⟩, by simp [intOf]; omega⟩
          show _ = _
          rw [sum_step _ HG.out, hs'.out, hs.out, sum_all _ hp.len hlq]
          simp [Rd.wt]; omega
    · have hw0 : Hid (acc = rsWt rs) := by
        show _ = _
        rw [hs.out, sum_all _ h.len hlt, rsWt, h.len]
      clear hs
      go_wp2
      · go_ret
        exact ⟨said_no _, rfl⟩
      · go_ret
        exact ⟨said_no _, rfl⟩
      go_loop [7, 11, 12] (fun s i _ => ∃ k ac : Nat, k ≤ n1 ∧ i = .int .i64 k ∧ s = .int .i64 ac ∧ ac ≤ 1048576 ∧ Hid (ac = acc + n1 + ((ps1.take k).map Pl.wt).sum)) (fun _ i _ => n1 - (intOf i).toNat)
      case atStart => exact ⟨0, acc + n1, Nat.zero_le _, rfl, by go_num, by omega, by show _ = _; simp⟩
      case round =>
        obtain ⟨ka, acca, hka, rfl, rfl, hba, hsa⟩ := hrel
        by_cases hlta : ka < n1
        · obtain ⟨pa, pn, pc, pms, ba, offa, hga, rfl, ca0, hpa⟩ := h1.get hlta
          have HGa := hide_get hga
          clear hga
          have pma := hpa.n_max
          go_wp2
          · go_ret
            exact ⟨said_no _, rfl⟩
          · go_ret
            exact ⟨said_no _, rfl⟩
          go_loop [7, 12] (fun s i => ∃ q acc' : Nat, q ≤ pn ∧ i = .int .i64 q ∧ s = .int .i64 acc' ∧ acc' ≤ 1048576 ∧ Hid (acc' = acca + pn + ((pms.take q).map ByteArray.size).sum)) (fun _ i => pn - (intOf i).toNat)
          case atStart => exact ⟨0, acca + pn, Nat.zero_le _, rfl, by go_num, by omega, by show _ = _; simp⟩
          case round =>
            obtain ⟨q, acc', hq, rfl, rfl, hb', hs'⟩ := hrel
            by_cases hlq : q < pn
            · obtain ⟨s, b', off', hg', rfl, c1⟩ := hpa.get hlq
              have HG' := hide_get hg'
              clear hg'
              go_wp2
              · go_ret
                exact ⟨said_no _, rfl⟩
              · go_ret
                exact ⟨said_no _, rfl⟩
              exact ⟨⟨q + 1, acc' + s.size, by omega, by go_num, by go_num, by omega, by show _ = _; rw [sum_step _ HG'.out, hs'.out]; omega⟩, by simp [intOf]; omega⟩
            · go_wp2
              refine ⟨⟨ka + 1, acc', by omega, by go_num, rfl, hb', ?_⟩, by simp [intOf]; omega⟩
              show _ = _
              rw [sum_step _ HGa.out, hs'.out, hsa.out, sum_all _ hpa.len hlq]
              simp [Pl.wt]; omega
        · have hwa : Hid (acca = acc + psWt ps1) := by
            show _ = _
            rw [hsa.out, sum_all _ h1.len hlta, psWt, h1.len]; omega
          clear hsa
          go_wp2
          · go_ret
            exact ⟨said_no _, rfl⟩
          · go_ret
            exact ⟨said_no _, rfl⟩
          go_loop [7, 13, 14] (fun s i _ => ∃ k ac : Nat, k ≤ n2 ∧ i = .int .i64 k ∧ s = .int .i64 ac ∧ ac ≤ 1048576 ∧ Hid (ac = acca + n2 + ((ps2.take k).map Pl.wt).sum)) (fun _ i _ => n2 - (intOf i).toNat)
          case atStart => exact ⟨0, acca + n2, Nat.zero_le _, rfl, by go_num, by omega, by show _ = _; simp⟩
          case round =>
            obtain ⟨kb, accb, hkb, rfl, rfl, hbb, hsb⟩ := hrel
            by_cases hltb : kb < n2
            · obtain ⟨pa, pn, pc, pms, bb, offb, hgb, rfl, cb0, hpb⟩ := h2.get hltb
              have HGb := hide_get hgb
              clear hgb
              have pmb := hpb.n_max
              go_wp2
              · go_ret
                exact ⟨said_no _, rfl⟩
              · go_ret
                exact ⟨said_no _, rfl⟩
              go_loop [7, 14] (fun s i => ∃ q acc' : Nat, q ≤ pn ∧ i = .int .i64 q ∧ s = .int .i64 acc' ∧ acc' ≤ 1048576 ∧ Hid (acc' = accb + pn + ((pms.take q).map ByteArray.size).sum)) (fun _ i => pn - (intOf i).toNat)
              case atStart => exact ⟨0, accb + pn, Nat.zero_le _, rfl, by go_num, by omega, by show _ = _; simp⟩
              case round =>
                obtain ⟨q, acc', hq, rfl, rfl, hb', hs'⟩ := hrel
                by_cases hlq : q < pn
                · obtain ⟨s, b', off', hg', rfl, c1⟩ := hpb.get hlq
                  have HG' := hide_get hg'
                  clear hg'
                  go_wp2
                  · go_ret
                    exact ⟨said_no _, rfl⟩
                  · go_ret
                    exact ⟨said_no _, rfl⟩
                  exact ⟨⟨q + 1, acc' + s.size, by omega, by go_num, by go_num, by omega, by show _ = _; rw [sum_step _ HG'.out, hs'.out]; omega⟩, by simp [intOf]; omega⟩
                · go_wp2
                  refine ⟨⟨kb + 1, acc', by omega, by go_num, rfl, hb', ?_⟩, by simp [intOf]; omega⟩
                  show _ = _
                  rw [sum_step _ HGb.out, hs'.out, hsb.out, sum_all _ hpb.len hlq]
                  simp [Pl.wt]; omega
            · have hwb : Hid (accb = acca + psWt ps2) := by
                show _ = _
                rw [hsb.out, sum_all _ h2.len hltb, psWt, h2.len]; omega
              clear hsb
              go_wp2
              go_ret
              exact ⟨said_yes (by have e0 := hw0.out; have e1 := hwa.out; have e2 := hwb.out; omega), rfl⟩
end Go.Proofs.Qxb6612240a
