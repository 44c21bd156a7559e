import Derived.Test.Qxb6612240aFirst
import Derived.Deep.RegionHeld3
namespace Go.Proofs.Qxb6612240a
open Go.RowKit Go.MapKept
open Go.ChangeMaps (setBlock)

set_option maxRecDepth 100000 in
set_option maxHeartbeats 8000000 in
theorem highest_any (ea : Option Addr) (n ec : Nat) (E : List Ent) (s : Int) (w : World) (h : RowAt w ea 10 Ent.cells E) (hl : E.length = n) (hn : n ≤ 1048576) (hs : s ∈ slotsOf E) :
    Calls Try.prog 20 #[.slice ea n ec, .int .u64 s] w fun r w' => (∃ (i : Nat) (e : Ent), r = .returned (.int .i64 i) ∧ E[i]? = some e ∧ e.v = bestOf (grp E s)) ∧ Below w.heap.size w w' := by
  have HL := hideP hl
  have HR := hideP h
  have HS := hideP hs
  clear h hl hs
  go_enter Try.func20, Try.ntmps20
  go_wp2
  go_loopw [5, 6, 7] (fun i _ _ wr => ∃ k : Nat, k ≤ n ∧ i = .int .i64 k ∧ Hid (∀ (i : Nat) (x : Ent), i < k → E[i]? = some x → x.v.slot = s → isTop E s x = false) ∧ Below w.heap.size w wr) (fun i _ _ _ => n - (intOf i).toNat)
  case atStart => exact ⟨0, Nat.zero_le _, rfl, fun i x hi => absurd hi (Nat.not_lt_zero _), Below.refl _ _⟩
  case round =>
    rename World => wr
    obtain ⟨k, hk, rfl, HNo, hbr⟩ := hrel
    by_cases hlt : k < n
    · obtain ⟨e, he⟩ := get_of_lt HL.out hlt
      obtain ⟨b, off, rfl, _⟩ := HR.out k e he
      obtain ⟨e0, e1, e2, e3, e4, e5, e6, e7⟩ := ent_get HR.out he
      have HE := hide_get he
      clear he
      have f0 := cell_ext hbr e0
      by_cases hes : e.v.slot = s
      · have hesb : (e.v.slot != s) = false := by simpa using hes
        have HES := hideP hes
        clear hes
        go_wp2
        clear f0
        go_loopw [6, 7] (fun t j wx => ∃ q : Nat, q ≤ n ∧ t = .bool (topTo E s e q) ∧ j = .int .i64 q ∧ Below w.heap.size w wx) (fun _ j _ => n - (intOf j).toNat)
        case atStart => exact ⟨0, Nat.zero_le _, by simp [topTo], rfl, hbr⟩
        case round =>
          rename World => wx
          obtain ⟨q, hq, rfl, rfl, hbx⟩ := hrel
          by_cases hlq : q < n
          · obtain ⟨x, hx⟩ := get_of_lt HL.out hlq
            obtain ⟨x0, x1, x2, x3, x4, x5, x6, x7⟩ := ent_get HR.out hx
            have HSU := hideP (topTo_succ (s := s) (e := e) hx)
            clear hx
            have y0 := cell_ext hbx x0
            by_cases hxs : x.v.slot = s
            · have hxb : (x.v.slot == s) = true := by simpa using hxs
              have HXS := hideP hxs
              have y1 := cell_ext hbx x1
              have y2 := cell_ext hbx x2
              have y3 := cell_ext hbx x3
              have y4 := cell_ext hbx x4
              have y5 := cell_ext hbx x5
              have y6 := cell_ext hbx x6
              have y7 := cell_ext hbx x7
              have z0 := cell_ext hbx e0
              have z1 := cell_ext hbx e1
              have z2 := cell_ext hbx e2
              have z3 := cell_ext hbx e3
              have z4 := cell_ext hbx e4
              have z5 := cell_ext hbx e5
              have z6 := cell_ext hbx e6
              have z7 := cell_ext hbx e7
              clear hxs x0 x1 x2 x3 x4 x5 x6 x7
              have HQ : Hid (∀ W, Below wx.drew.heap.size wx.drew W → W.cell? ⟨b, off + q * 10 + 2, none⟩ = some (.int .u64 x.v.slot) ∧ W.cell? ⟨b, off + q * 10 + 3, none⟩ = some (.int .u64 x.v.round) ∧ W.cell? ⟨b, off + q * 10 + 4, none⟩ = some (.string x.v.leader) ∧ W.cell? ⟨b, off + q * 10 + 5, none⟩ = some (.string x.v.origin) ∧ W.cell? ⟨b, off + q * 10 + 6, none⟩ = some (.int .u64 x.v.inc) ∧ W.cell? ⟨b, off + q * 10 + 7, none⟩ = some (.int .u64 x.v.seq) ∧ W.cell? ⟨b, off + q * 10 + 8, none⟩ = some (.slice x.v.ta x.v.tl x.v.tc) ∧ W.cell? ⟨b, off + q * 10 + 9, none⟩ = some (.int .u64 x.v.nxt) ∧ W.cell? ⟨b, off + k * 10 + 2, none⟩ = some (.int .u64 e.v.slot) ∧ W.cell? ⟨b, off + k * 10 + 3, none⟩ = some (.int .u64 e.v.round) ∧ W.cell? ⟨b, off + k * 10 + 4, none⟩ = some (.string e.v.leader) ∧ W.cell? ⟨b, off + k * 10 + 5, none⟩ = some (.string e.v.origin) ∧ W.cell? ⟨b, off + k * 10 + 6, none⟩ = some (.int .u64 e.v.inc) ∧ W.cell? ⟨b, off + k * 10 + 7, none⟩ = some (.int .u64 e.v.seq) ∧ W.cell? ⟨b, off + k * 10 + 8, none⟩ = some (.slice e.v.ta e.v.tl e.v.tc) ∧ W.cell? ⟨b, off + k * 10 + 9, none⟩ = some (.int .u64 e.v.nxt)) := fun W hW => by
                have hbW : Below wx.heap.size wx W := (Below.draws wx 1).trans hW
                exact ⟨cell_ext hbW y0, cell_ext hbW y1, cell_ext hbW y2, cell_ext hbW y3, cell_ext hbW y4, cell_ext hbW y5, cell_ext hbW y6, cell_ext hbW y7, cell_ext hbW z0, cell_ext hbW z1, cell_ext hbW z2, cell_ext hbW z3, cell_ext hbW z4, cell_ext hbW z5, cell_ext hbW z6, cell_ext hbW z7⟩
              cases hbl : bless e.v.round e.v.leader x.v.round x.v.leader
              · have HOT : Hid (offTop s e x = false) := by show _ = _; simp [offTop, vless, hbl]
                go_wp2
                go_region_held3 (fun W => W.cell? ⟨b, off + q * 10 + 2, none⟩ = some (.int .u64 x.v.slot) ∧ W.cell? ⟨b, off + q * 10 + 3, none⟩ = some (.int .u64 x.v.round) ∧ W.cell? ⟨b, off + q * 10 + 4, none⟩ = some (.string x.v.leader) ∧ W.cell? ⟨b, off + q * 10 + 5, none⟩ = some (.string x.v.origin) ∧ W.cell? ⟨b, off + q * 10 + 6, none⟩ = some (.int .u64 x.v.inc) ∧ W.cell? ⟨b, off + q * 10 + 7, none⟩ = some (.int .u64 x.v.seq) ∧ W.cell? ⟨b, off + q * 10 + 8, none⟩ = some (.slice x.v.ta x.v.tl x.v.tc) ∧ W.cell? ⟨b, off + q * 10 + 9, none⟩ = some (.int .u64 x.v.nxt) ∧ W.cell? ⟨b, off + k * 10 + 2, none⟩ = some (.int .u64 e.v.slot) ∧ W.cell? ⟨b, off + k * 10 + 3, none⟩ = some (.int .u64 e.v.round) ∧ W.cell? ⟨b, off + k * 10 + 4, none⟩ = some (.string e.v.leader) ∧ W.cell? ⟨b, off + k * 10 + 5, none⟩ = some (.string e.v.origin) ∧ W.cell? ⟨b, off + k * 10 + 6, none⟩ = some (.int .u64 e.v.inc) ∧ W.cell? ⟨b, off + k * 10 + 7, none⟩ = some (.int .u64 e.v.seq) ∧ W.cell? ⟨b, off + k * 10 + 8, none⟩ = some (.slice e.v.ta e.v.tl e.v.tc) ∧ W.cell? ⟨b, off + k * 10 + 9, none⟩ = some (.int .u64 e.v.nxt)) (go_keep) (first | (go_at_call 32; refine (ballotLess_any e.v x.v _).mono ?_; rintro r' w3 ⟨rfl, hb3⟩; rw [hbl]; obtain ⟨t0, t1, t2, t3, t4, t5, t6, t7, t8, t9, t10, t11, t12, t13, t14, t15⟩ := HQ.out w3 hb3))
                all_goals
                  have hb4 : Below w.heap.size w w3 := hbx.trans (((Below.draws wx 1).trans hb3).mono hbx.size)
                  go_wp2
                  exact ⟨⟨q + 1, by omega, by rw [HSU.out, HOT.out]; simp, by go_num, hb4⟩, by simp [intOf]; omega⟩
              · have HOT : Hid (offTop s e x = true) := by show _ = _; simp [offTop, vless, hbl, HXS.out]
                go_wp2
                go_region_held3 (fun W => W.cell? ⟨b, off + q * 10 + 2, none⟩ = some (.int .u64 x.v.slot) ∧ W.cell? ⟨b, off + q * 10 + 3, none⟩ = some (.int .u64 x.v.round) ∧ W.cell? ⟨b, off + q * 10 + 4, none⟩ = some (.string x.v.leader) ∧ W.cell? ⟨b, off + q * 10 + 5, none⟩ = some (.string x.v.origin) ∧ W.cell? ⟨b, off + q * 10 + 6, none⟩ = some (.int .u64 x.v.inc) ∧ W.cell? ⟨b, off + q * 10 + 7, none⟩ = some (.int .u64 x.v.seq) ∧ W.cell? ⟨b, off + q * 10 + 8, none⟩ = some (.slice x.v.ta x.v.tl x.v.tc) ∧ W.cell? ⟨b, off + q * 10 + 9, none⟩ = some (.int .u64 x.v.nxt) ∧ W.cell? ⟨b, off + k * 10 + 2, none⟩ = some (.int .u64 e.v.slot) ∧ W.cell? ⟨b, off + k * 10 + 3, none⟩ = some (.int .u64 e.v.round) ∧ W.cell? ⟨b, off + k * 10 + 4, none⟩ = some (.string e.v.leader) ∧ W.cell? ⟨b, off + k * 10 + 5, none⟩ = some (.string e.v.origin) ∧ W.cell? ⟨b, off + k * 10 + 6, none⟩ = some (.int .u64 e.v.inc) ∧ W.cell? ⟨b, off + k * 10 + 7, none⟩ = some (.int .u64 e.v.seq) ∧ W.cell? ⟨b, off + k * 10 + 8, none⟩ = some (.slice e.v.ta e.v.tl e.v.tc) ∧ W.cell? ⟨b, off + k * 10 + 9, none⟩ = some (.int .u64 e.v.nxt)) (go_keep) (first | (go_at_call 32; refine (ballotLess_any e.v x.v _).mono ?_; rintro r' w3 ⟨rfl, hb3⟩; rw [hbl]; obtain ⟨t0, t1, t2, t3, t4, t5, t6, t7, t8, t9, t10, t11, t12, t13, t14, t15⟩ := HQ.out w3 hb3))
                all_goals
                  have hb4 : Below w.heap.size w w3 := hbx.trans (((Below.draws wx 1).trans hb3).mono hbx.size)
                  go_wp2
                  exact ⟨⟨q + 1, by omega, by rw [HSU.out, HOT.out]; simp, by go_num, hb4⟩, by simp [intOf]; omega⟩
            · have hxb : (x.v.slot == s) = false := by simpa using hxs
              have HOT : Hid (offTop s e x = false) := by show _ = _; simp [offTop, hxs]
              clear hxs
              go_wp2
              go_quiet (fail)
              go_wp2
              exact ⟨⟨q + 1, by omega, by rw [HSU.out, HOT.out]; simp, by go_num, below_drewN hbx _⟩, by simp [intOf]; omega⟩
          · have hall : Hid (topTo E s e q = isTop E s e) := by
              show _ = _
              unfold topTo isTop
              rw [List.take_of_length_le (by have := HL.out; omega)]
            rw [hall.out]
            cases htp : isTop E s e
            · have HTP := hideP htp
              go_wp2
              refine ⟨⟨k + 1, by omega, by go_num, ?_, hbx⟩, by simp [intOf]; omega⟩
              intro i x hi hx hxs
              by_cases hik : i < k
              · exact HNo.out i x hik hx hxs
              · have : i = k := by omega
                subst this
                rw [HE.out] at hx
                rw [← Option.some.inj hx]
                exact HTP.out
            · have HB := hideP (first_top HS.out HE.out HES.out htp HNo.out)
              go_wp2
              go_ret
              exact ⟨⟨k, e, rfl, HE.out, HB.out⟩, hbx⟩
      · have hesb : (e.v.slot != s) = true := by simpa using hes
        have HES := hideP hes
        clear hes
        go_wp2
        refine ⟨⟨k + 1, by omega, by go_num, ?_, hbr⟩, by simp [intOf]; omega⟩
        intro i x hi hx hxs
        by_cases hik : i < k
        · exact HNo.out i x hik hx hxs
        · have : i = k := by omega
          subst this
          rw [HE.out] at hx
          rw [← Option.some.inj hx] at hxs
          exact absurd hxs HES.out
    · exact (some_top HS.out fun i x hi => HNo.out i x (by have := HL.out; omega)).elim
end Go.Proofs.Qxb6612240a
