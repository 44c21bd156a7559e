import Derived.Test.Qxb6612240aReads2
namespace Go.Proofs.Qxb6612240a
open Go.RowKit Go.MapKept
open Go.ChangeMaps (setBlock)

/-- Is one of the votes at the slot, among the first k, the view's? -/
def repF (es : List Ent) (s : Int) (a : Vt) (k : Nat) : Bool := (es.take k).any fun e => decide (e.v.slot = s) && sameV a e.v
theorem ent_get {w : World} {b off : Nat} {es : List Ent} (h : RowAt w (some ⟨b, off, none⟩) 10 Ent.cells es) {k : Nat} {e : Ent} (he : es[k]? = some e) :
    w.cell? ⟨b, off + k * 10 + 2, none⟩ = some (.int .u64 e.v.slot) ∧ w.cell? ⟨b, off + k * 10 + 3, none⟩ = some (.int .u64 e.v.round) ∧ w.cell? ⟨b, off + k * 10 + 4, none⟩ = some (.string e.v.leader) ∧ w.cell? ⟨b, off + k * 10 + 5, none⟩ = some (.string e.v.origin) ∧
    w.cell? ⟨b, off + k * 10 + 6, none⟩ = some (.int .u64 e.v.inc) ∧ w.cell? ⟨b, off + k * 10 + 7, none⟩ = some (.int .u64 e.v.seq) ∧ w.cell? ⟨b, off + k * 10 + 8, none⟩ = some (.slice e.v.ta e.v.tl e.v.tc) ∧ w.cell? ⟨b, off + k * 10 + 9, none⟩ = some (.int .u64 e.v.nxt) := by
  have hc := h.at he
  exact ⟨hc 2 _ rfl, hc 3 _ rfl, hc 4 _ rfl, hc 5 _ rfl, hc 6 _ rfl, hc 7 _ rfl, hc 8 _ rfl, hc 9 _ rfl⟩
theorem repF_succ {es : List Ent} {s : Int} {a : Vt} {k : Nat} {e : Ent} (h : es[k]? = some e) : repF es s a (k + 1) = (repF es s a k || (decide (e.v.slot = s) && sameV a e.v)) := by
  simp [repF, take_get h, List.any_append]
theorem VtOk.drewN {w : World} {v : Vt} (h : VtOk w v) (d : Nat) : VtOk (w.drewN d) v := ⟨h.row, h.len, h.max⟩

set_option maxRecDepth 100000 in
set_option maxHeartbeats 4000000 in
theorem reports_any (ea : Option Addr) (n ec : Nat) (es : List Ent) (s : Int) (a : Vt) (m : Bool) (w : World) (h : RowAt w ea 10 Ent.cells es) (hl : es.length = n) (hn : n ≤ 1048576) (hok : ∀ e ∈ es, VtOk w e.v) (ha : VtOk w a)
    (hin : ∃ e ∈ es, e.v = a ∧ a.slot = s) (htop : ∀ e ∈ es, e.v.slot = s → bless a.round a.leader e.v.round e.v.leader = false) :
    Calls Try.prog 25 #[.slice ea n ec, .int .u64 s, .agg #[.bool true, .int .u64 a.slot, .int .u64 a.round, .string a.leader, .string a.origin, .int .u64 a.inc, .int .u64 a.seq, .slice a.ta a.tl a.tc, .int .u64 a.nxt, .bool m]] w fun r w' => r = .returned (.bool true) ∧ Below w.heap.size w w' := by
  have HL := hideP hl
  have HOK := hideP hok
  have HA := hideP ha
  have HIN := hideP hin
  have HTOP := hideP htop
  have HR := hideP h
  clear hl hok ha hin htop
  go_enter Try.func25, Try.ntmps25
  go_wp2
  have hw2 : ∃ w2, w2 = (w.alloc (.cells #[.bool true, .int .u64 a.slot, .int .u64 a.round, .string a.leader, .string a.origin, .int .u64 a.inc, .int .u64 a.seq, .slice a.ta a.tl a.tc, .int .u64 a.nxt, .bool m] 55)).alloc (.cells #[.int .u64 0, .int .u64 a.round, .string a.leader, .string ⟨#[]⟩, .int .u64 0, .int .u64 0, .slice none 0 0, .int .u64 0] 50) := ⟨_, rfl⟩
  obtain ⟨w2, hw2⟩ := hw2
  rw [← hw2]
  have hbw2 : Below w.heap.size w w2 := hw2 ▸ below_alloc2 _ _ _
  have hc1 := fun j u hj => cell_ext (below_alloc1 (w.alloc (.cells #[.bool true, .int .u64 a.slot, .int .u64 a.round, .string a.leader, .string a.origin, .int .u64 a.inc, .int .u64 a.seq, .slice a.ta a.tl a.tc, .int .u64 a.nxt, .bool m] 55)) (.cells #[.int .u64 0, .int .u64 a.round, .string a.leader, .string ⟨#[]⟩, .int .u64 0, .int .u64 0, .slice none 0 0, .int .u64 0] 50)) (new_cells' w [.bool true, .int .u64 a.slot, .int .u64 a.round, .string a.leader, .string a.origin, .int .u64 a.inc, .int .u64 a.seq, .slice a.ta a.tl a.tc, .int .u64 a.nxt, .bool m] 55 j u hj)
  have hc2 := new_cells' (w.alloc (.cells #[.bool true, .int .u64 a.slot, .int .u64 a.round, .string a.leader, .string a.origin, .int .u64 a.inc, .int .u64 a.seq, .slice a.ta a.tl a.tc, .int .u64 a.nxt, .bool m] 55)) [.int .u64 0, .int .u64 a.round, .string a.leader, .string ⟨#[]⟩, .int .u64 0, .int .u64 0, .slice none 0 0, .int .u64 0] 50
  rw [World.size_alloc] at hc2
  have HC1 : Hid (∀ j u, [Value.bool true, .int .u64 a.slot, .int .u64 a.round, .string a.leader, .string a.origin, .int .u64 a.inc, .int .u64 a.seq, .slice a.ta a.tl a.tc, .int .u64 a.nxt, .bool m][j]? = some u → w2.cell? ⟨w.heap.size, j, none⟩ = some u) := by rw [hw2]; exact hc1
  have HC2 : Hid (∀ j u, [Value.int .u64 0, .int .u64 a.round, .string a.leader, .string ⟨#[]⟩, .int .u64 0, .int .u64 0, .slice none 0 0, .int .u64 0][j]? = some u → w2.cell? ⟨w.heap.size + 1, j, none⟩ = some u) := by rw [hw2]; exact hc2
  clear hc1 hc2 hw2
  go_loopw [7, 9] (fun f i wr => ∃ k : Nat, k ≤ n ∧ f = .bool (repF es s a k) ∧ i = .int .i64 k ∧ Below w2.heap.size w2 wr) (fun _ i _ => n - (intOf i).toNat)
  case atStart => exact ⟨0, Nat.zero_le _, by simp [repF], rfl, Below.refl _ _⟩
  case round =>
    rename World => wr
    obtain ⟨k, hk, rfl, rfl, hbr⟩ := hrel
    by_cases hlt : k < n
    · obtain ⟨e, he⟩ := get_of_lt HL.out hlt
      obtain ⟨b, off, rfl, _⟩ := HR.out k e he
      have hbwr : Below w.heap.size w wr := hbw2.trans (hbr.mono hbw2.size)
      have HE := hide_get he
      have hem := List.mem_of_getElem? he
      clear he
      obtain ⟨f0, f1, f2, f3, f4, f5, f6, f7⟩ := ent_get (HR.out.ext hbwr) HE.out
      by_cases hs : e.v.slot = s
      · have hsb : (e.v.slot != s) = false := by simpa using hs
        have v0 := cell_ext hbr (HC1.out 0 _ rfl)
        have v1 := cell_ext hbr (HC1.out 1 _ rfl)
        have v2 := cell_ext hbr (HC1.out 2 _ rfl)
        have v3 := cell_ext hbr (HC1.out 3 _ rfl)
        have v4 := cell_ext hbr (HC1.out 4 _ rfl)
        have v5 := cell_ext hbr (HC1.out 5 _ rfl)
        have v6 := cell_ext hbr (HC1.out 6 _ rfl)
        have v7 := cell_ext hbr (HC1.out 7 _ rfl)
        have v8 := cell_ext hbr (HC1.out 8 _ rfl)
        have v9 := cell_ext hbr (HC1.out 9 _ rfl)
        have HAW := hideP (HA.out.ext hbwr)
        have HEW := hideP ((HOK.out e hem).ext hbwr)
        have HT := hideP (HTOP.out e hem hs)
        have HSE := hideP hs
        have HSU := hideP (repF_succ (s := s) (a := a) HE.out)
        have HAD : Hid (VtOk wr.drew a) := HAW.out.drewN 1
        have HED : Hid (VtOk wr.drew e.v) := HEW.out.drewN 1
        clear hs
        go_wp2
        go_region_with (go_at_call 22; refine (viewIs_any a e.v m wr.drew HAD.out HED.out).mono ?_; rintro r' w3 ⟨rfl, hb3⟩)
        all_goals
          have hbr3 : Below wr.heap.size wr w3 := (Below.draws wr 1).trans hb3
          have hb23 : Below w2.heap.size w2 w3 := hbr.trans (hbr3.mono hbr.size)
          have g0 := cell_ext hbr3 f0
          have g1 := cell_ext hbr3 f1
          have g2 := cell_ext hbr3 f2
          have g3 := cell_ext hbr3 f3
          have g4 := cell_ext hbr3 f4
          have g5 := cell_ext hbr3 f5
          have g6 := cell_ext hbr3 f6
          have g7 := cell_ext hbr3 f7
          clear f0 f1 f2 f3 f4 f5 f6 f7 v0 v1 v2 v3 v4 v5 v6 v7 v8 v9 hb3
          have t0 := cell_ext hb23 (HC2.out 0 _ rfl)
          have t1 := cell_ext hb23 (HC2.out 1 _ rfl)
          have t2 := cell_ext hb23 (HC2.out 2 _ rfl)
          have t3 := cell_ext hb23 (HC2.out 3 _ rfl)
          have t4 := cell_ext hb23 (HC2.out 4 _ rfl)
          have t5 := cell_ext hb23 (HC2.out 5 _ rfl)
          have t6 := cell_ext hb23 (HC2.out 6 _ rfl)
          have t7 := cell_ext hb23 (HC2.out 7 _ rfl)
          cases hsv : sameV a e.v
        all_goals go_wp2
        all_goals go_region_with (go_at_call 32; refine (ballotLess_any { slot := 0, round := a.round, leader := a.leader, origin := ⟨#[]⟩, inc := 0, seq := 0, ta := none, tl := 0, tc := 0, nxt := 0, tx := [] } e.v _).mono ?_; rintro r' w4 ⟨rfl, hb4⟩; rw [HT.out])
        all_goals
          have hb34 : Below w3.heap.size w3 w4 := (Below.draws w3 1).trans hb4
          have hb24 : Below w2.heap.size w2 w4 := hb23.trans (hb34.mono hb23.size)
          go_wp2
          refine ⟨⟨k + 1, by omega, ?_, by go_num, hb24⟩, by simp [intOf]; omega⟩
          rw [HSU.out, hsv]
          simp [HSE.out]
      · have hsb : (e.v.slot != s) = true := by simpa using hs
        have HSU := hideP (repF_succ (s := s) (a := a) HE.out)
        have HSE := hideP hs
        clear hs
        go_wp2
        refine ⟨⟨k + 1, by omega, ?_, by go_num, hbr⟩, by simp [intOf]; omega⟩
        rw [HSU.out]
        simp [HSE.out]
    · have hR : Hid (repF es s a k = true) := by
        show _ = _
        obtain ⟨e, he, rfl, hs⟩ := HIN.out
        unfold repF
        rw [List.take_of_length_le (by have := HL.out; omega), List.any_eq_true]
        exact ⟨e, he, by simp [hs, sameV_self]⟩
      go_wp2
      go_ret
      rw [hR.out]
      exact ⟨rfl, hbw2.trans (hbr.mono hbw2.size)⟩
end Go.Proofs.Qxb6612240a
