import Derived.Test.Qxb6612240aTally
namespace Go.Proofs.Qxb6612240a
open Go.RowKit Go.MapKept
open Go.ChangeMaps (setBlock)

theorem take_eq_step {l l' : List Int} {k : Nat} {x : Int} (h : l.take k = l'.take k) (h1 : l[k]? = some x) (h2 : l'[k]? = some x) : l.take (k + 1) = l'.take (k + 1) := by
  rw [take_get h1, take_get h2, h]
theorem drew_more (w : World) (d n : Nat) : ∃ e, (w.drewN d).drewN n = w.drewN e := ⟨d + n, by simp [World.drewN, Nat.add_assoc]⟩
/-- Two votes are the same, field by field. -/
def sameV (a b : Vt) : Bool := ((((((a.slot == b.slot && a.round == b.round) && a.leader.toList == b.leader.toList) && a.origin.toList == b.origin.toList) && a.inc == b.inc) && a.seq == b.seq) && a.nxt == b.nxt) && decide (a.tx = b.tx)
theorem sameV_self (a : Vt) : sameV a a = true := by simp [sameV]

set_option maxRecDepth 100000 in
theorem sameBytes_any (u v : Vt) (w : World) (hu : VtOk w u) (hv : VtOk w v) :
    Calls Try.prog 11 #[.slice u.ta u.tl u.tc, .slice v.ta v.tl v.tc] w fun r w' => r = .returned (.bool (decide (u.tx = v.tx))) ∧ ∃ d, w' = w.drewN d := by
  obtain ⟨r1, l1, m1⟩ := hu
  obtain ⟨r2, l2, m2⟩ := hv
  obtain ⟨slu, rou, leu, oru, inu, squ, ta, tl, tc, nxu, tx⟩ := u
  obtain ⟨slv, rov, lev, orv, inv, sqv, ua, ul, uc, nxv, ux⟩ := v
  simp only at r1 l1 m1 r2 l2 m2 ⊢
  have M1 : tl ≤ 9223372036854775807 := m1
  clear m1 m2
  have L1 := hideP l1
  have L2 := hideP l2
  clear l1 l2
  by_cases hle : tl = ul
  · subst hle
    go_enter Try.func11, Try.ntmps11
    go_wp2
    go_loopw [5] (fun i wr => ∃ k : Nat, k ≤ tl ∧ i = .int .i64 k ∧ Hid (tx.take k = ux.take k) ∧ ∃ d, wr = w.drewN d) (fun i _ => tl - (intOf i).toNat)
    case atStart => exact ⟨0, Nat.zero_le _, rfl, by show _ = _; simp, 0, rfl⟩
    case round =>
      obtain ⟨k, hk, rfl, HT, d, rfl⟩ := hrel
      by_cases hlt : k < tl
      · obtain ⟨x, hx⟩ := get_of_lt L1.out hlt
        obtain ⟨y, hy⟩ := get_of_lt L2.out hlt
        obtain ⟨b1, o1, rfl, c1⟩ := r1 k x hx
        obtain ⟨b2, o2, rfl, c2⟩ := r2 k y hy
        have d1 : w.cell? ⟨b1, o1 + k, none⟩ = some (.int .u8 x) := by simpa using c1 0 _ rfl
        have d2 : w.cell? ⟨b2, o2 + k, none⟩ = some (.int .u8 y) := by simpa using c2 0 _ rfl
        have HX := hide_get hx
        have HY := hide_get hy
        clear c1 c2 hx hy
        by_cases hxy : x = y
        · subst hxy
          go_wp2
          go_quiet (fail)
          go_wp2
          exact ⟨⟨k + 1, by omega, by go_num, take_eq_step HT.out HX.out HY.out, _, rfl⟩, by simp [intOf]; omega⟩
        · have hxb : (x != y) = true := by simpa using hxy
          have HN : Hid (decide (tx = ux) = false) := by
            show _ = _
            rw [decide_eq_false_iff_not]
            intro e
            rw [e, HY.out] at HX
            exact hxy (Option.some.inj HX.out).symm
          clear hxy
          go_wp2
          go_quiet (fail)
          go_wp2
          go_ret
          rw [HN.out]
          exact ⟨rfl, drew_more _ _ _⟩
      · have e1 : tx.take k = tx := List.take_of_length_le (by have := L1.out; omega)
        have e2 : ux.take k = ux := List.take_of_length_le (by have := L2.out; omega)
        rw [e1, e2] at HT
        have HD : Hid (decide (tx = ux) = true) := by show _ = _; simpa using HT.out
        clear HT e1 e2
        go_wp2
        go_ret
        rw [HD.out]
        exact ⟨rfl, _, rfl⟩
  · have HD : Hid (decide (tx = ux) = false) := by
      show _ = _
      rw [decide_eq_false_iff_not]
      intro e
      exact hle (by rw [← L1.out, ← L2.out, e])
    go_enter Try.func11, Try.ntmps11
    go_wp2
    go_ret
    rw [HD.out]
    exact ⟨rfl, 0, rfl⟩

theorem ballotLess_any (a b : Vt) (w : World) :
    Calls Try.prog 32 #[.agg #[.int .u64 a.slot, .int .u64 a.round, .string a.leader, .string a.origin, .int .u64 a.inc, .int .u64 a.seq, .slice a.ta a.tl a.tc, .int .u64 a.nxt], .agg #[.int .u64 b.slot, .int .u64 b.round, .string b.leader, .string b.origin, .int .u64 b.inc, .int .u64 b.seq, .slice b.ta b.tl b.tc, .int .u64 b.nxt]] w fun r w' => r = .returned (.bool (bless a.round a.leader b.round b.leader)) ∧ Below w.heap.size w w' := by
  by_cases h : a.round = b.round
  · have e : Hid (bless a.round a.leader b.round b.leader = Op.bytesLess a.leader.toList b.leader.toList) := by show _ = _; simp [bless, h]
    have h' : (a.round != b.round) = false := by simpa using h
    clear h
    go_enter Try.func32, Try.ntmps32
    go_wp2
    go_ret
    rw [e.out]
    exact ⟨rfl, below_alloc2 _ _ _⟩
  · have e : Hid (bless a.round a.leader b.round b.leader = decide (a.round < b.round)) := by show _ = _; simp [bless, h]
    have h' : (a.round != b.round) = true := by simpa using h
    clear h
    go_enter Try.func32, Try.ntmps32
    go_wp2
    go_ret
    rw [e.out]
    exact ⟨rfl, below_alloc2 _ _ _⟩

set_option maxRecDepth 100000 in
set_option maxHeartbeats 4000000 in
theorem viewIs_any (a b : Vt) (m : Bool) (w : World) (ha : VtOk w a) (hb : VtOk w b) :
    Calls Try.prog 22 #[.agg #[.bool true, .int .u64 a.slot, .int .u64 a.round, .string a.leader, .string a.origin, .int .u64 a.inc, .int .u64 a.seq, .slice a.ta a.tl a.tc, .int .u64 a.nxt, .bool m], .agg #[.int .u64 b.slot, .int .u64 b.round, .string b.leader, .string b.origin, .int .u64 b.inc, .int .u64 b.seq, .slice b.ta b.tl b.tc, .int .u64 b.nxt]] w fun r w' => r = .returned (.bool (sameV a b)) ∧ Below w.heap.size w w' := by
  have HA := hideP ha
  have HB := hideP hb
  clear ha hb
  go_enter Try.func22, Try.ntmps22
  go_wp2_with fail
  all_goals first
    | (refine (sameBytes_any a b _ (HA.out.ext (below_alloc2 _ _ _)) (HB.out.ext (below_alloc2 _ _ _))).mono ?_
       rintro r' w' ⟨rfl, d, rfl⟩
       go_wp2
       go_ret
       refine ⟨?_, below_drewN (below_alloc2 _ _ _) d⟩
       simp [sameV, *])
    | (go_ret
       refine ⟨?_, below_alloc2 _ _ _⟩
       simp [sameV, *])
    | go_show

set_option maxRecDepth 100000 in
set_option maxHeartbeats 4000000 in
theorem sameView_any (a b : Vt) (m m' : Bool) (w : World) (ha : VtOk w a) (hb : VtOk w b) :
    Calls Try.prog 26 #[.agg #[.bool true, .int .u64 a.slot, .int .u64 a.round, .string a.leader, .string a.origin, .int .u64 a.inc, .int .u64 a.seq, .slice a.ta a.tl a.tc, .int .u64 a.nxt, .bool m], .agg #[.bool true, .int .u64 b.slot, .int .u64 b.round, .string b.leader, .string b.origin, .int .u64 b.inc, .int .u64 b.seq, .slice b.ta b.tl b.tc, .int .u64 b.nxt, .bool m']] w fun r w' => r = .returned (.bool (sameV a b)) ∧ Below w.heap.size w w' := by
  have HA := hideP ha
  have HB := hideP hb
  clear ha hb
  go_enter Try.func26, Try.ntmps26
  go_wp2_with fail
  all_goals first
    | (refine (sameBytes_any a b _ (HA.out.ext (below_alloc2 _ _ _)) (HB.out.ext (below_alloc2 _ _ _))).mono ?_
       rintro r' w' ⟨rfl, d, rfl⟩
       go_wp2
       go_ret
       refine ⟨?_, below_drewN (below_alloc2 _ _ _) d⟩
       simp [sameV, *])
    | (go_ret
       refine ⟨?_, below_alloc2 _ _ _⟩
       simp [sameV, *])
    | go_show
end Go.Proofs.Qxb6612240a
