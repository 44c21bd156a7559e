import Derived.Test.Qxb6609441aFoot
namespace Go.Proofs.Qxb6609441a
open Go.RowKit

/-- the block b holds a packet -/
structure Pack (w : World) (b : Nat) (tag v : Int) (a4 a5 : Option Addr) (l4 l5 k4 k5 : Nat) : Prop where
  c0 : w.cell? ⟨b, 0, none⟩ = some (.int .u8 tag)
  c1 : w.cell? ⟨b, 1, none⟩ = some (.slice a4 l4 k4)
  c2 : w.cell? ⟨b, 2, none⟩ = some (.slice a5 l5 k5)
  c3 : w.cell? ⟨b, 3, none⟩ = some (.int .u8 v)
theorem Pack.below {w w' : World} {b B : Nat} {tag v : Int} {a4 a5 : Option Addr} {l4 l5 k4 k5 : Nat} (h : Pack w b tag v a4 a5 l4 l5 k4 k5) (k : Below B w w') (hb : b < B) : Pack w' b tag v a4 a5 l4 l5 k4 k5 :=
  ⟨(k.cell (p := ⟨b, 0, none⟩) hb).trans h.c0, (k.cell (p := ⟨b, 1, none⟩) hb).trans h.c1, (k.cell (p := ⟨b, 2, none⟩) hb).trans h.c2, (k.cell (p := ⟨b, 3, none⟩) hb).trans h.c3⟩
theorem Foot.mk_new (w : World) (p n u : Int) : Foot (w.alloc (.cells #[.int .i64 p, .int .i64 n, .int .i64 u] 42)) w.heap.size p n u := by
  refine ⟨?_, ?_, ?_, fun o => ?_, ?_⟩ <;> go_simp

theorem zzb_no (x0 x1 x2 x3 x6 : Int) (a4 a5 : Option Addr) (l4 l5 k4 k5 : Nat) (w : World) (h4 : l4 ≤ maxLen) (h5 : l5 ≤ maxLen) (h : 1048576 < (l4 : Int) + l5) :
    Calls Try.prog 6 #[.int .i64 x0, .int .i64 x1, .int .i64 x2, .int .u8 x3, .slice a4 l4 k4, .slice a5 l5 k5, .int .u8 x6] w fun r w' => r = .returned (.bool false) ∧ w = w' := by
  unfold maxLen at h4 h5
  by_cases g1 : 1048576 < (l4 : Int)
  · go_enter Try.func6, Try.ntmps6
    go_wp2
    go_ret
    exact ⟨rfl, rfl⟩
  by_cases g2 : 1048576 < (l5 : Int)
  · go_enter Try.func6, Try.ntmps6
    go_wp2
    go_ret
    exact ⟨rfl, rfl⟩
  · go_enter Try.func6, Try.ntmps6
    go_wp2
    go_ret
    exact ⟨rfl, rfl⟩
theorem zzb_yes (x0 x1 x2 x3 x6 : Int) (a4 a5 : Option Addr) (l4 l5 k4 k5 : Nat) (w : World) (h : (l4 : Int) + l5 ≤ 1048576) :
    Calls Try.prog 6 #[.int .i64 x0, .int .i64 x1, .int .i64 x2, .int .u8 x3, .slice a4 l4 k4, .slice a5 l5 k5, .int .u8 x6] w fun r w' => r = .returned (.bool true) ∧ w = w' := by
  have g1 : ¬ 1048576 < (l4 : Int) := by omega
  have g2 : ¬ 1048576 < (l5 : Int) := by omega
  go_enter Try.func6, Try.ntmps6
  go_wp2
  go_ret
  exact ⟨rfl, rfl⟩

theorem bk1 (p : Int) (h : -9223372036854775808 ≤ p ∧ p ≤ 9223372036854775807) (d : Int) : wrap64 (wrap64 (p + d) - d) = p := by unfold wrap64; omega
theorem bk2 (p : Int) (h : -9223372036854775808 ≤ p ∧ p ≤ 9223372036854775807) (d : Int) : wrap64 (wrap64 (p - d) + d) = p := by unfold wrap64; omega
theorem wrap_bd (p : Int) : -9223372036854775808 ≤ wrap64 p ∧ wrap64 p ≤ 9223372036854775807 := by unfold wrap64; omega
theorem bk1U (t p : Int) (h : -9223372036854775808 ≤ p ∧ p ≤ 9223372036854775807) (d : Int) : subU t (addU t p d) d = p := by unfold subU addU; split <;> simp [bk1 p h]
theorem bk2U (t p : Int) (h : -9223372036854775808 ≤ p ∧ p ≤ 9223372036854775807) (d : Int) : addU t (subU t p d) d = p := by unfold subU addU; split <;> simp [bk2 p h]
theorem subU_bd (t p : Int) (h : -9223372036854775808 ≤ p ∧ p ≤ 9223372036854775807) (d : Int) : -9223372036854775808 ≤ subU t p d ∧ subU t p d ≤ 9223372036854775807 := by unfold subU; split; exact wrap_bd _; exact h

set_option maxRecDepth 100000 in
theorem foot_no (x0 x1 x2 x3 x6 : Int) (a4 a5 : Option Addr) (l4 l5 k4 k5 : Nat) (w : World) (h4 : l4 ≤ maxLen) (h5 : l5 ≤ maxLen) (h : 1048576 < (l4 : Int) + l5) :
    Calls Try.prog 3 #[.int .i64 x0, .int .i64 x1, .int .i64 x2, .int .u8 x3, .slice a4 l4 k4, .slice a5 l5 k5, .int .u8 x6] w fun r w' => r = .returned (.bool true) ∧ Below w.heap.size w w' := by
  go_enter Try.func3, Try.ntmps3
  go_wp2_with fail
  refine (zzb_no _ _ _ _ _ _ _ _ _ _ _ _ h4 h5 h).mono ?_
  rintro r w' ⟨rfl, rfl⟩
  go_wp2
  go_ret
  exact ⟨rfl, Below.refl _ _⟩

theorem newFoot_abs (p n u : Int) (w : World) :
    Calls Try.prog 7 #[.int .i64 p, .int .i64 n, .int .i64 u] w fun r w' =>
      ∃ b, r = .returned (.pointer (some ⟨b, 0, none⟩)) ∧ w.heap.size ≤ b ∧ Foot w' b p n u ∧ Below w.heap.size w w' := by
  refine (newFoot_any p n u w).mono ?_
  rintro r w' ⟨rfl, rfl⟩
  exact ⟨_, rfl, Nat.le_refl _, Foot.mk_new w p n u, (Below.refl _ _).alloc (Nat.le_refl _) _⟩
theorem fields_abs (b : Nat) (p n u : Int) (w : World) (h : Foot w b p n u) :
    Calls Try.prog 10 #[.pointer (some ⟨b, 0, none⟩)] w fun r w' => r = .returned (.tuple #[.int .i64 p, .int .i64 n, .int .i64 u]) ∧ Below w.heap.size w w' := by
  refine (fields_any b p n u w h).mono ?_
  rintro r w' ⟨rfl, k, rfl⟩
  exact ⟨rfl, below_drewN (Below.refl _ _) k⟩

set_option maxHeartbeats 2000000 in
set_option maxRecDepth 100000 in
theorem foot_yes (x0 x1 x2 x3 x6 : Int) (a4 a5 : Option Addr) (l4 l5 k4 k5 : Nat) (w : World) (h : (l4 : Int) + l5 ≤ 1048576)
    (b0 : -9223372036854775808 ≤ x0 ∧ x0 ≤ 9223372036854775807) (b1 : -9223372036854775808 ≤ x1 ∧ x1 ≤ 9223372036854775807) (b2 : -9223372036854775808 ≤ x2 ∧ x2 ≤ 9223372036854775807) :
    Calls Try.prog 3 #[.int .i64 x0, .int .i64 x1, .int .i64 x2, .int .u8 x3, .slice a4 l4 k4, .slice a5 l5 k5, .int .u8 x6] w fun r w' => r = .returned (.bool true) ∧ Below w.heap.size w w' := by
  have B0 : Hid (-9223372036854775808 ≤ x0 ∧ x0 ≤ 9223372036854775807) := b0
  have B1 : Hid (-9223372036854775808 ≤ x1 ∧ x1 ≤ 9223372036854775807) := b1
  have B2 : Hid (-9223372036854775808 ≤ x2 ∧ x2 ≤ 9223372036854775807) := b2
  clear b0 b1 b2
  have g1 : ¬ 1048576 < (l4 : Int) := by omega
  have g2 : ¬ 1048576 < (l5 : Int) := by omega
  have S0 : Hid (w.heap.size + 1 = (w.alloc (.cells #[.int .u8 x3, .slice a4 l4 k4, .slice a5 l5 k5, .int .u8 x6] 26)).heap.size) := by show _ = _; simp
  have J0 : Hid (Below (w.heap.size + 1) (w.alloc (.cells #[.int .u8 x3, .slice a4 l4 k4, .slice a5 l5 k5, .int .u8 x6] 26)) (w.alloc (.cells #[.int .u8 x3, .slice a4 l4 k4, .slice a5 l5 k5, .int .u8 x6] 26))) := Below.refl _ _
  have P0 : Pack (w.alloc (.cells #[.int .u8 x3, .slice a4 l4 k4, .slice a5 l5 k5, .int .u8 x6] 26)) w.heap.size x3 x6 a4 a5 l4 l5 k4 k5 := by refine ⟨?_, ?_, ?_, ?_⟩ <;> go_simp
  go_enter Try.func3, Try.ntmps3
  go_wp2_with fail
  refine (zzb_yes _ _ _ _ _ _ _ _ _ _ _ _ h).mono ?_
  rintro r w' ⟨rfl, rfl⟩
  go_wp2_with fail
  refine (newFoot_abs _ _ _ _).mono ?_
  rintro r v1 ⟨bf, rfl, hb, Ff, hB⟩
  have Lbf : w.heap.size + 1 ≤ bf := Nat.le_trans (Nat.le_trans (Nat.le_of_eq S0.out) J0.out.size) hb
  clear hb
  have J1 : Hid (Below (w.heap.size + 1) (w.alloc (.cells #[.int .u8 x3, .slice a4 l4 k4, .slice a5 l5 k5, .int .u8 x6] 26)) v1) := J0.out.trans (hB.mono (Nat.le_trans (Nat.le_of_eq S0.out) J0.out.size))
  clear hB
  obtain ⟨q0, q1, q2, q3⟩ := P0.below J1.out (Nat.lt_succ_self _)
  go_wp2_with fail
  refine (add_any bf _ _ _ x3 x6 a4 a5 l4 l5 k4 k5 _ Ff).mono ?_
  rintro r v2 ⟨rfl, Ffn, hB⟩
  clear Ff
  have J2 : Hid (Below (w.heap.size + 1) (w.alloc (.cells #[.int .u8 x3, .slice a4 l4 k4, .slice a5 l5 k5, .int .u8 x6] 26)) v2) := J1.out.trans (hB.mono Lbf)
  clear hB
  clear q0 q1 q2 q3
  obtain ⟨q0, q1, q2, q3⟩ := P0.below J2.out (Nat.lt_succ_self _)
  have Ff := Ffn
  clear Ffn
  go_wp2_with fail
  refine (rem_any bf _ _ _ x3 x6 a4 a5 l4 l5 k4 k5 _ Ff).mono ?_
  rintro r v3 ⟨rfl, Ffn, hB⟩
  rw [bk1 x0 B0.out, bk1 x1 B1.out, bk1U x3 x2 B2.out] at Ffn
  clear Ff
  have J3 : Hid (Below (w.heap.size + 1) (w.alloc (.cells #[.int .u8 x3, .slice a4 l4 k4, .slice a5 l5 k5, .int .u8 x6] 26)) v3) := J2.out.trans (hB.mono Lbf)
  clear hB
  clear q0 q1 q2 q3
  obtain ⟨q0, q1, q2, q3⟩ := P0.below J3.out (Nat.lt_succ_self _)
  have Ff := Ffn
  clear Ffn
  go_wp2_with fail
  refine (fields_abs bf _ _ _ _ Ff).mono ?_
  rintro r v4 ⟨rfl, hB⟩
  have J4 : Hid (Below (w.heap.size + 1) (w.alloc (.cells #[.int .u8 x3, .slice a4 l4 k4, .slice a5 l5 k5, .int .u8 x6] 26)) v4) := J3.out.trans (hB.mono (Nat.le_trans (Nat.le_of_eq S0.out) J3.out.size))
  clear hB
  clear q0 q1 q2 q3
  obtain ⟨q0, q1, q2, q3⟩ := P0.below J4.out (Nat.lt_succ_self _)
  go_wp2_with fail
  refine (newFoot_abs _ _ _ _).mono ?_
  rintro r v5 ⟨bg, rfl, hb, Fg, hB⟩
  have Lbg : w.heap.size + 1 ≤ bg := Nat.le_trans (Nat.le_trans (Nat.le_of_eq S0.out) J4.out.size) hb
  clear hb
  have J5 : Hid (Below (w.heap.size + 1) (w.alloc (.cells #[.int .u8 x3, .slice a4 l4 k4, .slice a5 l5 k5, .int .u8 x6] 26)) v5) := J4.out.trans (hB.mono (Nat.le_trans (Nat.le_of_eq S0.out) J4.out.size))
  clear hB
  clear q0 q1 q2 q3
  obtain ⟨q0, q1, q2, q3⟩ := P0.below J5.out (Nat.lt_succ_self _)
  go_wp2_with fail
  refine (rem_any bg _ _ _ x3 x6 a4 a5 l4 l5 k4 k5 _ Fg).mono ?_
  rintro r v6 ⟨rfl, Fgn, hB⟩
  clear Fg
  have J6 : Hid (Below (w.heap.size + 1) (w.alloc (.cells #[.int .u8 x3, .slice a4 l4 k4, .slice a5 l5 k5, .int .u8 x6] 26)) v6) := J5.out.trans (hB.mono Lbg)
  clear hB
  clear q0 q1 q2 q3
  obtain ⟨q0, q1, q2, q3⟩ := P0.below J6.out (Nat.lt_succ_self _)
  have Fg := Fgn
  clear Fgn
  go_wp2_with fail
  refine (add_any bg _ _ _ x3 x6 a4 a5 l4 l5 k4 k5 _ Fg).mono ?_
  rintro r v7 ⟨rfl, Fgn, hB⟩
  rw [bk2 x0 B0.out, bk2 x1 B1.out, bk2U x3 x2 B2.out] at Fgn
  clear Fg
  have J7 : Hid (Below (w.heap.size + 1) (w.alloc (.cells #[.int .u8 x3, .slice a4 l4 k4, .slice a5 l5 k5, .int .u8 x6] 26)) v7) := J6.out.trans (hB.mono Lbg)
  clear hB
  clear q0 q1 q2 q3
  obtain ⟨q0, q1, q2, q3⟩ := P0.below J7.out (Nat.lt_succ_self _)
  have Fg := Fgn
  clear Fgn
  go_wp2_with fail
  refine (fields_abs bg _ _ _ _ Fg).mono ?_
  rintro r v8 ⟨rfl, hB⟩
  have J8 : Hid (Below (w.heap.size + 1) (w.alloc (.cells #[.int .u8 x3, .slice a4 l4 k4, .slice a5 l5 k5, .int .u8 x6] 26)) v8) := J7.out.trans (hB.mono (Nat.le_trans (Nat.le_of_eq S0.out) J7.out.size))
  clear hB
  clear q0 q1 q2 q3
  obtain ⟨q0, q1, q2, q3⟩ := P0.below J8.out (Nat.lt_succ_self _)
  go_wp2_with fail
  refine (newFoot_abs _ _ _ _).mono ?_
  rintro r v9 ⟨bh, rfl, hb, Fh, hB⟩
  have Lbh : w.heap.size + 1 ≤ bh := Nat.le_trans (Nat.le_trans (Nat.le_of_eq S0.out) J8.out.size) hb
  clear hb
  have J9 : Hid (Below (w.heap.size + 1) (w.alloc (.cells #[.int .u8 x3, .slice a4 l4 k4, .slice a5 l5 k5, .int .u8 x6] 26)) v9) := J8.out.trans (hB.mono (Nat.le_trans (Nat.le_of_eq S0.out) J8.out.size))
  clear hB
  clear q0 q1 q2 q3
  obtain ⟨q0, q1, q2, q3⟩ := P0.below J9.out (Nat.lt_succ_self _)
  go_wp2_with fail
  refine (rem_any bh _ _ _ x3 x6 a4 a5 l4 l5 k4 k5 _ Fh).mono ?_
  rintro r v10 ⟨rfl, Fhn, hB⟩
  clear Fh
  have J10 : Hid (Below (w.heap.size + 1) (w.alloc (.cells #[.int .u8 x3, .slice a4 l4 k4, .slice a5 l5 k5, .int .u8 x6] 26)) v10) := J9.out.trans (hB.mono Lbh)
  clear hB
  clear q0 q1 q2 q3
  obtain ⟨q0, q1, q2, q3⟩ := P0.below J10.out (Nat.lt_succ_self _)
  have Fh := Fhn
  clear Fhn
  go_wp2_with fail
  refine (fields_abs bh _ _ _ _ Fh).mono ?_
  rintro r v11 ⟨rfl, hB⟩
  have J11 : Hid (Below (w.heap.size + 1) (w.alloc (.cells #[.int .u8 x3, .slice a4 l4 k4, .slice a5 l5 k5, .int .u8 x6] 26)) v11) := J10.out.trans (hB.mono (Nat.le_trans (Nat.le_of_eq S0.out) J10.out.size))
  clear hB
  clear q0 q1 q2 q3
  obtain ⟨q0, q1, q2, q3⟩ := P0.below J11.out (Nat.lt_succ_self _)
  go_wp2_with fail
  refine (newFoot_abs _ _ _ _).mono ?_
  rintro r v12 ⟨bk, rfl, hb, Fk, hB⟩
  have Lbk : w.heap.size + 1 ≤ bk := Nat.le_trans (Nat.le_trans (Nat.le_of_eq S0.out) J11.out.size) hb
  clear hb
  have J12 : Hid (Below (w.heap.size + 1) (w.alloc (.cells #[.int .u8 x3, .slice a4 l4 k4, .slice a5 l5 k5, .int .u8 x6] 26)) v12) := J11.out.trans (hB.mono (Nat.le_trans (Nat.le_of_eq S0.out) J11.out.size))
  clear hB
  clear q0 q1 q2 q3
  obtain ⟨q0, q1, q2, q3⟩ := P0.below J12.out (Nat.lt_succ_self _)
  go_wp2_with fail
  refine (rem_any bk _ _ _ x3 x6 a4 a5 l4 l5 k4 k5 _ Fk).mono ?_
  rintro r v13 ⟨rfl, Fkn, hB⟩
  clear Fk
  have J13 : Hid (Below (w.heap.size + 1) (w.alloc (.cells #[.int .u8 x3, .slice a4 l4 k4, .slice a5 l5 k5, .int .u8 x6] 26)) v13) := J12.out.trans (hB.mono Lbk)
  clear hB
  clear q0 q1 q2 q3
  obtain ⟨q0, q1, q2, q3⟩ := P0.below J13.out (Nat.lt_succ_self _)
  have Fk := Fkn
  clear Fkn
  go_wp2_with fail
  refine (rem_any bk _ _ _ x3 x6 a4 a5 l4 l5 k4 k5 _ Fk).mono ?_
  rintro r v14 ⟨rfl, Fkn, hB⟩
  clear Fk
  have J14 : Hid (Below (w.heap.size + 1) (w.alloc (.cells #[.int .u8 x3, .slice a4 l4 k4, .slice a5 l5 k5, .int .u8 x6] 26)) v14) := J13.out.trans (hB.mono Lbk)
  clear hB
  clear q0 q1 q2 q3
  obtain ⟨q0, q1, q2, q3⟩ := P0.below J14.out (Nat.lt_succ_self _)
  have Fk := Fkn
  clear Fkn
  go_wp2_with fail
  refine (add_any bk _ _ _ x3 x6 a4 a5 l4 l5 k4 k5 _ Fk).mono ?_
  rintro r v15 ⟨rfl, Fkn, hB⟩
  rw [bk2 _ (wrap_bd _), bk2 _ (wrap_bd _), bk2U x3 _ (subU_bd _ _ B2.out _)] at Fkn
  clear Fk
  have J15 : Hid (Below (w.heap.size + 1) (w.alloc (.cells #[.int .u8 x3, .slice a4 l4 k4, .slice a5 l5 k5, .int .u8 x6] 26)) v15) := J14.out.trans (hB.mono Lbk)
  clear hB
  clear q0 q1 q2 q3
  obtain ⟨q0, q1, q2, q3⟩ := P0.below J15.out (Nat.lt_succ_self _)
  have Fk := Fkn
  clear Fkn
  go_wp2_with fail
  refine (fields_abs bk _ _ _ _ Fk).mono ?_
  rintro r v16 ⟨rfl, hB⟩
  have J16 : Hid (Below (w.heap.size + 1) (w.alloc (.cells #[.int .u8 x3, .slice a4 l4 k4, .slice a5 l5 k5, .int .u8 x6] 26)) v16) := J15.out.trans (hB.mono (Nat.le_trans (Nat.le_of_eq S0.out) J15.out.size))
  clear hB
  clear q0 q1 q2 q3
  obtain ⟨q0, q1, q2, q3⟩ := P0.below J16.out (Nat.lt_succ_self _)
  go_wp2
  go_ret
  exact ⟨rfl, ((Below.refl _ _).alloc (Nat.le_refl _) _).trans (J16.out.mono (Nat.le_succ _))⟩
end Go.Proofs.Qxb6609441a
