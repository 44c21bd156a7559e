import Derived.Test.Qxb6612240aLaw
import Derived.Test.Qxb6612240aZz2
import Derived.Test.Qxb6612240aSizes
import Derived.Test.Qxb6612240aReported
import Derived.Deep.Cut
namespace Go.Proofs.Qxb6612240a
open Go.RowKit Go.MapKept
open Go.ChangeMaps (setBlock)

/-! ### Bounds -/
theorem mem_sum_le {α : Type} (f : α → Nat) {l : List α} {x : α} (h : x ∈ l) : f x ≤ (l.map f).sum := by
  obtain ⟨i, hi⟩ := List.getElem?_of_mem h
  have := sum_get_le f hi
  omega
theorem bounds_rs {w : World} {a : Option Addr} {n : Nat} {rs : List Rd} (h : RsOk w a n rs) (hW : rsWt rs ≤ 1048576) :
    n ≤ 1048576 ∧ vcount rs ≤ 1048576 ∧ (∀ r ∈ rs, r.n ≤ 1048576 ∧ ∀ p ∈ r.ps, p.n ≤ 1048576) ∧ (∀ r ∈ rs, r.ps.length ≤ 1048576 ∧ ∀ p ∈ r.ps, p.vs.length ≤ 1048576) := by
  have hl := h.len
  have hv := vcount_le rs (fun r hr p hp => ((h.all r hr).all p hp).len)
  have key : ∀ r ∈ rs, r.n ≤ 1048576 ∧ ∀ p ∈ r.ps, p.n ≤ 1048576 := by
    intro r hr
    have h1 := mem_sum_le Rd.wt hr
    have h2 : r.n + (r.ps.map Pr.wt).sum = r.wt := rfl
    unfold rsWt at hW
    refine ⟨by omega, fun p hp => ?_⟩
    have h3 := mem_sum_le Pr.wt hp
    have h4 : p.fr.size + p.n + (p.vs.map Vt.wt).sum = p.wt := rfl
    omega
  refine ⟨by unfold rsWt at hW; omega, by omega, key, fun r hr => ⟨?_, fun p hp => ?_⟩⟩
  · rw [(h.all r hr).len]; exact (key r hr).1
  · rw [((h.all r hr).all p hp).len]; exact (key r hr).2 p hp
theorem bounds_ps {w : World} {a : Option Addr} {n : Nat} {ps : List Pl} (h : PsOk w a n ps) (hW : psWt ps ≤ 1048576) :
    n ≤ 1048576 ∧ (∀ p ∈ ps, p.n ≤ 1048576) ∧ (∀ ms ∈ ps.map (·.ms), ms.length ≤ 1048576) := by
  have hl := h.len
  have key : ∀ p ∈ ps, p.n ≤ 1048576 := by
    intro p hp
    have h1 := mem_sum_le Pl.wt hp
    have h2 : p.n + (p.ms.map ByteArray.size).sum = p.wt := rfl
    unfold psWt at hW
    omega
  refine ⟨by unfold psWt at hW; omega, key, fun ms hms => ?_⟩
  obtain ⟨p, hp, rfl⟩ := List.mem_map.1 hms
  rw [(h.all p hp).len]
  exact key p hp

/-! ### A row of pools, appended whole -/
theorem ptr_flat (Ms : List Nat) : Ms.flatMap ptrCells = Ms.map fun m => Value.pointer (some ⟨m, 0, none⟩) := by
  induction Ms with
  | nil => rfl
  | cons m Ms ih => rw [List.flatMap_cons, ih]; rfl
theorem gnb {w w' : World} (k : w.grownBy w' none) : Below w.heap.size w w' := ⟨k.os, k.tape, k.output, k.size, fun i hi => k.block i hi (by simp)⟩
theorem BuiltPs.ext {w w' : World} {a : Option Addr} {n : Nat} {L : List (List ByteArray)} (h : BuiltPs w a n L) (k : Below w.heap.size w w') : BuiltPs w' a n L := by
  obtain ⟨hl, Ms, h1, h2, h3⟩ := h
  exact ⟨hl, Ms, h1, h2.ext k, fun i ms m hi hm => (h3 i ms m hi hm).ext k⟩
theorem bx {a b c : World} (h : Below a.heap.size a b) (k : Below b.heap.size b c) : Below a.heap.size a c := h.trans (k.mono h.size)
theorem pool_append {ops : Array Oper} {rest : List Oper} {o : Oper} {a : Act} {Q : Exit → Act → World → Prop} {B : Nat} {wr : World} {v : Value} {E Ms : List Nat} {g n c : Nat} (s x : Operand)
    (hown : wr.ownsRow B 98 1 v E.length (E.flatMap ptrCells)) (hrow : RowAt wr (some ⟨g, 0, none⟩) 1 ptrCells Ms) (hn : Ms.length = n) (hb : E.length + n ≤ 4194304) (hB : B ≤ wr.heap.size)
    (hg : o.guard = none) (hop : o.op = Op.call { callee := Callee.builtin Builtin.append, args := #[s, x], argTypes := #[46, 46] })
    (hs : a.eval s = v) (hx : a.eval x = .slice (some ⟨g, 0, none⟩) n c)
    (hK : ∀ v' w', Hid (w'.ownsRow B 98 1 v' (E ++ Ms).length ((E ++ Ms).flatMap ptrCells)) → Below wr.heap.size wr w' ∨ (∀ w0, Below B w0 wr → Below B w0 w') → (∀ w0, Below B w0 wr → Below B w0 w') → wpList Try.prog ops Q rest (a.put o.dst v') w') :
    wpList Try.prog ops Q (o :: rest) a wr := by
  obtain ⟨i0, hi, hz0, hz1, hz2⟩ := info_parts Try.info98
  have hfl : (Ms.flatMap ptrCells).length = n * 1 := by rw [ptr_flat, List.length_map, Nat.mul_one, hn]
  refine wpList_append_own_at _ hg s x 46 hop B 98 i0 _ 1 8 Try.underlying46 hi hz0 hz1 hz2 rfl (by decide) v E.length (E.flatMap ptrCells) hs hown ⟨g, 0, none⟩ n c (Ms.flatMap ptrCells) hx hfl ?_ ?_ ?_ ?_ hB ?_
  · intro j u hj
    have e : (⟨g, 0, none⟩ : Addr).add j = ⟨g, j, none⟩ := by unfold Addr.add; split <;> simp_all
    rw [e]
    rw [ptr_flat, List.getElem?_map] at hj
    cases hm : Ms[j]? with
    | none => rw [hm] at hj; simp at hj
    | some m =>
      rw [hm] at hj
      simp at hj
      subst hj
      have := hrow.at hm 0 _ rfl
      simpa using this
  · intro u hu
    obtain ⟨m, _, hm⟩ := List.mem_flatMap.1 hu
    simp [ptrCells] at hm
    subst hm
    rfl
  · unfold maxLen; omega
  · omega
  · intro v' w' h1 h2 _ _
    have hbel : ∀ w0, Below B w0 wr → Below B w0 w' := fun w0 h0 => h0.grown h2 (by omega) (fun k hk => (hown.lt k hk).1)
    refine hK v' w' ?_ (.inr hbel) hbel
    rw [List.length_append, hn, List.flatMap_append]
    exact h1

set_option maxRecDepth 100000 in
set_option maxHeartbeats 8000000 in
theorem joins_any (a : Option Addr) (n c : Nat) (rs : List Rd) (w : World) (h : RsOk w a n rs) (a1 : Option Addr) (n1 c1 : Nat) (ps1 : List Pl) (a2 : Option Addr) (n2 c2 : Nat) (ps2 : List Pl) (h1 : PsOk w a1 n1 ps1) (h2 : PsOk w a2 n2 ps2) :
    Calls Try.prog 5 #[.slice a n c, .slice a1 n1 c1, .slice a2 n2 c2] w fun r w' => r = .returned (.bool true) ∧ Below w.heap.size w w' := by
  obtain ⟨i0, hi, hz0, hz1, hz2⟩ := info_parts Try.info98
  have H := hideP h
  have H1 := hideP h1
  have H2 := hideP h2
  have hn := h.n_max
  have hn1 := h1.n_max
  have hn2 := h2.n_max
  clear h h1 h2
  go_enter Try.func5, Try.ntmps5
  go_wp2_with fail
  refine (zzJoins a n c rs w H.out a1 n1 c1 ps1 a2 n2 c2 ps2 H1.out H2.out).mono ?_
  rintro r' w' ⟨⟨bo, rfl, hbo⟩, rfl⟩
  cases bo
  · go_wp2
    go_ret
    exact ⟨rfl, Below.refl _ _⟩
  · have HW := hideP (hbo rfl)
    clear hbo
    go_wp2_with fail
    refine (roundsSize_any a n c rs w H.out).mono ?_
    rintro r' w' ⟨⟨x, y, z, rfl⟩, m0, rfl⟩
    have hb0 := Below.draws w m0
    go_wp2_with fail
    refine (poolsSize_any a1 n1 c1 ps1 _ (H1.out.ext hb0)).mono ?_
    rintro r' w' ⟨⟨x1, y1, rfl⟩, rfl⟩
    go_wp2_with fail
    refine (poolsSize_any a2 n2 c2 ps2 _ (H2.out.ext hb0)).mono ?_
    rintro r' w' ⟨⟨x2, y2, rfl⟩, rfl⟩
    generalize w.drewN m0 = w0 at hb0
    go_wp2_with fail
    all_goals try (go_ret; exact ⟨rfl, hb0⟩)
    clear hn hn1 hn2
    obtain ⟨hn, bv, bm, bm'⟩ := bounds_rs H.out (by have := HW.out; omega)
    obtain ⟨hn1, bp1, bq1⟩ := bounds_ps H1.out (by have := HW.out; omega)
    obtain ⟨hn2, bp2, bq2⟩ := bounds_ps H2.out (by have := HW.out; omega)
    have BV := hideP bv
    have BM := hideP bm
    have BM' := hideP bm'
    have BP1 := hideP bp1
    have BQ1 := hideP bq1
    have BP2 := hideP bp2
    have BQ2 := hideP bq2
    clear bv bm bm' bp1 bq1 bp2 bq2
    refine (reported_any a n c rs w0 (H.out.ext hb0) BV.out).mono ?_
    rintro r' w1 ⟨v, rfl, hown, hb1⟩
    obtain ⟨ao, ecap, rfl, hrowE⟩ := ownsRow_rowAt Ent.cells (fun _ => rfl) hown
    clear hown
    have hEn : (reported rs).length ≤ 1048576 := Nat.le_trans (rep_len rs) BV.out
    have hSn : (slotsOf (reported rs)).length ≤ 1048576 := Nat.le_trans (slotsOf_len _) hEn
    have hbw1 : Below w.heap.size w w1 := bx hb0 hb1
    go_wp2_with fail
    refine (slots_any ao _ ecap (reported rs) w1 hrowE rfl hEn).mono ?_
    rintro r' w2 ⟨v, rfl, hown, hb2⟩
    obtain ⟨so, scap, rfl, hrowS⟩ := ownsRow_rowAt u64Cells u64_len hown
    clear hown
    have hbw2 := bx hbw1 hb2
    go_wp2_with fail
    refine (buildRounds_any a n c rs w2 (H.out.ext hbw2) hn BM.out).mono ?_
    rintro r' w3 ⟨rfl, hR⟩
    obtain ⟨hBR, hb3⟩ := hR.built H.out.len
    clear hR
    have hbw3 := bx hbw2 hb3
    go_wp2_with fail
    refine (buildPools_any a1 n1 c1 ps1 w3 (H1.out.ext hbw3) hn1 BP1.out).mono ?_
    rintro r' w4 ⟨rfl, hP1⟩
    obtain ⟨Ms1, hl1, hr1, hp1, hb4⟩ := hP1.built
    clear hP1
    have hbw4 := bx hbw3 hb4
    go_wp2_with fail
    refine (buildPools_any a2 n2 c2 ps2 w4 (H2.out.ext hbw4) hn2 BP2.out).mono ?_
    rintro r' w5 ⟨rfl, hP2⟩
    obtain ⟨Ms2, hl2, hr2, hp2, hb5⟩ := hP2.built
    clear hP2
    have hbw5 := bx hbw4 hb5
    have HL1 : Hid (Pls w5 Ms1 (ps1.map (·.ms))) := Pls.ext ⟨by rw [hl1, List.length_map, H1.out.len], hp1⟩ hb5
    have HL2 : Hid (Pls w5 Ms2 (ps2.map (·.ms))) := ⟨by rw [hl2, List.length_map, H2.out.len], hp2⟩
    have HR1 := hideP (hr1.ext hb5)
    have HR2 := hideP hr2
    have HM1 := hideP hl1
    have HM2 := hideP hl2
    have HBR := hideP (hBR.ext (bx hb4 hb5))
    have HRE := hideP (hrowE.ext (bx (bx hb2 hb3) (bx hb4 hb5)))
    have HRS := hideP (hrowS.ext (bx hb3 (bx hb4 hb5)))
    have HBW := hideP hbw5
    clear hp1 hp2 hr1 hr2 hl1 hl2 hBR hrowE hrowS hbw1 hbw2 hbw3 hbw4 hbw5 hb0 hb1 hb2 hb3 hb4 hb5
    generalize w2.heap.size = gr at HBR ⊢
    generalize w3.heap.size = g1 at HR1 ⊢
    generalize w4.heap.size = g2 at HR2 ⊢
    have hbyt : i0.bytes * (n1 + n2) ≤ 281474976710656 := by rw [hz2]; omega
    have hml : n1 + n2 ≤ maxLen := by unfold maxLen; omega
    have hle1 : ([] : List Nat).length + n1 ≤ 4194304 := by simp; omega
    have hle2 : ([] ++ Ms1).length + n2 ≤ 4194304 := by simp [HM1.out]; omega
    have HLE1 := hideP hle1
    have HLE2 := hideP hle2
    have HBYT := hideP hbyt
    have HML := hideP hml
    clear hle1 hle2 hbyt hml
    go_wp2_with (first | (at_make; refine wpList_make_own _ rfl _ _ 46 rfl w5.heap.size 98 i0 _ 1 Try.underlying46 hi hz0 hz1 _ _ _ (n1 + n2) rfl rfl (Int.natCast_add n1 n2).symm HBYT.out HML.out (Nat.le_refl _) ?_; intro w6 hown6 hg6) | (at_builtin; refine pool_append (E := []) (Ms := Ms1) (.tmp 103) (.tmp 104) hown6 (HR1.out.ext (gnb hg6)) HM1.out HLE1.out (gnb hg6).size rfl rfl rfl rfl ?_; intro v7 w7 hown7 _ hbel7) | (at_builtin; refine pool_append (E := [] ++ Ms1) (Ms := Ms2) (.tmp 106) (.tmp 107) hown7.out (HR2.out.ext (hbel7 w5 (gnb hg6))) HM2.out HLE2.out (hbel7 w5 (gnb hg6)).size rfl rfl rfl rfl ?_; intro v8 w8 hown8 _ hbel8))
    have hb58 : Below w5.heap.size w5 w8 := hbel8 w5 (hbel7 w5 (gnb hg6))
    rw [List.nil_append] at hown8
    obtain ⟨po, pcap, rfl, hrowP⟩ := ownsRow_rowAt ptrCells ptr_len hown8.out
    rw [List.length_append, HM1.out, HM2.out]
    clear hbel7 hbel8 hown6 hown7 hown8 hg6
    have HBR8 := hideP (HBR.out.ext hb58)
    have HP1 : Hid (BuiltPs w8 (some ⟨g1, 0, none⟩) n1 (ps1.map (·.ms))) := (HL1.out.ext hb58).built (HR1.out.ext hb58) (by rw [List.length_map, H1.out.len])
    have HP2 : Hid (BuiltPs w8 (some ⟨g2, 0, none⟩) n2 (ps2.map (·.ms))) := (HL2.out.ext hb58).built (HR2.out.ext hb58) (by rw [List.length_map, H2.out.len])
    have HP3 : Hid (BuiltPs w8 po (n1 + n2) (ps1.map (·.ms) ++ ps2.map (·.ms))) := ((HL1.out.ext hb58).append (HL2.out.ext hb58)).built hrowP (by rw [List.length_append, List.length_map, List.length_map, H1.out.len, H2.out.len])
    have BQ3 : Hid (∀ ms ∈ ps1.map (·.ms) ++ ps2.map (·.ms), ms.length ≤ 1048576) := fun ms hms => (List.mem_append.1 hms).elim (BQ1.out ms) (BQ2.out ms)
    have HRE8 := hideP (HRE.out.ext hb58)
    have HRS8 := hideP (HRS.out.ext hb58)
    have HBW8 := hideP (bx HBW.out hb58)
    clear HBR HL1 HL2 HR1 HR2 HRE HRS HBW hrowP hb58
    have hn12 : n1 + n2 ≤ 1048576 := by have := HW.out; have := H1.out.len; have := H2.out.len; unfold psWt at *; omega
    refine (zztally_any _ n _ rs _ n1 _ (ps1.map (·.ms)) w8 HBR8.out HP1.out hn BV.out BM'.out hn1 BQ1.out).mono ?_
    rintro r' w9 ⟨ta, SA, rfl, q1, q2, q3, hb9⟩
    have RA : Hid (Res w9 ta rs (ps1.map (·.ms))) := ⟨SA, q1, q2, q3⟩
    clear q1 q2 q3
    go_wp2_with fail
    refine (zztally_any _ n _ rs _ n2 _ (ps2.map (·.ms)) w9 (HBR8.out.ext hb9) (HP2.out.ext hb9) hn BV.out BM'.out hn2 BQ2.out).mono ?_
    rintro r' w10 ⟨tb, SB, rfl, q1, q2, q3, hb10⟩
    have RB : Hid (Res w10 tb rs (ps2.map (·.ms))) := ⟨SB, q1, q2, q3⟩
    clear q1 q2 q3
    go_wp2_with fail
    refine (zztally_any _ n _ rs _ (n1 + n2) _ (ps1.map (·.ms) ++ ps2.map (·.ms)) w10 (HBR8.out.ext (bx hb9 hb10)) (HP3.out.ext (bx hb9 hb10)) hn BV.out BM'.out hn12 BQ3.out).mono ?_
    rintro r' w11 ⟨tc, SC, rfl, q1, q2, q3, hb11⟩
    have RC : Hid (Res w11 tc rs (ps1.map (·.ms) ++ ps2.map (·.ms))) := ⟨SC, q1, q2, q3⟩
    clear q1 q2 q3
    have RA' : Hid (Res w11 ta rs (ps1.map (·.ms))) := RA.out.ext (bx hb10 hb11)
    have RB' : Hid (Res w11 tb rs (ps2.map (·.ms))) := RB.out.ext hb11
    have HRE11 := hideP (HRE8.out.ext (bx hb9 (bx hb10 hb11)))
    have HRS11 := hideP (HRS8.out.ext (bx hb9 (bx hb10 hb11)))
    have HBW11 := hideP (bx HBW8.out (bx hb9 (bx hb10 hb11)))
    clear RA RB HRE8 HRS8 HBW8 HBR8 HP1 HP2 HP3 hb9 hb10 hb11
    have ca := RA'.out.count
    have cb := RB'.out.count
    have cc := RC.out.count
    go_wp2
    clear ca cb cc
    go_loopw [23, 24] (fun i _ wr => ∃ k : Nat, k ≤ (slotsOf (reported rs)).length ∧ i = .int .i64 k ∧ Below w11.heap.size w11 wr) (fun i _ _ => (slotsOf (reported rs)).length - (intOf i).toNat)
    case atStart => exact ⟨0, Nat.zero_le _, rfl, Below.refl _ _⟩
    case round =>
      rename World => wr
      obtain ⟨k, hk, rfl, hbr⟩ := hrel
      by_cases hlt : k < (slotsOf (reported rs)).length
      · obtain ⟨s, hs⟩ := get_of_lt rfl hlt
        have hsm := List.mem_of_getElem? hs
        obtain ⟨b, off, rfl, hc⟩ := (HRS11.out.ext hbr) k s hs
        have c0 : wr.cell? ⟨b, off + k, none⟩ = some (.int .u64 s) := by simpa using hc 0 _ rfl
        have HSM := hideP hsm
        clear hc hs hsm
        obtain ⟨v, hv⟩ : ∃ v, v = ansV rs s := ⟨_, rfl⟩
        obtain ⟨ma, hma⟩ : ∃ m, m = ansM rs (ps1.map (·.ms)) s := ⟨_, rfl⟩
        obtain ⟨mb, hmb⟩ : ∃ m, m = ansM rs (ps2.map (·.ms)) s := ⟨_, rfl⟩
        have hmc : (ma || mb) = ansM rs (ps1.map (·.ms) ++ ps2.map (·.ms)) s := by rw [hma, hmb]; exact (mayOf_append _ _ _ _ _).symm
        have HV := hideP hv
        have HMA := hideP hma
        have HMB := hideP hmb
        have HMC := hideP hmc
        clear hv hma hmb hmc
        go_wp2_with fail
        refine ((RA'.out.ext hbr).view HSM.out HV.out HMA.out).mono ?_
        rintro r' wA ⟨rfl, hbA⟩
        have cA := hideP (new_cells' wA [Value.bool true, .int .u64 v.slot, .int .u64 v.round, .string v.leader, .string v.origin, .int .u64 v.inc, .int .u64 v.seq, .slice v.ta v.tl v.tc, .int .u64 v.nxt, .bool ma] 55)
        have hbA' := hideP (below_alloc1 wA (.cells #[.bool true, .int .u64 v.slot, .int .u64 v.round, .string v.leader, .string v.origin, .int .u64 v.inc, .int .u64 v.seq, .slice v.ta v.tl v.tc, .int .u64 v.nxt, .bool ma] 55))
        go_wp2_with fail
        generalize hwA : wA.alloc (.cells #[.bool true, .int .u64 v.slot, .int .u64 v.round, .string v.leader, .string v.origin, .int .u64 v.inc, .int .u64 v.seq, .slice v.ta v.tl v.tc, .int .u64 v.nxt, .bool ma] 55) = wA' at hbA' ⊢
        have cA' : Hid (∀ j u, [Value.bool true, .int .u64 v.slot, .int .u64 v.round, .string v.leader, .string v.origin, .int .u64 v.inc, .int .u64 v.seq, .slice v.ta v.tl v.tc, .int .u64 v.nxt, .bool ma][j]? = some u → wA'.cell? ⟨wA.heap.size, j, none⟩ = some u) := hwA ▸ cA.out
        clear cA hwA
        have hbrA : Below w11.heap.size w11 wA' := bx hbr (bx hbA hbA'.out)
        refine ((RB'.out.ext hbrA).view HSM.out HV.out HMB.out).mono ?_
        rintro r' wB ⟨rfl, hbB⟩
        have cB := hideP (new_cells' wB [Value.bool true, .int .u64 v.slot, .int .u64 v.round, .string v.leader, .string v.origin, .int .u64 v.inc, .int .u64 v.seq, .slice v.ta v.tl v.tc, .int .u64 v.nxt, .bool mb] 55)
        have hbB' := hideP (below_alloc1 wB (.cells #[.bool true, .int .u64 v.slot, .int .u64 v.round, .string v.leader, .string v.origin, .int .u64 v.inc, .int .u64 v.seq, .slice v.ta v.tl v.tc, .int .u64 v.nxt, .bool mb] 55))
        go_wp2_with fail
        generalize hwB : wB.alloc (.cells #[.bool true, .int .u64 v.slot, .int .u64 v.round, .string v.leader, .string v.origin, .int .u64 v.inc, .int .u64 v.seq, .slice v.ta v.tl v.tc, .int .u64 v.nxt, .bool mb] 55) = wB' at hbB' ⊢
        have cB' : Hid (∀ j u, [Value.bool true, .int .u64 v.slot, .int .u64 v.round, .string v.leader, .string v.origin, .int .u64 v.inc, .int .u64 v.seq, .slice v.ta v.tl v.tc, .int .u64 v.nxt, .bool mb][j]? = some u → wB'.cell? ⟨wB.heap.size, j, none⟩ = some u) := hwB ▸ cB.out
        clear cB hwB
        have hbAB : Below wA'.heap.size wA' wB' := bx hbB hbB'.out
        have hbrB : Below w11.heap.size w11 wB' := bx hbrA hbAB
        refine ((RC.out.ext hbrB).view HSM.out HV.out HMC.out).mono ?_
        rintro r' wC ⟨rfl, hbC⟩
        have cC := hideP (new_cells' wC [Value.bool true, .int .u64 v.slot, .int .u64 v.round, .string v.leader, .string v.origin, .int .u64 v.inc, .int .u64 v.seq, .slice v.ta v.tl v.tc, .int .u64 v.nxt, .bool (ma || mb)] 55)
        have hbC' := hideP (below_alloc1 wC (.cells #[.bool true, .int .u64 v.slot, .int .u64 v.round, .string v.leader, .string v.origin, .int .u64 v.inc, .int .u64 v.seq, .slice v.ta v.tl v.tc, .int .u64 v.nxt, .bool (ma || mb)] 55))
        obtain ⟨wz, hwz⟩ : ∃ wz, wz = wC.alloc (.cells #[.bool true, .int .u64 v.slot, .int .u64 v.round, .string v.leader, .string v.origin, .int .u64 v.inc, .int .u64 v.seq, .slice v.ta v.tl v.tc, .int .u64 v.nxt, .bool (ma || mb)] 55) := ⟨_, rfl⟩
        rw [← hwz] at hbC'
        have cC' : Hid (∀ j u, [Value.bool true, .int .u64 v.slot, .int .u64 v.round, .string v.leader, .string v.origin, .int .u64 v.inc, .int .u64 v.seq, .slice v.ta v.tl v.tc, .int .u64 v.nxt, .bool (ma || mb)][j]? = some u → wz.cell? ⟨wC.heap.size, j, none⟩ = some u) := hwz ▸ cC.out
        have HWZ := hideP hwz
        clear cC hwz
        have hbBC : Below wB'.heap.size wB' wz := bx hbC hbC'.out
        have hbrZ : Below w11.heap.size w11 wz := bx hbrB hbBC
        have CA := hideP (fun j u hj => cell_ext (bx hbAB hbBC) (cA'.out j u hj))
        have CB := hideP (fun j u hj => cell_ext hbBC (cB'.out j u hj))
        go_upto_region 30 with fail
        rw [← HWZ.out]
        have xa0 := CA.out 0 _ rfl
        have xa1 := CA.out 1 _ rfl
        have xa2 := CA.out 2 _ rfl
        have xa3 := CA.out 3 _ rfl
        have xa4 := CA.out 4 _ rfl
        have xa5 := CA.out 5 _ rfl
        have xa6 := CA.out 6 _ rfl
        have xa7 := CA.out 7 _ rfl
        have xa8 := CA.out 8 _ rfl
        have xa9 := CA.out 9 _ rfl
        have xb0 := CB.out 0 _ rfl
        have xb1 := CB.out 1 _ rfl
        have xb2 := CB.out 2 _ rfl
        have xb3 := CB.out 3 _ rfl
        have xb4 := CB.out 4 _ rfl
        have xb5 := CB.out 5 _ rfl
        have xb6 := CB.out 6 _ rfl
        have xb7 := CB.out 7 _ rfl
        have xb8 := CB.out 8 _ rfl
        have xb9 := CB.out 9 _ rfl
        have xc0 := cC'.out 0 _ rfl
        have xc1 := cC'.out 1 _ rfl
        have xc2 := cC'.out 2 _ rfl
        have xc3 := cC'.out 3 _ rfl
        have xc4 := cC'.out 4 _ rfl
        have xc5 := cC'.out 5 _ rfl
        have xc6 := cC'.out 6 _ rfl
        have xc7 := cC'.out 7 _ rfl
        have xc8 := cC'.out 8 _ rfl
        have xc9 := cC'.out 9 _ rfl
        go_wp2_with fail
        refine (reports_any ao _ ecap (reported rs) s v ma wz (HRE11.out.ext hbrZ) rfl hEn (fun e he => (rep_ok H.out e he).ext (bx HBW11.out hbrZ)) (HV.out ▸ (ans_ok H.out HSM.out).ext (bx HBW11.out hbrZ)) ?_ ?_).mono ?_
        · obtain ⟨e, he, e1, e2⟩ := (best_facts HSM.out).1
          exact ⟨e, he, by rw [HV.out]; exact e1, by rw [HV.out]; exact e2⟩
        · rw [HV.out]; exact (best_facts HSM.out).2
        rintro r' wD ⟨rfl, hbD⟩
        clear xa0 xa1 xa2 xa3 xa4 xa5 xa6 xa7 xa8 xa9 xb0 xb1 xb2 xb3 xb4 xb5 xb6 xb7 xb8 xb9 xc0 xc1 xc2 xc3 xc4 xc5 xc6 xc7 xc8 xc9
        have hvok : Hid (VtOk wD v) := by rw [HV.out]; exact (ans_ok H.out HSM.out).ext (bx HBW11.out (bx hbrZ hbD))
        have ya0 := cell_ext hbD <| CA.out 0 _ rfl
        have ya1 := cell_ext hbD <| CA.out 1 _ rfl
        have ya2 := cell_ext hbD <| CA.out 2 _ rfl
        have ya3 := cell_ext hbD <| CA.out 3 _ rfl
        have ya4 := cell_ext hbD <| CA.out 4 _ rfl
        have ya5 := cell_ext hbD <| CA.out 5 _ rfl
        have ya6 := cell_ext hbD <| CA.out 6 _ rfl
        have ya7 := cell_ext hbD <| CA.out 7 _ rfl
        have ya8 := cell_ext hbD <| CA.out 8 _ rfl
        have ya9 := cell_ext hbD <| CA.out 9 _ rfl
        have yb0 := cell_ext hbD <| CB.out 0 _ rfl
        have yb1 := cell_ext hbD <| CB.out 1 _ rfl
        have yb2 := cell_ext hbD <| CB.out 2 _ rfl
        have yb3 := cell_ext hbD <| CB.out 3 _ rfl
        have yb4 := cell_ext hbD <| CB.out 4 _ rfl
        have yb5 := cell_ext hbD <| CB.out 5 _ rfl
        have yb6 := cell_ext hbD <| CB.out 6 _ rfl
        have yb7 := cell_ext hbD <| CB.out 7 _ rfl
        have yb8 := cell_ext hbD <| CB.out 8 _ rfl
        have yb9 := cell_ext hbD <| CB.out 9 _ rfl
        go_wp2_with fail
        refine (sameView_any v v ma mb wD hvok.out hvok.out).mono ?_
        rintro r' wE ⟨rfl, hbE⟩
        rw [sameV_self]
        clear ya0 ya1 ya2 ya3 ya4 ya5 ya6 ya7 ya8 ya9 yb0 yb1 yb2 yb3 yb4 yb5 yb6 yb7 yb8 yb9
        have hvok' := hideP (hvok.out.ext hbE)
        have za0 := cell_ext (bx hbD hbE) <| CA.out 0 _ rfl
        have za1 := cell_ext (bx hbD hbE) <| CA.out 1 _ rfl
        have za2 := cell_ext (bx hbD hbE) <| CA.out 2 _ rfl
        have za3 := cell_ext (bx hbD hbE) <| CA.out 3 _ rfl
        have za4 := cell_ext (bx hbD hbE) <| CA.out 4 _ rfl
        have za5 := cell_ext (bx hbD hbE) <| CA.out 5 _ rfl
        have za6 := cell_ext (bx hbD hbE) <| CA.out 6 _ rfl
        have za7 := cell_ext (bx hbD hbE) <| CA.out 7 _ rfl
        have za8 := cell_ext (bx hbD hbE) <| CA.out 8 _ rfl
        have za9 := cell_ext (bx hbD hbE) <| CA.out 9 _ rfl
        have zc0 := cell_ext (bx hbD hbE) <| cC'.out 0 _ rfl
        have zc1 := cell_ext (bx hbD hbE) <| cC'.out 1 _ rfl
        have zc2 := cell_ext (bx hbD hbE) <| cC'.out 2 _ rfl
        have zc3 := cell_ext (bx hbD hbE) <| cC'.out 3 _ rfl
        have zc4 := cell_ext (bx hbD hbE) <| cC'.out 4 _ rfl
        have zc5 := cell_ext (bx hbD hbE) <| cC'.out 5 _ rfl
        have zc6 := cell_ext (bx hbD hbE) <| cC'.out 6 _ rfl
        have zc7 := cell_ext (bx hbD hbE) <| cC'.out 7 _ rfl
        have zc8 := cell_ext (bx hbD hbE) <| cC'.out 8 _ rfl
        have zc9 := cell_ext (bx hbD hbE) <| cC'.out 9 _ rfl
        go_wp2_with fail
        refine (sameView_any v v ma (ma || mb) wE hvok'.out hvok'.out).mono ?_
        rintro r' wF ⟨rfl, hbF⟩
        rw [sameV_self]
        clear za0 za1 za2 za3 za4 za5 za6 za7 za8 za9 zc0 zc1 zc2 zc3 zc4 zc5 zc6 zc7 zc8 zc9
        have hDF := bx hbD (bx hbE hbF)
        have ua := cell_ext hDF (CA.out 9 _ rfl)
        have ub := cell_ext hDF (CB.out 9 _ rfl)
        have uc := cell_ext hDF (cC'.out 9 _ rfl)
        clear CA CB cC' HMA HMB HMC cA' cB'
        cases ma <;> cases mb
        all_goals
          go_wp2
          exact ⟨⟨k + 1, by omega, by go_num, bx hbrZ hDF⟩, by simp [intOf]; omega⟩
      · go_wp2
        go_ret
        exact ⟨rfl, bx HBW11.out hbr⟩
end Go.Proofs.Qxb6612240a
