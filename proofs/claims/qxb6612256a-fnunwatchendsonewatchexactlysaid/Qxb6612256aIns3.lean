import Derived.Test.Qxb6612256aIns2
import Derived.Lib.AppendZerosOnto
namespace Go.Proofs.Qxb6612256a
open Go.RowKit Go.MapKept
open Go.ChangeMaps (setBlock)

/-! ### copy at elements of two cells, the world behind it a variable -/
theorem grown_setRow (w : World) (g : Nat) (cs : Array Value) : w.grownBy (w.setRow g cs) (some g) :=
  ⟨rfl, rfl, rfl, by simp [World.setRow], fun k _ hk => setRow_other w g k cs (fun e => hk (by rw [e]))⟩
theorem grown_drew (w : World) (r : Option Nat) : w.grownBy w.drew r := ⟨rfl, rfl, rfl, Nat.le_refl _, fun _ _ _ => rfl⟩
theorem run_copy2 {P : Program} (w : World) (dT sT ty elem : TypeId) (hu : P.underlying dT = some (.slice elem)) (hsz : (P.info? elem).map (·.size) = some 2)
    (dp sp : Option Addr) (dLen dCap sLen sCap : Nat) (g off m : Nat) (cur : List Value) (t : TypeId) (hg : w.heap[g]? = some (.cells cur.toArray t (0, 0))) (cs : List Value) (hm : m = Nat.min sLen dLen) (hn : cs.length = m * 2)
    (hdp : dp = some ⟨g, off, none⟩) (ad : Addr) (hsp : sp = some ad) (hsrc : ∀ j v, cs[j]? = some v → w.cell? (ad.add j) = some v) (hfit : off + cs.length ≤ cur.length) (h1 : ∀ v ∈ cs, v.oneCell' = true) :
    ∃ w', (Builtin.copy_ #[dT, sT] ty #[.slice dp dLen dCap, .slice sp sLen sCap]).run P w = .ok (goInt m) w' ∧ w'.heap[g]? = some (.cells (splice cur off cs).toArray t (0, 0)) ∧ w.grownBy w' (some g) := by
  subst hdp hsp
  refine ⟨_, run_copy_sz w dT sT ty elem g off dLen dCap ad sLen sCap cur.toArray t cs 2 m hu hsz hg hm hn hsrc (by simpa using hfit) h1, ?_, grown_setRow _ _ _⟩
  simpa [splice] using setRow_heap w g _ _ t _ hg
theorem wpList_copy2 {P : Program} {w : World} {ops : Array Oper} {rest : List Oper} {o : Oper} {a : Act} {Q : Exit → Act → World → Prop} (hgd : o.guard = none) (d s : Operand) (dT sT : TypeId)
    (ho : o.op = .call { callee := .builtin .copy, args := #[d, s], argTypes := #[dT, sT] }) (elem : TypeId) (hu : P.underlying dT = some (.slice elem)) (hsz : (P.info? elem).map (·.size) = some 2)
    (dp sp : Option Addr) (dLen dCap sLen sCap : Nat) (hd : a.eval d = .slice dp dLen dCap) (hs : a.eval s = .slice sp sLen sCap)
    (g off m : Nat) (cur : List Value) (t : TypeId) (hg : w.heap[g]? = some (.cells cur.toArray t (0, 0))) (cs : List Value) (hm : m = Nat.min sLen dLen) (hn : cs.length = m * 2)
    (hdp : dp = some ⟨g, off, none⟩) (ad : Addr) (hsp : sp = some ad) (hsrc : ∀ j v, cs[j]? = some v → w.cell? (ad.add j) = some v) (hfit : off + cs.length ≤ cur.length) (h1 : ∀ v ∈ cs, v.oneCell' = true)
    (h : ∀ w', Hid (w'.heap[g]? = some (.cells (splice cur off cs).toArray t (0, 0))) → Hid (w.grownBy w' (some g)) → wpList P ops Q rest (a.put o.dst (goInt m)) w') : wpList P ops Q (o :: rest) a w := by
  obtain ⟨w', hr, h2, h3⟩ := run_copy2 w dT sT o.type elem hu hsz dp sp dLen dCap sLen sCap g off m cur t hg cs hm hn hdp ad hsp hsrc hfit h1
  exact wpList_copy_run w hgd d s dT sT ho _ _ hd hs hr (h w' h2 h3)
theorem step_copy2 {P : Program} {ops : Array Oper} {o : Oper} {a : Act} {w : World} {K : Act → World → Prop} {Q : Exit → Act → World → Prop} {E : Prop} (hgd : o.guard = none) (d s : Operand) (dT sT : TypeId)
    (ho : o.op = .call { callee := .builtin .copy, args := #[d, s], argTypes := #[dT, sT] }) (elem : TypeId) (hu : P.underlying dT = some (.slice elem)) (hsz : (P.info? elem).map (·.size) = some 2)
    (dp sp : Option Addr) (dLen dCap sLen sCap : Nat) (hd : a.eval d = .slice dp dLen dCap) (hs : a.eval s = .slice sp sLen sCap)
    (g off m : Nat) (cur : List Value) (t : TypeId) (hg : w.heap[g]? = some (.cells cur.toArray t (0, 0))) (cs : List Value) (hm : m = Nat.min sLen dLen) (hn : cs.length = m * 2)
    (hdp : dp = some ⟨g, off, none⟩) (ad : Addr) (hsp : sp = some ad) (hsrc : ∀ j v, cs[j]? = some v → w.cell? (ad.add j) = some v) (hfit : off + cs.length ≤ cur.length) (h1 : ∀ v ∈ cs, v.oneCell' = true)
    (h : ∀ w', Hid (w'.heap[g]? = some (.cells (splice cur off cs).toArray t (0, 0))) → Hid (w.grownBy w' (some g)) → K (a.put o.dst (goInt m)) w') : if Region.wanted o (yielded ops a.tmps) = true then Oper.wp P o a w K Q else E := by
  obtain ⟨w', hr, h2, h3⟩ := run_copy2 w dT sT o.type elem hu hsz dp sp dLen dCap sLen sCap g off m cur t hg cs hm hn hdp ad hsp hsrc hfit h1
  exact step_copy_run hgd d s dT sT ho _ _ hd hs hr (h w' h2 h3)

theorem add_off (g o j : Nat) : (⟨g, o, none⟩ : Addr).add j = ⟨g, o + j, none⟩ := by unfold Addr.add; split <;> simp_all
/-! ### Two splices -/
theorem splice_shift {α : Type} (X P Y R : List α) (h : P.length ≤ R.length) :
    splice (splice (X ++ R) (X.length + P.length) Y) X.length P = X ++ (P ++ (Y ++ R.drop (P.length + Y.length))) := by
  have e1 : (X ++ R).take (X.length + P.length) = X ++ R.take P.length := by rw [List.take_append, List.take_of_length_le (by omega)]; simp
  have e2 : (X ++ R).drop (X.length + P.length + Y.length) = R.drop (P.length + Y.length) := by rw [List.drop_append]; simp [Nat.add_assoc]
  unfold splice
  rw [e1, e2]
  have e3 : (X ++ List.take P.length R ++ (Y ++ R.drop (P.length + Y.length))).take X.length = X := by simp [List.append_assoc]
  have e4 : (X ++ List.take P.length R ++ (Y ++ R.drop (P.length + Y.length))).drop (X.length + P.length) = Y ++ R.drop (P.length + Y.length) := by
    rw [List.drop_append]
    have hl : (X ++ List.take P.length R).length = X.length + P.length := by simp; omega
    rw [hl, Nat.sub_self, List.drop_eq_nil_of_le (by omega)]
    simp
  rw [e3, e4]
theorem splice_fill {α : Type} (X P Y R : List α) :
    splice (splice (X ++ R) X.length P) (X.length + P.length) Y = X ++ (P ++ (Y ++ R.drop (P.length + Y.length))) := by
  have e1 : (X ++ R).take X.length = X := by simp
  have e2 : (X ++ R).drop (X.length + P.length) = R.drop P.length := by rw [List.drop_append]; simp
  unfold splice
  rw [e1, e2]
  have e3 : (X ++ (P ++ R.drop P.length)).take (X.length + P.length) = X ++ P := by
    rw [← List.append_assoc, List.take_append_of_le_length (by simp)]
    exact List.take_of_length_le (by simp)
  have e4 : (X ++ (P ++ R.drop P.length)).drop (X.length + P.length + Y.length) = R.drop (P.length + Y.length) := by
    rw [← List.append_assoc, List.drop_append, List.drop_eq_nil_of_le (by simp)]
    simp [Nat.add_sub_cancel_left]
  rw [e3, e4]
  simp [List.append_assoc]

theorem lcells_length (ls : List (Int × Int)) : (ls.flatMap lcells).length = ls.length * 2 := by
  induction ls with
  | nil => rfl
  | cons p ls ih => simp [List.flatMap_cons, ih, lcells]; omega
theorem lcells_one (ls : List (Int × Int)) : ∀ u ∈ ls.flatMap lcells, u.oneCell' = true := by
  intro u hu
  rw [List.mem_flatMap] at hu
  obtain ⟨p, _, hp⟩ := hu
  simp [lcells] at hp
  rcases hp with rfl | rfl <;> rfl
theorem insAt_cells (ls : List (Int × Int)) (i : Nat) (p : Int × Int) : (insAt ls i p).flatMap lcells = (ls.take i).flatMap lcells ++ (lcells p ++ (ls.drop i).flatMap lcells) := by
  simp [insAt]
theorem insAt_length (ls : List (Int × Int)) (i : Nat) (p : Int × Int) (h : i ≤ ls.length) : (insAt ls i p).length = ls.length + 1 := by
  simp [insAt]; omega
/-- A row's cells, parted at element i. -/
theorem cur_parts (ls : List (Int × Int)) (i : Nat) (cur : List Value) (n : Nat) (h : cur.take (n * 2) = ls.flatMap lcells) :
    cur = (ls.take i).flatMap lcells ++ ((ls.drop i).flatMap lcells ++ cur.drop (n * 2)) := by
  rw [← List.append_assoc, ← List.flatMap_append, List.take_append_drop, ← h, List.take_append_drop]
theorem cell_of_block {w : World} {g : Nat} {cur : List Value} {t : TypeId} (hg : w.heap[g]? = some (.cells cur.toArray t (0, 0))) (k : Nat) : w.cell? ⟨g, k, none⟩ = cur[k]? := by
  simp [World.cell?, hg]
theorem shape_of_block {w : World} {g : Nat} {cur : List Value} {t : TypeId} (hg : w.heap[g]? = some (.cells cur.toArray t (0, 0))) : w.shape? g = some (t, cur.length) := by
  simp [World.shape?, hg]
theorem frozen_of_block {w : World} {g : Nat} {cur : List Value} {t : TypeId} (hg : w.heap[g]? = some (.cells cur.toArray t (0, 0))) (k : Nat) : w.frozen? ⟨g, k, none⟩ = false := by
  simp [World.frozen?, hg]

set_option maxHeartbeats 400000 in
set_option maxRecDepth 100000 in
theorem insert_room (B g : Nat) (cap n i vb : Nat) (cur : List Value) (ls : List (Int × Int)) (p : Int × Int) (w : World) (hBg : B ≤ g) (hg : w.heap[g]? = some (.cells cur.toArray 80 (0, 0))) (hcl : cur.length = cap * 2)
    (htake : cur.take (n * 2) = ls.flatMap lcells) (hl : ls.length = n) (hn : n ≤ 4096) (hi : i < n) (hroom : n + 1 ≤ cap) (hcap : cap ≤ 9223372036854775807) (hvg : vb ≠ g)
    (hv : w.heap[vb]? = some (.cells (lcells p).toArray 80 (0, 0))) :
    Calls Try.prog 26 #[.slice (some ⟨g, 0, none⟩) n cap, .int .i64 i, .slice (some ⟨vb, 0, none⟩) 1 1] w fun r w' => ∃ v', r = .returned v' ∧ w'.ownsRow B 80 2 v' (n + 1) ((insAt ls i p).flatMap lcells) ∧ w.grownBy w' (some g) := by
  have hov : ∀ lb cb off', (callFunc 40 #[.slice (some ⟨vb, 0, none⟩) 1 1, .slice (some ⟨g, off', none⟩) lb cb]).run Try.prog w = .ok (.value (.bool false)) w := fun lb cb off' =>
    ov_run w ⟨vb, 0, none⟩ ⟨g, off', none⟩ 1 1 lb cb hvg 80 80 _ _ (shape_of_block hv) (shape_of_block hg) (by rw [hcl]; omega) (frozen_of_block hv 0) (frozen_of_block hv _)
  obtain ⟨X, hX⟩ : ∃ X, X = (ls.take i).flatMap lcells := ⟨_, rfl⟩
  obtain ⟨Y, hY⟩ : ∃ Y, Y = (ls.drop i).flatMap lcells := ⟨_, rfl⟩
  obtain ⟨R, hR⟩ : ∃ R, R = Y ++ cur.drop (n * 2) := ⟨_, rfl⟩
  have hcur : cur = X ++ R := by rw [hR, hX, hY]; exact cur_parts ls i cur n htake
  have hXl : X.length = i * 2 := by rw [hX, lcells_length, List.length_take]; omega
  have hYl : Y.length = (n - i) * 2 := by rw [hY, lcells_length, List.length_drop]; omega
  have hY1 : ∀ u ∈ Y, u.oneCell' = true := by rw [hY]; exact lcells_one _
  have hP1 : ∀ u ∈ lcells p, u.oneCell' = true := by have := lcells_one [p]; simpa using this
  have hRl : R.length = cap * 2 - i * 2 := by
    have : (X ++ R).length = cap * 2 := by rw [← hcur]; exact hcl
    rw [List.length_append, hXl] at this; omega
  have hres : splice (splice cur (i * 2 + 2) Y) (i * 2) (lcells p) = X ++ (lcells p ++ (Y ++ R.drop (2 + Y.length))) := by
    have := splice_shift X (lcells p) Y R (by rw [hRl, l_len]; omega)
    rw [hXl, l_len] at this
    rw [hcur]; exact this
  have hYsrc : ∀ j v, Y[j]? = some v → w.cell? ⟨g, i * 2 + j, none⟩ = some v := by
    intro j v hj
    rw [cell_of_block hg, hcur, List.getElem?_append_right (by omega), hXl, show i * 2 + j - i * 2 = j by omega, hR, List.getElem?_append_left (by have := (List.getElem?_eq_some_iff.1 hj).1; exact this)]
    exact hj
  have hfin : ∀ w' : World, w'.heap[g]? = some (.cells (X ++ (lcells p ++ (Y ++ R.drop (2 + Y.length)))).toArray 80 (0, 0)) → w'.ownsRow B 80 2 (.slice (some ⟨g, 0, none⟩) (n + 1) cap) (n + 1) ((insAt ls i p).flatMap lcells) := by
    intro w' hw'
    refine ⟨by rw [lcells_length, insAt_length _ _ _ (by omega), hl], .inr ⟨g, cap, _, rfl, hBg, hw', hroom, by unfold maxLen; omega, ?_, ?_⟩⟩
    · simp [hXl, hYl, hRl, l_len]; omega
    · rw [insAt_cells, ← hX, ← hY]
      rw [← List.append_assoc (lcells p), ← List.append_assoc X, List.take_append_of_le_length (by simp [hXl, hYl, l_len]; omega), List.take_of_length_le (by simp [hXl, hYl, l_len]; omega)]
  have HF := hideP hfin
  have HR := hideP hres
  have HY := hideP hYsrc
  have H1 := hideP hY1
  have HP := hideP hP1
  have HG := hideP hg
  have HV := hideP hv
  have HYL := hideP hYl
  have HCL := hideP hcl
  have hz2 : ¬ ((i : Int) = (n : Int)) := by omega
  have hb2 : ¬ (cap = i + 1) := by omega
  have hb4 : ¬ (cap = i) := by omega
  have hw1 : IntKind.i64.wrap ((i : Int) + 1) = (i : Int) + 1 := by rw [IntKind.wrap_i64]; omega
  have hb1 : (0 : Int) ≤ (i : Int) + 1 := by omega
  have hin : i ≤ n := by omega
  have htn : ((i : Int) + 1).toNat = i + 1 := by omega
  have hb3 : (i : Int) ≤ (n : Int) + 1 := by omega
  have hb5 : (i : Int) ≤ (n : Int) := by omega
  have HMN : Hid (n - i = Nat.min (n + 1 - i) (n + 1 - (i + 1))) := by show _ = _; simp only [Nat.min_def]; split <;> omega
  have HAD : Hid (some (⟨g, (i + 1) * 2, none⟩ : Addr) = some ⟨g, i * 2 + 2, none⟩) := by show _ = _; rw [Nat.succ_mul]
  have HYA : Hid (∀ j v, Y[j]? = some v → w.drew.cell? ((⟨g, i * 2, none⟩ : Addr).add j) = some v) := fun j v hj => by
    have := hYsrc j v hj
    rw [add_off]
    exact this
  have HFT : Hid (i * 2 + 2 + Y.length ≤ cur.length) := by show _ ≤ _; omega
  have HF2 : Hid (i * 2 + (lcells p).length ≤ (splice cur (i * 2 + 2) Y).length) := by show _ ≤ _; rw [length_splice _ _ _ HFT.out, l_len]; omega
  have HM1 : Hid (1 = Nat.min 1 (n + 1 - i)) := by show _ = _; simp only [Nat.min_def]; split <;> omega
  have HLT : Hid (vb < w.drew.heap.size) := (Array.getElem?_eq_some_iff.1 hv).1
  clear hfin hres hYsrc hY1 hP1 hg hv hX hY hR hcur hRl hXl hYl hcl htake hl
  go_enter Try.func26, Try.ntmps26
  go_wp2_with (simp only [hov])
  go_region_law (refine step_copy2 rfl (.tmp 73) (.tmp 76) 64 64 rfl 80 Try.underlying64 Try.sz80 (some ⟨g, (i + 1) * 2, none⟩) (some ⟨g, i * 2, none⟩) (n + 1 - (i + 1)) (cap - (i + 1)) (n + 1 - i) (cap - i) (by simp [Act.eval, Act.put]) (by simp [Act.eval, Act.put]) g (i * 2 + 2) (n - i) cur 80 HG.out Y HMN.out HYL.out HAD.out ⟨g, i * 2, none⟩ rfl HYA.out HFT.out H1.out ?_; intro w3 HG3 HB3)
  have HV3 : Hid (∀ j v, (lcells p)[j]? = some v → w3.cell? ((⟨vb, 0, none⟩ : Addr).add j) = some v) := fun j v hj => by
    have hv3 : w3.heap[vb]? = w.heap[vb]? := HB3.out.block vb HLT.out (fun e => hvg (Option.some.inj e))
    rw [add_off, Nat.zero_add, cell_of_block (hv3.trans HV.out)]
    exact hj
  obtain ⟨w4, hr4, hG4, hB4⟩ := run_copy2 w3 64 64 3 80 Try.underlying64 Try.sz80 (some ⟨g, i * 2, none⟩) (some ⟨vb, 0, none⟩) (n + 1 - i) (cap - i) 1 1 g (i * 2) 1 _ 80 HG3.out (lcells p) HM1.out rfl rfl ⟨vb, 0, none⟩ rfl HV3.out HF2.out HP.out
  have HG4 := hideP hG4
  have HB4 := hideP hB4
  clear hG4 hB4
  go_wp2
  go_ret
  refine ⟨_, rfl, HF.out _ ?_, ?_⟩
  · rw [← HR.out]; exact HG4.out
  · exact (grown_drew w _).trans (HB3.out.trans HB4.out)

theorem grown_drew_alloc (w : World) (o : Obj) : w.grownBy (w.drew.alloc o) none := ⟨rfl, rfl, rfl, (below_alloc1 w.drew o).size, fun k hk _ => (MapKept.heap_alloc w.drew _).2 k hk⟩
theorem zero_len (z : Array Value) (k : Nat) : (Builtin.zeroCells z k).size = z.size * k := by
  simp [Builtin.zeroCells, Nat.mul_comm]
set_option maxHeartbeats 400000 in
set_option maxRecDepth 100000 in
theorem insert_grow (B g : Nat) (n i vb : Nat) (cur : List Value) (ls : List (Int × Int)) (p : Int × Int) (w : World) (hB : B ≤ w.heap.size) (hg : w.heap[g]? = some (.cells cur.toArray 80 (0, 0))) (hcl : cur.length = n * 2)
    (htake : cur.take (n * 2) = ls.flatMap lcells) (hl : ls.length = n) (hn : n ≤ 4096) (hi : i < n)
    (hv : w.heap[vb]? = some (.cells (lcells p).toArray 80 (0, 0))) :
    Calls Try.prog 26 #[.slice (some ⟨g, 0, none⟩) n n, .int .i64 i, .slice (some ⟨vb, 0, none⟩) 1 1] w fun r w' => ∃ v', r = .returned v' ∧ w'.ownsRow B 80 2 v' (n + 1) ((insAt ls i p).flatMap lcells) ∧ w.grownBy w' (some g) := by
  obtain ⟨i0, hi0, hz0, hzs, hzb⟩ := info_parts Try.info80
  obtain ⟨X, hX⟩ : ∃ X, X = (ls.take i).flatMap lcells := ⟨_, rfl⟩
  obtain ⟨Y, hY⟩ : ∃ Y, Y = (ls.drop i).flatMap lcells := ⟨_, rfl⟩
  have hcur : cur = X ++ Y := by
    have := cur_parts ls i cur n htake
    rw [List.drop_eq_nil_of_le (show cur.length ≤ n * 2 by omega), List.append_nil, ← hX, ← hY] at this
    exact this
  have hXl : X.length = i * 2 := by rw [hX, lcells_length, List.length_take]; omega
  have hYl : Y.length = (n - i) * 2 := by rw [hY, lcells_length, List.length_drop]; omega
  have hY1 : ∀ u ∈ Y, u.oneCell' = true := by rw [hY]; exact lcells_one _
  have hP1 : ∀ u ∈ lcells p, u.oneCell' = true := by have := lcells_one [p]; simpa using this
  have hgl : g < w.heap.size := (Array.getElem?_eq_some_iff.1 hg).1
  have hvl : vb < w.heap.size := (Array.getElem?_eq_some_iff.1 hv).1
  obtain ⟨G, hG⟩ : ∃ G, G = grownCap w (n + 1) n 80 := ⟨_, rfl⟩
  have hGn : n + 1 ≤ G := by rw [hG]; exact grownCap_ge w _ _ _
  have hG63 : G ≤ 9223372036854775807 := by
    have := grownCap_le_maxLen w (n + 1) n 80 (by unfold maxLen; omega)
    rw [← hG] at this
    unfold maxLen at this
    omega
  obtain ⟨g1, w1, hg1, hr1, hw1g, hgr1⟩ : ∃ (g1 : Nat) (w1 : World), g1 = w.heap.size ∧ (Builtin.append_ #[64, 3] 64 #[.slice (some ⟨g, 0, none⟩) i n, .int .i64 ((n : Int) + 1 - (i : Int))]).run Try.prog w = .ok (.slice (some ⟨g1, 0, none⟩) (n + 1) G) w1 ∧
      (∃ R : List Value, R.length = (G - i) * 2 ∧ w1.heap[g1]? = some (.cells (X ++ R).toArray 80 (0, 0))) ∧ w.grownBy w1 none := by
    have hold : (Builtin.firstCells i0.size i (.slice (some ⟨g, 0, none⟩) i n)).run Try.prog w.drew = .ok X.toArray w.drew := by
      rw [hzs]
      refine run_firstCells_some w.drew 2 i ⟨g, 0, none⟩ i n X (by rw [hXl]) (fun j v hj => ?_)
      have hj2 : j < X.length := (List.getElem?_eq_some_iff.1 hj).1
      rw [add_off, Nat.zero_add]
      show w.cell? _ = _
      rw [cell_of_block hg, hcur, List.getElem?_append_left hj2]
      exact hj
    have h := Lib.run_append_grow_zeros w 64 3 64 80 i0 _ .i64 .i64 Try.underlying64 Try.underlying3 hi0 hz0 (some ⟨g, 0, none⟩) i n X hold (n + 1 - i) (by omega) (by omega) (by omega) (by omega) (by rw [hzb]; omega) (by rw [hzb, show i + (n + 1 - i) = n + 1 by omega]; exact growslice_fits (by omega) (by omega))
    rw [show i + (n + 1 - i) = n + 1 by omega, ← hG, show ((n + 1 - i : Nat) : Int) = (n : Int) + 1 - (i : Int) by omega] at h
    refine ⟨_, _, rfl, h, ⟨(Builtin.zeroCells (Value.agg #[.int .i64 0, .int .i64 0]).cells (n + 1 - i) ++ Builtin.zeroCells (Value.agg #[.int .i64 0, .int .i64 0]).cells (G - (n + 1))).toList, ?_, ?_⟩, ?_⟩
    · simp [zero_len, Value.cells]; omega
    · refine ((MapKept.heap_alloc w.drew _).1).trans ?_
      simp
    · exact grown_drew_alloc w _
  obtain ⟨R, hRl, hw1g⟩ := hw1g
  have hgg1 : g ≠ g1 := by omega
  have hvg1 : vb ≠ g1 := by omega
  have hg' : w1.heap[g]? = some (.cells cur.toArray 80 (0, 0)) := (hgr1.block g hgl (by simp)).trans hg
  have hv' : w1.heap[vb]? = some (.cells (lcells p).toArray 80 (0, 0)) := (hgr1.block vb hvl (by simp)).trans hv
  obtain ⟨w2, hr2, hG2, hB2⟩ := run_copy2 w1 64 64 3 80 Try.underlying64 Try.sz80 (some ⟨g1, i * 2, none⟩) (some ⟨vb, 0, none⟩) (n + 1 - i) (G - i) 1 1 g1 (i * 2) 1 _ 80 hw1g (lcells p) (by simp only [Nat.min_def]; split <;> omega) rfl rfl ⟨vb, 0, none⟩ rfl
    (fun j v hj => by rw [add_off, Nat.zero_add, cell_of_block hv']; exact hj) (by rw [List.length_append, hXl, hRl, l_len]; omega) hP1
  have hg2 : w2.heap[g]? = some (.cells cur.toArray 80 (0, 0)) := (hB2.block g (Array.getElem?_eq_some_iff.1 hg').1 (fun e => hgg1 (Option.some.inj e))).trans hg'
  have hres : splice (splice (X ++ R) (i * 2) (lcells p)) (i * 2 + 2) Y = X ++ (lcells p ++ (Y ++ R.drop (2 + Y.length))) := by
    have := splice_fill X (lcells p) Y R
    rw [hXl, l_len] at this
    exact this
  have hfin : ∀ w' : World, w'.heap[g1]? = some (.cells (X ++ (lcells p ++ (Y ++ R.drop (2 + Y.length)))).toArray 80 (0, 0)) → w'.ownsRow B 80 2 (.slice (some ⟨g1, 0, none⟩) (n + 1) G) (n + 1) ((insAt ls i p).flatMap lcells) := by
    intro w' hw'
    refine ⟨by rw [lcells_length, insAt_length _ _ _ (by omega), hl], .inr ⟨g1, G, _, rfl, by omega, hw', hGn, by unfold maxLen; omega, ?_, ?_⟩⟩
    · simp [hXl, hYl, hRl, l_len]; omega
    · rw [insAt_cells, ← hX, ← hY]
      rw [← List.append_assoc (lcells p), ← List.append_assoc X, List.take_append_of_le_length (by simp [hXl, hYl, l_len]; omega), List.take_of_length_le (by simp [hXl, hYl, l_len]; omega)]
  have hgrow : ∀ w' : World, w2.grownBy w' (some g1) → w.grownBy w' (some g) := by
    intro w' h
    refine ⟨h.os.trans (hB2.os.trans hgr1.os), h.tape.trans (hB2.tape.trans hgr1.tape), h.output.trans (hB2.output.trans hgr1.output), Nat.le_trans hgr1.size (Nat.le_trans hB2.size h.size), fun k hk _ => ?_⟩
    have hk1 : some k ≠ some g1 := fun e => by have := Option.some.inj e; omega
    have h1 := hgr1.size
    have h2 := hB2.size
    exact (h.block k (by omega) hk1).trans ((hB2.block k (by omega) hk1).trans (hgr1.block k hk (by simp)))
  have HMN : Hid (n - i = Nat.min (n - i) (n + 1 - (i + 1))) := by show _ = _; simp only [Nat.min_def]; split <;> omega
  have HAD : Hid (some (⟨g1, (i + 1) * 2, none⟩ : Addr) = some ⟨g1, i * 2 + 2, none⟩) := by show _ = _; rw [Nat.succ_mul]
  have HYA : Hid (∀ j v, Y[j]? = some v → w2.drew.cell? ((⟨g, i * 2, none⟩ : Addr).add j) = some v) := fun j v hj => by
    rw [add_off]
    show w2.cell? _ = _
    rw [cell_of_block hg2, hcur, List.getElem?_append_right (by omega), hXl, show i * 2 + j - i * 2 = j by omega]
    exact hj
  have HFT : Hid (i * 2 + 2 + Y.length ≤ (splice (X ++ R) (i * 2) (lcells p)).length) := by show _ ≤ _; rw [length_splice _ _ _ (by rw [List.length_append, hXl, hRl, l_len]; omega), List.length_append, hXl, hRl]; omega
  have HF := hideP hfin
  have HR := hideP hres
  have H1 := hideP hY1
  have HYL := hideP hYl
  have HG2 := hideP hG2
  have HGW := hideP hgrow
  have hz2 : ¬ ((i : Int) = (n : Int)) := by omega
  have hz3 : (n : Int) < (n : Int) + 1 := by omega
  have hGi : ¬ (G = i) := by omega
  have hGim : ¬ (G = i + 1) := by omega
  have hci : ¬ (n = i) := by omega
  have hw1 : IntKind.i64.wrap ((i : Int) + 1) = (i : Int) + 1 := by rw [IntKind.wrap_i64]; omega
  have hb1 : (0 : Int) ≤ (i : Int) + 1 := by omega
  have hin : i ≤ n := by omega
  have htn : ((i : Int) + 1).toNat = i + 1 := by omega
  have hb3 : (i : Int) ≤ (n : Int) := by omega
  have hb5 : (i : Int) ≤ (n : Int) + 1 := by omega
  clear hfin hres hY1 hP1 hg hv hX hY hcur hRl hXl hYl hcl htake hl hG hg1 hw1g hgr1 hg' hv' hG2 hB2 hg2 hgrow hB hi0 hz0 hzs hzb hgg1 hvg1 hgl hvl
  go_enter Try.func26, Try.ntmps26
  go_wp2_with (at_builtin; refine Lib.wpList_append_run _ rfl _ _ _ _ rfl _ _ rfl rfl _ _ hr1 ?_)
  go_region_law (refine step_copy2 rfl (.tmp 50) (.tmp 53) 64 64 rfl 80 Try.underlying64 Try.sz80 (some ⟨g1, (i + 1) * 2, none⟩) (some ⟨g, i * 2, none⟩) (n + 1 - (i + 1)) (G - (i + 1)) (n - i) (n - i) (by simp [Act.eval, Act.put]) (by simp [Act.eval, Act.put]) g1 (i * 2 + 2) (n - i) _ 80 HG2.out Y HMN.out HYL.out HAD.out ⟨g, i * 2, none⟩ rfl HYA.out HFT.out H1.out ?_; intro w3 HG3 HB3)
  go_wp2
  go_ret
  refine ⟨_, rfl, HF.out _ ?_, ?_⟩
  · rw [← HR.out]; exact HG3.out
  · exact HGW.out _ ((grown_drew w2 _).trans HB3.out)
end Go.Proofs.Qxb6612256a
