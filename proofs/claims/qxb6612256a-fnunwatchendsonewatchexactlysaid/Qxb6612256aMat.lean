import Derived.Test.Qxb6612256aFin2
namespace Go.Proofs.Qxb6612256a
open Go.RowKit Go.MapKept
open Go.ChangeMaps (setBlock)

def icell (x : Int) : List Value := [.int .i64 x]
/-- What the last tests read. -/
structure Chk (w : World) (hb mb : Nat) (v : Value) (L : List FEnt) (c : Nat) (ls : List (Int × Int)) (a : Option Addr) (n : Nat) (gs : List Gr) (lb : Nat) (left : List Int) : Prop where
  gok : GsOk w a n gs
  row : RowAt w (some ⟨lb, 0, none⟩) 1 icell left
  llen : left.length = n
  c26 : w.cell? ⟨hb, 26, none⟩ = some (.map (some mb))
  c27 : w.cell? ⟨hb, 27, none⟩ = some v
  fis : FIs w mb L c
  lens : ∃ ao cap, v = .slice ao ls.length cap ∧ RowAt w ao 2 lcells ls
  lmax : ls.length ≤ 9223372036854775807
  yes : ∀ (j : Nat) (g : Gr) (x : Int), gs[j]? = some g → left[j]? = some x → 0 < x → ∃ e ∈ L, e.f = g.filt ∧ w.cell? ⟨e.m, 0, none⟩ = some (.int .i64 x)
  no : ∀ (j : Nat) (g : Gr) (x : Int), gs[j]? = some g → left[j]? = some x → x = 0 → ∀ e ∈ L, e.f ≠ g.filt
  nonneg : ∀ x ∈ left, 0 ≤ x
  num : L.length = (left.filter fun x => decide (0 < x)).length
  cnt : Counted ls (cnt (aliveZ (gs.zip left)))
theorem Chk.ext {w w' : World} {hb mb : Nat} {v : Value} {L : List FEnt} {c : Nat} {ls : List (Int × Int)} {a : Option Addr} {n : Nat} {gs : List Gr} {lb : Nat} {left : List Int} (h : Chk w hb mb v L c ls a n gs lb left) (k : Below w.heap.size w w') : Chk w' hb mb v L c ls a n gs lb left := by
  obtain ⟨ao, cap, e, hr⟩ := h.lens
  exact ⟨h.gok.ext k, h.row.ext k, h.llen, cell_ext k h.c26, cell_ext k h.c27, h.fis.of_block (k.block mb h.fis.lt), ⟨ao, cap, e, hr.ext k⟩, h.lmax, fun j g x h1 h2 h3 => by
    obtain ⟨e, he, h4, h5⟩ := h.yes j g x h1 h2 h3
    exact ⟨e, he, h4, cell_ext k h5⟩, h.no, h.nonneg, h.num, h.cnt⟩

theorem oneGroup_any (w : World) (hb mb : Nat) (L : List FEnt) (c : Nat) (g : Gr) (x : Int) (c26 : w.cell? ⟨hb, 26, none⟩ = some (.map (some mb))) (h : FIs w mb L c) (hyes : 0 < x → ∃ e ∈ L, e.f = g.filt ∧ w.cell? ⟨e.m, 0, none⟩ = some (.int .i64 x)) (hno : x = 0 → ∀ e ∈ L, e.f ≠ g.filt) (hx : 0 ≤ x) :
    Calls Try.prog 15 #[.pointer (some ⟨hb, 0, none⟩), .agg #[.string g.key, .bool g.pre, .int .i64 g.wn], .int .i64 x] w fun r w' => r = .returned (.bool true) ∧ Below w.heap.size w w' := by
  have hb1 : Below w.heap.size w (w.alloc (.cells #[.string g.key, .bool g.pre, .int .i64 g.wn] 31)) := below_alloc1 w _
  have HB1 := hideP hb1
  have h1 : FIs (w.alloc (.cells #[.string g.key, .bool g.pre, .int .i64 g.wn] 31)) mb L c := h.alloc _
  have d26 := cell_ext hb1 c26
  rcases Int.lt_or_eq_of_le hx with hlt | heq
  · obtain ⟨e, he, hef, hec⟩ := hyes hlt
    have hc := hideP (group_yes hb mb L c e _ d26 h1 he)
    have hd := cell_ext hb1 hec
    rw [hef] at hc
    have hxb : (x == 0) = false := by simp; omega
    have HG := hideP (groupWatches_any e.m x _ hd)
    clear hyes hno h h1 he hef hec hd hb1 hx
    go_enter Try.func15, Try.ntmps15
    go_wp2_with fail
    refine hc.out.mono ?_
    rintro r1 w1 ⟨rfl, rfl⟩
    go_wp2_with fail
    refine HG.out.mono ?_
    rintro r2 w2 ⟨rfl, rfl⟩
    go_wp2
    go_ret
    exact ⟨rfl, HB1.out⟩
  · have hx0 : x = 0 := heq.symm
    subst hx0
    have hc := hideP (group_no hb mb L c g.filt _ d26 h1 (hno rfl))
    clear hyes hno h h1 hb1 hx heq
    go_enter Try.func15, Try.ntmps15
    go_wp2_with fail
    refine hc.out.mono ?_
    rintro r1 w1 ⟨rfl, rfl⟩
    go_wp2
    go_ret
    exact ⟨rfl, HB1.out⟩

theorem filter_snoc_len (xs : List Int) (x : Int) : (((xs ++ [x]).filter fun y => decide (0 < y)).length : Int) = ((xs.filter fun y => decide (0 < y)).length : Int) + if 0 < x then 1 else 0 := by
  by_cases h : 0 < x <;> simp [h]

set_option maxHeartbeats 2000000 in
set_option maxRecDepth 100000 in
theorem groupsMatch_any (w : World) (hb mb : Nat) (v : Value) (L : List FEnt) (c : Nat) (ls : List (Int × Int)) (a : Option Addr) (n ca : Nat) (gs : List Gr) (lb : Nat) (left : List Int) (h : Chk w hb mb v L c ls a n gs lb left) (hn : n ≤ 4096) :
    Calls Try.prog 9 #[.pointer (some ⟨hb, 0, none⟩), .slice a n ca, .slice (some ⟨lb, 0, none⟩) n n] w fun r w' => r = .returned (.bool true) ∧ Below w.heap.size w w' := by
  have H := hideP h
  have HL := hideP h.llen
  have HNU := hideP h.num
  have hle : ∀ k, ((left.take k).filter fun x => decide (0 < x)).length ≤ n := fun k => by
    have h1 := List.length_filter_le (fun x : Int => decide (0 < x)) (left.take k)
    have h2 : (left.take k).length ≤ left.length := by simp; omega
    have h3 := h.llen
    omega
  have HLE := hideP hle
  clear h hle
  go_enter Try.func9, Try.ntmps9
  go_wp2
  go_loopw [7, 8] (fun s i wr => ∃ (k m : Nat), k ≤ n ∧ m ≤ n ∧ i = .int .i64 k ∧ s = .int .i64 m ∧ Hid (m = ((left.take k).filter fun x => decide (0 < x)).length) ∧ Hid (Below w.heap.size w wr)) (fun _ i _ => n - (intOf i).toNat)
  case atStart => exact ⟨0, 0, Nat.zero_le _, Nat.zero_le _, rfl, rfl, rfl, Below.refl _ _⟩
  case round =>
    rename World => wr
    obtain ⟨k, m, hk, hm, rfl, rfl, HM, HB⟩ := hrel
    by_cases hlt : k < n
    · obtain ⟨g, b, off, hg, rfl, c0, c1, c2, hks⟩ := (H.out.ext HB.out).gok.get hlt
      obtain ⟨x, hx⟩ := get_of_lt HL.out hlt
      have c3 : wr.cell? ⟨lb, k, none⟩ = some (.int .i64 x) := by
        have := (H.out.ext HB.out).row.at hx 0 _ rfl
        simpa using this
      have HG := hide_get hg
      have HX := hide_get hx
      have hx0 := H.out.nonneg x (List.mem_of_getElem? hx)
      have HC : Hid (∀ wd, Below wr.heap.size wr wd → Calls Try.prog 15 #[.pointer (some ⟨hb, 0, none⟩), .agg #[.string g.key, .bool g.pre, .int .i64 g.wn], .int .i64 x] wd fun r w' => r = .returned (.bool true) ∧ Below wd.heap.size wd w') := fun wd hwd => by
        have hc := H.out.ext (bx HB.out hwd)
        exact oneGroup_any wd hb mb L c g x hc.c26 hc.fis (hc.yes k g x HG.out HX.out) (hc.no k g x HG.out HX.out) hx0
      have HT : Hid (left.take (k + 1) = left.take k ++ [x]) := take_get hx
      have HKE : Hid (∀ w3, Below wr.heap.size wr w3 → w3.cell? ⟨b, off + k * 3, none⟩ = some (.string g.key) ∧ w3.cell? ⟨b, off + k * 3 + 1, none⟩ = some (.bool g.pre) ∧ w3.cell? ⟨b, off + k * 3 + 2, none⟩ = some (.int .i64 g.wn) ∧ w3.cell? ⟨lb, k, none⟩ = some (.int .i64 x)) := fun w3 h3 => ⟨cell_ext h3 c0, cell_ext h3 c1, cell_ext h3 c2, cell_ext h3 c3⟩
      clear hg hx
      go_wp2
      go_region_held3 (fun W => W.cell? ⟨b, off + k * 3, none⟩ = some (.string g.key) ∧ W.cell? ⟨b, off + k * 3 + 1, none⟩ = some (.bool g.pre) ∧ W.cell? ⟨b, off + k * 3 + 2, none⟩ = some (.int .i64 g.wn) ∧ W.cell? ⟨lb, k, none⟩ = some (.int .i64 x)) (go_keep) (first | (go_at_call 15; refine (HC.out _ (below_drew wr)).mono ?_; rintro r3 w3 ⟨rfl, hb3⟩; have hb4 : Below wr.heap.size wr w3 := bx (below_drew wr) hb3; obtain ⟨t0, t1, t2, t3⟩ := HKE.out w3 hb4))
      all_goals
        have HB4 : Hid (Below w.heap.size w w3) := bx HB.out hb4
        clear hb3 hb4 t0 t1 t2 c0 c1 c2 c3
        by_cases hxp : 0 < x
        · have HM2 : Hid (m + 1 = ((left.take (k + 1)).filter fun y => decide (0 < y)).length) := by
            have h1 := filter_snoc_len (left.take k) x
            rw [← HT.out, if_pos hxp, ← HM.out] at h1
            show _ = _
            omega
          have hm2 : m + 1 ≤ n := by have := HLE.out (k + 1); rw [← HM2.out] at this; exact this
          go_wp2
          exact ⟨⟨k + 1, m + 1, by omega, hm2, by go_num, by go_num, HM2, HB4⟩, by simp [intOf]; omega⟩
        · have HM2 : Hid (m = ((left.take (k + 1)).filter fun y => decide (0 < y)).length) := by
            have h1 := filter_snoc_len (left.take k) x
            rw [← HT.out, if_neg hxp, ← HM.out] at h1
            show _ = _
            omega
          go_wp2
          exact ⟨⟨k + 1, m, by omega, hm, by go_num, rfl, HM2, HB4⟩, by simp [intOf]; omega⟩
    · have hke : k = n := by omega
      subst hke
      have hall : m = L.length := by rw [HNU.out, HM.out, List.take_of_length_le (by rw [HL.out]; omega)]
      go_wp2_with fail
      refine (groupCount_any hb mb L c wr (H.out.ext HB.out).c26 (H.out.ext HB.out).fis).mono ?_
      rintro r2 w2 ⟨rfl, rfl⟩
      rw [← hall]
      go_wp2
      go_ret
      exact ⟨rfl, HB.out⟩
end Go.Proofs.Qxb6612256a
