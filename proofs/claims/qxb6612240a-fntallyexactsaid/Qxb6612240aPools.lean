import Derived.Test.Qxb6612240aMade
namespace Go.Proofs.Qxb6612240a
open Go.RowKit

/-! ### b1BuildPools -/
def memCells (s : ByteArray) : List Value := [.string s, .string ⟨#[]⟩, .pointer none]
theorem mem_len (s : ByteArray) : (memCells s).length = 3 := rfl
def ptrCells (m : Nat) : List Value := [.pointer (some ⟨m, 0, none⟩)]
theorem ptr_len (m : Nat) : (ptrCells m).length = 1 := rfl

/-- A pool as the program has it: a struct whose first field is the slice of its members. -/
def PoolAt (w : World) (lo m : Nat) (ms : List ByteArray) : Prop := ∃ g, lo ≤ m ∧ lo ≤ g ∧ w.cell? ⟨m, 0, none⟩ = some (.slice (some ⟨g, 0, none⟩) ms.length ms.length) ∧ RowAt w (some ⟨g, 0, none⟩) 3 memCells ms
theorem PoolAt.keep {w w' : World} {lo m : Nat} {ms : List ByteArray} (h : PoolAt w lo m ms) (k : Keep lo w w') : PoolAt w' lo m ms := by
  obtain ⟨g, h1, h2, h3, h4⟩ := h
  exact ⟨g, h1, h2, k.cell h1 h3, k.rowAt h2 h4⟩
theorem PoolAt.mono {w : World} {lo lo' m : Nat} {ms : List ByteArray} (h : PoolAt w lo m ms) (k : lo' ≤ lo) : PoolAt w lo' m ms := by
  obtain ⟨g, h1, h2, h3, h4⟩ := h
  exact ⟨g, Nat.le_trans k h1, Nat.le_trans k h2, h3, h4⟩

theorem Try.info98 : (Try.prog.info? 98).map (fun i => (i.zero, i.size, i.bytes)) = some (some (.pointer none), 1, 8) := by kernel_rfl
theorem Try.info97 : (Try.prog.info? 97).map (fun i => (i.zero, i.size, i.bytes)) = some (some (.agg #[.string ⟨#[]⟩, .string ⟨#[]⟩, .pointer none]), 3, 40) := by kernel_rfl

theorem ownsRow_some {w : World} {base : Nat} {e : TypeId} {size g n cap : Nat} {xs : List Value} (h : w.ownsRow base e size (.slice (some ⟨g, 0, none⟩) n cap) n xs) (j : Nat) (hj : j < n * size) : ∃ y, w.cell? ⟨g, j, none⟩ = some y := by
  rw [h.cellAt j hj]
  exact ⟨_, List.getElem?_eq_getElem (by rw [h.1]; exact hj)⟩
theorem mul_lt_of {k n s j : Nat} (hk : k < n) (hj : j < s) : k * s + j < n * s := by
  have := Nat.mul_le_mul_right s (show k + 1 ≤ n from hk)
  rw [Nat.succ_mul] at this
  omega
theorem mul_le_of {k n s : Nat} (hk : k < n) : k * s + s ≤ n * s := by
  have := Nat.mul_le_mul_right s (show k + 1 ≤ n from hk)
  rw [Nat.succ_mul] at this
  omega

/-- After k rounds. -/
structure PInv (w wr : World) (n : Nat) (ps : List Pl) (k : Nat) : Prop where
  ex : ∃ (Ms : List Nat) (xs : List Value), Ms.length = k ∧ wr.ownsRow w.heap.size 98 1 (.slice (some ⟨w.heap.size, 0, none⟩) n n) n xs ∧ Filled ptrCells 1 Ms xs ∧ ∀ (i : Nat) (p : Pl) (m : Nat), ps[i]? = some p → Ms[i]? = some m → PoolAt wr (w.heap.size + 1) m p.ms
  bel : Below w.heap.size w wr
  sz : w.heap.size + 1 ≤ wr.heap.size
/-- Inside round k, after q members: the row of members is being filled. -/
structure MInv (wr wx : World) (pn : Nat) (pms : List ByteArray) (q : Nat) : Prop where
  ex : ∃ xs, wx.ownsRow wr.heap.size 97 3 (.slice (some ⟨wr.heap.size, 0, none⟩) pn pn) pn xs ∧ Filled memCells 3 (pms.take q) xs
  bel : Below wr.heap.size wr wx
theorem MInv.start {wr wx : World} {pn : Nat} {pms : List ByteArray} {xs : List Value} (h : wx.ownsRow wr.heap.size 97 3 (.slice (some ⟨wr.heap.size, 0, none⟩) pn pn) pn xs) (g : wr.grownBy wx none) : MInv wr wx pn pms 0 :=
  ⟨⟨xs, h, Filled.nil _ _ _⟩, (Below.refl _ _).grown g (Nat.le_refl _) (fun k hk => by cases hk)⟩
theorem MInv.step {wr wx : World} {pn : Nat} {pms : List ByteArray} {q : Nat} {s : ByteArray} (h : MInv wr wx pn pms q) (hs : pms[q]? = some s) (hq : q < pn) : MInv wr (storeAt wx wr.heap.size (q * 3) (memCells s)) pn pms (q + 1) := by
  obtain ⟨⟨xs, h1, h2⟩, hb⟩ := h
  obtain ⟨h3, h4, h5⟩ := storeAt_owns (memCells s) (q * 3) h1
  have hxl := h1.1
  refine ⟨⟨_, h3, h2.step mem_len hs ?_⟩, hb.grown h4 hb.size (fun k hk => by cases hk; exact Nat.le_refl _)⟩
  rw [hxl]
  exact mul_le_of hq
theorem MInv.cells {wr wx : World} {pn : Nat} {pms : List ByteArray} {q : Nat} (h : MInv wr wx pn pms q) (hq : q < pn) :
    (∃ y, wx.cell? ⟨wr.heap.size, q * 3, none⟩ = some y) ∧ (∃ y, wx.cell? ⟨wr.heap.size, q * 3 + 1, none⟩ = some y) ∧ (∃ y, wx.cell? ⟨wr.heap.size, q * 3 + 2, none⟩ = some y) ∧ (∀ j, wx.frozen? ⟨wr.heap.size, j, none⟩ = false) := by
  obtain ⟨⟨xs, h1, h2⟩, hb⟩ := h
  exact ⟨ownsRow_some h1 _ (mul_lt_of (j := 0) hq (by decide)), ownsRow_some h1 _ (mul_lt_of hq (by decide)), ownsRow_some h1 _ (mul_lt_of hq (by decide)), fun j => h1.frozenAt j⟩
/-- The round's end: the pool's struct is boxed, its address stored. -/
theorem PInv.step {w wr wx : World} {n : Nat} {ps : List Pl} {k : Nat} {pa : Option Addr} {pn pc : Nat} {pms : List ByteArray} {V : Obj} {rest : List Value}
    (h : PInv w wr n ps k) (hp : ps[k]? = some ⟨pa, pn, pc, pms⟩) (hl : pms.length = pn) (hk : k < n) (hm : MInv wr wx pn pms pn) (hV : V = .cells (.slice (some ⟨wr.heap.size, 0, none⟩) pn pn :: rest).toArray 102) :
    PInv w ((wx.alloc V).setCell ⟨w.heap.size, k, none⟩ (.pointer (some ⟨wx.heap.size, 0, none⟩))) n ps (k + 1) := by
  obtain ⟨⟨Ms, xs, hMl, hown, hfil, hpool⟩, hbel, hsz⟩ := h
  obtain ⟨⟨ys, ho2, hf2⟩, hb2⟩ := hm
  have hwx : wr.heap.size ≤ wx.heap.size := hb2.size
  have hrow := (show Filled memCells 3 pms ys from by rw [List.take_of_length_le (by omega)] at hf2; exact hf2).rowAt mem_len hl ho2
  have hb3 : Below wr.heap.size wr (wx.alloc V) := hb2.alloc hwx V
  -- the outer row in the new world
  have hown2 : (wx.alloc V).ownsRow w.heap.size 98 1 (.slice (some ⟨w.heap.size, 0, none⟩) n n) n xs := hown.kept (row := none) ⟨hb3.os, hb3.tape, hb3.output, hb3.size, fun k hk _ => hb3.block k hk⟩ (by simp [Value.ownBlock])
  obtain ⟨h3, h4, h5⟩ := storeAt_owns [.pointer (some ⟨wx.heap.size, 0, none⟩)] k hown2
  have hk1 : Keep (w.heap.size + 1) wr (wx.alloc V) := Keep.of_below hb3
  have hk2 : Keep (w.heap.size + 1) (wx.alloc V) (storeAt (wx.alloc V) w.heap.size k [.pointer (some ⟨wx.heap.size, 0, none⟩)]) := Keep.of_grown h4 (Nat.lt_succ_self _)
  have hb4 : Below w.heap.size w (storeAt (wx.alloc V) w.heap.size k [.pointer (some ⟨wx.heap.size, 0, none⟩)]) :=
    (hbel.trans (hb3.mono hbel.size)).grown h4 (by have := hb3.size; omega) (fun k hk => by cases hk; exact Nat.le_refl _)
  refine ⟨⟨Ms ++ [wx.heap.size], _, by simp [hMl], h3, ?_, ?_⟩, hb4, by rw [show ((wx.alloc V).setCell ⟨w.heap.size, k, none⟩ (.pointer (some ⟨wx.heap.size, 0, none⟩))).heap.size = (wx.alloc V).heap.size from h5]; have := hb3.size; omega⟩
  · have hg : (Ms ++ [wx.heap.size])[k]? = some wx.heap.size := by rw [List.getElem?_append_right (by omega)]; simp [hMl]
    have ht : (Ms ++ [wx.heap.size]).take k = Ms := by rw [← hMl]; simp
    have hst := Filled.step (cs := ptrCells) (sz := 1) ptr_len (l := Ms ++ [wx.heap.size]) (k := k) (by rw [ht]; exact hfil) hg (by rw [hown.1]; omega)
    have ht' : (Ms ++ [wx.heap.size]).take (k + 1) = Ms ++ [wx.heap.size] := List.take_of_length_le (by simp [hMl])
    rw [ht', Nat.mul_one] at hst
    exact hst
  · intro i p m hi him
    by_cases hik : i < k
    · rw [List.getElem?_append_left (by omega)] at him
      exact ((hpool i p m hi him).keep hk1).keep hk2
    · have hik' : i = k := by
        by_cases h0 : i = k
        · exact h0
        · rw [List.getElem?_eq_none (by simp; omega)] at him; simp at him
      subst hik'
      rw [hp] at hi
      simp at hi
      subst hi
      rw [List.getElem?_append_right (by omega)] at him
      simp [hMl] at him
      subst him
      have hp0 : PoolAt (wx.alloc V) (w.heap.size + 1) wx.heap.size pms := by
        refine ⟨wr.heap.size, by omega, by omega, ?_, (Keep.of_below (lo := 0) (w := wx) (w' := wx.alloc V) ((Below.refl _ _).alloc (Nat.le_refl _) V)).rowAt (Nat.zero_le _) hrow⟩
        rw [hV, World.cell?_alloc_at _ _ _ _ rfl, hl]
        rfl
      exact hp0.keep hk2

theorem PInv.cell {w wr : World} {n : Nat} {ps : List Pl} {k : Nat} (h : PInv w wr n ps k) (hk : k < n) : ∃ y, wr.cell? ⟨w.heap.size, k, none⟩ = some y ∧ wr.frozen? ⟨w.heap.size, k, none⟩ = false := by
  obtain ⟨⟨Ms, xs, hMl, hown, hfil, hpool⟩, hbel, hsz⟩ := h
  obtain ⟨y, hy⟩ := ownsRow_some hown k (by omega)
  exact ⟨y, hy, hown.frozenAt k⟩

set_option maxRecDepth 100000 in
set_option maxHeartbeats 4000000 in
theorem buildPools_any (a : Option Addr) (n c : Nat) (ps : List Pl) (w : World) (h : PsOk w a n ps) (hn : n ≤ 1048576) (hm : ∀ p ∈ ps, p.n ≤ 1048576) :
    Calls Try.prog 19 #[.slice a n c] w fun r w' => r = .returned (.slice (some ⟨w.heap.size, 0, none⟩) n n) ∧ PInv w w' n ps n := by
  obtain ⟨i0, hi, hz0, hz1, hz2⟩ := info_parts Try.info98
  obtain ⟨j0, ji, jz0, jz1, jz2⟩ := info_parts Try.info97
  go_enter Try.func19, Try.ntmps19
  go_wp2_with (at_make; refine wpList_make_full _ rfl (.tmp 8) (.tmp 8) 46 rfl w.heap.size 98 i0 _ 1 Try.underlying46 hi hz0 hz1 .i64 .i64 n n n rfl rfl rfl rfl (by rw [hz2]; omega) (by unfold maxLen; omega) (Nat.le_refl _) ?_; intro w1 hown1 hgr1)
  have hst : PInv w w1 n ps 0 := ⟨⟨[], _, rfl, hown1, Filled.nil _ _ _, fun i p m _ hm => by simp at hm⟩, (Below.refl _ _).grown hgr1 (Nat.le_refl _) (fun k hk => by cases hk), (hown1.lt w.heap.size rfl).2⟩
  clear hown1 hgr1
  go_loopw [4, 5, 6] (fun i _ _ wr => ∃ k : Nat, k ≤ n ∧ i = .int .i64 k ∧ PInv w wr n ps k) (fun i _ _ _ => n - (intOf i).toNat)
  case atStart => exact ⟨0, Nat.zero_le _, rfl, hst⟩
  case round =>
    clear hst
    rename World => wo
    obtain ⟨k, hk, rfl, hinv⟩ := hrel
    by_cases hlt : k < n
    · obtain ⟨pa, pn, pc, pms, b, off, hg, rfl, c0, hp⟩ := h.get hlt
      have hpn : pn ≤ 1048576 := hm _ (List.mem_of_getElem? hg)
      have HG := hide_get hg
      clear hg
      have c0' := cell_ext hinv.bel c0
      go_wp2_with (at_make; refine wpList_make_full _ rfl (.tmp 20) (.tmp 20) 94 rfl wo.heap.size 97 j0 _ 3 Try.underlying94 ji jz0 jz1 .i64 .i64 pn pn pn rfl rfl rfl rfl (by rw [jz2]; omega) (by unfold maxLen; omega) (Nat.le_refl _) ?_; intro w2 hown2 hgr2)
      have hst2 : MInv wo w2 pn pms 0 := MInv.start hown2 hgr2
      clear hown2 hgr2 c0'
      go_loopw [6] (fun j wx => ∃ q : Nat, q ≤ pn ∧ j = .int .i64 q ∧ MInv wo wx pn pms q) (fun j _ => pn - (intOf j).toNat)
      case atStart => exact ⟨0, Nat.zero_le _, rfl, hst2⟩
      case round =>
        clear hst2
        rename World => wx
        obtain ⟨q, hq, rfl, hmi⟩ := hrel
        by_cases hlq : q < pn
        · obtain ⟨s, b', off', hg', rfl, c1⟩ := hp.get hlq
          have HG' := hide_get hg'
          clear hg'
          obtain ⟨⟨y0, hy0⟩, ⟨y1, hy1⟩, ⟨y2, hy2⟩, hfz⟩ := hmi.cells hlq
          have hbx : Below w.heap.size w wx := hinv.bel.trans (hmi.bel.mono hinv.bel.size)
          have c0' := cell_ext hbx c0
          have c1' := cell_ext hbx c1
          have hst3 := hmi.step HG'.out hlq
          have HST : Hid (MInv wo (storeAt wx wo.heap.size (q * 3) (memCells s)) pn pms (q + 1)) := hst3
          clear hst3
          go_wp2
          go_roundw
          case rel =>
            go_light
            exact ⟨q + 1, by omega, by go_num, HST.out⟩
          case measure => simp [intOf]; omega
        · have hqe : q = pn := by omega
          have hbx : Below w.heap.size w wx := hinv.bel.trans (hmi.bel.mono hinv.bel.size)
          have c0' := cell_ext hbx c0
          obtain ⟨y, hy, hyf⟩ := hinv.cell hlt
          have hy' := cell_ext hmi.bel hy
          have hyf' : wx.frozen? ⟨w.heap.size, k, none⟩ = false := (hmi.bel.frozen (p := ⟨w.heap.size, k, none⟩) (lt_of_cell hy)).trans hyf
          have hlw := lt_of_cell hy'
          subst hqe
          have hst4 := hinv.step (V := .cells #[.slice (some ⟨wo.heap.size, 0, none⟩) q q, .string ⟨#[]⟩, .slice none 0 0, .map none, .int .u64 0] 102) HG.out hp.len hlt hmi rfl
          have HST : Hid (PInv w ((wx.alloc (.cells #[.slice (some ⟨wo.heap.size, 0, none⟩) q q, .string ⟨#[]⟩, .slice none 0 0, .map none, .int .u64 0] 102)).setCell ⟨w.heap.size, k, none⟩ (.pointer (some ⟨wx.heap.size, 0, none⟩))) n ps (k + 1)) := hst4
          clear hst4 hy hyf
          go_wp2
          go_roundw
          case rel =>
            go_light
            have e := HST.out
            rw [World.setCell_alloc_past _ _ _ _ hlw] at e
            exact ⟨k + 1, by omega, by go_num, e⟩
          case measure => simp [intOf]; omega
    · go_wp2
      go_ret
      have e : k = n := by omega
      subst e
      exact ⟨rfl, hinv⟩
end Go.Proofs.Qxb6612240a
