import Derived.Test.Qxb6612240aClos
namespace Go.Proofs.Qxb6612240a
open Go.RowKit Go.MapKept
open Go.ChangeMaps (setBlock)

/-- How many members count. -/
def cntOf (f : ByteArray → Bool) (ms : List ByteArray) : Nat := (ms.filter f).length
/-- Are they more than half of the pool? -/
def majOf (f : ByteArray → Bool) (ms : List ByteArray) : Bool := decide (ms.length < 2 * cntOf f ms)
theorem cnt_le (f : ByteArray → Bool) (ms : List ByteArray) : cntOf f ms ≤ ms.length := List.length_filter_le _ _
theorem cnt_yes {f : ByteArray → Bool} {ms : List ByteArray} {k : Nat} {x : ByteArray} (h : ms[k]? = some x) (hf : f x = true) : cntOf f (ms.take (k + 1)) = cntOf f (ms.take k) + 1 := by
  simp [cntOf, take_get h, List.filter_append, hf]
theorem cnt_no {f : ByteArray → Bool} {ms : List ByteArray} {k : Nat} {x : ByteArray} (h : ms[k]? = some x) (hf : f x = false) : cntOf f (ms.take (k + 1)) = cntOf f (ms.take k) := by
  simp [cntOf, take_get h, List.filter_append, hf]
theorem PoolAt.ext {w w' : World} {m : Nat} {ms : List ByteArray} (h : PoolAt w 0 m ms) (k : Below w.heap.size w w') : PoolAt w' 0 m ms := by
  obtain ⟨g, h1, h2, h3, h4⟩ := h
  exact ⟨g, h1, h2, cell_ext k h3, h4.ext k⟩
theorem mem_get {w : World} {g : Nat} {ms : List ByteArray} (h : RowAt w (some ⟨g, 0, none⟩) 3 memCells ms) {l : Nat} {x : ByteArray} (hx : ms[l]? = some x) :
    w.cell? ⟨g, l * 3, none⟩ = some (.string x) ∧ w.cell? ⟨g, l * 3 + 1, none⟩ = some (.string ⟨#[]⟩) ∧ w.cell? ⟨g, l * 3 + 2, none⟩ = some (.pointer none) := by
  have hc := h.at hx
  simp only [Nat.zero_add] at hc
  exact ⟨hc 0 _ rfl, hc 1 _ rfl, hc 2 _ rfl⟩

set_option maxRecDepth 100000 in
set_option maxHeartbeats 4000000 in
theorem maj_any (hv bh sb ib hb b0 m : Nat) (s : Int) (names : List ByteArray) (G : List Ent) (best : Vt) (ms : List ByteArray) (w : World) (h : ClosOk w hv bh sb ib hb s names G best)
    (hb0 : w.cell? ⟨b0, 0, none⟩ = some (.pointer (some ⟨m, 0, none⟩))) (hp : PoolAt w 0 m ms) (hms : ms.length ≤ 1048576) :
    Calls Try.prog 39 #[.slice (some ⟨b0, 0, none⟩) 1 1, .func (.func 38) #[] #[.pointer (some ⟨hv, 0, none⟩), .pointer (some ⟨sb, 0, none⟩), .pointer (some ⟨ib, 0, none⟩), .pointer (some ⟨hb, 0, none⟩)]] w fun r w' => r = .returned (.bool (majOf (mhv names G best) ms)) ∧ Below w.heap.size w w' := by
  have H : Hid (ClosOk w hv bh sb ib hb s names G best) := h
  clear h
  obtain ⟨g, _, _, hm0, hrow⟩ := hp
  obtain ⟨f, hf⟩ : ∃ f, f = mhv names G best := ⟨_, rfl⟩
  have HF : Hid (f = mhv names G best) := hf
  rw [← hf]
  clear hf
  go_enter Try.func39, Try.ntmps39
  go_wp2
  go_loopw [7, 12] (fun _ i wr => i = .int .i64 0 ∧ Below w.heap.size w wr ∨ i = .int .i64 1 ∧ Below w.heap.size w wr ∧ Hid (majOf f ms = true)) (fun _ i _ => 1 - (intOf i).toNat)
  case atStart => exact .inl ⟨rfl, Below.refl _ _⟩
  case round =>
    rename World => wo
    rcases hrel with ⟨rfl, hbo⟩ | ⟨rfl, hbo, HM⟩
    · have hb1 := cell_ext hbo hb0
      have hm1 := cell_ext hbo hm0
      go_wp2
      go_loopw [7, 21] (fun c i wr => ∃ q : Nat, q ≤ ms.length ∧ c = .int .i64 (cntOf f (ms.take q)) ∧ i = .int .i64 q ∧ Below w.heap.size w wr) (fun _ i _ => ms.length - (intOf i).toNat)
      case atStart => exact ⟨0, Nat.zero_le _, by simp [cntOf], rfl, hbo⟩
      case round =>
        rename World => wr
        obtain ⟨q, hq, rfl, rfl, hbr⟩ := hrel
        have hcl := cnt_le f (ms.take q)
        have htl : (ms.take q).length = q := by simp; omega
        by_cases hqq : q < ms.length
        · obtain ⟨x, hx⟩ := get_of_lt rfl hqq
          obtain ⟨e0, e1, e2⟩ := mem_get hrow hx
          have HX := hide_get hx
          clear hx
          have f0 := cell_ext hbr e0
          have f1 := cell_ext hbr e1
          have f2 := cell_ext hbr e2
          clear e0 e1 e2
          cases hfx : f x
          · go_wp2_with fail
            refine (clos_any hv bh sb ib hb s names G best x _ (H.out.ext (hbr.alloc hbr.size _))).mono ?_
            rintro r' w' ⟨rfl, hbw⟩
            rw [← HF.out, hfx]
            have hbz := (hbr.alloc hbr.size _).trans (hbw.mono (hbr.alloc hbr.size _).size)
            have HC : Hid (cntOf f (ms.take (q + 1)) = cntOf f (ms.take q)) := cnt_no HX.out hfx
            go_wp2
            exact ⟨⟨q + 1, by omega, by rw [HC.out], by go_num, hbz⟩, by simp [intOf]; omega⟩
          · go_wp2_with fail
            refine (clos_any hv bh sb ib hb s names G best x _ (H.out.ext (hbr.alloc hbr.size _))).mono ?_
            rintro r' w' ⟨rfl, hbw⟩
            rw [← HF.out, hfx]
            have hbz := (hbr.alloc hbr.size _).trans (hbw.mono (hbr.alloc hbr.size _).size)
            have HC : Hid (cntOf f (ms.take (q + 1)) = cntOf f (ms.take q) + 1) := cnt_yes HX.out hfx
            go_wp2
            exact ⟨⟨q + 1, by omega, by rw [HC.out]; go_num, by go_num, hbz⟩, by simp [intOf]; omega⟩
        · have e : ms.take q = ms := List.take_of_length_le (by omega)
          have hm2 := cell_ext hbr hm0
          simp only [e] at hcl htl ⊢
          by_cases hmj : ms.length < 2 * cntOf f ms
          · have HM : Hid (majOf f ms = true) := by show _ = _; simp [majOf, hmj]
            go_wp2
            exact ⟨.inr ⟨rfl, hbr, HM⟩, by simp [intOf]⟩
          · have HM : Hid (majOf f ms = false) := by show _ = _; simp [majOf, hmj]
            go_wp2
            go_ret
            rw [HM.out]
            exact ⟨rfl, hbr⟩
    · go_wp2
      go_ret
      rw [HM.out]
      exact ⟨rfl, hbo⟩
end Go.Proofs.Qxb6612240a
