import Derived.Test.Qxb6612240aRowOwn
namespace Go.Proofs.Qxb6612240a
open Go.RowKit

/-- The slots in the order of their first entry. -/
def addSlot (out : List Int) (s : Int) : List Int := if out.contains s then out else out ++ [s]
def slotsOf (es : List Ent) : List Int := es.foldl (fun o e => addSlot o e.v.slot) []
theorem slotsOf_succ {es : List Ent} {k : Nat} {e : Ent} (h : es[k]? = some e) : slotsOf (es.take (k + 1)) = addSlot (slotsOf (es.take k)) e.v.slot := by
  simp [slotsOf, take_get h, List.foldl_append]
theorem addSlot_len (o : List Int) (s : Int) : (addSlot o s).length ≤ o.length + 1 := by unfold addSlot; split <;> simp
theorem slotsOf_len (es : List Ent) : (slotsOf es).length ≤ es.length := by
  have h : ∀ (es : List Ent) (o : List Int), (es.foldl (fun o e => addSlot o e.v.slot) o).length ≤ o.length + es.length := by
    intro es
    induction es with
    | nil => intro o; simp
    | cons e es ih => intro o; have := ih (addSlot o e.v.slot); have := addSlot_len o e.v.slot; simp only [List.foldl_cons, List.length_cons]; omega
  simpa [slotsOf] using h es []
/-- 'is it among the first j?' -/
def seenTo (out : List Int) (s : Int) (j : Nat) : Bool := (out.take j).contains s
theorem seenTo_zero (out : List Int) (s : Int) : seenTo out s 0 = false := by simp [seenTo]
theorem seenTo_yes {out : List Int} {s x : Int} {j : Nat} (h : out[j]? = some x) (hx : x = s) : seenTo out s (j + 1) = true := by
  simp [seenTo, take_get h, hx]
theorem seenTo_no {out : List Int} {s x : Int} {j : Nat} (h : out[j]? = some x) (hx : ¬ x = s) : seenTo out s (j + 1) = seenTo out s j := by
  have : ¬ s = x := fun e => hx e.symm
  simp [seenTo, take_get h, this]
theorem seenTo_all {out : List Int} {s : Int} {j : Nat} (h : ¬ j < out.length) : seenTo out s j = out.contains s := by
  simp only [seenTo]; rw [List.take_of_length_le (by omega)]
theorem addSlot_yes {out : List Int} {s : Int} (h : out.contains s = true) : addSlot out s = out := by simp only [addSlot, h, if_true]
theorem addSlot_no {out : List Int} {s : Int} (h : out.contains s = false) : addSlot out s = out ++ [s] := by unfold addSlot; rw [h]; rfl

theorem Try.info48 : (Try.prog.info? 48).map (fun i => (i.zero, i.size, i.bytes)) = some (some (.int .u64 0), 1, 8) := by kernel_rfl

theorem Ent.len (x : Ent) : x.cells.length = 10 := rfl
theorem u64_len (x : Int) : (u64Cells x).length = 1 := rfl

/-- THE STEP: one slot more. -/
theorem slot_append {ops : Array Oper} {rest : List Oper} {o : Oper} {a : Act} {wr : World} {Q : Exit → Act → World → Prop} {B : Nat} {E : List Int} {v : Value}
    (hown : wr.ownsRow B 48 1 v E.length (E.flatMap u64Cells)) (x : Int) (hb : E.length + 1 ≤ 1048576) (hB : B ≤ wr.heap.size)
    (hg : o.guard = none) (hop : o.op = Op.call { callee := Callee.builtin Builtin.append, args := #[.tmp 32, .tmp 39], argTypes := #[40, 40] })
    (hs : a.eval (.tmp 32) = v) (hx : a.eval (.tmp 39) = .slice (some ⟨wr.heap.size, 0, none⟩) 1 1)
    (hK : ∀ v' w', Hid (w'.ownsRow B 48 1 v' (E ++ [x]).length ((E ++ [x]).flatMap u64Cells)) → (∀ w0, Below B w0 wr → Below B w0 w') → wpList Try.prog ops Q rest (a.put o.dst v') w') :
    wpList Try.prog ops Q (o :: rest) a (wr.alloc (.cells #[.int .u64 x] 48)) := by
  obtain ⟨i0, hi, hz0, hz1, hz2⟩ := info_parts Try.info48
  refine wpList_append_own_at _ hg (.tmp 32) (.tmp 39) 40 hop B 48 i0 _ 1 8 Try.underlying40 hi hz0 hz1 hz2 rfl (by decide) v E.length (E.flatMap u64Cells) hs (hown.alloc _) ⟨wr.heap.size, 0, none⟩ 1 1 (u64Cells x) hx rfl (new_cells wr (u64Cells x) 48) ?_ ?_ ?_ ?_ ?_
  · intro u hu; simp [u64Cells] at hu; subst hu; rfl
  · unfold maxLen; omega
  · omega
  · simp; omega
  · intro v' w' h1 h2 _ _
    refine hK v' w' ?_ fun w0 h0 => ?_
    · rw [flatMap_snoc]; simpa [Hid] using h1
    · exact (h0.alloc hB _).grown h2 (by simp; omega) (fun k hk => (hown.lt k hk).1)

set_option maxRecDepth 100000 in
set_option maxHeartbeats 4000000 in
theorem slots_any (a : Option Addr) (n c : Nat) (es : List Ent) (w : World) (h : RowAt w a 10 Ent.cells es) (hl : es.length = n) (hn : n ≤ 1048576) :
    Calls Try.prog 16 #[.slice a n c] w fun r w' => ∃ v, r = .returned v ∧ w'.ownsRow w.heap.size 48 1 v (slotsOf es).length ((slotsOf es).flatMap u64Cells) ∧ Below w.heap.size w w' := by
  have HL : Hid (es.length = n) := hl
  clear hl
  go_enter Try.func16, Try.ntmps16
  go_wp2
  go_loopw [3, 4, 5, 6] (fun v i _ _ wr => ∃ k : Nat, k ≤ n ∧ i = .int .i64 k ∧ Hid (wr.ownsRow w.heap.size 48 1 v (slotsOf (es.take k)).length ((slotsOf (es.take k)).flatMap u64Cells)) ∧ Below w.heap.size w wr) (fun _ i _ _ _ => n - (intOf i).toNat)
  case atStart => exact ⟨0, Nat.zero_le _, rfl, World.ownsRow_nil _ _ _ _, Below.refl _ _⟩
  case round =>
    obtain ⟨k, hk, rfl, hown, hbel⟩ := hrel
    by_cases hlt : k < n
    · obtain ⟨x, hx⟩ := get_of_lt HL.out hlt
      have HX := hide_get hx
      obtain ⟨b, off, rfl, hc⟩ := h k x hx
      have c0 : w.cell? ⟨b, off + k * 10 + 2, none⟩ = some (.int .u64 x.v.slot) := hc 2 _ rfl
      clear hc hx
      have c0' := cell_ext hbel c0
      obtain ⟨ao, cap, hv, hrow⟩ := ownsRow_rowAt u64Cells u64_len hown.out
      subst hv
      have hol : (slotsOf (es.take k)).length ≤ k := Nat.le_trans (slotsOf_len _) (List.length_take_le _ _)
      obtain ⟨out, hout⟩ : ∃ out, out = slotsOf (es.take k) := ⟨_, rfl⟩
      rw [← hout] at hown hrow hol
      have HO : Hid (out = slotsOf (es.take k)) := hout
      rw [← hout]
      clear hout
      go_wp2
      go_loopw [5, 6] (fun sn j wx => ∃ q : Nat, q ≤ out.length ∧ j = .int .i64 q ∧ sn = .bool (seenTo out x.v.slot q) ∧ ∃ d, wx = wr.drewN d) (fun _ j _ => out.length - (intOf j).toNat)
      case atStart => exact ⟨0, Nat.zero_le _, rfl, by rw [seenTo_zero], 0, rfl⟩
      case round =>
        obtain ⟨q, hq, rfl, rfl, d, rfl⟩ := hrel
        by_cases hlq : q < out.length
        · obtain ⟨y, hy⟩ := get_of_lt rfl hlq
          have HY := hide_get hy
          obtain ⟨g, off', rfl, hc⟩ := hrow q y hy
          have d0 : wr.cell? ⟨g, off' + q, none⟩ = some (.int .u64 y) := by simpa using hc 0 _ rfl
          clear hc hy
          by_cases hs : y = x.v.slot
          · have hsb : (y == x.v.slot) = true := by simpa using hs
            have HS : Hid (y = x.v.slot) := hs
            clear hs
            go_wp2
            go_quiet (fail)
            go_wp2
            exact ⟨⟨q + 1, by omega, by go_num, by rw [seenTo_yes HY.out HS.out], _, rfl⟩, by simp [intOf]; omega⟩
          · have hsb : (y == x.v.slot) = false := by simpa using hs
            have HS : Hid (¬ y = x.v.slot) := hs
            clear hs
            go_wp2
            go_quiet (fail)
            go_wp2
            exact ⟨⟨q + 1, by omega, by go_num, by rw [seenTo_no HY.out HS.out], _, rfl⟩, by simp [intOf]; omega⟩
        · have hst := seenTo_all (s := x.v.slot) hlq
          rw [hst]
          clear hst
          have hwn : (wr.drewN d).ownsRow w.heap.size 48 1 (.slice ao out.length cap) out.length (out.flatMap u64Cells) := hown.out
          have hbn : Below w.heap.size w (wr.drewN d) := below_drewN hbel d
          have hcn := cell_ext hbn c0
          clear hown hbel c0' hrow
          generalize wr.drewN d = wz at hwn hbn hcn ⊢
          have HW : Hid (wz.ownsRow w.heap.size 48 1 (.slice ao out.length cap) out.length (out.flatMap u64Cells)) := hwn
          clear hwn
          have hbs := hbn.size
          cases hct : out.contains x.v.slot
          · have HC : Hid (out.contains x.v.slot = false) := hct
            clear hct
            go_wp2_with (at_builtin; refine slot_append HW.out x.v.slot (by omega) hbs rfl rfl rfl rfl ?_; intro v' w' hown' hbel')
            go_roundw
            case rel =>
              go_light
              exact ⟨k + 1, by omega, by go_num, by rw [slotsOf_succ HX.out, ← HO.out, addSlot_no HC.out]; exact hown', hbel' _ hbn⟩
            case measure => simp [intOf]; omega
          · have HC : Hid (out.contains x.v.slot = true) := hct
            clear hct
            go_wp2
            go_roundw
            case rel =>
              go_light
              exact ⟨k + 1, by omega, by go_num, by rw [slotsOf_succ HX.out, ← HO.out, addSlot_yes HC.out]; exact HW, hbn⟩
            case measure => simp [intOf]; omega
    · go_wp2
      go_ret
      refine ⟨_, rfl, ?_, hbel⟩
      have e : es.take k = es := List.take_of_length_le (by have := HL.out; omega)
      rw [e] at hown
      exact hown
end Go.Proofs.Qxb6612240a
