import Derived.Test.Qxb6612256aBase
namespace Go.Proofs.Qxb6612256a
open Go.RowKit Go.MapKept

/-- A group as it comes in. -/
structure Gr where
  key : ByteArray
  pre : Bool
  wn : Int
def Gr.cells (g : Gr) : List Value := [.string g.key, .bool g.pre, .int .i64 g.wn]
structure GsOk (w : World) (a : Option Addr) (n : Nat) (gs : List Gr) : Prop where
  row : RowAt w a 3 Gr.cells gs
  len : gs.length = n
  max : n ≤ maxLen
  wf : ∀ g ∈ gs, -9223372036854775808 ≤ g.wn ∧ g.wn ≤ 9223372036854775807
  str : ∀ g ∈ gs, g.key.size ≤ maxLen
theorem GsOk.ext {w w' : World} {a : Option Addr} {n : Nat} {gs : List Gr} (h : GsOk w a n gs) (k : Below w.heap.size w w') : GsOk w' a n gs := ⟨h.row.ext k, h.len, h.max, h.wf, h.str⟩
theorem GsOk.n_max {w : World} {a : Option Addr} {n : Nat} {gs : List Gr} (h : GsOk w a n gs) : n ≤ 9223372036854775807 := h.max
theorem GsOk.get {w : World} {a : Option Addr} {n k : Nat} {gs : List Gr} (h : GsOk w a n gs) (hk : k < n) :
    ∃ g b off, gs[k]? = some g ∧ a = some ⟨b, off, none⟩ ∧ w.cell? ⟨b, off + k * 3, none⟩ = some (.string g.key) ∧ w.cell? ⟨b, off + k * 3 + 1, none⟩ = some (.bool g.pre) ∧ w.cell? ⟨b, off + k * 3 + 2, none⟩ = some (.int .i64 g.wn) ∧ g.key.size ≤ 9223372036854775807 := by
  obtain ⟨g, hg⟩ := get_of_lt h.len hk
  obtain ⟨b, off, e, hc⟩ := h.row k _ hg
  exact ⟨g, b, off, hg, e, hc 0 _ rfl, hc 1 _ rfl, hc 2 _ rfl, h.str _ (List.mem_of_getElem? hg)⟩

/-- A bool comes back; if it is 'bo' then p. -/
def Says (r : Ending) (bo : Bool) (p : Prop) : Prop := ∃ b, r = .returned (.bool b) ∧ (b = bo → p)
theorem says_other (bo : Bool) (p : Prop) : Says (.returned (.bool (!bo))) bo p := ⟨!bo, rfl, fun h => by cases bo <;> cases h⟩
theorem says_it {bo : Bool} {p : Prop} (h : p) : Says (.returned (.bool bo)) bo p := ⟨bo, rfl, fun _ => h⟩

theorem zzBytes_any (a : Option Addr) (n c : Nat) (gs : List Gr) (pick : Int) (w : World) (h : GsOk w a n gs) :
    Calls Try.prog 4 #[.slice a n c, .int .i64 pick] w fun r w' => Says r true True ∧ w = w' := by
  have hn := h.n_max
  by_cases h0 : (n : Int) ≤ 1048576
  · go_enter Try.func4, Try.ntmps4
    go_wp2
    go_loopw [5, 6] (fun z i wr => ∃ (x : Int) (k : Nat), k ≤ n ∧ z = .int .i64 x ∧ i = .int .i64 k ∧ w = wr) (fun _ i _ => n - (intOf i).toNat)
    case atStart => exact ⟨_, 0, Nat.zero_le _, rfl, rfl, rfl⟩
    case round =>
      obtain ⟨x, k, hk, rfl, rfl, rfl⟩ := hrel
      by_cases hlt : k < n
      · obtain ⟨g, b, off, hg, rfl, c0, c1, c2, hks⟩ := h.get hlt
        clear hg
        by_cases h1 : 1048576 < (g.key.size : Int)
        · go_wp2
          go_ret
          exact ⟨says_other true True, rfl⟩
        · by_cases h2 : 1048576 < wrap64 (x + g.key.size)
          · go_wp2
            go_ret
            exact ⟨says_other true True, rfl⟩
          · go_wp2
            exact ⟨⟨_, k + 1, by omega, rfl, by go_num, trivial⟩, by simp [intOf]; omega⟩
      · go_wp2
        go_ret
        exact ⟨says_it trivial, rfl⟩
  · have h0' : 1048576 < (n : Int) := by omega
    clear h0
    go_enter Try.func4, Try.ntmps4
    go_wp2
    go_ret
    exact ⟨says_other true True, rfl⟩

theorem tooBig_any (a : Option Addr) (n c : Nat) (gs : List Gr) (w : World) (h : GsOk w a n gs) :
    Calls Try.prog 5 #[.slice a n c] w fun r w' => Says r false (n ≤ 4096 ∧ ∀ g ∈ gs, g.key.size ≤ 1048576) ∧ w = w' := by
  have hn := h.n_max
  have HL := hideP h.len
  by_cases h0 : (n : Int) ≤ 4096
  · go_enter Try.func5, Try.ntmps5
    go_wp2
    go_loopw [3, 4] (fun z i wr => ∃ (x : Int) (k : Nat), k ≤ n ∧ z = .int .i64 x ∧ i = .int .i64 k ∧ w = wr ∧ Hid (∀ g ∈ gs.take k, g.key.size ≤ 1048576)) (fun _ i _ => n - (intOf i).toNat)
    case atStart => exact ⟨0, 0, Nat.zero_le _, rfl, rfl, rfl, fun g hg => by simp at hg⟩
    case round =>
      obtain ⟨x, k, hk, rfl, rfl, rfl, HA⟩ := hrel
      by_cases hlt : k < n
      · obtain ⟨g, b, off, hg, rfl, c0, c1, c2, hks⟩ := h.get hlt
        have HG := hide_get hg
        clear hg
        by_cases h1 : 1048576 < (g.key.size : Int)
        · go_wp2
          go_ret
          exact ⟨says_other false _, rfl⟩
        · have HS : Hid (∀ g ∈ gs.take (k + 1), g.key.size ≤ 1048576) := by
            intro g' hg'
            rw [take_get HG.out] at hg'
            rcases List.mem_append.1 hg' with h' | h'
            · exact HA.out g' h'
            · simp at h'; subst h'; omega
          by_cases h2 : 1048576 < wrap64 (x + (24 + g.key.size))
          · go_wp2
            go_ret
            exact ⟨says_other false _, rfl⟩
          · go_wp2
            exact ⟨⟨_, k + 1, by omega, rfl, by go_num, trivial, HS⟩, by simp [intOf]; omega⟩
      · have e : gs.take k = gs := List.take_of_length_le (by have := HL.out; omega)
        rw [e] at HA
        go_wp2
        go_ret
        exact ⟨says_it ⟨by omega, HA.out⟩, rfl⟩
  · have h0' : 4096 < (n : Int) := by omega
    clear h0
    go_enter Try.func5, Try.ntmps5
    go_wp2
    go_ret
    exact ⟨says_other false _, rfl⟩
theorem drew_more (w : World) (d n : Nat) : ∃ e, (w.drewN d).drewN n = w.drewN e := ⟨d + n, by simp [World.drewN, Nat.add_assoc]⟩

theorem toList_inj {a b : ByteArray} (h : a.toList = b.toList) : a = b := by
  rw [ByteArray.toList_eq, ByteArray.toList_eq] at h
  exact ByteArray.ext (Array.toList_inj.mp h)
/-- What a group follows. -/
def Gr.filt (g : Gr) : ByteArray × Bool := (g.key, g.pre)
def Distinct (gs : List Gr) : Prop := ∀ (i j : Nat) (g g' : Gr), i < j → gs[i]? = some g → gs[j]? = some g' → g.filt ≠ g'.filt
def WellTo (gs : List Gr) (k : Nat) : Prop := ∀ (j : Nat) (g' : Gr), j < k → gs[j]? = some g' → 1 ≤ g'.wn ∧ ∀ (i : Nat) (g : Gr), i < j → gs[i]? = some g → g.filt ≠ g'.filt

set_option maxRecDepth 100000 in
theorem wellFormed_any (a : Option Addr) (n c : Nat) (gs : List Gr) (w : World) (h : GsOk w a n gs) (hn : n ≤ 4096) :
    Calls Try.prog 6 #[.slice a n c] w fun r w' => Says r true ((∀ g ∈ gs, 1 ≤ g.wn) ∧ Distinct gs) ∧ ∃ d, w' = w.drewN d := by
  have HL := hideP h.len
  go_enter Try.func6, Try.ntmps6
  go_wp2
  go_loopw [3, 4] (fun i _ wr => ∃ k : Nat, k ≤ n ∧ i = .int .i64 k ∧ Hid (WellTo gs k) ∧ ∃ d, wr = w.drewN d) (fun i _ _ => n - (intOf i).toNat)
  case atStart => exact ⟨0, Nat.zero_le _, rfl, fun j g' hj => absurd hj (Nat.not_lt_zero _), 0, rfl⟩
  case round =>
    obtain ⟨k, hk, rfl, HA, d, rfl⟩ := hrel
    by_cases hlt : k < n
    · obtain ⟨g, b, off, hg, rfl, c0, c1, c2, hks⟩ := h.get hlt
      have HG := hide_get hg
      clear hg
      by_cases h1 : g.wn < 1
      · go_wp2
        go_ret
        exact ⟨says_other true _, d, rfl⟩
      · have H1 : Hid (1 ≤ g.wn) := by show _ ≤ _; omega
        go_wp2
        go_loopw [4] (fun j wx => ∃ q : Nat, q ≤ k ∧ j = .int .i64 q ∧ Hid (∀ (i : Nat) (g' : Gr), i < q → gs[i]? = some g' → g'.filt ≠ g.filt) ∧ ∃ d, wx = w.drewN d) (fun j _ => k - (intOf j).toNat)
        case atStart => exact ⟨0, Nat.zero_le _, rfl, fun i g' hi => absurd hi (Nat.not_lt_zero _), d, rfl⟩
        case round =>
          obtain ⟨q, hq, rfl, HB, e, rfl⟩ := hrel
          by_cases hlq : q < k
          · obtain ⟨g2, b', off', hg2, hab, d0, d1, d2, hks2⟩ := h.get (show q < n by omega)
            simp only [Option.some.injEq, Addr.mk.injEq, and_true] at hab
            obtain ⟨rfl, rfl⟩ := hab
            have HG2 := hide_get hg2
            clear hg2
            by_cases hkey : g2.key.toList = g.key.toList
            · have hkb : (g2.key.toList == g.key.toList) = true := by simpa using hkey
              by_cases hpre : g2.pre = g.pre
              · have hpb : (g2.pre == g.pre) = true := by simpa using hpre
                go_wp2
                go_quiet (fail)
                go_wp2
                go_ret
                exact ⟨says_other true _, drew_more _ _ _⟩
              · have hpb : (g2.pre == g.pre) = false := by simpa using hpre
                have HN : Hid (g2.filt ≠ g.filt) := fun e => hpre (congrArg Prod.snd e)
                go_wp2
                go_quiet (fail)
                go_wp2
                refine ⟨⟨q + 1, by omega, by go_num, ?_, _, rfl⟩, by simp [intOf]; omega⟩
                intro i g' hi hg'
                by_cases hiq : i < q
                · exact HB.out i g' hiq hg'
                · have : i = q := by omega
                  subst this
                  rw [HG2.out] at hg'
                  rw [← Option.some.inj hg']
                  exact HN.out
            · have hkb : (g2.key.toList == g.key.toList) = false := by simpa using hkey
              have HN : Hid (g2.filt ≠ g.filt) := fun e => hkey (by rw [show g2.key = g.key from congrArg Prod.fst e])
              go_wp2
              go_quiet (fail)
              go_wp2
              refine ⟨⟨q + 1, by omega, by go_num, ?_, _, rfl⟩, by simp [intOf]; omega⟩
              intro i g' hi hg'
              by_cases hiq : i < q
              · exact HB.out i g' hiq hg'
              · have : i = q := by omega
                subst this
                rw [HG2.out] at hg'
                rw [← Option.some.inj hg']
                exact HN.out
          · have hqk : q = k := by omega
            subst hqk
            go_wp2
            refine ⟨⟨q + 1, by omega, by go_num, ?_, e, rfl⟩, by simp [intOf]; omega⟩
            intro j g' hj hg'
            by_cases hjq : j < q
            · exact HA.out j g' hjq hg'
            · have : j = q := by omega
              subst this
              rw [HG.out] at hg'
              rw [← Option.some.inj hg']
              exact ⟨H1.out, HB.out⟩
    · have hkn : k = n := by omega
      subst hkn
      have HD : Hid ((∀ g ∈ gs, 1 ≤ g.wn) ∧ Distinct gs) := by
        refine ⟨fun g hg => ?_, fun i j g g' hij hi hj => ?_⟩
        · obtain ⟨j, hj⟩ := List.getElem?_of_mem hg
          exact (HA.out j g (by have := (List.getElem?_eq_some_iff.1 hj).1; have := HL.out; omega) hj).1
        · exact (HA.out j g' (by have := (List.getElem?_eq_some_iff.1 hj).1; have := HL.out; omega) hj).2 i g hij hi
      go_wp2
      go_ret
      exact ⟨says_it HD.out, d, rfl⟩
end Go.Proofs.Qxb6612256a
