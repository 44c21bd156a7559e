import Derived.Test.Qxb6612256aSmall
namespace Go.Proofs.Qxb6612256a
open Go.RowKit Go.MapKept
open Go.ChangeMaps (setBlock)

/-- What the closure reads. -/
structure SeeOk (w : World) (hv lv hb : Nat) (a : Option Addr) (n c : Nat) (ls : List (Int × Int)) (l : Int) : Prop where
  var : w.cell? ⟨hv, 0, none⟩ = some (.pointer (some ⟨hb, 0, none⟩))
  len : w.cell? ⟨lv, 0, none⟩ = some (.int .i64 l)
  sl : w.cell? ⟨hb, 27, none⟩ = some (.slice a n c)
  row : RowAt w a 2 lcells ls
  n_eq : ls.length = n
  small : n ≤ 4096
theorem SeeOk.ext {w w' : World} {hv lv hb : Nat} {a : Option Addr} {n c : Nat} {ls : List (Int × Int)} {l : Int} (h : SeeOk w hv lv hb a n c ls l) (k : Below w.heap.size w w') : SeeOk w' hv lv hb a n c ls l :=
  ⟨cell_ext k h.var, cell_ext k h.len, cell_ext k h.sl, h.row.ext k, h.n_eq, h.small⟩

theorem clos_any (hv lv hb : Nat) (a : Option Addr) (n c : Nat) (ls : List (Int × Int)) (l : Int) (k : Nat) (p : Int × Int) (w : World) (h : SeeOk w hv lv hb a n c ls l) (hp : ls[k]? = some p) :
    Calls Try.prog 25 #[.int .i64 k, .pointer (some ⟨hv, 0, none⟩), .pointer (some ⟨lv, 0, none⟩)] w fun r w' => r = .returned (.bool (decide (l ≤ p.1))) ∧ ∃ d, w' = w.drewN d := by
  obtain ⟨h1, h2, h3, hr, hn, hs⟩ := h
  obtain ⟨b, off, rfl, _⟩ := hr k p hp
  have c0 : w.cell? ⟨b, off + k * 2, none⟩ = some (.int .i64 p.1) := hr.at hp 0 _ rfl
  have hk : (k : Int) < (n : Int) := by have := (List.getElem?_eq_some_iff.1 hp).1; omega
  clear hr hp hn
  go_enter Try.func25, Try.ntmps25
  go_wp2
  go_quiet (fail)
  go_wp2
  go_ret
  exact ⟨rfl, _, rfl⟩

set_option maxRecDepth 100000 in
theorem search_any (hv lv hb : Nat) (a : Option Addr) (n c : Nat) (ls : List (Int × Int)) (l : Int) (w : World) (h : SeeOk w hv lv hb a n c ls l) (hasc : ls.Pairwise fun p q => p.1 < q.1) :
    Calls Try.prog 24 #[.int .i64 n, .func (.func 25) #[] #[.pointer (some ⟨hv, 0, none⟩), .pointer (some ⟨lv, 0, none⟩)]] w fun r w' => (∃ i : Nat, r = .returned (.int .i64 i) ∧ i ≤ n ∧ (∀ k p, k < i → ls[k]? = some p → p.1 < l) ∧ (∀ k p, i ≤ k → ls[k]? = some p → l ≤ p.1)) ∧ ∃ d, w' = w.drewN d := by
  have H := hideP h
  have HA := hideP hasc
  have hs := h.small
  have HN := hideP h.n_eq
  clear h hasc
  go_enter Try.func24, Try.ntmps24
  go_wp2
  go_loopw [5, 6, 7] (fun i j _ wr => ∃ x y : Nat, x ≤ y ∧ y ≤ n ∧ i = .int .i64 x ∧ j = .int .i64 y ∧ Hid (∀ (k : Nat) (p : Int × Int), k < x → ls[k]? = some p → p.1 < l) ∧ Hid (∀ (k : Nat) (p : Int × Int), y ≤ k → ls[k]? = some p → l ≤ p.1) ∧ ∃ d, wr = w.drewN d) (fun i j _ _ => (intOf j).toNat - (intOf i).toNat)
  case atStart => exact ⟨0, n, Nat.zero_le _, Nat.le_refl _, rfl, rfl, fun k p hk => absurd hk (Nat.not_lt_zero _), fun k p hk hp => by have := (List.getElem?_eq_some_iff.1 hp).1; have := HN.out; omega, 0, rfl⟩
  case round =>
    obtain ⟨x, y, hxy, hyn, rfl, rfl, HX, HY, d, rfl⟩ := hrel
    by_cases hlt : x < y
    · obtain ⟨m, hm, hxm, hmy⟩ : ∃ m : Nat, ((x : Int) + y) / 2 = m ∧ x ≤ m ∧ m < y := ⟨(x + y) / 2, by omega, by omega, by omega⟩
      obtain ⟨p, hp⟩ := get_of_lt HN.out (show m < n by omega)
      have HP := hide_get hp
      clear hp
      by_cases hlp : l ≤ p.1
      · have HYS : Hid (∀ (k : Nat) (q : Int × Int), m ≤ k → ls[k]? = some q → l ≤ q.1) := by
          intro k q hk hq
          rcases Nat.lt_or_eq_of_le hk with hlt' | rfl
          · obtain ⟨a1, a2⟩ := List.getElem?_eq_some_iff.1 HP.out
            obtain ⟨b1, b2⟩ := List.getElem?_eq_some_iff.1 hq
            have := List.pairwise_iff_getElem.1 HA.out m k a1 b1 hlt'
            rw [a2, b2] at this
            omega
          · rw [HP.out] at hq
            rw [← Option.some.inj hq]
            exact hlp
        go_wp2_with fail
        refine (clos_any hv lv hb a n c ls l m p _ (H.out.ext (Below.draws _ _)) HP.out).mono ?_
        rintro r' w' ⟨rfl, d2, rfl⟩
        go_wp2
        exact ⟨⟨x, m, hxm, by omega, rfl, rfl, HX, HYS, _, rfl⟩, by simp [intOf]; omega⟩
      · have hlb : decide (l ≤ p.1) = false := by simpa using hlp
        have HXS : Hid (∀ (k : Nat) (q : Int × Int), k < m + 1 → ls[k]? = some q → q.1 < l) := by
          intro k q hk hq
          rcases Nat.lt_or_eq_of_le (Nat.le_of_lt_succ hk) with hlt' | rfl
          · obtain ⟨a1, a2⟩ := List.getElem?_eq_some_iff.1 HP.out
            obtain ⟨b1, b2⟩ := List.getElem?_eq_some_iff.1 hq
            have := List.pairwise_iff_getElem.1 HA.out k m b1 a1 hlt'
            rw [a2, b2] at this
            omega
          · rw [HP.out] at hq
            rw [← Option.some.inj hq]
            omega
        go_wp2_with fail
        refine (clos_any hv lv hb a n c ls l m p _ (H.out.ext (Below.draws _ _)) HP.out).mono ?_
        rintro r' w' ⟨rfl, d2, rfl⟩
        rw [hlb]
        go_wp2
        exact ⟨⟨m + 1, y, by omega, hyn, by go_num, rfl, HXS, HY, _, rfl⟩, by simp [intOf]; omega⟩
    · have hxe : x = y := by omega
      subst hxe
      go_wp2
      go_ret
      exact ⟨⟨x, rfl, hyn, HX.out, HY.out⟩, d, rfl⟩
end Go.Proofs.Qxb6612256a
