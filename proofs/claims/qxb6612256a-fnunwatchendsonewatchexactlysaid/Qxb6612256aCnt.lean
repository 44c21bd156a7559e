import Derived.Test.Qxb6612256aCntE
import Derived.Test.Qxb6612256aCntX
import Derived.Test.Qxb6612256aCntD
import Derived.Test.Qxb6612256aCntS
namespace Go.Proofs.Qxb6612256a
open Go.RowKit Go.MapKept
open Go.ChangeMaps (setBlock)

theorem countLength_any (B hb : Nat) (cur : List Value) (v : Value) (ls : List (Int × Int)) (l k : Int) (w : World) (h : LenAt w B hb cur v ls) (hk : -5000 ≤ k ∧ k ≤ 5000) (hp2 : ∀ p ∈ ls, -5000 ≤ p.2 ∧ p.2 ≤ 5000) :
    Calls Try.prog 19 #[.pointer (some ⟨hb, 0, none⟩), .int .i64 l, .int .i64 k] w fun r w' => r = .returned (.tuple #[]) ∧ CntPost w B hb cur v (addLen ls l k) w' := by
  by_cases hex : ∃ i : Nat, i ≤ ls.length ∧ (∀ k p, k < i → ls[k]? = some p → p.1 < l) ∧ (∀ k p, i ≤ k → ls[k]? = some p → l ≤ p.1)
  · obtain ⟨i, hi, h1, h2⟩ := hex
    have huni : ∀ j : Nat, j ≤ ls.length → (∀ k p, k < j → ls[k]? = some p → p.1 < l) → (∀ k p, j ≤ k → ls[k]? = some p → l ≤ p.1) → j = i := by
      intro j hj a1 a2
      rcases Nat.lt_trichotomy j i with hlt | heq | hgt
      · obtain ⟨p, hp⟩ := get_of_lt (l := ls) rfl (show j < ls.length by omega)
        have := h1 j p hlt hp
        have := a2 j p (Nat.le_refl _) hp
        omega
      · exact heq
      · obtain ⟨p, hp⟩ := get_of_lt (l := ls) rfl (show i < ls.length by omega)
        have := a1 i p hgt hp
        have := h2 i p (Nat.le_refl _) hp
        omega
    by_cases hn : i = ls.length
    · exact cnt_E B hb cur v ls l k w h hp2 (fun j a b c => (huni j a b c).trans hn)
    · obtain ⟨p, hp⟩ := get_of_lt (l := ls) rfl (show i < ls.length by omega)
      by_cases hpl : p.1 = l
      · by_cases hz : p.2 + k = 0
        · exact cnt_D B hb cur v ls l k w h hk hp2 (fun j a b c => by have := huni j a b c; subst this; exact ⟨p, hp, hpl, hz⟩)
        · exact cnt_S B hb cur v ls l k w h hk hp2 (fun j a b c => by have := huni j a b c; subst this; exact ⟨p, hp, hpl, hz⟩)
      · exact cnt_X B hb cur v ls l k w h hp2 (fun j a b c => by have := huni j a b c; subst this; exact ⟨p, hp, hpl⟩)
  · exact cnt_E B hb cur v ls l k w h hp2 (fun j a b c => absurd ⟨j, a, b, c⟩ hex)
theorem zzCount_any (B hb : Nat) (cur : List Value) (v : Value) (ls : List (Int × Int)) (l k : Int) (w : World) (h : LenAt w B hb cur v ls) (hk : -5000 ≤ k ∧ k ≤ 5000) (hp2 : ∀ p ∈ ls, -5000 ≤ p.2 ∧ p.2 ≤ 5000) :
    Calls Try.prog 13 #[.pointer (some ⟨hb, 0, none⟩), .int .i64 l, .int .i64 k] w fun r w' => r = .returned (.tuple #[]) ∧ CntPost w B hb cur v (addLen ls l k) w' := by
  have H := hideP (countLength_any B hb cur v ls l k w h hk hp2)
  clear h hk hp2
  go_enter Try.func13, Try.ntmps13
  go_wp2_with fail
  refine H.out.mono ?_
  rintro r' w' ⟨rfl, hp⟩
  go_wp2
  go_end0
  exact ⟨rfl, hp⟩
end Go.Proofs.Qxb6612256a
