import Derived.Test.Qxb6609474aName
namespace Go.Proofs.Qxb6609474a
open Go.RowKit

set_option maxHeartbeats 400000 in
theorem law_any (c : Int) (w : World) :
    Calls Try.prog 4 #[.int .u8 c] w fun r w' => r = .returned (.bool true) ∧ Grown w w' := by
  cases hc : alB c
  · go_enter Try.func4, Try.ntmps4
    go_wp2_with fail
    refine (inal_any _ _).mono ?_
    rintro r w' ⟨rfl, rfl⟩
    go_wp2_with fail
    refine (zz_of _ _ _ _ (two_no _ c _ ?_ hc)).mono ?_
    · go_simp
    rintro r w' ⟨rfl, rfl⟩
    go_wp2_with fail
    refine (zz_of _ _ _ _ (three_no _ 45 c _ ?_ ?_ (.inl rfl) hc)).mono ?_
    · go_simp
    · go_simp
    rintro r w' ⟨rfl, rfl⟩
    go_wp2_with fail
    refine (zz_of _ _ _ _ (three_no _ 58 c _ ?_ ?_ (.inr rfl) hc)).mono ?_
    · go_simp
    · go_simp
    rintro r w' ⟨rfl, rfl⟩
    go_wp2_with fail
    refine (zzalnum_any _ _).mono ?_
    rintro r w' ⟨rfl, rfl⟩
    go_wp2
    go_ret
    exact ⟨rfl, by repeat (first | exact Grown.refl _ | apply Grown.drew | apply Grown.alloc)⟩
  · go_enter Try.func4, Try.ntmps4
    go_wp2_with fail
    refine (inal_any _ _).mono ?_
    rintro r w' ⟨rfl, rfl⟩
    go_wp2_with fail
    refine (zz_of _ _ _ _ (two_yes _ c _ ?_ hc)).mono ?_
    · go_simp
    rintro r w' ⟨rfl, rfl⟩
    go_wp2_with fail
    refine (zz_of _ _ _ _ (three_yes _ 45 c _ ?_ ?_ (.inl rfl) hc)).mono ?_
    · go_simp
    · go_simp
    rintro r w' ⟨rfl, rfl⟩
    go_wp2_with fail
    refine (zz_of _ _ _ _ (three_yes _ 58 c _ ?_ ?_ (.inr rfl) hc)).mono ?_
    · go_simp
    · go_simp
    rintro r w' ⟨rfl, rfl⟩
    go_wp2_with fail
    refine (zzalnum_any _ _).mono ?_
    rintro r w' ⟨rfl, rfl⟩
    go_wp2
    go_ret
    exact ⟨rfl, by repeat (first | exact Grown.refl _ | apply Grown.drew | apply Grown.alloc)⟩
end Go.Proofs.Qxb6609474a
