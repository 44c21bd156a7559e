import Derived.Test.Qxb6612256aCopy
import Derived.Maps.AppendAt
namespace Go.Proofs.Qxb6612256a
open Go.RowKit Go.MapKept
open Go.ChangeMaps (setBlock)

theorem Try.info80 : (Try.prog.info? 80).map (fun i => (i.zero, i.size, i.bytes)) = some (some (.agg #[.int .i64 0, .int .i64 0]), 2, 16) := by kernel_rfl
theorem info_parts {t : TypeId} {z : Value} {s b : Nat} (h : (Try.prog.info? t).map (fun i => (i.zero, i.size, i.bytes)) = some (some z, s, b)) : ∃ i, Try.prog.info? t = some i ∧ i.zero = some z ∧ i.size = s ∧ i.bytes = b := by
  cases hq : Try.prog.info? t with
  | none => rw [hq] at h; simp at h
  | some i => rw [hq] at h; simp at h; exact ⟨i, rfl, h.1, h.2.1, h.2.2⟩
def insAt (ls : List (Int × Int)) (i : Nat) (p : Int × Int) : List (Int × Int) := ls.take i ++ p :: ls.drop i

set_option maxRecDepth 100000 in
theorem insert_end (B : Nat) (v : Value) (n vb : Nat) (ls : List (Int × Int)) (p : Int × Int) (w : World) (hown : w.ownsRow B 80 2 v n (ls.flatMap lcells)) (hl : ls.length = n) (hn : n ≤ 4096) (hB : B ≤ w.heap.size)
    (c0 : w.cell? ⟨vb, 0, none⟩ = some (.int .i64 p.1)) (c1 : w.cell? ⟨vb, 1, none⟩ = some (.int .i64 p.2)) :
    Calls Try.prog 26 #[v, .int .i64 n, .slice (some ⟨vb, 0, none⟩) 1 1] w fun r w' => ∃ v', r = .returned v' ∧ w'.ownsRow B 80 2 v' (n + 1) ((insAt ls n p).flatMap lcells) ∧ w.grownBy w' v.ownBlock := by
  obtain ⟨i0, hi, hz0, hz1, hz2⟩ := info_parts Try.info80
  have hgoal : (insAt ls n p).flatMap lcells = ls.flatMap lcells ++ lcells p := by simp [insAt, ← hl]
  rw [hgoal]
  have HO := hideP hown
  obtain ⟨a, cap, hv, hcap⟩ : ∃ a cap, v = .slice a n cap ∧ n ≤ cap := by
    rcases hown.2 with ⟨rfl, rfl⟩ | ⟨g, cap, cur, rfl, _, _, h, _⟩
    · exact ⟨none, 0, rfl, Nat.le_refl _⟩
    · exact ⟨_, cap, rfl, h⟩
  subst hv
  clear hown hgoal
  have hcs : ∀ j u, (lcells p)[j]? = some u → w.cell? ((⟨vb, 0, none⟩ : Addr).add j) = some u := by
    intro j u hj
    match j, hj with
    | 0, hj => simp [lcells] at hj; subst hj; simpa [Addr.add] using c0
    | 1, hj => simp [lcells] at hj; subst hj; simpa [Addr.add] using c1
    | j + 2, hj => simp [lcells] at hj
  have h1 : ∀ u ∈ lcells p, u.oneCell' = true := by
    intro u hu
    simp [lcells] at hu
    rcases hu with rfl | rfl <;> rfl
  have hb1 : n + 1 ≤ maxLen := by unfold maxLen; omega
  have hb2 : (n + 1) * 16 ≤ 140737488355328 := by omega
  have HCS := hideP hcs
  have H1 := hideP h1
  have HB1 := hideP hb1
  have HB2 := hideP hb2
  clear hcs h1 hb1 hb2 c0 c1
  by_cases hcn : cap = n
  · subst hcn
    go_enter Try.func26, Try.ntmps26
    go_wp2_with (at_builtin; refine wpList_append_own_at _ rfl (.tmp 23) (.tmp 24) 64 rfl B 80 i0 _ 2 16 Try.underlying64 hi hz0 hz1 hz2 rfl (by decide) _ cap _ rfl HO.out ⟨vb, 0, none⟩ 1 1 (lcells p) rfl rfl HCS.out H1.out HB1.out HB2.out hB ?_; intro v' w' hown' hg' _ _)
    all_goals
      go_ret
      exact ⟨_, rfl, hown', hg'⟩
  · go_enter Try.func26, Try.ntmps26
    go_wp2_with (at_builtin; refine wpList_append_own_at _ rfl (.tmp 23) (.tmp 24) 64 rfl B 80 i0 _ 2 16 Try.underlying64 hi hz0 hz1 hz2 rfl (by decide) _ n _ rfl HO.out ⟨vb, 0, none⟩ 1 1 (lcells p) rfl rfl HCS.out H1.out HB1.out HB2.out hB ?_; intro v' w' hown' hg' _ _)
    all_goals
      go_ret
      exact ⟨_, rfl, hown', hg'⟩
end Go.Proofs.Qxb6612256a
