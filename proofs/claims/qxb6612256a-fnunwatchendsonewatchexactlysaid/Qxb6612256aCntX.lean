import Derived.Test.Qxb6612256aCnt1
namespace Go.Proofs.Qxb6612256a
open Go.RowKit Go.MapKept
open Go.ChangeMaps (setBlock)

set_option maxHeartbeats 20000000 in
set_option maxRecDepth 100000 in
theorem cnt_X (B hb : Nat) (cur : List Value) (v : Value) (ls : List (Int × Int)) (l k : Int) (w : World) (h : LenAt w B hb cur v ls)
    (hp2 : ∀ p ∈ ls, -5000 ≤ p.2 ∧ p.2 ≤ 5000)
    (hcase : ∀ i : Nat, i ≤ ls.length → (∀ k p, k < i → ls[k]? = some p → p.1 < l) → (∀ k p, i ≤ k → ls[k]? = some p → l ≤ p.1) → ∃ p, ls[i]? = some p ∧ p.1 ≠ l) :
    Calls Try.prog 19 #[.pointer (some ⟨hb, 0, none⟩), .int .i64 l, .int .i64 k] w fun r w' => r = .returned (.tuple #[]) ∧ CntPost w B hb cur v (addLen ls l k) w' := by
  have H := hideP h
  obtain ⟨a, cap, rfl⟩ : ∃ a cap, v = .slice a ls.length cap := by
    obtain ⟨a, cap, h1, _⟩ := ownsRow_rowAt lcells l_len h.own
    exact ⟨a, cap, h1⟩
  have hsee : ∀ w' : World, Below w.heap.size w w' → w'.heap[w.heap.size]? = some (.cells #[.pointer (some ⟨hb, 0, none⟩)] 25 (0, 0)) → w'.heap[w.heap.size + 1]? = some (.cells #[.int .i64 l] 3 (0, 0)) → SeeOk w' w.heap.size (w.heap.size + 1) hb a ls.length cap ls l := by
    intro w' hb' h1 h2
    have h' := H.out.ext hb'
    obtain ⟨a', cap', e, hr⟩ := ownsRow_rowAt lcells l_len h'.own
    simp at e
    obtain ⟨rfl, rfl⟩ := e
    exact ⟨by simp [World.cell?, h1], by simp [World.cell?, h2], by rw [cell_of_block h'.blk]; exact h'.sl, hr, rfl, by have := h'.small; omega⟩
  have HS := hideP hsee
  have HP2 := hideP hp2
  obtain ⟨hv, hhv⟩ : ∃ hv, hv = w.heap.size := ⟨_, rfl⟩
  clear h hsee hp2
  have c27 : w.cell? ⟨hb, 27, none⟩ = some (.slice a ls.length cap) := by rw [cell_of_block H.out.blk]; exact H.out.sl
  have hbl : hb < w.heap.size := H.out.lt
  go_enter Try.func19, Try.ntmps19
  go_wp2_with fail
  obtain ⟨hB0, hA1, hA2⟩ := two_alloc w (.cells #[.pointer (some ⟨hb, 0, none⟩)] 25) (.cells #[.int .i64 l] 3)
  refine (search_any w.heap.size (w.heap.size + 1) hb a ls.length cap ls l _ (HS.out _ hB0 hA1 hA2) H.out.asc).mono ?_
  rintro r' w1 ⟨⟨i, rfl, hin, hlo, hhi⟩, d, hw1⟩
  have hB1 : Below w.heap.size w w1 := by rw [hw1]; exact below_drewN hB0 d
  have hS1 : SeeOk w1 w.heap.size (w.heap.size + 1) hb a ls.length cap ls l := HS.out w1 hB1 (by rw [hw1]; exact hA1) (by rw [hw1]; exact hA2)
  have H1 := hideP (H.out.ext hB1)
  have HB1 := hideP hB1
  have c0 := hS1.var
  have c1 := hS1.len
  have c2 := hS1.sl
  have hsm := H.out.small
  have hn1 : ¬ hb = w.heap.size := by omega
  have hn2 : ¬ hb = w.heap.size + 1 := by omega
  have hn3 : ¬ w.heap.size = hb := by omega
  have hn4 : ¬ w.heap.size + 1 = hb := by omega
  have f27 : w1.frozen? ⟨hb, 27, none⟩ = false := frozen_of_block H1.out.blk _
  have hbw1 : hb < w1.heap.size := H1.out.lt
  have hvw1 : w.heap.size < w1.heap.size := lt_of_cell c0
  have hlw1 : w.heap.size + 1 < w1.heap.size := lt_of_cell c1
  obtain ⟨hv, hhv⟩ : ∃ hv, hv = w.heap.size := ⟨_, rfl⟩
  have HSW := hideP hB1.size
  clear hS1 hA1 hA2 hB0 hB1 hw1 c27
  obtain ⟨p, hp, hpl⟩ := hcase i hin hlo hhi
  have hr1 := (ownsRow_rowAt lcells l_len H1.out.own)
  obtain ⟨g, rfl⟩ : ∃ g, a = some ⟨g, 0, none⟩ := by
    rcases H.out.own.2 with ⟨_, h0⟩ | ⟨g, cap', c, e, _⟩
    · rw [List.length_eq_zero_iff.1 h0] at hp; simp at hp
    · simp at e; exact ⟨g, e.1⟩
  obtain ⟨a', cap', e', hrow⟩ := hr1
  simp at e'
  obtain ⟨rfl, rfl⟩ := e'
  have r0 : w1.cell? ⟨g, i * 2, none⟩ = some (.int .i64 p.1) := by have := hrow.at hp 0 _ rfl; simpa using this
  have hk2 := HP2.out p (List.mem_of_getElem? hp)
  have hil : (i : Int) < (ls.length : Int) := by have := (List.getElem?_eq_some_iff.1 hp).1; omega
  have hne : ((i : Int) == (ls.length : Int)) = false := by simp; omega
  have HPI := hide_get hp
  have q0 : ∀ d o, ((w1.drewN d).alloc o).cell? ⟨hb, 27, none⟩ = some (.slice (some ⟨g, 0, none⟩) ls.length cap) := fun d o => cell_ext (bx (Below.draws w1 d) (below_alloc1 (w1.drewN d) o)) c2
  have q1 : ∀ d o, ((w1.drewN d).alloc o).cell? ⟨w.heap.size, 0, none⟩ = some (.pointer (some ⟨hb, 0, none⟩)) := fun d o => cell_ext (bx (Below.draws w1 d) (below_alloc1 (w1.drewN d) o)) c0
  have q2 : ∀ d o, ((w1.drewN d).alloc o).cell? ⟨w.heap.size + 1, 0, none⟩ = some (.int .i64 l) := fun d o => cell_ext (bx (Below.draws w1 d) (below_alloc1 (w1.drewN d) o)) c1
  have hneq : (p.1 != l) = true := by simpa using hpl
  have HEQ : Hid (addLen ls l k = insAt ls i (l, k)) := addLen_ins l k ls i hin hlo (fun q hq => by rw [hp] at hq; cases hq; have := hhi i p (Nat.le_refl _) hp; omega)
  clear hrow hp hlo hhi hcase
  go_wp2
  go_quiet (fail)
  go_wp2
  go_region_with (first | (go_at_call 26; refine (ins_call w w1 B hb cur _ ls.length cap i _ ls l k H.out rfl HB1.out hin).mono ?_; rintro r3 w3 ⟨a', n', c', rfl, d1, d2, HK, HC⟩; have d3 := HK.out _ _ _ (Nat.le_refl _) c0; have d4 := HK.out _ _ _ (Nat.le_succ _) c1))
  all_goals
    go_wp2
    go_end0
    exact ⟨rfl, by rw [HEQ.out]; exact HC.out⟩
end Go.Proofs.Qxb6612256a
