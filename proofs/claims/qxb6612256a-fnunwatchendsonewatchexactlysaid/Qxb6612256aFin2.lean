import Derived.Test.Qxb6612256aFin
namespace Go.Proofs.Qxb6612256a
open Go.RowKit Go.MapKept
open Go.ChangeMaps (setBlock)

/-- What is known behind unwatch. -/
structure Ended (w0 w2 w3 : World) (gs : List Gr) (left : List Int) : Prop where
  fin : ∃ v L c ls, Fin w0 w3 gs left v L c ls
  oth : ∀ (b : Nat) (c : Array Value), w2.heap[b]? = some (.cells c 3 (0, 0)) → w3.heap[b]? = some (.cells c 3 (0, 0))
  bel : Below w0.heap.size w2 w3

theorem lkp_none' {p : Int × Int} {ls : List (Int × Int)} {l : Int} (hc : (∀ a' ∈ ls, p.1 < a'.1) ∧ List.Pairwise (fun p q => p.1 < q.1) ls) (h1 : ¬ p.1 < l) (h2 : ¬ p.1 = l) : lkp (p :: ls) l = 0 := look_none (fun q hq => by
  rcases List.mem_cons.1 hq with rfl | hq
  · exact h2
  · have := hc.1 q hq; omega)

theorem unwatch_any {w0 w1 w2 : World} {gs : List Gr} {n wb pick : Nat} {E : List GE} {e : GE} {v : Value} {xs : List Value} {ls : List (Int × Int)} (h : Built w0 w1 gs n n wb E v xs ls) (hB2 : Below w1.heap.size w1 w2) (hn : gs.length = n) (hn2 : n ≤ 4096) (hd : Distinct gs) (hpos : ∀ g ∈ gs, 1 ≤ g.wn) (hwf : ∀ g ∈ gs, g.wn ≤ 9223372036854775807) (hks : ∀ g ∈ gs, g.key.size ≤ 9223372036854775807)
    (he : E[pick]? = some e) :
    Calls Try.prog 14 #[.pointer (some ⟨w0.heap.size + 1, 0, none⟩), .pointer (some ⟨e.wt, 0, none⟩)] w2 fun r w3 => r = .returned (.tuple #[]) ∧ Ended w0 w2 w3 gs (leftOf gs pick (e.g.wn - 1)) := by
  obtain ⟨hE, hEl⟩ := built_at h hn
  have hep : gs[pick]? = some e.g := by rw [← hE, List.getElem?_map, he]; rfl
  have hem := List.mem_of_getElem? he
  have hgm := List.mem_of_getElem? hep
  have hbi := h.bi.ext hB2
  have hlow := hbi.low e hem
  have hen := h.full e hem
  have h1 := hpos e.g hgm
  have h2 := hwf e.g hgm
  have hcc := h.cnt
  rw [← hn, List.take_length] at hcc
  by_cases hw : 1 < e.g.wn
  · refine (unw_A hbi hem (by omega) hlow (by omega) (by omega)).mono ?_
    rintro r w3 ⟨rfl, ha⟩
    exact ⟨rfl, ⟨_, _, _, _, fin_A h hn hd hpos he hw ha⟩, ha.oth, ha.bel⟩
  · have hw1 : e.g.wn = 1 := by omega
    have hz : e.g.wn - 1 = 0 := by omega
    rw [hz]
    cases hp : e.g.pre
    · refine (unw_B1 hbi hem (by omega) hlow (by omega) hp (Nat.le_refl _)).mono ?_
      rintro r w3 ⟨rfl, ha⟩
      refine ⟨rfl, ⟨_, _, _, _, fin_B h hn hd hpos he ha (hcc.congr (fun l => ?_))⟩, ha.oth, ha.bel⟩
      rw [alive_pick hep hpos 0 (by omega) l, hp]
      simp
    · have hge : 1 ≤ cnt (preLens gs) e.g.key.size := by
        obtain ⟨G1, G2, hG, _, _⟩ := parted hep 0
        rw [hG, preLens_append, preLens_cons, hp, if_pos rfl, cnt_append, cnt_cons, if_pos rfl]
        have := cnt_nonneg (preLens G1) e.g.key.size
        have := cnt_nonneg (preLens G2) e.g.key.size
        omega
      have hadd := hcc.add e.g.key.size (-1) (by omega) (by omega)
      have hc2 : Counted (addLen ls e.g.key.size (-1)) (cnt (aliveZ (gs.zip (leftOf gs pick 0)))) := hadd.congr (fun l => by
        rw [alive_pick hep hpos 0 (by omega) l, hp]
        by_cases hl : l = (e.g.key.size : Int)
        · subst hl; simp; omega
        · rw [if_neg hl, if_neg (fun x => hl x.2.2.symm)]; omega)
      have hlen : (addLen ls e.g.key.size (-1)).length ≤ 4096 := by
        -- an entry of that length is there: it is changed or taken out
        have hlk := hcc.eq e.g.key.size
        have : ∀ ls : List (Int × Int), Asc ls → 1 ≤ lkp ls e.g.key.size → (addLen ls e.g.key.size (-1)).length ≤ ls.length := by
          intro ls
          induction ls with
          | nil => intro _ h; simp [lkp] at h
          | cons p ls ih =>
            intro hasc hl
            have hc := List.pairwise_cons.1 hasc
            unfold addLen
            split
            · next hp1 =>
              unfold lkp at hl
              rw [if_neg (by omega)] at hl
              simp; exact ih hc.2 hl
            · next hp1 =>
              split
              · split <;> simp
              · next hp2 =>
                have h0 : lkp (p :: ls) e.g.key.size = 0 := lkp_none' hc hp1 hp2
                omega
        have hs := this ls hcc.asc (by omega)
        have hf := h.few
        omega
      refine (unw_B2 hbi hem (by omega) hlow (by omega) hp (Nat.le_refl _) (h.small hn hn2) hadd.asc hlen (hks e.g hgm)).mono ?_
      rintro r w3 ⟨rfl, v', ha⟩
      exact ⟨rfl, ⟨_, _, _, _, fin_B h hn hd hpos he ha hc2⟩, ha.oth, ha.bel⟩
theorem zzUnwatch_any {w0 w1 w2 : World} {gs : List Gr} {n wb pick : Nat} {E : List GE} {e : GE} {v : Value} {xs : List Value} {ls : List (Int × Int)} (h : Built w0 w1 gs n n wb E v xs ls) (hB2 : Below w1.heap.size w1 w2) (hn : gs.length = n) (hn2 : n ≤ 4096) (hd : Distinct gs) (hpos : ∀ g ∈ gs, 1 ≤ g.wn) (hwf : ∀ g ∈ gs, g.wn ≤ 9223372036854775807) (hks : ∀ g ∈ gs, g.key.size ≤ 9223372036854775807)
    (he : E[pick]? = some e) :
    Calls Try.prog 8 #[.pointer (some ⟨w0.heap.size + 1, 0, none⟩), .pointer (some ⟨e.wt, 0, none⟩)] w2 fun r w3 => r = .returned (.tuple #[]) ∧ Ended w0 w2 w3 gs (leftOf gs pick (e.g.wn - 1)) := by
  have H := hideP (unwatch_any h hB2 hn hn2 hd hpos hwf hks he)
  clear h hB2 hn hn2 hd hpos hwf hks he
  go_enter Try.func8, Try.ntmps8
  go_wp2_with fail
  refine H.out.mono ?_
  rintro r' w' ⟨rfl, hp⟩
  go_wp2
  go_end0
  exact ⟨rfl, hp⟩
end Go.Proofs.Qxb6612256a
