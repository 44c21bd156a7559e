import Derived.Test.Qxb6612240aLaw
namespace Go.Proofs.Qxb6612240a
open Go.RowKit Go.MapKept
open Go.ChangeMaps (setBlock)

/-! ### The first vote that none outranks is the best -/
theorem bytesLess_conn : ∀ x y z : List UInt8, Op.bytesLess x z = true → Op.bytesLess x y = true ∨ Op.bytesLess y z = true
  | _, _, [], h => by simp [Op.bytesLess] at h
  | [], [], _ :: _, _ => by simp [Op.bytesLess]
  | [], _ :: _, _ :: _, _ => by simp [Op.bytesLess]
  | _ :: _, [], _ :: _, _ => by simp [Op.bytesLess]
  | a :: x, b :: y, c :: z, h => by
    simp only [Op.bytesLess, Bool.or_eq_true, Bool.and_eq_true, beq_iff_eq, decide_eq_true_eq] at h ⊢
    by_cases hab : a < b
    · exact .inl (.inl hab)
    · by_cases hbc : b < c
      · exact .inr (.inl hbc)
      · rcases h with h | ⟨h1, h2⟩
        · exfalso
          rw [UInt8.lt_iff_toNat_lt] at *
          omega
        · have e1 : a = b := by
            apply UInt8.toNat_inj.1
            subst h1
            rw [UInt8.lt_iff_toNat_lt] at *
            omega
          subst e1
          subst h1
          rcases bytesLess_conn x y z h2 with h' | h'
          · exact .inl (.inr ⟨rfl, h'⟩)
          · exact .inr (.inr ⟨rfl, h'⟩)
theorem vless_conn {a c : Vt} (b : Vt) (h : vless a c = true) : vless a b = true ∨ vless b c = true := by
  unfold vless bless at *
  by_cases hac : a.round = c.round
  · rw [if_pos hac] at h
    by_cases hab : a.round = b.round
    · rw [if_pos hab, if_pos (hab.symm.trans hac)]
      exact bytesLess_conn _ _ _ h
    · rw [if_neg hab, if_neg (fun e => hab (hac.trans e.symm))]
      simp
      omega
  · rw [if_neg hac] at h
    simp at h
    by_cases hab : a.round = b.round
    · right
      rw [if_neg (by omega)]
      simp
      omega
    · rw [if_neg hab]
      by_cases hlt : a.round < b.round
      · left; simpa using hlt
      · right
        rw [if_neg (by omega)]
        simp
        omega
theorem vless_trans {a b c : Vt} (h1 : vless a b = true) (h2 : vless b c = true) : vless a c = true := bless_trans h1 h2
/-- Where the fold's answer stands: all that come before it rank below it. -/
theorem best_at : ∀ (l : List Ent) (e0 : Ent), ∃ pre m post, e0 :: l = pre ++ m :: post ∧ m.v = bestFold e0.v l ∧ ∀ x ∈ pre, vless x.v m.v = true := by
  intro l
  induction l with
  | nil => intro e0; exact ⟨[], e0, [], rfl, rfl, fun x hx => by simp at hx⟩
  | cons e l ih =>
    intro e0
    have e1 : bestFold e0.v (e :: l) = bestFold (up e0.v e) l := rfl
    by_cases h : bless e0.v.round e0.v.leader e.v.round e.v.leader = true
    · have e2 : up e0.v e = e.v := by simp [up, h]
      obtain ⟨pre, m, post, h1, h2, h3⟩ := ih e
      refine ⟨e0 :: pre, m, post, by rw [h1]; rfl, by rw [e1, e2]; exact h2, fun x hx => ?_⟩
      rcases List.mem_cons.1 hx with rfl | hx
      · rcases bestFold_top l e.v with h' | h'
        · rw [h2]; exact vless_trans h h'
        · rw [h2, h']; exact h
      · exact h3 x hx
    · have e2 : up e0.v e = e0.v := by simp [up, h]
      obtain ⟨pre, m, post, h1, h2, h3⟩ := ih e0
      cases pre with
      | nil =>
        simp at h1
        obtain ⟨rfl, rfl⟩ := h1
        exact ⟨[], e0, e :: l, rfl, by rw [e1, e2]; exact h2, fun x hx => by simp at hx⟩
      | cons p pre =>
        simp at h1
        obtain ⟨rfl, rfl⟩ := h1
        refine ⟨e0 :: e :: pre, m, post, rfl, by rw [e1, e2]; exact h2, fun x hx => ?_⟩
        have h0 := h3 e0 List.mem_cons_self
        rcases List.mem_cons.1 hx with rfl | hx
        · exact h0
        · rcases List.mem_cons.1 hx with rfl | hx
          · rcases vless_conn x.v h0 with h' | h'
            · exact absurd h' h
            · exact h'
          · exact h3 x (List.mem_cons_of_mem _ hx)
def offTop (s : Int) (e x : Ent) : Bool := decide (x.v.slot = s) && vless e.v x.v
/-- Of the first k votes at the slot none outranks e. -/
def topTo (E : List Ent) (s : Int) (e : Ent) (k : Nat) : Bool := !((E.take k).any (offTop s e))
theorem topTo_succ {E : List Ent} {s : Int} {e x : Ent} {k : Nat} (h : E[k]? = some x) : topTo E s e (k + 1) = (topTo E s e k && !(offTop s e x)) := by
  simp [topTo, take_get h, List.any_append]
def isTop (E : List Ent) (s : Int) (e : Ent) : Bool := !(E.any (offTop s e))
theorem split_grp {E : List Ent} {s : Int} {pre post : List Ent} {m : Ent} (h : grp E s = pre ++ m :: post) : ∃ E1 E2, E = E1 ++ m :: E2 ∧ grp E1 s = pre ∧ m.v.slot = s := by
  unfold grp at h
  obtain ⟨l1, l2, rfl, h1, h2⟩ := List.filter_eq_append_iff.1 h
  obtain ⟨l3, l4, rfl, h3, h4, h5⟩ := List.filter_eq_cons_iff.1 h2
  refine ⟨l1 ++ l3, l4, by simp, ?_, by simpa using h4⟩
  unfold grp
  rw [List.filter_append, h1]
  have : l3.filter (fun e => decide (e.v.slot = s)) = [] := List.filter_eq_nil_iff.2 h3
  rw [this, List.append_nil]
theorem best_split {E : List Ent} {s : Int} (h : s ∈ slotsOf E) : ∃ E1 m E2, E = E1 ++ m :: E2 ∧ m.v = bestOf (grp E s) ∧ m.v.slot = s ∧ isTop E s m = true ∧ ∀ x ∈ E1, x.v.slot = s → vless x.v m.v = true := by
  obtain ⟨e0, G, hG⟩ : ∃ e0 G, grp E s = e0 :: G := by
    cases hg : grp E s with
    | nil => exact absurd hg (grp_ne_nil h)
    | cons e0 G => exact ⟨e0, G, rfl⟩
  obtain ⟨pre, m, post, h1, h2, h3⟩ := best_at G e0
  obtain ⟨E1, E2, hE, hp, hm⟩ := split_grp (hG.trans h1)
  have hb : bestOf (grp E s) = bestFold e0.v G := by rw [hG]; rfl
  refine ⟨E1, m, E2, hE, by rw [hb]; exact h2, hm, ?_, fun x hx hs => h3 x (by rw [← hp]; simp [grp, hx, hs])⟩
  unfold isTop
  rw [Bool.not_eq_true']
  rw [List.any_eq_false]
  intro x hx
  have := (best_facts h).2 x hx
  rw [hb, ← h2] at this
  unfold offTop vless
  by_cases hs : x.v.slot = s
  · simp [this hs]
  · simp [hs]
theorem first_top {E : List Ent} {s : Int} (h : s ∈ slotsOf E) {k : Nat} {e : Ent} (hE : E[k]? = some e) (hs : e.v.slot = s) (htop : isTop E s e = true) (hfirst : ∀ (i : Nat) (x : Ent), i < k → E[i]? = some x → x.v.slot = s → isTop E s x = false) : e.v = bestOf (grp E s) := by
  obtain ⟨E1, m, E2, he, hm, hms, hmt, hpre⟩ := best_split h
  have hmE : E[E1.length]? = some m := by rw [he]; simp
  rcases Nat.lt_trichotomy k E1.length with hlt | heq | hgt
  · exfalso
    have hex : e ∈ E1 := by
      rw [he, List.getElem?_append_left hlt] at hE
      exact List.mem_of_getElem? hE
    have := hpre e hex hs
    unfold isTop at htop
    rw [Bool.not_eq_true', List.any_eq_false] at htop
    exact htop m (List.mem_of_getElem? hmE) (by simp [offTop, hms, this])
  · subst heq
    rw [hE] at hmE
    rw [Option.some.inj hmE]
    exact hm
  · have := hfirst _ m hgt hmE hms
    rw [hmt] at this
    exact absurd this (by decide)
theorem some_top {E : List Ent} {s : Int} (h : s ∈ slotsOf E) (hno : ∀ (i : Nat) (x : Ent), i < E.length → E[i]? = some x → x.v.slot = s → isTop E s x = false) : False := by
  obtain ⟨E1, m, E2, he, _, hms, hmt, _⟩ := best_split h
  have := hno E1.length m (by rw [he]; simp) (by rw [he]; simp) hms
  rw [hmt] at this
  exact absurd this (by decide)

end Go.Proofs.Qxb6612240a
