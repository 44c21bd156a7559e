import Derived.Test.Qxb6612240aLaw
namespace Go.Proofs.Qxb6612240a
open Go.RowKit Go.MapKept
open Go.ChangeMaps (setBlock)

/-! ### The last round that reports a slot -/
def lastTo (E : List Ent) (s : Int) : Nat := E.foldl (fun m e => if e.v.slot = s ∧ m < e.rd then e.rd else m) 0
theorem lastTo_succ {E : List Ent} {s : Int} {k : Nat} {e : Ent} (h : E[k]? = some e) : lastTo (E.take (k + 1)) s = if e.v.slot = s ∧ lastTo (E.take k) s < e.rd then e.rd else lastTo (E.take k) s := by
  unfold lastTo
  rw [take_get h, List.foldl_append]
  rfl
theorem lastTo_le (s : Int) (B : Nat) (E : List Ent) : (∀ e ∈ E, e.rd ≤ B) → lastTo E s ≤ B := by
  have : ∀ (E : List Ent) (m : Nat), m ≤ B → (∀ e ∈ E, e.rd ≤ B) → E.foldl (fun m e => if e.v.slot = s ∧ m < e.rd then e.rd else m) m ≤ B := by
    intro E
    induction E with
    | nil => intro m h _; exact h
    | cons e E ih =>
      intro m h hE
      refine ih _ ?_ fun x hx => hE x (List.mem_cons_of_mem _ hx)
      show (if e.v.slot = s ∧ m < e.rd then e.rd else m) ≤ B
      split
      · exact hE e List.mem_cons_self
      · exact h
  exact fun h => this E 0 (Nat.zero_le _) h
theorem lastTo_snoc (E : List Ent) (e : Ent) (s : Int) : lastTo (E ++ [e]) s = if e.v.slot = s ∧ lastTo E s < e.rd then e.rd else lastTo E s := by
  unfold lastTo
  rw [List.foldl_append]
  rfl
/-- In order of rounds. -/
def Sorted (E : List Ent) : Prop := E.Pairwise fun a b => a.rd ≤ b.rd
theorem lastTo_eq (s : Int) : ∀ n (E : List Ent), E.length = n → Sorted E → lastTo E s = lastRd E s := by
  intro n
  induction n with
  | zero => intro E hE _; rw [List.eq_nil_of_length_eq_zero hE]; rfl
  | succ n ih =>
    intro E hE hS
    have hne : E ≠ [] := by intro h; rw [h] at hE; simp at hE
    have hd : E.dropLast ++ [E.getLast hne] = E := List.dropLast_concat_getLast hne
    generalize E.dropLast = F at hd
    generalize E.getLast hne = e at hd
    subst hd
    have hS' := List.pairwise_append.1 hS
    have hle : ∀ x ∈ F, x.rd ≤ e.rd := fun x hx => hS'.2.2 x hx e (by simp)
    have hF := ih F (by simpa using hE) hS'.1
    have hb := lastTo_le s e.rd F hle
    rw [lastTo_snoc]
    by_cases hs : e.v.slot = s
    · subst hs
      rw [lastRd_same]
      split
      · rfl
      · next h => simp at h; omega
    · rw [if_neg (by simp [hs]), hF, lastRd_other F e (fun h => hs h.symm)]
theorem sorted_rep (rs : List Rd) : ∀ k, Sorted (repTo rs k) ∧ ∀ e ∈ repTo rs k, e.rd < k := by
  intro k
  refine ⟨?_, fun e he => rd_lt he⟩
  induction k with
  | zero => exact List.Pairwise.nil
  | succ k ih =>
    have e1 : repTo rs (k + 1) = repTo rs k ++ repAt rs k := by simp [repTo, List.range_succ, List.flatMap_append]
    have hrd : ∀ e ∈ repAt rs k, e.rd = k := by
      intro e he
      unfold repAt at he
      cases hr : rs[k]? with
      | none => rw [hr] at he; simp at he
      | some r =>
        rw [hr] at he
        simp only [repP] at he
        obtain ⟨p, _, hp⟩ := List.mem_flatMap.1 he
        simp only [repV, List.mem_map] at hp
        obtain ⟨v, _, rfl⟩ := hp
        rfl
    rw [e1]
    refine List.pairwise_append.2 ⟨ih, ?_, fun a ha b hb => ?_⟩
    · exact List.pairwise_of_forall_mem_list fun a ha b hb => by rw [hrd a ha, hrd b hb]; exact Nat.le_refl _
    · rw [hrd b hb]; exact Nat.le_of_lt (rd_lt ha)
theorem last_rep (rs : List Rd) (s : Int) : lastTo (reported rs) s = lastRd (reported rs) s := lastTo_eq s _ _ rfl (sorted_rep rs rs.length).1

theorem ent_get' {w : World} {b off : Nat} {es : List Ent} (h : RowAt w (some ⟨b, off, none⟩) 10 Ent.cells es) {k : Nat} {e : Ent} (he : es[k]? = some e) :
    w.cell? ⟨b, off + k * 10, none⟩ = some (.int .i64 e.rd) ∧ w.cell? ⟨b, off + k * 10 + 1, none⟩ = some (.string e.fr) := by
  have hc := h.at he
  exact ⟨hc 0 _ rfl, hc 1 _ rfl⟩

set_option maxRecDepth 100000 in
theorem lastRound_any (ea : Option Addr) (n ec : Nat) (es : List Ent) (s : Int) (w : World) (h : RowAt w ea 10 Ent.cells es) (hl : es.length = n) (hn : n ≤ 1048576) :
    Calls Try.prog 40 #[.slice ea n ec, .int .u64 s] w fun r w' => r = .returned (.int .i64 (lastTo es s)) ∧ w = w' := by
  have HL := hideP hl
  clear hl
  go_enter Try.func40, Try.ntmps40
  go_wp2
  go_loopw [5, 6] (fun m i wr => ∃ k : Nat, k ≤ n ∧ m = .int .i64 (lastTo (es.take k) s) ∧ i = .int .i64 k ∧ w = wr) (fun _ i _ => n - (intOf i).toNat)
  case atStart => exact ⟨0, Nat.zero_le _, by simp [lastTo], rfl, rfl⟩
  case round =>
    obtain ⟨k, hk, rfl, rfl, rfl⟩ := hrel
    by_cases hlt : k < n
    · obtain ⟨e, he⟩ := get_of_lt HL.out hlt
      obtain ⟨b, off, rfl, _⟩ := h k e he
      obtain ⟨f0, _⟩ := ent_get h he
      obtain ⟨g0, _⟩ := ent_get' h he
      have HS := hideP (lastTo_succ (s := s) he)
      clear he
      obtain ⟨m, hm⟩ : ∃ m, m = lastTo (es.take k) s := ⟨_, rfl⟩
      rw [← hm] at HS ⊢
      clear hm
      by_cases hs : e.v.slot = s
      · by_cases hmr : m < e.rd
        · have hz : Hid (lastTo (es.take (k + 1)) s = e.rd) := by show _ = _; rw [HS.out, if_pos ⟨hs, hmr⟩]
          go_wp2
          exact ⟨⟨k + 1, by omega, by rw [hz.out], by go_num, trivial⟩, by simp [intOf]; omega⟩
        · have hz : Hid (lastTo (es.take (k + 1)) s = m) := by show _ = _; rw [HS.out, if_neg (fun h => hmr h.2)]
          go_wp2
          exact ⟨⟨k + 1, by omega, by rw [hz.out], by go_num, trivial⟩, by simp [intOf]; omega⟩
      · have hz : Hid (lastTo (es.take (k + 1)) s = m) := by show _ = _; rw [HS.out, if_neg (fun h => hs h.1)]
        have hsb : (e.v.slot == s) = false := by simpa using hs
        go_wp2
        exact ⟨⟨k + 1, by omega, by rw [hz.out], by go_num, trivial⟩, by simp [intOf]; omega⟩
    · have e : es.take k = es := List.take_of_length_le (by have := HL.out; omega)
      rw [e]
      clear e
      go_wp2
      go_ret
      exact ⟨rfl, rfl⟩
end Go.Proofs.Qxb6612240a
