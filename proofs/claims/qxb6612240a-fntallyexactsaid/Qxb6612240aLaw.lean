import Derived.Test.Qxb6612240aReads3
namespace Go.Proofs.Qxb6612240a
open Go.RowKit Go.MapKept
open Go.ChangeMaps (setBlock)

/-! ### The order of ballots -/
theorem bytesLess_irrefl : ∀ l : List UInt8, Op.bytesLess l l = false
  | [] => rfl
  | a :: l => by
    have := bytesLess_irrefl l
    simp [Op.bytesLess, this]
theorem bytesLess_trans : ∀ x y z : List UInt8, Op.bytesLess x y = true → Op.bytesLess y z = true → Op.bytesLess x z = true
  | _, [], _, h, _ => by simp [Op.bytesLess] at h
  | _, _ :: _, [], _, h => by simp [Op.bytesLess] at h
  | [], _ :: _, _ :: _, _, _ => by simp [Op.bytesLess]
  | a :: x, b :: y, c :: z, h1, h2 => by
    simp only [Op.bytesLess, Bool.or_eq_true, Bool.and_eq_true, beq_iff_eq, decide_eq_true_eq] at h1 h2 ⊢
    rcases h1 with h1 | ⟨rfl, h1⟩
    · rcases h2 with h2 | ⟨rfl, _⟩
      · exact .inl (UInt8.lt_trans h1 h2)
      · exact .inl h1
    · rcases h2 with h2 | ⟨rfl, h2⟩
      · exact .inl h2
      · exact .inr ⟨rfl, bytesLess_trans x y z h1 h2⟩
theorem bless_irrefl (r : Int) (l : ByteArray) : bless r l r l = false := by simp [bless, bytesLess_irrefl]
theorem bless_trans {r1 r2 r3 : Int} {l1 l2 l3 : ByteArray} (h1 : bless r1 l1 r2 l2 = true) (h2 : bless r2 l2 r3 l3 = true) : bless r1 l1 r3 l3 = true := by
  unfold bless at *
  by_cases h12 : r1 = r2
  · subst h12
    rw [if_pos rfl] at h1
    by_cases h13 : r1 = r3
    · subst h13
      rw [if_pos rfl] at h2 ⊢
      exact bytesLess_trans _ _ _ h1 h2
    · rw [if_neg h13] at h2 ⊢
      exact h2
  · rw [if_neg h12] at h1
    simp at h1
    by_cases h23 : r2 = r3
    · subst h23
      rw [if_neg h12]
      simpa using h1
    · rw [if_neg h23] at h2
      simp at h2
      rw [if_neg (by omega)]
      simp
      omega
/-- Does a outrank no..: is the ballot of a below that of b? -/
def vless (a b : Vt) : Bool := bless a.round a.leader b.round b.leader

theorem bestFold_top (l : List Ent) : ∀ (b : Vt), vless b (bestFold b l) = true ∨ bestFold b l = b := by
  induction l with
  | nil => intro b; exact .inr rfl
  | cons e l ih =>
    intro b
    have e1 : bestFold b (e :: l) = bestFold (up b e) l := rfl
    rw [e1]
    by_cases h : bless b.round b.leader e.v.round e.v.leader = true
    · have e2 : up b e = e.v := by simp [up, h]
      rw [e2]
      rcases ih e.v with h1 | h1
      · exact .inl (bless_trans h h1)
      · rw [h1]; exact .inl h
    · have e2 : up b e = b := by simp [up, h]
      rw [e2]
      exact ih b
theorem not_above {b c x : Vt} (h : vless b c = true ∨ c = b) (hx : vless b x = false) : vless c x = false := by
  rcases h with h | rfl
  · rw [Bool.eq_false_iff]
    intro h'
    rw [Bool.eq_false_iff] at hx
    exact hx (bless_trans h h')
  · exact hx
theorem bestFold_max (l : List Ent) : ∀ (b : Vt), vless (bestFold b l) b = false ∧ ∀ e ∈ l, vless (bestFold b l) e.v = false := by
  induction l with
  | nil => intro b; exact ⟨bless_irrefl _ _, fun e he => by simp at he⟩
  | cons e l ih =>
    intro b
    have e1 : bestFold b (e :: l) = bestFold (up b e) l := rfl
    rw [e1]
    obtain ⟨h1, h2⟩ := ih (up b e)
    have ht := bestFold_top l (up b e)
    by_cases h : bless b.round b.leader e.v.round e.v.leader = true
    · have e2 : up b e = e.v := by simp [up, h]
      rw [e2] at h1 h2 ht ⊢
      refine ⟨not_above ht ?_, fun x hx => ?_⟩
      · rw [Bool.eq_false_iff]
        intro h'
        have := bless_trans h h'
        rw [bless_irrefl] at this
        exact absurd this (by decide)
      · rcases List.mem_cons.1 hx with rfl | hx
        · exact h1
        · exact h2 x hx
    · have e2 : up b e = b := by simp [up, h]
      rw [e2] at h1 h2 ht ⊢
      refine ⟨h1, fun x hx => ?_⟩
      rcases List.mem_cons.1 hx with rfl | hx
      · exact not_above ht (by simpa [vless] using h)
      · exact h2 x hx
theorem bestFold_mem (l : List Ent) : ∀ (b : Vt), bestFold b l = b ∨ ∃ e ∈ l, e.v = bestFold b l := by
  induction l with
  | nil => intro b; exact .inl rfl
  | cons e l ih =>
    intro b
    have e1 : bestFold b (e :: l) = bestFold (up b e) l := rfl
    rw [e1]
    rcases ih (up b e) with h | ⟨x, hx, h⟩
    · rw [h]
      unfold up
      split
      · exact .inr ⟨e, List.mem_cons_self, rfl⟩
      · exact .inl rfl
    · exact .inr ⟨x, List.mem_cons_of_mem _ hx, h⟩

/-- What the answer at a reported slot is. -/
theorem best_facts {E : List Ent} {s : Int} (h : s ∈ slotsOf E) : (∃ e ∈ E, e.v = bestOf (grp E s) ∧ (bestOf (grp E s)).slot = s) ∧ ∀ e ∈ E, e.v.slot = s → bless (bestOf (grp E s)).round (bestOf (grp E s)).leader e.v.round e.v.leader = false := by
  obtain ⟨e0, G, hG⟩ : ∃ e0 G, grp E s = e0 :: G := by
    cases hg : grp E s with
    | nil => exact absurd hg (grp_ne_nil h)
    | cons e0 G => exact ⟨e0, G, rfl⟩
  have hmem : ∀ e, e ∈ grp E s ↔ e ∈ E ∧ e.v.slot = s := fun e => by simp [grp, List.mem_filter]
  have hb : bestOf (grp E s) = bestFold e0.v G := by rw [hG]; rfl
  constructor
  · have : ∃ e ∈ grp E s, e.v = bestOf (grp E s) := by
      rw [hb, hG]
      rcases bestFold_mem G e0.v with h' | ⟨e, he, h'⟩
      · exact ⟨e0, List.mem_cons_self, h'.symm⟩
      · exact ⟨e, List.mem_cons_of_mem _ he, h'⟩
    obtain ⟨e, he, h'⟩ := this
    exact ⟨e, ((hmem e).1 he).1, h', by rw [← h']; exact ((hmem e).1 he).2⟩
  · intro e he hs
    have hm := (hmem e).2 ⟨he, hs⟩
    rw [hG] at hm
    obtain ⟨h1, h2⟩ := bestFold_max G e0.v
    rw [hb]
    rcases List.mem_cons.1 hm with rfl | hm
    · exact h1
    · exact h2 e hm
theorem mayOf_append (names : List ByteArray) (G : List Ent) (best : Vt) (L1 L2 : List (List ByteArray)) : mayOf names G best (L1 ++ L2) = (mayOf names G best L1 || mayOf names G best L2) := by
  simp [mayOf, List.any_append]

/-- Every reported vote is one that came. -/
theorem rep_mem {rs : List Rd} {e : Ent} (h : e ∈ reported rs) : ∃ r ∈ rs, ∃ p ∈ r.ps, e.v ∈ p.vs := by
  unfold reported repTo at h
  obtain ⟨i, _, he⟩ := List.mem_flatMap.1 h
  unfold repAt at he
  cases hr : rs[i]? with
  | none => rw [hr] at he; simp at he
  | some r =>
    rw [hr] at he
    simp only [repP] at he
    obtain ⟨p, hp, hv⟩ := List.mem_flatMap.1 he
    simp only [repV, List.mem_map, List.mem_filter] at hv
    obtain ⟨v, ⟨hv, _⟩, rfl⟩ := hv
    exact ⟨r, List.mem_of_getElem? hr, p, hp, hv⟩
theorem rep_ok {w : World} {a : Option Addr} {n : Nat} {rs : List Rd} (h : RsOk w a n rs) : ∀ e ∈ reported rs, VtOk w e.v := by
  intro e he
  obtain ⟨r, hr, p, hp, hv⟩ := rep_mem he
  exact (((h.all r hr).all p hp).all _ hv)

/-! ### Built rounds and pools -/
theorem RInv.built {w w' : World} {n : Nat} {rs : List Rd} (h : RInv w w' n rs n) (hl : rs.length = n) : BuiltRs w' (some ⟨w.heap.size, 0, none⟩) n rs ∧ Below w.heap.size w w' := by
  obtain ⟨Ls, h1, h2, h3⟩ := h.ex
  exact ⟨⟨hl, Ls, h1, h2.rowAt br_len h1, fun i r x hi hx => ⟨(h3 i r x hi hx).1, (h3 i r x hi hx).2.1, (h3 i r x hi hx).2.2.mono (Nat.zero_le _)⟩⟩, h2.bel⟩
theorem PInv.built {w w' : World} {n : Nat} {ps : List Pl} (h : PInv w w' n ps n) :
    ∃ Ms : List Nat, Ms.length = n ∧ RowAt w' (some ⟨w.heap.size, 0, none⟩) 1 ptrCells Ms ∧ (∀ (i : Nat) (ms : List ByteArray) (m : Nat), (ps.map (·.ms))[i]? = some ms → Ms[i]? = some m → PoolAt w' 0 m ms) ∧ Below w.heap.size w w' := by
  obtain ⟨⟨Ms, xs, h1, h2, h3, h4⟩, hb, _⟩ := h
  refine ⟨Ms, h1, h3.rowAt ptr_len h1 h2, fun i ms m hi hm => ?_, hb⟩
  rw [List.getElem?_map] at hi
  cases hp : ps[i]? with
  | none => rw [hp] at hi; simp at hi
  | some p =>
    rw [hp] at hi
    simp at hi
    subst hi
    exact (h4 i p m hp hm).mono (Nat.zero_le _)
theorem MsgAt.ext0 {w w' : World} {m : Nat} {p : Pr} (h : MsgAt w 0 m p) (k : Below w.heap.size w w') : MsgAt w' 0 m p := by
  obtain ⟨g, h1, h2, h3, h4, h5⟩ := h
  exact ⟨g, h1, h2, cell_ext k h3, cell_ext k h4, h5.ext k⟩
theorem MsgsAt.ext0 {w w' : World} {g : Nat} {ps : List Pr} (h : MsgsAt w 0 g ps) (k : Below w.heap.size w w') : MsgsAt w' 0 g ps := by
  obtain ⟨Ms, h1, h2, h3, h4⟩ := h
  exact ⟨Ms, h1, h2, h3.ext k, fun j p m hj hm => (h4 j p m hj hm).ext0 k⟩
theorem BuiltRs.ext {w w' : World} {a : Option Addr} {n : Nat} {rs : List Rd} (h : BuiltRs w a n rs) (k : Below w.heap.size w w') : BuiltRs w' a n rs := by
  obtain ⟨hl, Ls, h1, h2, h3⟩ := h
  exact ⟨hl, Ls, h1, h2.ext k, fun i r x hi hx => ⟨(h3 i r x hi hx).1, (h3 i r x hi hx).2.1, (h3 i r x hi hx).2.2.ext0 k⟩⟩
/-- A row of pools: their addresses. -/
structure Pls (w : World) (Ms : List Nat) (L : List (List ByteArray)) : Prop where
  len : Ms.length = L.length
  all : ∀ (i : Nat) (ms : List ByteArray) (m : Nat), L[i]? = some ms → Ms[i]? = some m → PoolAt w 0 m ms
theorem Pls.ext {w w' : World} {Ms : List Nat} {L : List (List ByteArray)} (h : Pls w Ms L) (k : Below w.heap.size w w') : Pls w' Ms L := ⟨h.len, fun i ms m hi hm => (h.all i ms m hi hm).ext k⟩
theorem Pls.append {w : World} {Ms Ms' : List Nat} {L L' : List (List ByteArray)} (h : Pls w Ms L) (h' : Pls w Ms' L') : Pls w (Ms ++ Ms') (L ++ L') := by
  refine ⟨by simp [h.len, h'.len], fun i ms m hi hm => ?_⟩
  by_cases hlt : i < L.length
  · rw [List.getElem?_append_left hlt] at hi
    rw [List.getElem?_append_left (by rw [h.len]; exact hlt)] at hm
    exact h.all i ms m hi hm
  · rw [List.getElem?_append_right (by omega)] at hi
    rw [List.getElem?_append_right (by rw [h.len]; omega), h.len] at hm
    exact h'.all _ ms m hi hm
theorem Pls.built {w : World} {Ms : List Nat} {L : List (List ByteArray)} {a : Option Addr} {n : Nat} (h : Pls w Ms L) (hr : RowAt w a 1 ptrCells Ms) (hn : L.length = n) : BuiltPs w a n L := ⟨hn, Ms, by rw [h.len, hn], hr, h.all⟩

/-! ### What tally answered -/
structure Res (w : World) (tb : Nat) (rs : List Rd) (L : List (List ByteArray)) : Prop where
  ex : ∃ S, MapIs kind64 w tb S (tv rs (reported rs) L) ∧ (∀ s, s ∈ S ↔ s ∈ slotsOf (reported rs)) ∧ S.length = (slotsOf (reported rs)).length
theorem Res.ext {w w' : World} {tb : Nat} {rs : List Rd} {L : List (List ByteArray)} (h : Res w tb rs L) (k : Below w.heap.size w w') : Res w' tb rs L := by
  obtain ⟨S, h1, h2, h3⟩ := h.ex
  exact ⟨S, h1.below k h1.lt, h2, h3⟩
theorem Res.count {w : World} {tb : Nat} {rs : List Rd} {L : List (List ByteArray)} (h : Res w tb rs L) (ty : TypeId) : (Builtin.len_ #[42] ty #[.map (some tb)]).run Try.prog w = .ok (.int .i64 (slotsOf (reported rs)).length) w := by
  obtain ⟨S, h1, h2, h3⟩ := h.ex
  have := run_len_map (P := Try.prog) (w := w) 42 ty tb _ _ (by kernel_rfl) (show w.heap[tb]? = some (.map (entsOf kind64 S (tv rs (reported rs) L)).toArray S.length) from h1.block)
  rw [this, ← h3]
  simp [goInt, entsOf]
/-- The slot's answer. -/
def ansV (rs : List Rd) (s : Int) : Vt := bestOf (grp (reported rs) s)
def ansM (rs : List Rd) (L : List (List ByteArray)) (s : Int) : Bool := mayOf (namesOf rs (reported rs) s) (grp (reported rs) s) (ansV rs s) L
theorem Res.view {w : World} {tb : Nat} {rs : List Rd} {L : List (List ByteArray)} (h : Res w tb rs L) {s : Int} (hs : s ∈ slotsOf (reported rs)) {v : Vt} (hv : v = ansV rs s) {m : Bool} (hm : m = ansM rs L s) :
    Calls Try.prog 21 #[.map (some tb), .int .u64 s] w fun r w' => r = .returned (.agg #[.bool true, .int .u64 v.slot, .int .u64 v.round, .string v.leader, .string v.origin, .int .u64 v.inc, .int .u64 v.seq, .slice v.ta v.tl v.tc, .int .u64 v.nxt, .bool m]) ∧ Below w.heap.size w w' := by
  obtain ⟨S, h1, h2, h3⟩ := h.ex
  refine at_any tb S _ s v m w h1 ((h2 s).2 hs) ?_
  subst hv hm
  rfl
theorem ans_ok {w : World} {a : Option Addr} {n : Nat} {rs : List Rd} (h : RsOk w a n rs) {s : Int} (hs : s ∈ slotsOf (reported rs)) : VtOk w (ansV rs s) := by
  obtain ⟨e, he, h1, _⟩ := (best_facts hs).1
  unfold ansV
  rw [← h1]
  exact rep_ok h e he
end Go.Proofs.Qxb6612240a
