import Derived.Test.Qxb6612240aMaps
import Derived.Test.Qxb6612240aRounds
namespace Go.Proofs.Qxb6612240a
open Go.RowKit Go.MapKept
open Go.ChangeMaps (setBlock)

/-! ### tally's plain state -/
/-- The reported votes at slot s, in order. -/
def grp (E : List Ent) (s : Int) : List Ent := E.filter fun e => decide (e.v.slot = s)
def cstCells (e : Ent) : List Value := .string e.fr :: e.v.cells
theorem cst_len (e : Ent) : (cstCells e).length = 9 := rfl
/-- The round of the last reported vote at s. -/
def lastRd (E : List Ent) (s : Int) : Nat := ((grp E s).getLast?.map (·.rd)).getD 0
/-- The members heard in a round. -/
def fromsOf (ps : List Pr) : List ByteArray := ps.foldl (fun o p => addKey o p.fr) []

theorem addSlot_eq (out : List Int) (s : Int) : addSlot out s = addKey out s := by
  unfold addSlot addKey
  by_cases h : s ∈ out
  · rw [if_pos h, if_pos (by simpa using h)]
  · rw [if_neg h, if_neg (by simpa using h)]
theorem slotsOf_snoc (E : List Ent) (e : Ent) : slotsOf (E ++ [e]) = addKey (slotsOf E) e.v.slot := by
  simp [slotsOf, List.foldl_append, addSlot_eq]
theorem slotsOf_nodup (E : List Ent) : (slotsOf E).Nodup := by
  have : ∀ (E : List Ent) (o : List Int), o.Nodup → (E.foldl (fun o e => addSlot o e.v.slot) o).Nodup := by
    intro E
    induction E with
    | nil => intro o h; exact h
    | cons e E ih => intro o h; exact ih _ (by show (addSlot o e.v.slot).Nodup; rw [addSlot_eq]; exact addKey_nodup h _)
  exact this E [] List.nodup_nil
theorem mem_slotsOf {E : List Ent} {s : Int} : s ∈ slotsOf E ↔ ∃ e ∈ E, e.v.slot = s := by
  have : ∀ (E : List Ent) (o : List Int), s ∈ E.foldl (fun o e => addSlot o e.v.slot) o ↔ s ∈ o ∨ ∃ e ∈ E, e.v.slot = s := by
    intro E
    induction E with
    | nil => intro o; simp
    | cons e E ih =>
      intro o
      rw [List.foldl_cons, ih, addSlot_eq, mem_addKey]
      constructor
      · rintro ((h | h) | ⟨e', he', h⟩)
        · exact .inl h
        · exact .inr ⟨e, List.mem_cons_self, h.symm⟩
        · exact .inr ⟨e', List.mem_cons_of_mem _ he', h⟩
      · rintro (h | ⟨e', he', h⟩)
        · exact .inl (.inl h)
        · rcases List.mem_cons.1 he' with rfl | he''
          · exact .inl (.inr h.symm)
          · exact .inr ⟨e', he'', h⟩
  rw [slotsOf, this]
  simp
theorem grp_snoc_same (E : List Ent) (e : Ent) : grp (E ++ [e]) e.v.slot = grp E e.v.slot ++ [e] := by simp [grp, List.filter_append]
theorem grp_snoc_other (E : List Ent) (e : Ent) {s : Int} (h : s ≠ e.v.slot) : grp (E ++ [e]) s = grp E s := by
  have : ¬ e.v.slot = s := fun h' => h h'.symm
  simp [grp, List.filter_append, this]
theorem grp_nil {E : List Ent} {s : Int} (h : s ∉ slotsOf E) : grp E s = [] := by
  refine List.filter_eq_nil_iff.2 fun e he => ?_
  simp only [decide_eq_true_eq]
  exact fun h' => h (mem_slotsOf.2 ⟨e, he, h'⟩)
theorem grp_ne_nil {E : List Ent} {s : Int} (h : s ∈ slotsOf E) : grp E s ≠ [] := by
  obtain ⟨e, he, hs⟩ := mem_slotsOf.1 h
  intro h'
  have := List.filter_eq_nil_iff.1 h' e he
  simp [hs] at this
theorem grp_len (E : List Ent) (s : Int) : (grp E s).length ≤ E.length := List.length_filter_le _ _
theorem lastRd_same (E : List Ent) (e : Ent) : lastRd (E ++ [e]) e.v.slot = e.rd := by simp [lastRd, grp_snoc_same]
theorem lastRd_other (E : List Ent) (e : Ent) {s : Int} (h : s ≠ e.v.slot) : lastRd (E ++ [e]) s = lastRd E s := by simp [lastRd, grp_snoc_other E e h]
theorem fromsOf_succ {ps : List Pr} {k : Nat} {p : Pr} (h : ps[k]? = some p) : fromsOf (ps.take (k + 1)) = addKey (fromsOf (ps.take k)) p.fr := by
  simp [fromsOf, take_get h, List.foldl_append]

theorem MapIs.congr {κ : Type} [DecidableEq κ] {k0 : KeyKind κ} {w : World} {b : Nat} {keys : List κ} {val val' : κ → Value} (h : MapIs k0 w b keys val) (e : ∀ k ∈ keys, val k = val' k) : MapIs k0 w b keys val' := by
  refine ⟨?_, h.nodup⟩
  rw [h.block]
  have : entsOf k0 keys val = entsOf k0 keys val' := by
    unfold entsOf
    apply List.map_congr_left
    intro p hp
    have hpk : p.1 ∈ keys := by
      have := List.mem_zipIdx hp
      simp at this
      rw [this.2]
      exact List.getElem_mem _
    rw [e _ hpk]
  simp only [mkF, this]

/-! ### What lies in memory while the votes are gathered -/
/-- The votes at each slot: each slot's slice owns a row of its own. -/
structure CastsIs (wr : World) (lo bc : Nat) (E : List Ent) (val : Int → Value) : Prop where
  map : MapIs kind64 wr bc (slotsOf E) val
  own : ∀ s ∈ slotsOf E, wr.ownsRow lo 119 9 (val s) (grp E s).length ((grp E s).flatMap cstCells)
  apart : ∀ s ∈ slotsOf E, ∀ s' ∈ slotsOf E, s ≠ s' → (val s).ownBlock ≠ (val s').ownBlock
/-- The members heard in each round so far. -/
def PromsIs (wr : World) (lo : Nat) (rs : List Rd) (PB : List Nat) : Prop := ∀ (i : Nat) (r : Rd) (b : Nat), rs[i]? = some r → PB[i]? = some b → lo ≤ b ∧ MapIs kindStr wr b (fromsOf r.ps) (fun _ => .bool true)
def hval (E : List Ent) (PB : List Nat) (s : Int) : Value := .map (some (PB.getD (lastRd E s) 0))

structure TInv (w wr : World) (rs : List Rd) (E : List Ent) (PB : List Nat) : Prop where
  casts : ∃ val, CastsIs wr (w.heap.size + 3) w.heap.size E val
  heard : MapIs kind64 wr (w.heap.size + 1) (slotsOf E) (hval E PB)
  var : wr.cell? ⟨w.heap.size + 2, 0, none⟩ = some (.map (some (w.heap.size + 1)))
  proms : PromsIs wr (w.heap.size + 3) rs PB
  bel : Below w.heap.size w wr
  sz : w.heap.size + 3 ≤ wr.heap.size

/-- A world that has grown: nothing that was there has turned. -/
theorem CastsIs.ext {wr wx : World} {lo bc : Nat} {E : List Ent} {val : Int → Value} (h : CastsIs wr lo bc E val) (k : Below wr.heap.size wr wx) : CastsIs wx lo bc E val :=
  ⟨h.map.below k h.map.lt, fun s hs => (h.own s hs).kept (row := none) ⟨k.os, k.tape, k.output, k.size, fun i hi _ => k.block i hi⟩ (by cases (val s).ownBlock <;> simp), h.apart⟩
theorem PromsIs.ext {wr wx : World} {lo : Nat} {rs : List Rd} {PB : List Nat} (h : PromsIs wr lo rs PB) (k : Below wr.heap.size wr wx) : PromsIs wx lo rs PB := fun i r b hi hb => ⟨(h i r b hi hb).1, (h i r b hi hb).2.below k (h i r b hi hb).2.lt⟩
theorem TInv.ext {w wr wx : World} {rs : List Rd} {E : List Ent} {PB : List Nat} (h : TInv w wr rs E PB) (k : Below wr.heap.size wr wx) : TInv w wx rs E PB := by
  obtain ⟨⟨val, hc⟩, hh, hv, hp, hb, hs⟩ := h
  exact ⟨⟨val, hc.ext k⟩, hh.below k hh.lt, cell_ext k hv, hp.ext k, hb.trans (k.mono hb.size), Nat.le_trans hs k.size⟩

theorem own_ne_none {w : World} {lo : Nat} {e : TypeId} {sz : Nat} {v : Value} {n : Nat} {xs : List Value} (h : w.ownsRow lo e sz v n xs) (hn : n ≠ 0) : ∃ g, v.ownBlock = some g ∧ lo ≤ g ∧ g < w.heap.size ∧ ∃ cur, w.heap[g]? = some (.cells cur e (0, 0)) := by
  rcases h.2 with ⟨_, h0⟩ | ⟨g, cap, cur, rfl, hb, hh, _⟩
  · exact absurd h0 hn
  · exact ⟨g, rfl, hb, (Array.getElem?_eq_some_iff.1 hh).1, cur, hh⟩
theorem own_block {w : World} {lo : Nat} {e : TypeId} {sz : Nat} {v : Value} {n : Nat} {xs : List Value} (h : w.ownsRow lo e sz v n xs) {g : Nat} (hg : v.ownBlock = some g) : lo ≤ g ∧ ∃ cur, w.heap[g]? = some (.cells cur e (0, 0)) := by
  rcases h.2 with ⟨rfl, h0⟩ | ⟨g', cap, cur, rfl, hb, hh, _⟩
  · simp [Value.ownBlock] at hg
  · simp [Value.ownBlock] at hg
    subst hg
    exact ⟨hb, cur, hh⟩

/-- What the look-up gives: the slot's slice, or nil. -/
def oldV (E : List Ent) (val : Int → Value) (s : Int) : Value := if s ∈ slotsOf E then val s else .slice none 0 0
theorem CastsIs.old {wr : World} {lo bc : Nat} {E : List Ent} {val : Int → Value} (h : CastsIs wr lo bc E val) (s : Int) : wr.ownsRow lo 119 9 (oldV E val s) (grp E s).length ((grp E s).flatMap cstCells) := by
  unfold oldV
  split
  · next hs => exact h.own s hs
  · next hs => rw [grp_nil hs]; exact World.ownsRow_nil _ _ _ _

/-- ONE VOTE MORE: behind the append, the store into 'casts' and the store into 'heard'. -/
theorem TInv.push {w W1 w' : World} {rs : List Rd} {E : List Ent} {PB : List Nat} {val : Int → Value} {v' : Value} {e : Ent} {pb : Nat}
    (h : TInv w W1 rs E PB) (hc : CastsIs W1 (w.heap.size + 3) w.heap.size E val) (hpb : PB[e.rd]? = some pb)
    (hown : w'.ownsRow (w.heap.size + 3) 119 9 v' ((grp E e.v.slot).length + 1) ((grp E e.v.slot).flatMap cstCells ++ cstCells e)) (hg : W1.grownBy w' (oldV E val e.v.slot).ownBlock)
    (hloc : v'.ownBlock = (oldV E val e.v.slot).ownBlock ∨ v'.ownBlock = some W1.heap.size) :
    MapIs kind64 w' w.heap.size (slotsOf E) val ∧
    (setBlock w' w.heap.size (mkF kind64 (addKey (slotsOf E) e.v.slot) (updV val e.v.slot v'))).cell? ⟨w.heap.size + 2, 0, none⟩ = some (.map (some (w.heap.size + 1))) ∧
    MapIs kind64 (setBlock w' w.heap.size (mkF kind64 (addKey (slotsOf E) e.v.slot) (updV val e.v.slot v'))) (w.heap.size + 1) (slotsOf E) (hval E PB) ∧
    TInv w (setBlock (setBlock w' w.heap.size (mkF kind64 (addKey (slotsOf E) e.v.slot) (updV val e.v.slot v'))) (w.heap.size + 1) (mkF kind64 (addKey (slotsOf E) e.v.slot) (updV (hval E PB) e.v.slot (.map (some pb))))) rs (E ++ [e]) PB ∧
    ∀ b, w.heap.size + 3 ≤ b → (∀ cur, W1.heap[b]? ≠ some (.cells cur 119 (0, 0))) → b < W1.heap.size → (setBlock (setBlock w' w.heap.size (mkF kind64 (addKey (slotsOf E) e.v.slot) (updV val e.v.slot v'))) (w.heap.size + 1) (mkF kind64 (addKey (slotsOf E) e.v.slot) (updV (hval E PB) e.v.slot (.map (some pb))))).heap[b]? = W1.heap[b]? := by
  obtain ⟨_, hh, hv, hp, hb, hs⟩ := h
  have hold := hc.old e.v.slot
  -- the row that may have been written lies from lo on, and holds cells
  have hrow : ∀ g, (oldV E val e.v.slot).ownBlock = some g → w.heap.size + 3 ≤ g ∧ ∃ cur, W1.heap[g]? = some (.cells cur 119 (0, 0)) := fun g hg => own_block hold hg
  have hne : ∀ b, b < w.heap.size + 3 → some b ≠ (oldV E val e.v.slot).ownBlock := fun b hlt e' => by have := (hrow b e'.symm).1; omega
  have hm1 : MapIs kind64 w' w.heap.size (slotsOf E) val := hc.map.grown hg (hne _ (by omega))
  have hh1 : MapIs kind64 w' (w.heap.size + 1) (slotsOf E) (hval E PB) := hh.grown hg (hne _ (by omega))
  have hv1 : w'.cell? ⟨w.heap.size + 2, 0, none⟩ = some (.map (some (w.heap.size + 1))) := hg.cell hv (hne _ (by show w.heap.size + 2 < _; omega))
  have hp1 : PromsIs w' (w.heap.size + 3) rs PB := by
    intro i r b hi hbb
    obtain ⟨h1, h2⟩ := hp i r b hi hbb
    refine ⟨h1, h2.grown hg fun e' => ?_⟩
    obtain ⟨_, cur, hcur⟩ := hrow b e'.symm
    rw [h2.block] at hcur
    simp [mkF] at hcur
  have hlt1 := hm1.lt
  have hlt2 := hh1.lt
  generalize hW2 : setBlock w' w.heap.size (mkF kind64 (addKey (slotsOf E) e.v.slot) (updV val e.v.slot v')) = W2
  have hm2 : MapIs kind64 W2 w.heap.size (addKey (slotsOf E) e.v.slot) (updV val e.v.slot v') := hW2 ▸ hm1.afterPut e.v.slot v'
  have hg2 : w'.grownBy W2 (some w.heap.size) := hW2 ▸ setBlock_grown _ _ _
  have hh2 : MapIs kind64 W2 (w.heap.size + 1) (slotsOf E) (hval E PB) := hh1.grown hg2 (by simp)
  have hv2 : W2.cell? ⟨w.heap.size + 2, 0, none⟩ = some (.map (some (w.heap.size + 1))) := hg2.cell hv1 (by simp)
  refine ⟨hm1, hv2, hh2, ?_⟩
  generalize hW3 : setBlock W2 (w.heap.size + 1) (mkF kind64 (addKey (slotsOf E) e.v.slot) (updV (hval E PB) e.v.slot (.map (some pb)))) = W3
  have hg3 : W2.grownBy W3 (some (w.heap.size + 1)) := hW3 ▸ setBlock_grown _ _ _
  have hh3 : MapIs kind64 W3 (w.heap.size + 1) (addKey (slotsOf E) e.v.slot) (updV (hval E PB) e.v.slot (.map (some pb))) := hW3 ▸ hh2.afterPut e.v.slot _
  have hm3 := hm2.grown hg3 (by simp)
  have keep : ∀ v n xs, w'.ownsRow (w.heap.size + 3) 119 9 v n xs → W3.ownsRow (w.heap.size + 3) 119 9 v n xs := by
    intro v n xs hv
    have hb : ∀ k, v.ownBlock = some k → w.heap.size + 3 ≤ k := fun k hk => (hv.lt k hk).1
    refine (hv.kept hg2 ?_).kept hg3 ?_
    · exact .inr fun e' => by have := hb _ e'; omega
    · exact .inr fun e' => by have := hb _ e'; omega
  have hkeys := slotsOf_snoc E e
  refine ⟨⟨⟨updV val e.v.slot v', ?_, ?_, ?_⟩, ?_, ?_, ?_, ?_, ?_⟩, fun b hb1 hb2 hb3 => ?_⟩
  · rw [hkeys]; exact hm3
  · intro s hs'
    by_cases hse : s = e.v.slot
    · subst hse
      have e1 : updV val e.v.slot v' e.v.slot = v' := by simp [updV]
      rw [e1, grp_snoc_same, flatMap_snoc, List.length_append, List.length_singleton]
      exact keep _ _ _ hown
    · have e1 : updV val e.v.slot v' s = val s := by simp [updV, hse]
      have hsl : s ∈ slotsOf E := by
        rw [hkeys, mem_addKey] at hs'
        exact hs'.resolve_right hse
      rw [e1, grp_snoc_other E e hse]
      refine keep _ _ _ ((hc.own s hsl).kept hg ?_)
      unfold oldV
      split
      · next hin => exact .inr (hc.apart s hsl e.v.slot hin hse)
      · obtain ⟨g, hgg, _⟩ := own_ne_none (hc.own s hsl) (by have := grp_ne_nil hsl; intro h0; exact this (List.eq_nil_of_length_eq_zero h0))
        rw [hgg]; exact .inr (by simp [Value.ownBlock])
  · -- no two slots' slices lie in one row
    have key : ∀ s, s ∈ slotsOf E → s ≠ e.v.slot → v'.ownBlock ≠ (val s).ownBlock := by
      intro s hsl hse
      obtain ⟨g, hgg, _, hgl, _⟩ := own_ne_none (hc.own s hsl) (by have := grp_ne_nil hsl; intro h0; exact this (List.eq_nil_of_length_eq_zero h0))
      rcases hloc with hl | hl
      · rw [hl]
        unfold oldV
        split
        · next hin => exact hc.apart e.v.slot hin s hsl (Ne.symm hse)
        · rw [hgg]; simp [Value.ownBlock]
      · rw [hl, hgg]
        intro e'
        simp at e'
        omega
    intro s1 h1 s2 h2 h12
    rw [hkeys, mem_addKey] at h1 h2
    by_cases c1 : s1 = e.v.slot
    · subst c1
      have c2 : s2 ≠ e.v.slot := Ne.symm h12
      have e1 : updV val e.v.slot v' e.v.slot = v' := by simp [updV]
      have e2 : updV val e.v.slot v' s2 = val s2 := by simp [updV, c2]
      rw [e1, e2]
      exact key s2 (h2.resolve_right c2) c2
    · have e1 : updV val e.v.slot v' s1 = val s1 := by simp [updV, c1]
      rw [e1]
      by_cases c2 : s2 = e.v.slot
      · subst c2
        have e2 : updV val e.v.slot v' e.v.slot = v' := by simp [updV]
        rw [e2]
        exact Ne.symm (key s1 (h1.resolve_right c1) c1)
      · have e2 : updV val e.v.slot v' s2 = val s2 := by simp [updV, c2]
        rw [e2]
        exact hc.apart s1 (h1.resolve_right c1) s2 (h2.resolve_right c2) h12
  · rw [hkeys]
    refine hh3.congr fun s _ => ?_
    unfold updV hval
    by_cases hse : s = e.v.slot
    · subst hse
      rw [if_pos rfl, lastRd_same, List.getD_eq_getElem?_getD, hpb]
      rfl
    · rw [if_neg hse, lastRd_other E e hse]
  · exact hg3.cell hv2 (by simp)
  · intro i r b hi hbb
    obtain ⟨h1, h2⟩ := hp1 i r b hi hbb
    exact ⟨h1, (h2.grown hg2 (by simp; omega)).grown hg3 (by simp; omega)⟩
  · exact ((hb.grown hg (by omega) (fun k hk => by have := (hrow k hk).1; omega)).grown hg2 (by omega) (fun k hk => by cases hk; omega)).grown hg3 (by have := hg2.size; omega) (fun k hk => by cases hk; omega)
  · have := hg.size; have := hg2.size; have := hg3.size; omega
  · have h1 := hg.block b hb3 (fun e' => by obtain ⟨_, cur, hcur⟩ := hrow b e'.symm; exact hb2 cur hcur)
    have h2 := hg2.block b (by have := hg.size; omega) (by simp; omega)
    have h3 := hg3.block b (by have := hg.size; have := hg2.size; omega) (by simp; omega)
    exact h3.trans (h2.trans h1)

/-! ### A round begins: its struct, its set of members heard -/
theorem rd_lt {rs : List Rd} {k : Nat} {e : Ent} (h : e ∈ repTo rs k) : e.rd < k := by
  unfold repTo at h
  obtain ⟨i, hi, he⟩ := List.mem_flatMap.1 h
  have hik := List.mem_range.1 hi
  unfold repAt at he
  cases hr : rs[i]? with
  | none => rw [hr] at he; simp at he
  | some r =>
    rw [hr] at he
    simp only [repP] at he
    obtain ⟨p, _, hp⟩ := List.mem_flatMap.1 he
    simp only [repV, List.mem_map] at hp
    obtain ⟨v, _, rfl⟩ := hp
    exact hik
theorem lastRd_lt {rs : List Rd} {k : Nat} {s : Int} (h : s ∈ slotsOf (repTo rs k)) : lastRd (repTo rs k) s < k := by
  unfold lastRd
  have hne := grp_ne_nil h
  obtain ⟨x, hx⟩ : ∃ x, (grp (repTo rs k) s).getLast? = some x := ⟨_, List.getLast?_eq_some_getLast hne⟩
  rw [hx]
  have hm : x ∈ grp (repTo rs k) s := List.mem_of_getLast? hx
  exact rd_lt (List.mem_filter.1 hm).1

/-- The members of the round have been heard: only their set has been written. -/
theorem TInv.addRound {w wz wx : World} {rs : List Rd} {k pb : Nat} {PB : List Nat} {r : Rd} (h : TInv w wz rs (repTo rs k) PB) (hl : PB.length = k) (hr : rs[k]? = some r) (hg : wz.grownBy wx (some pb)) (hpb : w.heap.size + 3 ≤ pb)
    (hz : ∀ cur, wz.heap[pb]? ≠ some (.cells cur 119 (0, 0))) (hnew : ∀ b ∈ PB, b ≠ pb) (hm : MapIs kindStr wx pb (fromsOf r.ps) (fun _ => .bool true)) : TInv w wx rs (repTo rs k) (PB ++ [pb]) := by
  obtain ⟨⟨val, hc1, hc2, hc3⟩, hh, hv, hp, hb, hs⟩ := h
  refine ⟨⟨val, hc1.grown hg (by simp; omega), fun s hsl => ?_, hc3⟩, ?_, hg.cell hv (by simp; omega), ?_, hb.grown hg (by omega) (fun j hj => by cases hj; omega), by have := hg.size; omega⟩
  · refine (hc2 s hsl).kept hg (.inr fun e' => ?_)
    obtain ⟨_, cur, hcur⟩ := own_block (hc2 s hsl) e'
    exact hz cur hcur
  · refine (hh.grown hg (by simp; omega)).congr fun s hsl => ?_
    have := lastRd_lt hsl
    unfold hval
    rw [List.getD_eq_getElem?_getD, List.getD_eq_getElem?_getD, List.getElem?_append_left (by omega)]
  · intro i r' b hi hbb
    rcases get_snoc hl hbb with ⟨_, hb'⟩ | ⟨rfl, rfl⟩
    · obtain ⟨h1, h2⟩ := hp i r' b hi hb'
      exact ⟨h1, h2.grown hg (by simp; exact hnew b (List.mem_of_getElem? hb'))⟩
    · rw [hr] at hi
      simp at hi
      subst hi
      exact ⟨hpb, hm⟩

/-! ### The rounds and the pools as 'tally' gets them -/
structure BuiltRs (w : World) (a : Option Addr) (n : Nat) (rs : List Rd) : Prop where
  len : rs.length = n
  ex : ∃ Ls : List Br, Ls.length = n ∧ RowAt w a 2 Br.cells Ls ∧ ∀ (i : Nat) (r : Rd) (x : Br), rs[i]? = some r → Ls[i]? = some x → x.en = r.en ∧ x.n = r.ps.length ∧ MsgsAt w 0 x.g r.ps
structure BuiltPs (w : World) (a : Option Addr) (n : Nat) (L : List (List ByteArray)) : Prop where
  len : L.length = n
  ex : ∃ Ms : List Nat, Ms.length = n ∧ RowAt w a 1 ptrCells Ms ∧ ∀ (i : Nat) (ms : List ByteArray) (m : Nat), L[i]? = some ms → Ms[i]? = some m → PoolAt w 0 m ms
theorem BuiltRs.get {w : World} {a : Option Addr} {n k : Nat} {rs : List Rd} (h : BuiltRs w a n rs) (hk : k < n) :
    ∃ r g b off, rs[k]? = some r ∧ a = some ⟨b, off, none⟩ ∧ w.cell? ⟨b, off + k * 2, none⟩ = some (.int .u64 r.en) ∧ w.cell? ⟨b, off + k * 2 + 1, none⟩ = some (.slice (some ⟨g, 0, none⟩) r.ps.length r.ps.length) ∧ MsgsAt w 0 g r.ps := by
  obtain ⟨hl, Ls, hLl, hrow, hall⟩ := h
  obtain ⟨r, hr⟩ := get_of_lt hl hk
  obtain ⟨x, hx⟩ := get_of_lt hLl hk
  obtain ⟨b, off, e, hc⟩ := hrow k x hx
  obtain ⟨h1, h2, h3⟩ := hall k r x hr hx
  refine ⟨r, x.g, b, off, hr, e, ?_, ?_, h3⟩
  · rw [← h1]; exact hc 0 _ rfl
  · rw [← h2]; exact hc 1 _ rfl
theorem MsgsAt.get {w : World} {lo g : Nat} {ps : List Pr} (h : MsgsAt w lo g ps) {j : Nat} (hj : j < ps.length) :
    ∃ p m gv, ps[j]? = some p ∧ w.cell? ⟨g, j, none⟩ = some (.pointer (some ⟨m, 0, none⟩)) ∧ w.cell? ⟨m, 1, none⟩ = some (.string p.fr) ∧ w.cell? ⟨m, 9, none⟩ = some (.slice (some ⟨gv, 0, none⟩) p.vs.length p.vs.length) ∧ RowAt w (some ⟨gv, 0, none⟩) 8 Vt.cells p.vs := by
  obtain ⟨Ms, h1, h2, h3, h4⟩ := h
  obtain ⟨p, hp⟩ := get_of_lt rfl hj
  obtain ⟨m, hm⟩ := get_of_lt h2 hj
  obtain ⟨gv, _, _, c1, c9, hr⟩ := h4 j p m hp hm
  have := h3.at hm 0 _ rfl
  exact ⟨p, m, gv, hp, by simpa using this, c1, c9, hr⟩
theorem votes_get {w : World} {g : Nat} {vs : List Vt} (h : RowAt w (some ⟨g, 0, none⟩) 8 Vt.cells vs) {l : Nat} {v : Vt} (hv : vs[l]? = some v) :
    w.cell? ⟨g, l * 8, none⟩ = some (.int .u64 v.slot) ∧ w.cell? ⟨g, l * 8 + 1, none⟩ = some (.int .u64 v.round) ∧ w.cell? ⟨g, l * 8 + 2, none⟩ = some (.string v.leader) ∧ w.cell? ⟨g, l * 8 + 3, none⟩ = some (.string v.origin) ∧
    w.cell? ⟨g, l * 8 + 4, none⟩ = some (.int .u64 v.inc) ∧ w.cell? ⟨g, l * 8 + 5, none⟩ = some (.int .u64 v.seq) ∧ w.cell? ⟨g, l * 8 + 6, none⟩ = some (.slice v.ta v.tl v.tc) ∧ w.cell? ⟨g, l * 8 + 7, none⟩ = some (.int .u64 v.nxt) := by
  have hc := h.at hv
  simp only [Nat.zero_add] at hc
  exact ⟨hc 0 _ rfl, hc 1 _ rfl, hc 2 _ rfl, hc 3 _ rfl, hc 4 _ rfl, hc 5 _ rfl, hc 6 _ rfl, hc 7 _ rfl⟩
end Go.Proofs.Qxb6612240a
