import Derived.Test.Qxb6612240aIter
namespace Go.Proofs.Qxb6612240a
open Go.RowKit Go.MapKept
open Go.ChangeMaps (setBlock)

/-! ### tally's second half: what it answers at each slot -/
def up (b : Vt) (e : Ent) : Vt := if bless b.round b.leader e.v.round e.v.leader then e.v else b
def bestFold (b : Vt) (l : List Ent) : Vt := l.foldl up b
def noVt : Vt := { slot := 0, round := 0, leader := ⟨#[]⟩, origin := ⟨#[]⟩, inc := 0, seq := 0, ta := none, tl := 0, tc := 0, nxt := 0, tx := [] }
def bestOf : List Ent → Vt
  | [] => noVt
  | e :: l => bestFold e.v l
def namesOf (rs : List Rd) (E : List Ent) (s : Int) : List ByteArray := ((rs[lastRd E s]?).map fun r => fromsOf r.ps).getD []
def mayOf (names : List ByteArray) (G : List Ent) (best : Vt) (L : List (List ByteArray)) : Bool := L.any fun ms => majOf (mhv names G best) ms
/-- The slot's answer. -/
def tv (rs : List Rd) (E : List Ent) (L : List (List ByteArray)) (s : Int) : Value :=
  Value.agg ((bestOf (grp E s)).cells ++ [Value.bool (mayOf (namesOf rs E s) (grp E s) (bestOf (grp E s)) L)]).toArray

theorem bestFold_succ {b : Vt} {l : List Ent} {q : Nat} {e : Ent} (h : l[q]? = some e) : bestFold b (l.take (q + 1)) = up (bestFold b (l.take q)) e := by
  simp [bestFold, take_get h, List.foldl_append]
theorem may_succ {f : List ByteArray → Bool} {L : List (List ByteArray)} {q : Nat} {ms : List ByteArray} (h : L[q]? = some ms) : (L.take (q + 1)).any f = ((L.take q).any f || f ms) := by
  simp [take_get h, List.any_append]

/-- The block of the best vote so far. -/
def BestIs (w : World) (hb : Nat) (b : Vt) : Prop := w.ownsRow 0 87 8 (.slice (some ⟨hb, 0, none⟩) 1 1) 1 b.cells
theorem BestIs.cells {w : World} {hb : Nat} {b : Vt} (h : BestIs w hb b) :
    w.cell? ⟨hb, 0, none⟩ = some (.int .u64 b.slot) ∧ w.cell? ⟨hb, 1, none⟩ = some (.int .u64 b.round) ∧ w.cell? ⟨hb, 2, none⟩ = some (.string b.leader) ∧ w.cell? ⟨hb, 3, none⟩ = some (.string b.origin) ∧ w.cell? ⟨hb, 4, none⟩ = some (.int .u64 b.inc) ∧ w.cell? ⟨hb, 5, none⟩ = some (.int .u64 b.seq) ∧ w.cell? ⟨hb, 6, none⟩ = some (.slice b.ta b.tl b.tc) ∧ w.cell? ⟨hb, 7, none⟩ = some (.int .u64 b.nxt) ∧ ∀ j, w.frozen? ⟨hb, j, none⟩ = false := by
  have hc : ∀ j, j < 1 * 8 → w.cell? ⟨hb, j, none⟩ = b.cells[j]? := fun j hj => World.ownsRow.cellAt h j hj
  exact ⟨hc 0 (by decide), hc 1 (by decide), hc 2 (by decide), hc 3 (by decide), hc 4 (by decide), hc 5 (by decide), hc 6 (by decide), hc 7 (by decide), fun j => World.ownsRow.frozenAt h j⟩
theorem BestIs.new (w : World) (b : Vt) : BestIs (w.alloc (.cells b.cells.toArray 87)) w.heap.size b :=
  ⟨rfl, .inr ⟨w.heap.size, 1, b.cells.toArray, rfl, Nat.zero_le _, (MapKept.heap_alloc _ _).1, Nat.le_refl _, by decide, rfl, rfl⟩⟩
theorem BestIs.store {w : World} {hb : Nat} {b : Vt} (h : BestIs w hb b) (v : Vt) : BestIs (storeAt w hb 0 v.cells) hb v ∧ w.grownBy (storeAt w hb 0 v.cells) (some hb) ∧ (storeAt w hb 0 v.cells).heap.size = w.heap.size := by
  obtain ⟨h1, h2, h3⟩ := storeAt_owns v.cells 0 h
  exact ⟨h1, h2, h3⟩
theorem BestIs.alloc {w : World} {hb : Nat} {b : Vt} (h : BestIs w hb b) (o : Obj) : BestIs (w.alloc o) hb b := World.ownsRow.alloc h o
theorem BestIs.below {w w' : World} {hb : Nat} {b : Vt} (h : BestIs w hb b) (k : Below w.heap.size w w') : BestIs w' hb b :=
  World.ownsRow.kept (row := none) h ⟨k.os, k.tape, k.output, k.size, fun i hi _ => k.block i hi⟩ (.inr (by simp [Value.ownBlock]))
theorem BestIs.lt {w : World} {hb : Nat} {b : Vt} (h : BestIs w hb b) : hb < w.heap.size := lt_of_cell h.cells.1

/-- The loop over the slots: what has come of S. -/
structure QI (w wo wr : World) (rs : List Rd) (E : List Ent) (L : List (List ByteArray)) (S : List Int) : Prop where
  bel : Below wo.heap.size wo wr
  tal : MapIs kind64 wr wo.heap.size S (tv rs E L)
  it : IterAt wr (wo.heap.size + 1) w.heap.size (slotsOf E) S
theorem QI.start {w wo : World} {rs : List Rd} {E : List Ent} {PB : List Nat} (L : List (List ByteArray)) (h : TInv w wo rs E PB) :
    (Instr.range 109 (.map (some w.heap.size))).run Try.prog (wo.alloc (.map #[] 0)) = .ok (.pointer (some ⟨wo.heap.size + 1, 0, none⟩)) ((wo.alloc (.map #[] 0)).alloc (.mapIter (some w.heap.size) (slotsOf E).length #[] (slotsOf E).length)) ∧
    QI w wo ((wo.alloc (.map #[] 0)).alloc (.mapIter (some w.heap.size) (slotsOf E).length #[] (slotsOf E).length)) rs E L [] := by
  obtain ⟨val, hc⟩ := h.casts
  refine ⟨?_, below_alloc2 _ _ _, (MapIs.made wo _).alloc _, ?_⟩
  · have := range_iter (P := Try.prog) (t := 109) Try.underlying109 (hc.map.alloc (.map #[] 0))
    rw [World.size_alloc] at this
    exact this
  · have := IterAt.start (wo.alloc (.map #[] 0)) w.heap.size (slotsOf E)
    rw [World.size_alloc] at this
    exact this
theorem QI.step {w wo wr : World} {rs : List Rd} {E : List Ent} {PB : List Nat} {L : List (List ByteArray)} {S : List Int} (T : TypeId) (h : TInv w wo rs E PB) (hq : QI w wo wr rs E L S) :
    ((∀ s ∈ slotsOf E, s ∈ S) ∧ (Instr.next (.pointer (some ⟨wo.heap.size + 1, 0, none⟩)) false T).run Try.prog wr = .ok (.tuple #[.bool false]) wr) ∨
    ∃ (s : Int) (w1 : World) (g cap : Nat) (e0 : Ent) (G : List Ent), s ∈ slotsOf E ∧ s ∉ S ∧ grp E s = e0 :: G ∧
      (Instr.next (.pointer (some ⟨wo.heap.size + 1, 0, none⟩)) false T).run Try.prog wr = .ok (.tuple #[.bool true, .int .u64 s, .slice (some ⟨g, 0, none⟩) (G.length + 1) cap]) w1 ∧
      (Instr.entry (.pointer (some ⟨wo.heap.size + 1, 0, none⟩))).run Try.prog w1 = .ok (.tuple #[.int .u64 s, .slice (some ⟨g, 0, none⟩) (G.length + 1) cap]) w1 ∧
      RowAt w1 (some ⟨g, 0, none⟩) 9 cstCells (e0 :: G) ∧ G.length + 1 ≤ cap ∧ cap ≤ maxLen ∧ w1.heap.size = wr.heap.size ∧
      Below wo.heap.size wo w1 ∧ MapIs kind64 w1 wo.heap.size S (tv rs E L) ∧ IterAt w1 (wo.heap.size + 1) w.heap.size (slotsOf E) (S ++ [s]) := by
  obtain ⟨val, hc⟩ := h.casts
  obtain ⟨hb, ht, hi⟩ := hq
  have hwlt := hc.map.lt
  have hm : MapIs kind64 wr w.heap.size (slotsOf E) val := hc.map.below hb hwlt
  rcases next_iter (P := Try.prog) T (show wo.heap.size + 1 ≠ w.heap.size by omega) hm hi with ⟨h1, h2⟩ | ⟨s, w1, h1, h2, h3, h4, h5, h6, h7⟩
  · exact .inl ⟨h1, h2⟩
  · have hbel1 : Below wo.heap.size wo w1 := hb.grown h5 hb.size (fun j hj => by cases hj; omega)
    have hne := grp_ne_nil h1
    obtain ⟨e0, G, hG⟩ : ∃ e0 G, grp E s = e0 :: G := by
      cases hg : grp E s with
      | nil => exact absurd hg hne
      | cons e0 G => exact ⟨e0, G, rfl⟩
    have hown := (hc.ext hbel1).own s h1
    rw [hG] at hown
    rcases hown.2 with ⟨_, h0⟩ | ⟨g, cap, cur, hv, _, _, hcap, hcm, _, _⟩
    · simp at h0
    · obtain ⟨ao, cap', hv', hrow⟩ := ownsRow_rowAt cstCells cst_len hown
      rw [hv] at hv'
      simp at hv'
      obtain ⟨rfl, rfl⟩ := hv'
      rw [hv] at h3 h7
      refine .inr ⟨s, w1, g, cap, e0, G, h1, h2, hG, h3, h7, hrow, hcap, hcm, h6, hbel1, ht.grown h5 (by simp), h4⟩

theorem cst_get0 {w : World} {g : Nat} {e : Ent} {G : List Ent} (h : RowAt w (some ⟨g, 0, none⟩) 9 cstCells (e :: G)) :
    w.cell? ⟨g, 0, none⟩ = some (.string e.fr) ∧ w.cell? ⟨g, 1, none⟩ = some (.int .u64 e.v.slot) ∧ w.cell? ⟨g, 2, none⟩ = some (.int .u64 e.v.round) ∧ w.cell? ⟨g, 3, none⟩ = some (.string e.v.leader) ∧ w.cell? ⟨g, 4, none⟩ = some (.string e.v.origin) ∧
    w.cell? ⟨g, 5, none⟩ = some (.int .u64 e.v.inc) ∧ w.cell? ⟨g, 6, none⟩ = some (.int .u64 e.v.seq) ∧ w.cell? ⟨g, 7, none⟩ = some (.slice e.v.ta e.v.tl e.v.tc) ∧ w.cell? ⟨g, 8, none⟩ = some (.int .u64 e.v.nxt) := by
  have := cst_get h (l := 0) (e := e) rfl
  simpa using this
theorem cst_get1 {w : World} {g : Nat} {e0 e : Ent} {G : List Ent} (h : RowAt w (some ⟨g, 0, none⟩) 9 cstCells (e0 :: G)) {l : Nat} (he : G[l]? = some e) :
    w.cell? ⟨g, 9 + l * 9, none⟩ = some (.string e.fr) ∧ w.cell? ⟨g, 9 + l * 9 + 1, none⟩ = some (.int .u64 e.v.slot) ∧ w.cell? ⟨g, 9 + l * 9 + 2, none⟩ = some (.int .u64 e.v.round) ∧ w.cell? ⟨g, 9 + l * 9 + 3, none⟩ = some (.string e.v.leader) ∧ w.cell? ⟨g, 9 + l * 9 + 4, none⟩ = some (.string e.v.origin) ∧
    w.cell? ⟨g, 9 + l * 9 + 5, none⟩ = some (.int .u64 e.v.inc) ∧ w.cell? ⟨g, 9 + l * 9 + 6, none⟩ = some (.int .u64 e.v.seq) ∧ w.cell? ⟨g, 9 + l * 9 + 7, none⟩ = some (.slice e.v.ta e.v.tl e.v.tc) ∧ w.cell? ⟨g, 9 + l * 9 + 8, none⟩ = some (.int .u64 e.v.nxt) := by
  have := cst_get h (l := l + 1) (e := e) (by simpa using he)
  have e' : 0 + (l + 1) * 9 = 9 + l * 9 := by omega
  rw [e'] at this
  exact this
theorem rep_len (rs : List Rd) : (reported rs).length ≤ vcount rs := by
  have := repTo_len rs rs.length
  rw [List.take_of_length_le (Nat.le_refl _)] at this
  exact this
theorem BuiltPs.get {w : World} {a : Option Addr} {n k : Nat} {L : List (List ByteArray)} (h : BuiltPs w a n L) (hk : k < n) :
    ∃ ms m b off, L[k]? = some ms ∧ a = some ⟨b, off, none⟩ ∧ w.cell? ⟨b, off + k, none⟩ = some (.pointer (some ⟨m, 0, none⟩)) ∧ PoolAt w 0 m ms := by
  obtain ⟨hl, Ms, hMl, hrow, hall⟩ := h
  obtain ⟨ms, hms⟩ := get_of_lt hl hk
  obtain ⟨m, hm⟩ := get_of_lt hMl hk
  obtain ⟨b, off, e, hc⟩ := hrow k m hm
  refine ⟨ms, m, b, off, hms, e, ?_, hall k ms m hms hm⟩
  have := hc 0 _ rfl
  simpa using this
theorem below6 {w1 w6 : World} {o1 o2 o3 : Obj} (hgr : (((w1.alloc o1).alloc o2).alloc o3).grownBy w6 (some (w1.heap.size + 1 + 1))) : Below w1.heap.size w1 w6 := by
  have hb3 : Below w1.heap.size w1 (((w1.alloc o1).alloc o2).alloc o3) := (((Below.refl _ _).alloc (Nat.le_refl _) _).alloc (by simp) _).alloc (by simp; omega) _
  exact hb3.grown hgr hb3.size (fun j hj => by cases hj; omega)
theorem tv_eq {rs : List Rd} {E : List Ent} {L : List (List ByteArray)} {s : Int} {e0 : Ent} {G : List Ent} (h : grp E s = e0 :: G) {best : Vt} (hb : best = bestFold e0.v G) {m : Bool} (hm : m = mayOf (namesOf rs E s) (e0 :: G) best L) :
    tv rs E L s = .agg #[.int .u64 best.slot, .int .u64 best.round, .string best.leader, .string best.origin, .int .u64 best.inc, .int .u64 best.seq, .slice best.ta best.tl best.tc, .int .u64 best.nxt, .bool m] := by
  have e : bestOf (grp E s) = best := by rw [h, hb]; rfl
  unfold tv
  rw [e, h, hm]
  rfl
theorem grown_below {w3 w6 wa w7 : World} {r : Option Nat} (h : w3.grownBy w6 r) (k : Below w6.heap.size w6 wa) (k' : Below wa.heap.size wa w7) : w3.grownBy w7 r :=
  (h.trans ⟨k.os, k.tape, k.output, k.size, fun i hi _ => k.block i hi⟩).trans ⟨k'.os, k'.tape, k'.output, k'.size, fun i hi _ => k'.block i hi⟩
theorem cst_new {w6 w7 : World} {e : Ent} (hb : Below (w6.alloc (.cells (cstCells e).toArray 119)).heap.size (w6.alloc (.cells (cstCells e).toArray 119)) w7) :
    w7.cell? ⟨w6.heap.size, 0, none⟩ = some (.string e.fr) ∧ w7.cell? ⟨w6.heap.size, 1, none⟩ = some (.int .u64 e.v.slot) ∧ w7.cell? ⟨w6.heap.size, 2, none⟩ = some (.int .u64 e.v.round) ∧ w7.cell? ⟨w6.heap.size, 3, none⟩ = some (.string e.v.leader) ∧ w7.cell? ⟨w6.heap.size, 4, none⟩ = some (.string e.v.origin) ∧
    w7.cell? ⟨w6.heap.size, 5, none⟩ = some (.int .u64 e.v.inc) ∧ w7.cell? ⟨w6.heap.size, 6, none⟩ = some (.int .u64 e.v.seq) ∧ w7.cell? ⟨w6.heap.size, 7, none⟩ = some (.slice e.v.ta e.v.tl e.v.tc) ∧ w7.cell? ⟨w6.heap.size, 8, none⟩ = some (.int .u64 e.v.nxt) := by
  have hc := fun j u h => cell_ext hb (new_cells' w6 (cstCells e) 119 j u h)
  exact ⟨hc 0 _ rfl, hc 1 _ rfl, hc 2 _ rfl, hc 3 _ rfl, hc 4 _ rfl, hc 5 _ rfl, hc 6 _ rfl, hc 7 _ rfl, hc 8 _ rfl⟩
/-- All that the closure reads stands. -/
theorem clos_ok {w wo w1 w6 : World} {rs : List Rd} {E : List Ent} {PB : List Nat} {n : Nat} {s : Int} {g cap : Nat} {e0 best : Vt} {G : List Ent} {E0 : Ent} (h : TInv w wo rs E PB) (hPL : PB.length = n) (hrs : rs.length = n) (hE : E = repTo rs n)
    (hs : s ∈ slotsOf E) (hrow : RowAt w1 (some ⟨g, 0, none⟩) 9 cstCells (E0 :: G)) (hbel : Below wo.heap.size wo w1) (hsm : G.length + 1 ≤ 1048576)
    (hgr : (((w1.alloc (.cells #[.int .u64 s] 48)).alloc (.cells #[.slice (some ⟨g, 0, none⟩) (G.length + 1) cap] 117)).alloc (.cells e0.cells.toArray 87)).grownBy w6 (some (w1.heap.size + 1 + 1))) (hbest : BestIs w6 (w1.heap.size + 1 + 1) best) :
    ClosOk w6 (w.heap.size + 1 + 1) (w.heap.size + 1) w1.heap.size (w1.heap.size + 1) (w1.heap.size + 1 + 1) s (namesOf rs E s) (E0 :: G) best ∧ Below w1.heap.size w1 w6 := by
  have hb3 : Below w1.heap.size w1 (((w1.alloc (.cells #[.int .u64 s] 48)).alloc (.cells #[.slice (some ⟨g, 0, none⟩) (G.length + 1) cap] 117)).alloc (.cells e0.cells.toArray 87)) := (((Below.refl _ _).alloc (Nat.le_refl _) _).alloc (by simp) _).alloc (by simp; omega) _
  have hb6 : Below w1.heap.size w1 w6 := hb3.grown hgr hb3.size (fun j hj => by cases hj; omega)
  have hT := h.ext (hbel.trans (hb6.mono hbel.size))
  obtain ⟨c0, c1, c2, c3, c4, c5, c6, c7, _⟩ := hbest.cells
  refine ⟨⟨hT.var, ?_, ?_, ⟨some ⟨g, 0, none⟩, cap, ?_, hrow.ext hb6⟩, c3, c4, c5, by simp; omega⟩, hb6⟩
  · have hlr : lastRd E s < n := by rw [hE] at hs ⊢; exact lastRd_lt hs
    obtain ⟨r, hr⟩ := get_of_lt hrs hlr
    obtain ⟨b, hbb⟩ := get_of_lt hPL hlr
    have hp := hT.proms _ r b hr hbb
    refine ⟨_, _, b, hT.heard, hs, ?_, ?_⟩
    · simp [hval, List.getD_eq_getElem?_getD, hbb]
    · simp only [namesOf, hr, Option.map_some, Option.getD_some]
      exact hp.2
  · exact hgr.cell (cell_ext (below_alloc2 _ _ _) (new_cells' w1 [.int .u64 s] 48 0 _ rfl)) (by simp; omega)
  · have := new_cells' (w1.alloc (.cells #[.int .u64 s] 48)) [.slice (some ⟨g, 0, none⟩) (G.length + 1) cap] 117 0 _ rfl
    rw [World.size_alloc] at this
    exact hgr.cell (cell_ext (below_alloc1 _ _) this) (by simp)

/-- The round's end. -/
theorem QI.put {w wo w1 w6 : World} {rs : List Rd} {E : List Ent} {L : List (List ByteArray)} {S : List Int} {s : Int} (hb1 : Below wo.heap.size wo w1) (ht : MapIs kind64 w1 wo.heap.size S (tv rs E L)) (hi : IterAt w1 (wo.heap.size + 1) w.heap.size (slotsOf E) (S ++ [s])) (hs : s ∉ S) (hb6 : Below w1.heap.size w1 w6) (hlt : wo.heap.size + 1 < w1.heap.size) :
    (Instr.mapUpdate 42 (.map (some wo.heap.size)) (.int .u64 s) (tv rs E L s)).run Try.prog w6 = .ok () (setBlock w6 wo.heap.size (mkF kind64 (addKey S s) (updV (tv rs E L) s (tv rs E L s)))) ∧
    QI w wo (setBlock w6 wo.heap.size (mkF kind64 (addKey S s) (updV (tv rs E L) s (tv rs E L s)))) rs E L (S ++ [s]) := by
  have ht6 := ht.below hb6 ht.lt
  refine ⟨ht6.put (P := Try.prog) (t := 42) (kt := 48) (e := 124) Try.underlying42 Try.underlying48 s _, ?_, ?_, ?_⟩
  · exact (hb1.trans (hb6.mono hb1.size)).grown (setBlock_grown _ _ _) (Nat.le_trans hb1.size hb6.size) (fun j hj => by cases hj; exact Nat.le_refl _)
  · have h := ht6.afterPut s (tv rs E L s)
    have e : addKey S s = S ++ [s] := by simp [addKey, hs]
    rw [e] at h ⊢
    exact h.congr fun k _ => by simp only [updV]; split <;> simp_all
  · exact hi.of_block ((heap_setBlock_other _ (by omega)).trans (hb6.block _ hlt))
end Go.Proofs.Qxb6612240a
