import Derived.Test.Qxb6612240aReads
import Derived.Deep.RegionWith
namespace Go.Proofs.Qxb6612240a
open Go.RowKit Go.MapKept
open Go.ChangeMaps (setBlock)

theorem zztally_any (a : Option Addr) (n c : Nat) (rs : List Rd) (pa : Option Addr) (pn pc : Nat) (L : List (List ByteArray)) (w : World) (h : BuiltRs w a n rs) (hps : BuiltPs w pa pn L) (hn : n ≤ 1048576) (hN : vcount rs ≤ 1048576)
    (hsm : ∀ r ∈ rs, r.ps.length ≤ 1048576 ∧ ∀ p ∈ r.ps, p.vs.length ≤ 1048576) (hpn : pn ≤ 1048576) (hpm : ∀ ms ∈ L, ms.length ≤ 1048576) :
    Calls Try.prog 17 #[.slice a n c, .slice pa pn pc] w fun r w' => ∃ tb S, r = .returned (.map (some tb)) ∧ MapIs kind64 w' tb S (tv rs (reported rs) L) ∧ (∀ s, s ∈ S ↔ s ∈ slotsOf (reported rs)) ∧ S.length = (slotsOf (reported rs)).length ∧ Below w.heap.size w w' := by
  go_enter Try.func17, Try.ntmps17
  go_wp2_with fail
  refine (tally_any a n c rs pa pn pc L _ h hps hn hN hsm hpn hpm).mono ?_
  rintro r' w' ⟨tb, S, rfl, h1, h2, h3, h4⟩
  go_wp2
  go_ret
  exact ⟨tb, S, rfl, h1, h2, h3, h4⟩

set_option maxRecDepth 100000 in
set_option maxHeartbeats 4000000 in
theorem tallyAt_any (b : Nat) (S : List Int) (val : Int → Value) (s : Int) (a : Vt) (m : Bool) (w : World) (h : MapIs kind64 w b S val) (hs : s ∈ S) (hv : val s = .agg #[.int .u64 a.slot, .int .u64 a.round, .string a.leader, .string a.origin, .int .u64 a.inc, .int .u64 a.seq, .slice a.ta a.tl a.tc, .int .u64 a.nxt, .bool m]) :
    Calls Try.prog 33 #[.map (some b), .int .u64 s] w fun r w' => r = .returned (.tuple #[.bool true, .int .u64 a.slot, .int .u64 a.round, .string a.leader, .string a.origin, .int .u64 a.inc, .int .u64 a.seq, .slice a.ta a.tl a.tc, .int .u64 a.nxt, .bool m]) ∧ Below w.heap.size w w' := by
  have hl : (Instr.lookup 42 (.map (some b)) (.int .u64 s) true).run Try.prog w = .ok (.tuple #[.agg #[.int .u64 a.slot, .int .u64 a.round, .string a.leader, .string a.origin, .int .u64 a.inc, .int .u64 a.seq, .slice a.ta a.tl a.tc, .int .u64 a.nxt, .bool m], .bool true]) w := by
    have := h.lookOk (P := Try.prog) (t := 42) (kt := 48) (e := 124) Try.underlying42 Try.underlying48 hs
    rw [hv] at this
    exact this
  clear h hs hv
  go_enter Try.func33, Try.ntmps33
  go_wp2
  go_quiet (fail)
  go_wp2
  exact bodyPost_ret (v := .tuple #[.bool true, .int .u64 a.slot, .int .u64 a.round, .string a.leader, .string a.origin, .int .u64 a.inc, .int .u64 a.seq, .slice a.ta a.tl a.tc, .int .u64 a.nxt, .bool m]) (by simp [results, Try.results33, go_sem]) rfl ⟨rfl, below_drewN (below_alloc1 _ _) _⟩

/-- The ten cells of the view's own block. -/
def zeroView : List Value := [.bool false, .int .u64 0, .int .u64 0, .string ⟨#[]⟩, .string ⟨#[]⟩, .int .u64 0, .int .u64 0, .slice none 0 0, .int .u64 0, .bool false]
theorem fresh_own (w : World) : (w.alloc (.cells zeroView.toArray 55)).ownsRow w.heap.size 55 10 (.slice (some ⟨w.heap.size, 0, none⟩) 1 1) 1 zeroView :=
  ⟨rfl, .inr ⟨w.heap.size, 1, zeroView.toArray, rfl, Nat.le_refl _, (MapKept.heap_alloc _ _).1, Nat.le_refl _, by decide, rfl, rfl⟩⟩
theorem own_below {w w' : World} {base : Nat} {e : TypeId} {sz : Nat} {v : Value} {n : Nat} {xs : List Value} (h : w.ownsRow base e sz v n xs) (k : Below w.heap.size w w') : w'.ownsRow base e sz v n xs :=
  h.kept (row := none) ⟨k.os, k.tape, k.output, k.size, fun i hi _ => k.block i hi⟩ (by cases v.ownBlock <;> simp)
theorem fresh10 {w w' : World} (hb : Below (w.alloc (.cells zeroView.toArray 55)).heap.size (w.alloc (.cells zeroView.toArray 55)) w') :
    w'.cell? ⟨w.heap.size, 0, none⟩ = some (.bool false) ∧ w'.cell? ⟨w.heap.size, 1, none⟩ = some (.int .u64 0) ∧ w'.cell? ⟨w.heap.size, 2, none⟩ = some (.int .u64 0) ∧ w'.cell? ⟨w.heap.size, 3, none⟩ = some (.string ⟨#[]⟩) ∧ w'.cell? ⟨w.heap.size, 4, none⟩ = some (.string ⟨#[]⟩) ∧
    w'.cell? ⟨w.heap.size, 5, none⟩ = some (.int .u64 0) ∧ w'.cell? ⟨w.heap.size, 6, none⟩ = some (.int .u64 0) ∧ w'.cell? ⟨w.heap.size, 7, none⟩ = some (.slice none 0 0) ∧ w'.cell? ⟨w.heap.size, 8, none⟩ = some (.int .u64 0) ∧ w'.cell? ⟨w.heap.size, 9, none⟩ = some (.bool false) ∧ ∀ j, w'.frozen? ⟨w.heap.size, j, none⟩ = false := by
  have h := own_below (fresh_own w) hb
  have hc := fun j hj => World.ownsRow.cellAt h j hj
  exact ⟨hc 0 (by decide), hc 1 (by decide), hc 2 (by decide), hc 3 (by decide), hc 4 (by decide), hc 5 (by decide), hc 6 (by decide), hc 7 (by decide), hc 8 (by decide), hc 9 (by decide), fun j => World.ownsRow.frozenAt h j⟩

set_option maxRecDepth 100000 in
set_option maxHeartbeats 4000000 in
theorem at_any (b : Nat) (S : List Int) (val : Int → Value) (s : Int) (a : Vt) (m : Bool) (w : World) (h : MapIs kind64 w b S val) (hs : s ∈ S) (hv : val s = .agg #[.int .u64 a.slot, .int .u64 a.round, .string a.leader, .string a.origin, .int .u64 a.inc, .int .u64 a.seq, .slice a.ta a.tl a.tc, .int .u64 a.nxt, .bool m]) :
    Calls Try.prog 21 #[.map (some b), .int .u64 s] w fun r w' => r = .returned (.agg #[.bool true, .int .u64 a.slot, .int .u64 a.round, .string a.leader, .string a.origin, .int .u64 a.inc, .int .u64 a.seq, .slice a.ta a.tl a.tc, .int .u64 a.nxt, .bool m]) ∧ Below w.heap.size w w' := by
  have H := hideP h
  have HS := hideP hs
  have HV := hideP hv
  clear h hs hv
  go_enter Try.func21, Try.ntmps21
  go_wp2_with fail
  refine (tallyAt_any b S val s a m _ (H.out.alloc _) HS.out HV.out).mono ?_
  rintro r' w' ⟨rfl, hb⟩
  obtain ⟨z0, z1, z2, z3, z4, z5, z6, z7, z8, z9, zz⟩ := fresh10 hb
  have HB := hideP hb
  clear hb
  go_wp2
  obtain ⟨s1, s2, s3⟩ := storeAt_owns [.bool true, .int .u64 a.slot, .int .u64 a.round, .string a.leader, .string a.origin, .int .u64 a.inc, .int .u64 a.seq, .slice a.ta a.tl a.tc, .int .u64 a.nxt, .bool m] 0 (own_below (fresh_own w) HB.out)
  have hbw : Below w.heap.size w w' := (below_alloc1 _ _).trans (HB.out.mono (below_alloc1 _ _).size)
  have hbf : Below w.heap.size w (storeAt w' w.heap.size 0 [.bool true, .int .u64 a.slot, .int .u64 a.round, .string a.leader, .string a.origin, .int .u64 a.inc, .int .u64 a.seq, .slice a.ta a.tl a.tc, .int .u64 a.nxt, .bool m]) := hbw.grown s2 hbw.size (fun j hj => by cases hj; exact Nat.le_refl _)
  show bodyPost _ _ _ _ _ (storeAt w' w.heap.size 0 [.bool true, .int .u64 a.slot, .int .u64 a.round, .string a.leader, .string a.origin, .int .u64 a.inc, .int .u64 a.seq, .slice a.ta a.tl a.tc, .int .u64 a.nxt, .bool m])
  generalize storeAt w' w.heap.size 0 [.bool true, .int .u64 a.slot, .int .u64 a.round, .string a.leader, .string a.origin, .int .u64 a.inc, .int .u64 a.seq, .slice a.ta a.tl a.tc, .int .u64 a.nxt, .bool m] = wf at s1 hbf ⊢
  have hc := fun j hj => World.ownsRow.cellAt s1 j hj
  have q0 : wf.cell? ⟨w.heap.size, 0, none⟩ = some (.bool true) := hc 0 (by decide)
  have q1 : wf.cell? ⟨w.heap.size, 1, none⟩ = some (.int .u64 a.slot) := hc 1 (by decide)
  have q2 : wf.cell? ⟨w.heap.size, 2, none⟩ = some (.int .u64 a.round) := hc 2 (by decide)
  have q3 : wf.cell? ⟨w.heap.size, 3, none⟩ = some (.string a.leader) := hc 3 (by decide)
  have q4 : wf.cell? ⟨w.heap.size, 4, none⟩ = some (.string a.origin) := hc 4 (by decide)
  have q5 : wf.cell? ⟨w.heap.size, 5, none⟩ = some (.int .u64 a.inc) := hc 5 (by decide)
  have q6 : wf.cell? ⟨w.heap.size, 6, none⟩ = some (.int .u64 a.seq) := hc 6 (by decide)
  have q7 : wf.cell? ⟨w.heap.size, 7, none⟩ = some (.slice a.ta a.tl a.tc) := hc 7 (by decide)
  have q8 : wf.cell? ⟨w.heap.size, 8, none⟩ = some (.int .u64 a.nxt) := hc 8 (by decide)
  have q9 : wf.cell? ⟨w.heap.size, 9, none⟩ = some (.bool m) := hc 9 (by decide)
  exact bodyPost_ret (v := .agg #[.bool true, .int .u64 a.slot, .int .u64 a.round, .string a.leader, .string a.origin, .int .u64 a.inc, .int .u64 a.seq, .slice a.ta a.tl a.tc, .int .u64 a.nxt, .bool m]) (by simp [results, Try.results21, go_sem, q0, q1, q2, q3, q4, q5, q6, q7, q8, q9]) rfl ⟨rfl, hbf⟩

end Go.Proofs.Qxb6612240a
