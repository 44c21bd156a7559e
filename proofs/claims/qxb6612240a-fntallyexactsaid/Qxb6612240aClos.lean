import Derived.Test.Qxb6612240aCst
namespace Go.Proofs.Qxb6612240a
open Go.RowKit Go.MapKept
open Go.ChangeMaps (setBlock)

/-- The order of ballots. -/
def bless (r1 : Int) (l1 : ByteArray) (r2 : Int) (l2 : ByteArray) : Bool := if r1 = r2 then Op.bytesLess l1.toList l2.toList else decide (r1 < r2)

theorem less_any (r1 : Int) (l1 : ByteArray) (r2 : Int) (l2 : ByteArray) (w : World) :
    Calls Try.prog 37 #[.agg #[.int .u64 r1, .string l1], .agg #[.int .u64 r2, .string l2]] w fun r w' => r = .returned (.bool (bless r1 l1 r2 l2)) ∧ Below w.heap.size w w' := by
  by_cases h : r1 = r2
  · subst h
    have e : bless r1 l1 r1 l2 = Op.bytesLess l1.toList l2.toList := by simp [bless]
    rw [e]
    clear e
    go_enter Try.func37, Try.ntmps37
    go_wp2
    go_ret
    exact ⟨rfl, below_alloc2 _ _ _⟩
  · have e : bless r1 l1 r2 l2 = decide (r1 < r2) := by simp [bless, h]
    have h' : (r1 != r2) = true := by simpa using h
    rw [e]
    clear e
    go_enter Try.func37, Try.ntmps37
    go_wp2
    go_ret
    exact ⟨rfl, below_alloc2 _ _ _⟩

/-- Is the key on the list? -/
def memB {κ : Type} [DecidableEq κ] (k : κ) (l : List κ) : Bool := decide (k ∈ l)
theorem memB_iff {κ : Type} [DecidableEq κ] {k : κ} {l : List κ} : memB k l = true ↔ k ∈ l := by simp [memB]
theorem memB_no {κ : Type} [DecidableEq κ] {k : κ} {l : List κ} : memB k l = false ↔ k ∉ l := by simp [memB]
theorem MapIs.lookTrue {κ : Type} [DecidableEq κ] {k0 : KeyKind κ} {P : Program} {t kt e : TypeId} {w : World} {b : Nat} {keys : List κ} (h : MapIs k0 w b keys (fun _ => .bool true)) (ht : P.underlying t = some (.map kt e)) (hk : P.underlying kt = some k0.d) (hz : (zeroValue e).run P w = .ok (.bool false) w) (k : κ) :
    (Instr.lookup t (.map (some b)) (k0.K k) false).run P w = .ok (.bool (memB k keys)) w := by
  rw [h.look ht hk hz k]
  by_cases hm : k ∈ keys
  · rw [if_pos hm, memB_iff.2 hm]
  · rw [if_neg hm, memB_no.2 hm]
/-- One request. -/
def sameId (a b : Vt) : Bool := (a.origin.toList == b.origin.toList && a.inc == b.inc) && a.seq == b.seq
/-- 'other.by == name && other.vote.id == highest.id' -/
def hit (name : ByteArray) (best : Vt) (e : Ent) : Bool := e.fr.toList == name.toList && sameId e.v best
/-- May the member have voted for the best vote's request? -/
def mhv (names : List ByteArray) (G : List Ent) (best : Vt) (name : ByteArray) : Bool := !(memB name names) || G.any (hit name best)

/-- What the closure reads. -/
structure ClosOk (w : World) (hv bh sb ib hb : Nat) (s : Int) (names : List ByteArray) (G : List Ent) (best : Vt) : Prop where
  var : w.cell? ⟨hv, 0, none⟩ = some (.map (some bh))
  heard : ∃ keys val pb, MapIs kind64 w bh keys val ∧ s ∈ keys ∧ val s = .map (some pb) ∧ MapIs kindStr w pb names (fun _ => .bool true)
  slot : w.cell? ⟨sb, 0, none⟩ = some (.int .u64 s)
  votes : ∃ ao cap, w.cell? ⟨ib, 0, none⟩ = some (.slice ao G.length cap) ∧ RowAt w ao 9 cstCells G
  c3 : w.cell? ⟨hb, 3, none⟩ = some (.string best.origin)
  c4 : w.cell? ⟨hb, 4, none⟩ = some (.int .u64 best.inc)
  c5 : w.cell? ⟨hb, 5, none⟩ = some (.int .u64 best.seq)
  small : G.length ≤ 1048576
theorem ClosOk.ext {w w' : World} {hv bh sb ib hb : Nat} {s : Int} {names : List ByteArray} {G : List Ent} {best : Vt} (h : ClosOk w hv bh sb ib hb s names G best) (k : Below w.heap.size w w') : ClosOk w' hv bh sb ib hb s names G best := by
  obtain ⟨h1, ⟨keys, val, pb, m1, m2, m3, m4⟩, h2, ⟨ao, cap, v1, v2⟩, h3, h4, h5, h6⟩ := h
  exact ⟨cell_ext k h1, ⟨keys, val, pb, m1.below k m1.lt, m2, m3, m4.below k m4.lt⟩, cell_ext k h2, ⟨ao, cap, cell_ext k v1, v2.ext k⟩, cell_ext k h3, cell_ext k h4, cell_ext k h5, h6⟩
theorem cst_get {w : World} {b off : Nat} {G : List Ent} (h : RowAt w (some ⟨b, off, none⟩) 9 cstCells G) {l : Nat} {e : Ent} (he : G[l]? = some e) :
    w.cell? ⟨b, off + l * 9, none⟩ = some (.string e.fr) ∧ w.cell? ⟨b, off + l * 9 + 1, none⟩ = some (.int .u64 e.v.slot) ∧ w.cell? ⟨b, off + l * 9 + 2, none⟩ = some (.int .u64 e.v.round) ∧ w.cell? ⟨b, off + l * 9 + 3, none⟩ = some (.string e.v.leader) ∧ w.cell? ⟨b, off + l * 9 + 4, none⟩ = some (.string e.v.origin) ∧
    w.cell? ⟨b, off + l * 9 + 5, none⟩ = some (.int .u64 e.v.inc) ∧ w.cell? ⟨b, off + l * 9 + 6, none⟩ = some (.int .u64 e.v.seq) ∧ w.cell? ⟨b, off + l * 9 + 7, none⟩ = some (.slice e.v.ta e.v.tl e.v.tc) ∧ w.cell? ⟨b, off + l * 9 + 8, none⟩ = some (.int .u64 e.v.nxt) := by
  have hc := h.at he
  exact ⟨hc 0 _ rfl, hc 1 _ rfl, hc 2 _ rfl, hc 3 _ rfl, hc 4 _ rfl, hc 5 _ rfl, hc 6 _ rfl, hc 7 _ rfl, hc 8 _ rfl⟩
theorem any_step {G : List Ent} {l : Nat} {e : Ent} (he : G[l]? = some e) (p : Ent → Bool) (h : (G.take l).any p = false) (hp : p e = false) : (G.take (l + 1)).any p = false := by
  rw [take_get he, List.any_append, h]; simp [hp]
theorem any_hit {G : List Ent} {l : Nat} {e : Ent} (he : G[l]? = some e) (p : Ent → Bool) (hp : p e = true) : G.any p = true := List.any_eq_true.2 ⟨e, List.mem_of_getElem? he, hp⟩

set_option maxRecDepth 100000 in
set_option maxHeartbeats 4000000 in
theorem clos_any (hv bh sb ib hb : Nat) (s : Int) (names : List ByteArray) (G : List Ent) (best : Vt) (name : ByteArray) (w : World) (h : ClosOk w hv bh sb ib hb s names G best) :
    Calls Try.prog 38 #[.string name, .pointer (some ⟨hv, 0, none⟩), .pointer (some ⟨sb, 0, none⟩), .pointer (some ⟨ib, 0, none⟩), .pointer (some ⟨hb, 0, none⟩)] w fun r w' => r = .returned (.bool (mhv names G best name)) ∧ Below w.heap.size w w' := by
  have H : Hid (ClosOk w hv bh sb ib hb s names G best) := h
  obtain ⟨h1, ⟨keys, val, pb, m1, m2, m3, m4⟩, h2, ⟨ao, cap, v1, v2⟩, h3, h4, h5, h6⟩ := h
  have hl1 : (Instr.lookup 110 (.map (some bh)) (.int .u64 s) false).run Try.prog w = .ok (.map (some pb)) w := by
    have := m1.look (P := Try.prog) (t := 110) (kt := 48) (e := 111) Try.underlying110 Try.underlying48 (z := .map none) (by kernel_rfl) s
    rw [if_pos m2, m3] at this
    exact this
  have hl2 : (Instr.lookup 111 (.map (some pb)) (.string name) false).run Try.prog w = .ok (.bool (memB name names)) w := m4.lookTrue (P := Try.prog) (t := 111) (kt := 9) (e := 4) Try.underlying111 Try.underlying9 (by kernel_rfl) name
  clear m1 m2 m3 m4
  cases hn : memB name names
  rotate_left
  · rw [hn] at hl2
    have HF : Hid (mhv names G best name = G.any (hit name best)) := by show _ = _; simp [mhv, hn]
    clear hn
    go_enter Try.func38, Try.ntmps38
    go_wp2
    go_loopw [17] (fun i wr => ∃ l : Nat, l ≤ G.length ∧ i = .int .i64 l ∧ Hid ((G.take l).any (hit name best) = false) ∧ Below w.heap.size w wr) (fun i _ => G.length - (intOf i).toNat)
    case atStart => exact ⟨0, Nat.zero_le _, rfl, by show _ = _; simp, Below.refl _ _⟩
    case round =>
      rename World => wr
      obtain ⟨l, hl, rfl, hno, hbel⟩ := hrel
      by_cases hll : l < G.length
      · obtain ⟨e, he⟩ := get_of_lt rfl hll
        obtain ⟨b, off, rfl, _⟩ := v2 l e he
        obtain ⟨e0, e1, e2, e3, e4, e5, e6, e7, e8⟩ := cst_get v2 he
        have HE := hide_get he
        clear he
        have f0 := cell_ext hbel e0
        have f1 := cell_ext hbel e1
        have f2 := cell_ext hbel e2
        have f3 := cell_ext hbel e3
        have f4 := cell_ext hbel e4
        have f5 := cell_ext hbel e5
        have f6 := cell_ext hbel e6
        have f7 := cell_ext hbel e7
        have f8 := cell_ext hbel e8
        have k3 := cell_ext hbel h3
        have k4 := cell_ext hbel h4
        have k5 := cell_ext hbel h5
        have hlt := lt_of_cell k3
        go_wp2
        all_goals first
          | (go_ret
             rw [HF.out, any_hit HE.out _ (by simp [hit, sameId, *])]
             exact ⟨rfl, hbel.alloc hbel.size _⟩)
          | (refine ⟨⟨l + 1, by omega, by go_num, any_step HE.out _ hno.out ?_, hbel.alloc hbel.size _⟩, ?_⟩
             · simp [hit, sameId, *]
             · simp [intOf]; omega)
      · have e : G.take l = G := List.take_of_length_le (by omega)
        rw [e] at hno
        go_wp2
        go_ret
        rw [HF.out, hno.out]
        exact ⟨rfl, hbel⟩
  · rw [hn] at hl2
    have HF : mhv names G best name = true := by simp [mhv, hn]
    rw [HF]
    clear hn HF
    go_enter Try.func38, Try.ntmps38
    go_wp2
    go_ret
    exact ⟨rfl, Below.refl _ _⟩
end Go.Proofs.Qxb6612240a
