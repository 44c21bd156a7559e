import Derived.Test.Qxb6612240aRows
import Derived.WalkKit
import Derived.WalkSpells
import Derived.RowKit3
import Derived.Below
import Derived.WalkSmall
import Derived.RegionTactic
import Derived.BigRegion
import Derived.Deep.QuietTactic
import Derived.BigQuiet
import Derived.Outline
namespace Go.Proofs.Qxb6612240a
open Go.RowKit

/-! ### Lists in memory -/

/-- A list lies in memory behind the address 'a', its elements one behind the other: element i takes 'sz' cells, those of 'cs'. -/
def RowAt {α : Type} (w : World) (a : Option Addr) (sz : Nat) (cs : α → List Value) (l : List α) : Prop :=
  ∀ i v, l[i]? = some v → ∃ b off, a = some ⟨b, off, none⟩ ∧ ∀ j x, (cs v)[j]? = some x → w.cell? ⟨b, off + i * sz + j, none⟩ = some x

theorem lt_of_cell {w : World} {b o : Nat} {x : Value} (h : w.cell? ⟨b, o, none⟩ = some x) : b < w.heap.size := by
  simp only [World.cell?] at h
  by_cases hb : b < w.heap.size
  · exact hb
  · rw [Array.getElem?_eq_none (by omega)] at h; simp at h

/-- All that lay in w lies in w' as it did. -/
theorem cell_ext {w w' : World} (h : Below w.heap.size w w') {b o : Nat} {x : Value} (hc : w.cell? ⟨b, o, none⟩ = some x) : w'.cell? ⟨b, o, none⟩ = some x :=
  (h.cell (p := ⟨b, o, none⟩) (lt_of_cell hc)).trans hc

theorem RowAt.ext {α : Type} {w w' : World} {a : Option Addr} {sz : Nat} {cs : α → List Value} {l : List α} (h : RowAt w a sz cs l) (k : Below w.heap.size w w') : RowAt w' a sz cs l := by
  intro i v hi
  obtain ⟨b, off, e, hc⟩ := h i v hi
  exact ⟨b, off, e, fun j x hj => cell_ext k (hc j x hj)⟩

theorem Below.ext {a b c : World} (h : Below a.heap.size a b) (k : Below b.heap.size b c) : Below a.heap.size a c := h.trans (k.mono h.size)
theorem Below.draws (w : World) (n : Nat) : Below w.heap.size w (w.drewN n) := below_drewN (Below.refl _ _) n

/-! ### The data -/

/-- A name. -/
def strCells (s : ByteArray) : List Value := [.string s]
/-- A byte. -/
def byteCells (z : Int) : List Value := [.int .u8 z]

/-- A vote: eight cells, in the law's own struct and in the program's alike. 'tx': the bytes behind the slice. -/
structure Vt where
  slot : Int
  round : Int
  leader : ByteArray
  origin : ByteArray
  inc : Int
  seq : Int
  ta : Option Addr
  tl : Nat
  tc : Nat
  nxt : Int
  tx : List Int
def Vt.cells (v : Vt) : List Value := [.int .u64 v.slot, .int .u64 v.round, .string v.leader, .string v.origin, .int .u64 v.inc, .int .u64 v.seq, .slice v.ta v.tl v.tc, .int .u64 v.nxt]
structure VtOk (w : World) (v : Vt) : Prop where
  row : RowAt w v.ta 1 byteCells v.tx
  len : v.tx.length = v.tl
  max : v.tl ≤ maxLen

/-- A promise as it came. -/
structure Pr where
  fr : ByteArray
  a : Option Addr
  n : Nat
  c : Nat
  vs : List Vt
def Pr.cells (p : Pr) : List Value := [.string p.fr, .slice p.a p.n p.c]
structure PrOk (w : World) (p : Pr) : Prop where
  row : RowAt w p.a 8 Vt.cells p.vs
  len : p.vs.length = p.n
  max : p.n ≤ maxLen
  all : ∀ v ∈ p.vs, VtOk w v

/-- A round as it came. -/
structure Rd where
  en : Int
  a : Option Addr
  n : Nat
  c : Nat
  ps : List Pr
def Rd.cells (r : Rd) : List Value := [.int .u64 r.en, .slice r.a r.n r.c]
structure RdOk (w : World) (r : Rd) : Prop where
  row : RowAt w r.a 2 Pr.cells r.ps
  len : r.ps.length = r.n
  max : r.n ≤ maxLen
  all : ∀ p ∈ r.ps, PrOk w p

/-- The rounds as they came. -/
structure RsOk (w : World) (a : Option Addr) (n : Nat) (rs : List Rd) : Prop where
  row : RowAt w a 2 Rd.cells rs
  len : rs.length = n
  max : n ≤ maxLen
  all : ∀ r ∈ rs, RdOk w r

/-- A pool as it came: a slice of names. -/
structure Pl where
  a : Option Addr
  n : Nat
  c : Nat
  ms : List ByteArray
def Pl.cells (p : Pl) : List Value := [.slice p.a p.n p.c]
structure PlOk (w : World) (p : Pl) : Prop where
  row : RowAt w p.a 1 strCells p.ms
  len : p.ms.length = p.n
  max : p.n ≤ maxLen
/-- The pools as they came. -/
structure PsOk (w : World) (a : Option Addr) (n : Nat) (ps : List Pl) : Prop where
  row : RowAt w a 1 Pl.cells ps
  len : ps.length = n
  max : n ≤ maxLen
  all : ∀ p ∈ ps, PlOk w p

theorem VtOk.ext {w w' : World} {v : Vt} (h : VtOk w v) (k : Below w.heap.size w w') : VtOk w' v := ⟨h.row.ext k, h.len, h.max⟩
theorem PrOk.ext {w w' : World} {v : Pr} (h : PrOk w v) (k : Below w.heap.size w w') : PrOk w' v := ⟨h.row.ext k, h.len, h.max, fun v hv => (h.all v hv).ext k⟩
theorem RdOk.ext {w w' : World} {v : Rd} (h : RdOk w v) (k : Below w.heap.size w w') : RdOk w' v := ⟨h.row.ext k, h.len, h.max, fun v hv => (h.all v hv).ext k⟩
theorem RsOk.ext {w w' : World} {a : Option Addr} {n : Nat} {rs : List Rd} (h : RsOk w a n rs) (k : Below w.heap.size w w') : RsOk w' a n rs := ⟨h.row.ext k, h.len, h.max, fun v hv => (h.all v hv).ext k⟩
theorem PlOk.ext {w w' : World} {v : Pl} (h : PlOk w v) (k : Below w.heap.size w w') : PlOk w' v := ⟨h.row.ext k, h.len, h.max⟩
theorem PsOk.ext {w w' : World} {a : Option Addr} {n : Nat} {ps : List Pl} (h : PsOk w a n ps) (k : Below w.heap.size w w') : PsOk w' a n ps := ⟨h.row.ext k, h.len, h.max, fun v hv => (h.all v hv).ext k⟩

/-! ### One element, opened: its address, its cells. The address comes as an equation on a variable: take it by 'rfl'. -/
theorem get_of_lt {α : Type} {l : List α} {n k : Nat} (hl : l.length = n) (h : k < n) : ∃ v, l[k]? = some v := ⟨_, List.getElem?_eq_getElem (by omega)⟩
theorem RowAt.at {α : Type} {w : World} {b off : Nat} {sz : Nat} {cs : α → List Value} {l : List α} (h : RowAt w (some ⟨b, off, none⟩) sz cs l) {k : Nat} {v : α} (hk : l[k]? = some v) :
    ∀ j x, (cs v)[j]? = some x → w.cell? ⟨b, off + k * sz + j, none⟩ = some x := by
  obtain ⟨b', off', e, hc⟩ := h k v hk
  cases e
  exact hc
theorem RsOk.get {w : World} {a : Option Addr} {n k : Nat} {rs : List Rd} (h : RsOk w a n rs) (hk : k < n) :
    ∃ en ra rn rc rps b off, rs[k]? = some ⟨en, ra, rn, rc, rps⟩ ∧ a = some ⟨b, off, none⟩ ∧ w.cell? ⟨b, off + k * 2, none⟩ = some (.int .u64 en) ∧ w.cell? ⟨b, off + k * 2 + 1, none⟩ = some (.slice ra rn rc) ∧ RdOk w ⟨en, ra, rn, rc, rps⟩ := by
  obtain ⟨⟨en, ra, rn, rc, rps⟩, hr⟩ := get_of_lt h.len hk
  obtain ⟨b, off, e, hc⟩ := h.row k _ hr
  exact ⟨en, ra, rn, rc, rps, b, off, hr, e, hc 0 _ rfl, hc 1 _ rfl, h.all _ (List.mem_of_getElem? hr)⟩
theorem RdOk.get {w : World} {en : Int} {a : Option Addr} {n c : Nat} {ps : List Pr} {k : Nat} (h : RdOk w ⟨en, a, n, c, ps⟩) (hk : k < n) :
    ∃ fr pa pn pc pvs b off, ps[k]? = some ⟨fr, pa, pn, pc, pvs⟩ ∧ a = some ⟨b, off, none⟩ ∧ w.cell? ⟨b, off + k * 2, none⟩ = some (.string fr) ∧ w.cell? ⟨b, off + k * 2 + 1, none⟩ = some (.slice pa pn pc) ∧ PrOk w ⟨fr, pa, pn, pc, pvs⟩ := by
  obtain ⟨⟨fr, pa, pn, pc, pvs⟩, hr⟩ := get_of_lt h.len hk
  obtain ⟨b, off, e, hc⟩ := h.row k _ hr
  exact ⟨fr, pa, pn, pc, pvs, b, off, hr, e, hc 0 _ rfl, hc 1 _ rfl, h.all _ (List.mem_of_getElem? hr)⟩
theorem PrOk.get {w : World} {fr : ByteArray} {a : Option Addr} {n c : Nat} {vs : List Vt} {k : Nat} (h : PrOk w ⟨fr, a, n, c, vs⟩) (hk : k < n) :
    ∃ v b off, vs[k]? = some v ∧ a = some ⟨b, off, none⟩ ∧ w.cell? ⟨b, off + k * 8, none⟩ = some (.int .u64 v.slot) ∧ w.cell? ⟨b, off + k * 8 + 1, none⟩ = some (.int .u64 v.round) ∧
      w.cell? ⟨b, off + k * 8 + 2, none⟩ = some (.string v.leader) ∧ w.cell? ⟨b, off + k * 8 + 3, none⟩ = some (.string v.origin) ∧ w.cell? ⟨b, off + k * 8 + 4, none⟩ = some (.int .u64 v.inc) ∧
      w.cell? ⟨b, off + k * 8 + 5, none⟩ = some (.int .u64 v.seq) ∧ w.cell? ⟨b, off + k * 8 + 6, none⟩ = some (.slice v.ta v.tl v.tc) ∧ w.cell? ⟨b, off + k * 8 + 7, none⟩ = some (.int .u64 v.nxt) ∧ VtOk w v := by
  obtain ⟨v, hr⟩ := get_of_lt h.len hk
  obtain ⟨b, off, e, hc⟩ := h.row k _ hr
  exact ⟨v, b, off, hr, e, hc 0 _ rfl, hc 1 _ rfl, hc 2 _ rfl, hc 3 _ rfl, hc 4 _ rfl, hc 5 _ rfl, hc 6 _ rfl, hc 7 _ rfl, h.all v (List.mem_of_getElem? hr)⟩
theorem PsOk.get {w : World} {a : Option Addr} {n k : Nat} {ps : List Pl} (h : PsOk w a n ps) (hk : k < n) :
    ∃ pa pn pc pms b off, ps[k]? = some ⟨pa, pn, pc, pms⟩ ∧ a = some ⟨b, off, none⟩ ∧ w.cell? ⟨b, off + k, none⟩ = some (.slice pa pn pc) ∧ PlOk w ⟨pa, pn, pc, pms⟩ := by
  obtain ⟨⟨pa, pn, pc, pms⟩, hr⟩ := get_of_lt h.len hk
  obtain ⟨b, off, e, hc⟩ := h.row k _ hr
  exact ⟨pa, pn, pc, pms, b, off, hr, e, by simpa using hc 0 _ rfl, h.all _ (List.mem_of_getElem? hr)⟩
theorem PlOk.get {w : World} {a : Option Addr} {n c : Nat} {ms : List ByteArray} {k : Nat} (h : PlOk w ⟨a, n, c, ms⟩) (hk : k < n) :
    ∃ s b off, ms[k]? = some s ∧ a = some ⟨b, off, none⟩ ∧ w.cell? ⟨b, off + k, none⟩ = some (.string s) := by
  obtain ⟨r, hr⟩ := get_of_lt h.len hk
  obtain ⟨b, off, e, hc⟩ := h.row k r hr
  exact ⟨r, b, off, hr, e, by simpa using hc 0 _ rfl⟩
theorem bytes_get {w : World} {a : Option Addr} {k n : Nat} {zs : List Int} (h : RowAt w a 1 byteCells zs) (hl : zs.length = n) (hk : k < n) : ∃ z b off, zs[k]? = some z ∧ a = some ⟨b, off, none⟩ ∧ w.cell? ⟨b, off + k, none⟩ = some (.int .u8 z) := by
  obtain ⟨r, hr⟩ := get_of_lt hl hk
  obtain ⟨b, off, e, hc⟩ := h k r hr
  exact ⟨r, b, off, hr, e, by simpa using hc 0 _ rfl⟩
theorem RdOk.n_max {w : World} {en : Int} {a : Option Addr} {n c : Nat} {ps : List Pr} (h : RdOk w ⟨en, a, n, c, ps⟩) : n ≤ 9223372036854775807 := h.max
theorem PrOk.n_max {w : World} {fr : ByteArray} {a : Option Addr} {n c : Nat} {vs : List Vt} (h : PrOk w ⟨fr, a, n, c, vs⟩) : n ≤ 9223372036854775807 := h.max
theorem PlOk.n_max {w : World} {a : Option Addr} {n c : Nat} {ms : List ByteArray} (h : PlOk w ⟨a, n, c, ms⟩) : n ≤ 9223372036854775807 := h.max
theorem RsOk.n_max {w : World} {a : Option Addr} {n : Nat} {rs : List Rd} (h : RsOk w a n rs) : n ≤ 9223372036854775807 := h.max
theorem PsOk.n_max {w : World} {a : Option Addr} {n : Nat} {ps : List Pl} (h : PsOk w a n ps) : n ≤ 9223372036854775807 := h.max
end Go.Proofs.Qxb6612240a
