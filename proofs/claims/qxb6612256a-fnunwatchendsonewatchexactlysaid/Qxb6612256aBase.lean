import Derived.Test.Qxb6612256aRows
import Derived.WalkKit
import Derived.WalkSpells
import Derived.RowKit3
import Derived.Below
import Derived.WalkSmall
import Derived.RegionTactic
import Derived.BigRegion
import Derived.Deep.QuietTactic
import Derived.BigQuiet
import Derived.Outline
import Derived.Deep.Light
import Derived.ChangeMaps4
import Derived.MapKept
namespace Go.Proofs.Qxb6612256a
open Go.RowKit Go.MapKept
open Go.ChangeMaps (setBlock)

/-! ### Lists in memory -/

/-- A list lies in memory behind the address 'a', its elements one behind the other: element i takes 'sz' cells, those of 'cs'. -/
def RowAt {α : Type} (w : World) (a : Option Addr) (sz : Nat) (cs : α → List Value) (l : List α) : Prop :=
  ∀ i v, l[i]? = some v → ∃ b off, a = some ⟨b, off, none⟩ ∧ ∀ j x, (cs v)[j]? = some x → w.cell? ⟨b, off + i * sz + j, none⟩ = some x

theorem lt_of_cell {w : World} {b o : Nat} {x : Value} (h : w.cell? ⟨b, o, none⟩ = some x) : b < w.heap.size := by
  simp only [World.cell?] at h
  by_cases hb : b < w.heap.size
  · exact hb
  · rw [Array.getElem?_eq_none (by omega)] at h; simp at h

/-- All that lay in w lies in w' as it did. -/
theorem cell_ext {w w' : World} (h : Below w.heap.size w w') {b o : Nat} {x : Value} (hc : w.cell? ⟨b, o, none⟩ = some x) : w'.cell? ⟨b, o, none⟩ = some x :=
  (h.cell (p := ⟨b, o, none⟩) (lt_of_cell hc)).trans hc

theorem RowAt.ext {α : Type} {w w' : World} {a : Option Addr} {sz : Nat} {cs : α → List Value} {l : List α} (h : RowAt w a sz cs l) (k : Below w.heap.size w w') : RowAt w' a sz cs l := by
  intro i v hi
  obtain ⟨b, off, e, hc⟩ := h i v hi
  exact ⟨b, off, e, fun j x hj => cell_ext k (hc j x hj)⟩

theorem Below.ext {a b c : World} (h : Below a.heap.size a b) (k : Below b.heap.size b c) : Below a.heap.size a c := h.trans (k.mono h.size)
theorem Below.draws (w : World) (n : Nat) : Below w.heap.size w (w.drewN n) := below_drewN (Below.refl _ _) n

theorem get_of_lt {α : Type} {l : List α} {n k : Nat} (hl : l.length = n) (h : k < n) : ∃ v, l[k]? = some v := ⟨_, List.getElem?_eq_getElem (by omega)⟩
theorem RowAt.at {α : Type} {w : World} {b off : Nat} {sz : Nat} {cs : α → List Value} {l : List α} (h : RowAt w (some ⟨b, off, none⟩) sz cs l) {k : Nat} {v : α} (hk : l[k]? = some v) :
    ∀ j x, (cs v)[j]? = some x → w.cell? ⟨b, off + k * sz + j, none⟩ = some x := by
  obtain ⟨b', off', e, hc⟩ := h k v hk
  cases e
  exact hc
theorem hideP {p : Prop} (h : p) : Hid p := h
theorem hide_get {α : Type} {l : List α} {k : Nat} {v : α} (h : l[k]? = some v) : Hid (l[k]? = some v) := h
theorem below_alloc1 (w : World) (o1 : Obj) : Below w.heap.size w (w.alloc o1) := (Below.refl _ _).alloc (Nat.le_refl _) _
theorem bx {a b c : World} (h : Below a.heap.size a b) (k : Below b.heap.size b c) : Below a.heap.size a c := h.trans (k.mono h.size)
theorem gnb {w w' : World} (k : w.grownBy w' none) : Below w.heap.size w w' := ⟨k.os, k.tape, k.output, k.size, fun i hi => k.block i hi (by simp)⟩
theorem new_cells' (w : World) (xs : List Value) (t : TypeId) : ∀ j u, xs[j]? = some u → (w.alloc (.cells xs.toArray t)).cell? ⟨w.heap.size, j, none⟩ = some u := by
  intro j u hj
  simp [World.cell?_alloc_at, hj]
theorem take_get {α : Type} {l : List α} {k : Nat} {v : α} (h : l[k]? = some v) : l.take (k + 1) = l.take k ++ [v] := by
  have hlt : k < l.length := (List.getElem?_eq_some_iff.1 h).1
  have e : l[k] = v := (List.getElem?_eq_some_iff.1 h).2
  rw [List.take_succ_eq_append_getElem hlt, e]

theorem flatMap_get {α : Type} (cs : α → List Value) (sz : Nat) (hcs : ∀ x, (cs x).length = sz) : ∀ (l : List α) (i : Nat) (x : α), l[i]? = some x → ∀ j u, (cs x)[j]? = some u → (l.flatMap cs)[i * sz + j]? = some u := by
  intro l
  induction l with
  | nil => intro i x h; simp at h
  | cons y l ih =>
    intro i x h j u hj
    have hjl : j < sz := by have := (List.getElem?_eq_some_iff.1 hj).1; rw [hcs] at this; exact this
    cases i with
    | zero =>
      simp at h
      subst h
      simp only [List.flatMap_cons, Nat.zero_mul, Nat.zero_add]
      rw [List.getElem?_append_left (by rw [hcs]; exact hjl)]
      exact hj
    | succ i =>
      simp at h
      have := ih i x h j u hj
      simp only [List.flatMap_cons]
      rw [List.getElem?_append_right (by rw [hcs, Nat.succ_mul]; omega), hcs, show (i + 1) * sz + j - sz = i * sz + j from by rw [Nat.succ_mul]; omega]
      exact this

/-- What a row of the call's own holds, as a list in memory. -/
theorem ownsRow_rowAt {α : Type} {w : World} {base : Nat} {e : TypeId} {sz : Nat} {v : Value} {l : List α} (cs : α → List Value) (hcs : ∀ x, (cs x).length = sz) (h : w.ownsRow base e sz v l.length (l.flatMap cs)) :
    ∃ ao cap, v = .slice ao l.length cap ∧ RowAt w ao sz cs l := by
  rcases h.2 with ⟨rfl, hn⟩ | ⟨g, cap, cur, rfl, hb, hh, _, _, _, htake⟩
  · refine ⟨none, 0, by rw [hn], fun i x hi => ?_⟩
    have := List.eq_nil_of_length_eq_zero hn
    subst this
    simp at hi
  · refine ⟨_, cap, rfl, fun i x hi => ⟨g, 0, rfl, fun j u hj => ?_⟩⟩
    have h1 := flatMap_get cs sz hcs l i x hi j u hj
    have h2 := World.ownsRow.cells h (g := g) rfl (i * sz + j) u h1
    have e : (⟨g, 0, none⟩ : Addr).add (i * sz + j) = ⟨g, 0 + i * sz + j, none⟩ := by unfold Addr.add; split <;> simp_all
    rw [e] at h2
    exact h2

def u64Cells (s : Int) : List Value := [.int .u64 s]

theorem new_cells (w : World) (xs : List Value) (t : TypeId) : ∀ j u, xs[j]? = some u → (w.alloc (.cells xs.toArray t)).cell? ((⟨w.heap.size, 0, none⟩ : Addr).add j) = some u := by
  intro j u hj
  have e : (⟨w.heap.size, 0, none⟩ : Addr).add j = ⟨w.heap.size, j, none⟩ := by unfold Addr.add; split <;> simp_all
  rw [e]
  simp [World.cell?_alloc_at, hj]
theorem flatMap_snoc {α : Type} (f : α → List Value) (l : List α) (x : α) : (l ++ [x]).flatMap f = l.flatMap f ++ f x := by simp [List.flatMap_append]

/-! ### Stores into a row of the call's own -/
def setAt (xs : List Value) (o : Nat) : List Value → List Value
  | [] => xs
  | u :: us => setAt (xs.set o u) (o + 1) us
def storeAt (w : World) (g o : Nat) : List Value → World
  | [] => w
  | u :: us => storeAt (w.setCell ⟨g, o, none⟩ u) g (o + 1) us

theorem setAt_length (us : List Value) : ∀ (xs : List Value) (o : Nat), (setAt xs o us).length = xs.length := by
  induction us with
  | nil => intro xs o; rfl
  | cons u us ih => intro xs o; rw [setAt, ih]; simp
theorem setAt_before (us : List Value) : ∀ (xs : List Value) (o i : Nat), i < o → (setAt xs o us)[i]? = xs[i]? := by
  induction us with
  | nil => intro xs o i _; rfl
  | cons u us ih => intro xs o i h; rw [setAt, ih _ _ _ (by omega), List.getElem?_set_ne (by omega)]
theorem setAt_at (us : List Value) : ∀ (xs : List Value) (o j : Nat) (u : Value), us[j]? = some u → o + us.length ≤ xs.length → (setAt xs o us)[o + j]? = some u := by
  induction us with
  | nil => intro xs o j u h; simp at h
  | cons v us ih =>
    intro xs o j u h hl
    simp only [List.length_cons] at hl
    cases j with
    | zero =>
      simp at h
      subst h
      rw [setAt, setAt_before _ _ _ _ (by omega)]
      rw [Nat.add_zero, List.getElem?_set_self (by omega)]
    | succ j =>
      simp at h
      rw [setAt, show o + (j + 1) = o + 1 + j from by omega]
      exact ih _ _ _ _ h (by simp; omega)

theorem storeAt_owns {base : Nat} {e : TypeId} {size g n cap : Nat} (us : List Value) : ∀ {w : World} {xs : List Value} (o : Nat), w.ownsRow base e size (.slice (some ⟨g, 0, none⟩) n cap) n xs →
    (storeAt w g o us).ownsRow base e size (.slice (some ⟨g, 0, none⟩) n cap) n (setAt xs o us) ∧ w.grownBy (storeAt w g o us) (some g) ∧ (storeAt w g o us).heap.size = w.heap.size := by
  induction us with
  | nil => intro w xs o h; exact ⟨h, ⟨rfl, rfl, rfl, Nat.le_refl _, fun _ _ _ => rfl⟩, rfl⟩
  | cons u us ih =>
    intro w xs o h
    obtain ⟨h1, h2⟩ := h.stored o u
    obtain ⟨h3, h4, h5⟩ := ih (o + 1) h1
    exact ⟨h3, h2.trans h4, h5.trans (by simp [World.setCell])⟩

/-- The first k elements of a made row have been filled. -/
def Filled {α : Type} (cs : α → List Value) (sz : Nat) (done : List α) (xs : List Value) : Prop := ∀ i x, done[i]? = some x → ∀ j u, (cs x)[j]? = some u → xs[i * sz + j]? = some u
theorem Filled.nil {α : Type} (cs : α → List Value) (sz : Nat) (xs : List Value) : Filled cs sz ([] : List α) xs := by intro i x h; simp at h
theorem Filled.step {α : Type} {cs : α → List Value} {sz : Nat} (hcs : ∀ x, (cs x).length = sz) {l : List α} {k : Nat} {x : α} {xs : List Value} (h : Filled cs sz (l.take k) xs) (hx : l[k]? = some x) (hl : k * sz + sz ≤ xs.length) :
    Filled cs sz (l.take (k + 1)) (setAt xs (k * sz) (cs x)) := by
  have hk : k < l.length := (List.getElem?_eq_some_iff.1 hx).1
  intro i y hi j u hj
  have hjl : j < sz := by have := (List.getElem?_eq_some_iff.1 hj).1; rw [hcs] at this; exact this
  rw [take_get hx] at hi
  by_cases hik : i < k
  · rw [List.getElem?_append_left (by simp; omega)] at hi
    rw [setAt_before _ _ _ _ (by have : (i + 1) * sz ≤ k * sz := Nat.mul_le_mul_right _ hik; rw [Nat.succ_mul] at this; omega)]
    exact h i y hi j u hj
  · rw [List.getElem?_append_right (by simp; omega)] at hi
    have e : i - (l.take k).length = 0 := by
      by_cases h0 : i - (l.take k).length = 0
      · exact h0
      · rw [List.getElem?_eq_none (by simp; simp at h0; omega)] at hi; simp at hi
    have hik' : i = k := by simp at e; omega
    subst hik'
    rw [e] at hi
    simp at hi
    subst hi
    exact setAt_at _ _ _ _ _ hj (by rw [hcs]; exact hl)
/-- A row all of whose elements are filled is a list in memory. -/
theorem Filled.rowAt {α : Type} {cs : α → List Value} {sz : Nat} (hcs : ∀ x, (cs x).length = sz) {l : List α} {xs : List Value} {w : World} {base : Nat} {e : TypeId} {g n : Nat} (h : Filled cs sz l xs) (hl : l.length = n)
    (hown : w.ownsRow base e sz (.slice (some ⟨g, 0, none⟩) n n) n xs) : RowAt w (some ⟨g, 0, none⟩) sz cs l := by
  intro i x hi
  refine ⟨g, 0, rfl, fun j u hj => ?_⟩
  have hjl : j < sz := by have := (List.getElem?_eq_some_iff.1 hj).1; rw [hcs] at this; exact this
  have hil : i < n := by have := (List.getElem?_eq_some_iff.1 hi).1; omega
  have h1 := h i x hi j u hj
  have h2 := hown.cellAt (i * sz + j) (by have : (i + 1) * sz ≤ n * sz := Nat.mul_le_mul_right _ hil; rw [Nat.succ_mul] at this; omega)
  simp only [Nat.zero_add]
  rw [h2, h1]

/-! ### What stays while a row is written -/
/-- The blocks from number lo on are as they were. -/
def Keep (lo : Nat) (w w' : World) : Prop := ∀ k, lo ≤ k → k < w.heap.size → w'.heap[k]? = w.heap[k]?
theorem Keep.refl (lo : Nat) (w : World) : Keep lo w w := fun _ _ _ => rfl
theorem Keep.of_below {lo : Nat} {w w' : World} (h : Below w.heap.size w w') : Keep lo w w' := fun k _ hk => h.block k hk
theorem Keep.of_grown {lo g : Nat} {w w' : World} (h : w.grownBy w' (some g)) (hg : g < lo) : Keep lo w w' := fun k hk hs => h.block k hs (fun e => by cases e; omega)
theorem Keep.cell {lo : Nat} {w w' : World} (h : Keep lo w w') {b o : Nat} {x : Value} (hb : lo ≤ b) (hc : w.cell? ⟨b, o, none⟩ = some x) : w'.cell? ⟨b, o, none⟩ = some x :=
  (World.cell?_of_block (a := ⟨b, o, none⟩) (h b hb (lt_of_cell hc))).trans hc
theorem Keep.rowAt {α : Type} {cs : α → List Value} {sz lo g : Nat} {l : List α} {w w' : World} (h : Keep lo w w') (hg : lo ≤ g) (hr : RowAt w (some ⟨g, 0, none⟩) sz cs l) : RowAt w' (some ⟨g, 0, none⟩) sz cs l := by
  intro i x hi
  obtain ⟨b, off, e, hc⟩ := hr i x hi
  cases e
  exact ⟨g, 0, rfl, fun j u hj => h.cell hg (hc j u hj)⟩
theorem Below.of_grown {B g : Nat} {w w' : World} (h : w.grownBy w' (some g)) (hg : B ≤ g) (hB : B ≤ w.heap.size) : Below B w w' :=
  (Below.refl B w).grown h hB (fun k hk => by cases hk; exact hg)

/-- 'make([]T, n)': a row of its own. -/
theorem made_len (z : Array Value) (n : Nat) : (madeCells z n).toList.length = n := by simp [size_madeCells]
/-! ### A map's block, exactly: its keys in the order of their coming, and what each holds. (No key is ever taken out.) -/
structure KeyKind (κ : Type) [DecidableEq κ] where
  K : κ → Value
  d : TypeDesc
  isKey : ∀ k, IsKey d (K k)
  inj : ∀ k k', K k = K k' → k = k'
  same : ∀ k, Instr.sameBits 10000 (K k) (K k) = true

def kind64 : KeyKind Int := { K := fun s => .int .u64 s, d := .int .u64, isKey := fun _ => rfl, inj := fun _ _ h => by cases h; rfl, same := fun _ => by simp [Instr.sameBits] }
def kindStr : KeyKind ByteArray := { K := fun s => .string s, d := .string, isKey := fun _ => trivial, inj := fun _ _ h => by cases h; rfl, same := fun k => by simp [Instr.sameBits, bytes_beq] }

section
variable {κ : Type} [DecidableEq κ] (k0 : KeyKind κ)

def entsOf (keys : List κ) (val : κ → Value) : List MapEntry := keys.zipIdx.map fun p => { key := k0.K p.1, val := val p.1, born := p.2 }
def mkF (keys : List κ) (val : κ → Value) : Obj := .map (entsOf k0 keys val).toArray keys.length
def addKey (keys : List κ) (k : κ) : List κ := if k ∈ keys then keys else keys ++ [k]
def updV (val : κ → Value) (k : κ) (v : Value) : κ → Value := fun x => if x = k then v else val x

theorem addKey_nodup {keys : List κ} (h : keys.Nodup) (k : κ) : (addKey keys k).Nodup := by
  unfold addKey
  split
  · exact h
  · next hk => exact List.nodup_append.2 ⟨h, by simp, fun a ha b hb => by simp at hb; subst hb; exact fun e => hk (e ▸ ha)⟩
theorem mem_addKey {keys : List κ} {k x : κ} : x ∈ addKey keys k ↔ x ∈ keys ∨ x = k := by
  unfold addKey
  split
  · next hk => exact ⟨.inl, fun h => h.elim id (fun e => e ▸ hk)⟩
  · simp

theorem entsOf_get (keys : List κ) (val : κ → Value) (j : Nat) : (entsOf k0 keys val)[j]? = (keys[j]?).map fun k => { key := k0.K k, val := val k, born := j } := by
  simp [entsOf, List.getElem?_map, List.getElem?_zipIdx]
  cases keys[j]? <;> simp
theorem entsOf_key (keys : List κ) (val : κ → Value) : ∀ x ∈ (entsOf k0 keys val), IsKey k0.d x.key := by
  intro x hx
  simp only [entsOf, List.mem_map] at hx
  obtain ⟨p, _, rfl⟩ := hx
  exact k0.isKey _

/-- Where the key is. -/
theorem find_spec (keys : List κ) (val : κ → Value) (k : κ) :
    (Instr.findNow k0.d (k0.K k) (entsOf k0 keys val) 0 = some none ∧ k ∉ keys) ∨ ∃ j, Instr.findNow k0.d (k0.K k) (entsOf k0 keys val) 0 = some (some (j, val k)) ∧ keys[j]? = some k := by
  rcases findNow_spec (k0.isKey k) (entsOf k0 keys val) 0 (entsOf_key k0 keys val) with ⟨h1, h2⟩ | ⟨j, e, h1, h2, h3⟩
  · refine .inl ⟨h1, fun hk => ?_⟩
    obtain ⟨j, hj⟩ := List.getElem?_of_mem hk
    have he : (entsOf k0 keys val)[j]? = some { key := k0.K k, val := val k, born := j } := by rw [entsOf_get, hj]; rfl
    exact h2 _ (List.mem_of_getElem? he) rfl
  · rw [entsOf_get] at h2
    cases hk : keys[j]? with
    | none => rw [hk] at h2; simp at h2
    | some k' =>
      rw [hk] at h2
      simp at h2
      subst h2
      have := k0.inj _ _ h3
      subst this
      exact .inr ⟨j, by simpa using h1, hk⟩

variable {P : Program} {t kt e : TypeId}

/-- Block b of w is that map. -/
structure MapIs (w : World) (b : Nat) (keys : List κ) (val : κ → Value) : Prop where
  block : w.heap[b]? = some (mkF k0 keys val)
  nodup : keys.Nodup

variable {k0}
theorem MapIs.alloc {w : World} {b : Nat} {keys : List κ} {val : κ → Value} (h : MapIs k0 w b keys val) (o : Obj) : MapIs k0 (w.alloc o) b keys val :=
  ⟨by rw [(MapKept.heap_alloc w o).2 b (Array.getElem?_eq_some_iff.1 h.block).1]; exact h.block, h.nodup⟩
theorem MapIs.drewN {w : World} {b : Nat} {keys : List κ} {val : κ → Value} (h : MapIs k0 w b keys val) (n : Nat) : MapIs k0 (w.drewN n) b keys val := ⟨h.block, h.nodup⟩
theorem MapIs.drew {w : World} {b : Nat} {keys : List κ} {val : κ → Value} (h : MapIs k0 w b keys val) : MapIs k0 w.drew b keys val := ⟨h.block, h.nodup⟩
theorem MapIs.lt {w : World} {b : Nat} {keys : List κ} {val : κ → Value} (h : MapIs k0 w b keys val) : b < w.heap.size := (Array.getElem?_eq_some_iff.1 h.block).1
theorem MapIs.of_block {w w' : World} {b : Nat} {keys : List κ} {val : κ → Value} (h : MapIs k0 w b keys val) (e : w'.heap[b]? = w.heap[b]?) : MapIs k0 w' b keys val := ⟨e.trans h.block, h.nodup⟩
theorem MapIs.below {w w' : World} {b B : Nat} {keys : List κ} {val : κ → Value} (h : MapIs k0 w b keys val) (k : Below B w w') (hb : b < B) : MapIs k0 w' b keys val := h.of_block (k.block b hb)
theorem MapIs.grown {w w' : World} {b : Nat} {row : Option Nat} {keys : List κ} {val : κ → Value} (h : MapIs k0 w b keys val) (k : w.grownBy w' row) (hb : some b ≠ row) : MapIs k0 w' b keys val := h.of_block (k.block b h.lt hb)
theorem MapIs.made (w : World) (val : κ → Value) : MapIs k0 (w.alloc (.map #[] 0)) w.heap.size ([] : List κ) val :=
  ⟨by rw [(MapKept.heap_alloc w _).1]; rfl, List.nodup_nil⟩

theorem MapIs.look {w : World} {b : Nat} {keys : List κ} {val : κ → Value} (h : MapIs k0 w b keys val) (ht : P.underlying t = some (.map kt e)) (hk : P.underlying kt = some k0.d) {z : Value} (hz : (zeroValue e).run P w = .ok z w) (k : κ) :
    (Instr.lookup t (.map (some b)) (k0.K k) false).run P w = .ok (if k ∈ keys then val k else z) w := by
  rcases find_spec k0 keys val k with ⟨h1, h2⟩ | ⟨j, h1, h2⟩
  · simp [Instr.lookup, run_underlying ht, MapKept.run_getObj_map (show w.heap[b]? = some (.map (entsOf k0 keys val).toArray keys.length) from h.block), run_checkKey hk (k0.isKey k), run_findKey hk h1, hz, Result.andThen, h2]
  · have hm : k ∈ keys := List.mem_of_getElem? h2
    simp [Instr.lookup, run_underlying ht, MapKept.run_getObj_map (show w.heap[b]? = some (.map (entsOf k0 keys val).toArray keys.length) from h.block), run_checkKey hk (k0.isKey k), run_findKey hk h1, Result.andThen, hm]
theorem MapIs.lookOk {w : World} {b : Nat} {keys : List κ} {val : κ → Value} (h : MapIs k0 w b keys val) (ht : P.underlying t = some (.map kt e)) (hk : P.underlying kt = some k0.d) {k : κ} (hm : k ∈ keys) :
    (Instr.lookup t (.map (some b)) (k0.K k) true).run P w = .ok (.tuple #[val k, .bool true]) w := by
  rcases find_spec k0 keys val k with ⟨h1, h2⟩ | ⟨j, h1, h2⟩
  · exact absurd hm h2
  · simp [Instr.lookup, run_underlying ht, MapKept.run_getObj_map (show w.heap[b]? = some (.map (entsOf k0 keys val).toArray keys.length) from h.block), run_checkKey hk (k0.isKey k), run_findKey hk h1, Result.andThen]

theorem entsOf_push (keys : List κ) (val : κ → Value) (k : κ) (v : Value) (hk : k ∉ keys) : (entsOf k0 keys val).toArray.push { key := k0.K k, val := v, born := keys.length } = (entsOf k0 (keys ++ [k]) (updV val k v)).toArray := by
  apply Array.ext'
  simp only [Array.toList_push, entsOf, List.zipIdx_append, List.map_append]
  congr 1
  · apply List.map_congr_left
    intro p hp
    have hpk : p.1 ∈ keys := by
      have := List.mem_zipIdx hp
      simp at this
      rw [this.2]
      exact List.getElem_mem _
    have : p.1 ≠ k := fun e => hk (e ▸ hpk)
    simp [updV, this]
  · simp [updV]
theorem entsOf_modify (keys : List κ) (val : κ → Value) (k : κ) (v : Value) (hn : keys.Nodup) (j : Nat) (hj : keys[j]? = some k) : (entsOf k0 keys val).toArray.modify j (fun e => { e with key := k0.K k, val := v }) = (entsOf k0 keys (updV val k v)).toArray := by
  apply Array.ext_getElem?
  intro i
  rw [Array.getElem?_modify]
  simp only [List.getElem?_toArray, entsOf_get]
  by_cases hij : j = i
  · subst hij
    rw [hj]
    simp [updV]
  · rw [if_neg hij]
    cases hi : keys[i]? with
    | none => rfl
    | some k' =>
      have : k' ≠ k := by
        intro e
        subst e
        have h1 := (List.getElem?_eq_some_iff.1 hj)
        have h2 := (List.getElem?_eq_some_iff.1 hi)
        obtain ⟨a1, a2⟩ := h1
        obtain ⟨b1, b2⟩ := h2
        have hp := List.pairwise_iff_getElem.1 hn
        rcases Nat.lt_trichotomy j i with hlt | heq | hgt
        · exact hp j i a1 b1 hlt (a2.trans b2.symm)
        · exact hij heq
        · exact hp i j b1 a1 hgt (b2.trans a2.symm)
      simp [updV, this]

/-- 'm[k] = v'. -/
theorem MapIs.put {w : World} {b : Nat} {keys : List κ} {val : κ → Value} (h : MapIs k0 w b keys val) (ht : P.underlying t = some (.map kt e)) (hk : P.underlying kt = some k0.d) (k : κ) (v : Value) :
    (Instr.mapUpdate t (.map (some b)) (k0.K k) v).run P w = .ok () (setBlock w b (mkF k0 (addKey keys k) (updV val k v))) := by
  have hb : w.heap[b]? = some (.map (entsOf k0 keys val).toArray keys.length) := h.block
  rcases find_spec k0 keys val k with ⟨h1, h2⟩ | ⟨j, h1, h2⟩
  · have e1 : addKey keys k = keys ++ [k] := by simp [addKey, h2]
    simp [Instr.mapUpdate, run_underlying ht, MapKept.run_getObj_map hb, run_checkKey hk (k0.isKey k), run_findKey hk h1, MapKept.run_setObj_map _ hb, Result.andThen, setBlock, e1, mkF, ← entsOf_push keys val k v h2]
  · have hm : k ∈ keys := List.mem_of_getElem? h2
    have e1 : addKey keys k = keys := by simp [addKey, hm]
    have e2 : ((entsOf k0 keys val).toArray[j]?).map (·.key) = some (k0.K k) := by simp [entsOf_get, h2]
    have e3 : (((entsOf k0 keys val).toArray[j]?).map (·.key)).getD (k0.K k) = k0.K k := by rw [e2]; rfl
    have e4 := entsOf_modify (k0 := k0) keys val k v h.nodup j h2
    simp only [Instr.mapUpdate, Sem.run_bind, run_underlying ht, MapKept.run_getObj_map hb, run_checkKey hk (k0.isKey k), run_findKey hk h1, Result.andThen]
    simp only [Instr.keyThatStays, e3, k0.same, if_true]
    simp [MapKept.run_setObj_map _ hb, setBlock, e1, mkF, e4]
theorem MapIs.afterPut {w : World} {b : Nat} {keys : List κ} {val : κ → Value} (h : MapIs k0 w b keys val) (k : κ) (v : Value) : MapIs k0 (setBlock w b (mkF k0 (addKey keys k) (updV val k v))) b (addKey keys k) (updV val k v) :=
  ⟨(MapKept.heap_set h.block).1, addKey_nodup h.nodup k⟩
theorem heap_setBlock_other {w : World} {b b' : Nat} (o : Obj) (hne : b' ≠ b) : (setBlock w b o).heap[b']? = w.heap[b']? := by
  simp [setBlock, Ne.symm hne]
theorem size_setBlock (w : World) (b : Nat) (o : Obj) : (setBlock w b o).heap.size = w.heap.size := by simp [setBlock]
theorem setBlock_grown (w : World) (b : Nat) (o : Obj) : w.grownBy (setBlock w b o) (some b) := ⟨rfl, rfl, rfl, by simp [setBlock], fun k _ hk => heap_setBlock_other o (fun e => hk (by rw [e]))⟩
end
end Go.Proofs.Qxb6612256a
