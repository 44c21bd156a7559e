import Derived.Test.Qxb6612240aSlots
import Derived.ChangeMaps4
import Derived.MapKept
namespace Go.Proofs.Qxb6612240a
open Go.RowKit Go.MapKept
open Go.ChangeMaps (setBlock)

/-! ### A map's block, exactly: its keys in the order of their coming, and what each holds. (No key is ever taken out.) -/
structure KeyKind (κ : Type) [DecidableEq κ] where
  K : κ → Value
  d : TypeDesc
  isKey : ∀ k, IsKey d (K k)
  inj : ∀ k k', K k = K k' → k = k'
  same : ∀ k, Instr.sameBits 10000 (K k) (K k) = true

def kind64 : KeyKind Int := { K := fun s => .int .u64 s, d := .int .u64, isKey := fun _ => rfl, inj := fun _ _ h => by cases h; rfl, same := fun _ => by simp [Instr.sameBits] }
def kindStr : KeyKind ByteArray := { K := fun s => .string s, d := .string, isKey := fun _ => trivial, inj := fun _ _ h => by cases h; rfl, same := fun k => by simp [Instr.sameBits, bytes_beq] }

section
variable {κ : Type} [DecidableEq κ] (k0 : KeyKind κ)

def entsOf (keys : List κ) (val : κ → Value) : List MapEntry := keys.zipIdx.map fun p => { key := k0.K p.1, val := val p.1, born := p.2 }
def mkF (keys : List κ) (val : κ → Value) : Obj := .map (entsOf k0 keys val).toArray keys.length
def addKey (keys : List κ) (k : κ) : List κ := if k ∈ keys then keys else keys ++ [k]
def updV (val : κ → Value) (k : κ) (v : Value) : κ → Value := fun x => if x = k then v else val x

theorem addKey_nodup {keys : List κ} (h : keys.Nodup) (k : κ) : (addKey keys k).Nodup := by
  unfold addKey
  split
  · exact h
  · next hk => exact List.nodup_append.2 ⟨h, by simp, fun a ha b hb => by simp at hb; subst hb; exact fun e => hk (e ▸ ha)⟩
theorem mem_addKey {keys : List κ} {k x : κ} : x ∈ addKey keys k ↔ x ∈ keys ∨ x = k := by
  unfold addKey
  split
  · next hk => exact ⟨.inl, fun h => h.elim id (fun e => e ▸ hk)⟩
  · simp

theorem entsOf_get (keys : List κ) (val : κ → Value) (j : Nat) : (entsOf k0 keys val)[j]? = (keys[j]?).map fun k => { key := k0.K k, val := val k, born := j } := by
  simp [entsOf, List.getElem?_map, List.getElem?_zipIdx]
  cases keys[j]? <;> simp
theorem entsOf_key (keys : List κ) (val : κ → Value) : ∀ x ∈ (entsOf k0 keys val), IsKey k0.d x.key := by
  intro x hx
  simp only [entsOf, List.mem_map] at hx
  obtain ⟨p, _, rfl⟩ := hx
  exact k0.isKey _

/-- Where the key is. -/
theorem find_spec (keys : List κ) (val : κ → Value) (k : κ) :
    (Instr.findNow k0.d (k0.K k) (entsOf k0 keys val) 0 = some none ∧ k ∉ keys) ∨ ∃ j, Instr.findNow k0.d (k0.K k) (entsOf k0 keys val) 0 = some (some (j, val k)) ∧ keys[j]? = some k := by
  rcases findNow_spec (k0.isKey k) (entsOf k0 keys val) 0 (entsOf_key k0 keys val) with ⟨h1, h2⟩ | ⟨j, e, h1, h2, h3⟩
  · refine .inl ⟨h1, fun hk => ?_⟩
    obtain ⟨j, hj⟩ := List.getElem?_of_mem hk
    have he : (entsOf k0 keys val)[j]? = some { key := k0.K k, val := val k, born := j } := by rw [entsOf_get, hj]; rfl
    exact h2 _ (List.mem_of_getElem? he) rfl
  · rw [entsOf_get] at h2
    cases hk : keys[j]? with
    | none => rw [hk] at h2; simp at h2
    | some k' =>
      rw [hk] at h2
      simp at h2
      subst h2
      have := k0.inj _ _ h3
      subst this
      exact .inr ⟨j, by simpa using h1, hk⟩

variable {P : Program} {t kt e : TypeId}

/-- Block b of w is that map. -/
structure MapIs (w : World) (b : Nat) (keys : List κ) (val : κ → Value) : Prop where
  block : w.heap[b]? = some (mkF k0 keys val)
  nodup : keys.Nodup

variable {k0}
theorem MapIs.alloc {w : World} {b : Nat} {keys : List κ} {val : κ → Value} (h : MapIs k0 w b keys val) (o : Obj) : MapIs k0 (w.alloc o) b keys val :=
  ⟨by rw [(MapKept.heap_alloc w o).2 b (Array.getElem?_eq_some_iff.1 h.block).1]; exact h.block, h.nodup⟩
theorem MapIs.drewN {w : World} {b : Nat} {keys : List κ} {val : κ → Value} (h : MapIs k0 w b keys val) (n : Nat) : MapIs k0 (w.drewN n) b keys val := ⟨h.block, h.nodup⟩
theorem MapIs.drew {w : World} {b : Nat} {keys : List κ} {val : κ → Value} (h : MapIs k0 w b keys val) : MapIs k0 w.drew b keys val := ⟨h.block, h.nodup⟩
theorem MapIs.lt {w : World} {b : Nat} {keys : List κ} {val : κ → Value} (h : MapIs k0 w b keys val) : b < w.heap.size := (Array.getElem?_eq_some_iff.1 h.block).1
theorem MapIs.of_block {w w' : World} {b : Nat} {keys : List κ} {val : κ → Value} (h : MapIs k0 w b keys val) (e : w'.heap[b]? = w.heap[b]?) : MapIs k0 w' b keys val := ⟨e.trans h.block, h.nodup⟩
theorem MapIs.below {w w' : World} {b B : Nat} {keys : List κ} {val : κ → Value} (h : MapIs k0 w b keys val) (k : Below B w w') (hb : b < B) : MapIs k0 w' b keys val := h.of_block (k.block b hb)
theorem MapIs.grown {w w' : World} {b : Nat} {row : Option Nat} {keys : List κ} {val : κ → Value} (h : MapIs k0 w b keys val) (k : w.grownBy w' row) (hb : some b ≠ row) : MapIs k0 w' b keys val := h.of_block (k.block b h.lt hb)
theorem MapIs.made (w : World) (val : κ → Value) : MapIs k0 (w.alloc (.map #[] 0)) w.heap.size ([] : List κ) val :=
  ⟨by rw [(MapKept.heap_alloc w _).1]; rfl, List.nodup_nil⟩

theorem MapIs.look {w : World} {b : Nat} {keys : List κ} {val : κ → Value} (h : MapIs k0 w b keys val) (ht : P.underlying t = some (.map kt e)) (hk : P.underlying kt = some k0.d) {z : Value} (hz : (zeroValue e).run P w = .ok z w) (k : κ) :
    (Instr.lookup t (.map (some b)) (k0.K k) false).run P w = .ok (if k ∈ keys then val k else z) w := by
  rcases find_spec k0 keys val k with ⟨h1, h2⟩ | ⟨j, h1, h2⟩
  · simp [Instr.lookup, run_underlying ht, MapKept.run_getObj_map (show w.heap[b]? = some (.map (entsOf k0 keys val).toArray keys.length) from h.block), run_checkKey hk (k0.isKey k), run_findKey hk h1, hz, Result.andThen, h2]
  · have hm : k ∈ keys := List.mem_of_getElem? h2
    simp [Instr.lookup, run_underlying ht, MapKept.run_getObj_map (show w.heap[b]? = some (.map (entsOf k0 keys val).toArray keys.length) from h.block), run_checkKey hk (k0.isKey k), run_findKey hk h1, Result.andThen, hm]
theorem MapIs.lookOk {w : World} {b : Nat} {keys : List κ} {val : κ → Value} (h : MapIs k0 w b keys val) (ht : P.underlying t = some (.map kt e)) (hk : P.underlying kt = some k0.d) {k : κ} (hm : k ∈ keys) :
    (Instr.lookup t (.map (some b)) (k0.K k) true).run P w = .ok (.tuple #[val k, .bool true]) w := by
  rcases find_spec k0 keys val k with ⟨h1, h2⟩ | ⟨j, h1, h2⟩
  · exact absurd hm h2
  · simp [Instr.lookup, run_underlying ht, MapKept.run_getObj_map (show w.heap[b]? = some (.map (entsOf k0 keys val).toArray keys.length) from h.block), run_checkKey hk (k0.isKey k), run_findKey hk h1, Result.andThen]

theorem entsOf_push (keys : List κ) (val : κ → Value) (k : κ) (v : Value) (hk : k ∉ keys) : (entsOf k0 keys val).toArray.push { key := k0.K k, val := v, born := keys.length } = (entsOf k0 (keys ++ [k]) (updV val k v)).toArray := by
  apply Array.ext'
  simp only [Array.toList_push, entsOf, List.zipIdx_append, List.map_append]
  congr 1
  · apply List.map_congr_left
    intro p hp
    have hpk : p.1 ∈ keys := by
      have := List.mem_zipIdx hp
      simp at this
      rw [this.2]
      exact List.getElem_mem _
    have : p.1 ≠ k := fun e => hk (e ▸ hpk)
    simp [updV, this]
  · simp [updV]
theorem entsOf_modify (keys : List κ) (val : κ → Value) (k : κ) (v : Value) (hn : keys.Nodup) (j : Nat) (hj : keys[j]? = some k) : (entsOf k0 keys val).toArray.modify j (fun e => { e with key := k0.K k, val := v }) = (entsOf k0 keys (updV val k v)).toArray := by
  apply Array.ext_getElem?
  intro i
  rw [Array.getElem?_modify]
  simp only [List.getElem?_toArray, entsOf_get]
  by_cases hij : j = i
  · subst hij
    rw [hj]
    simp [updV]
  · rw [if_neg hij]
    cases hi : keys[i]? with
    | none => rfl
    | some k' =>
      have : k' ≠ k := by
        intro e
        subst e
        have h1 := (List.getElem?_eq_some_iff.1 hj)
        have h2 := (List.getElem?_eq_some_iff.1 hi)
        obtain ⟨a1, a2⟩ := h1
        obtain ⟨b1, b2⟩ := h2
        have hp := List.pairwise_iff_getElem.1 hn
        rcases Nat.lt_trichotomy j i with hlt | heq | hgt
        · exact hp j i a1 b1 hlt (a2.trans b2.symm)
        · exact hij heq
        · exact hp i j b1 a1 hgt (b2.trans a2.symm)
      simp [updV, this]

/-- 'm[k] = v'. -/
theorem MapIs.put {w : World} {b : Nat} {keys : List κ} {val : κ → Value} (h : MapIs k0 w b keys val) (ht : P.underlying t = some (.map kt e)) (hk : P.underlying kt = some k0.d) (k : κ) (v : Value) :
    (Instr.mapUpdate t (.map (some b)) (k0.K k) v).run P w = .ok () (setBlock w b (mkF k0 (addKey keys k) (updV val k v))) := by
  have hb : w.heap[b]? = some (.map (entsOf k0 keys val).toArray keys.length) := h.block
  rcases find_spec k0 keys val k with ⟨h1, h2⟩ | ⟨j, h1, h2⟩
  · have e1 : addKey keys k = keys ++ [k] := by simp [addKey, h2]
    simp [Instr.mapUpdate, run_underlying ht, MapKept.run_getObj_map hb, run_checkKey hk (k0.isKey k), run_findKey hk h1, MapKept.run_setObj_map _ hb, Result.andThen, setBlock, e1, mkF, ← entsOf_push keys val k v h2]
  · have hm : k ∈ keys := List.mem_of_getElem? h2
    have e1 : addKey keys k = keys := by simp [addKey, hm]
    have e2 : ((entsOf k0 keys val).toArray[j]?).map (·.key) = some (k0.K k) := by simp [entsOf_get, h2]
    have e3 : (((entsOf k0 keys val).toArray[j]?).map (·.key)).getD (k0.K k) = k0.K k := by rw [e2]; rfl
    have e4 := entsOf_modify (k0 := k0) keys val k v h.nodup j h2
    simp only [Instr.mapUpdate, Sem.run_bind, run_underlying ht, MapKept.run_getObj_map hb, run_checkKey hk (k0.isKey k), run_findKey hk h1, Result.andThen]
    simp only [Instr.keyThatStays, e3, k0.same, if_true]
    simp [MapKept.run_setObj_map _ hb, setBlock, e1, mkF, e4]
theorem MapIs.afterPut {w : World} {b : Nat} {keys : List κ} {val : κ → Value} (h : MapIs k0 w b keys val) (k : κ) (v : Value) : MapIs k0 (setBlock w b (mkF k0 (addKey keys k) (updV val k v))) b (addKey keys k) (updV val k v) :=
  ⟨(MapKept.heap_set h.block).1, addKey_nodup h.nodup k⟩
theorem heap_setBlock_other {w : World} {b b' : Nat} (o : Obj) (hne : b' ≠ b) : (setBlock w b o).heap[b']? = w.heap[b']? := by
  simp [setBlock, Ne.symm hne]
theorem size_setBlock (w : World) (b : Nat) (o : Obj) : (setBlock w b o).heap.size = w.heap.size := by simp [setBlock]
theorem setBlock_grown (w : World) (b : Nat) (o : Obj) : w.grownBy (setBlock w b o) (some b) := ⟨rfl, rfl, rfl, by simp [setBlock], fun k _ hk => heap_setBlock_other o (fun e => hk (by rw [e]))⟩
end
end Go.Proofs.Qxb6612240a
