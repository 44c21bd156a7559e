import Derived.Test.Qxb6612256aGuard
import Derived.Laws.StructEq
namespace Go.Proofs.Qxb6612256a
open Go.RowKit Go.MapKept
open Go.ChangeMaps (setBlock)

/-! ### The map of groups, keyed by a struct -/
abbrev Filt := ByteArray × Bool
def fk (f : Filt) : Value := .agg #[.string f.1, .bool f.2]
theorem Try.fields72 : Try.prog.underlying 72 = some (.struct (Try.prog.fieldsOf 72)) := by kernel_rfl
theorem Try.held72 : Try.prog.stoodInHeld 72 = false := by kernel_rfl
theorem Try.fields72' : (Try.prog.fieldsOf 72).toList.map (fun f => (f.type, f.offset, f.name)) = [(9, 0, "key"), (4, 1, "prefix")] := by kernel_rfl

theorem run_equal_filt (f g : Filt) (w : World) : (Op.equal 72 (fk f) (fk g)).run Try.prog w = .ok (decide (f = g)) w := by
  have h := run_equalIn_agg (P := Try.prog) w 9999 72 #[.string f.1, .bool f.2] #[.string g.1, .bool g.2] Try.fields72 Try.held72
  show (Op.equalIn 10000 72 (fk f) (fk g)).run Try.prog w = _
  unfold fk
  rw [h]
  have hf := Try.fields72'
  generalize (Try.prog.fieldsOf 72).toList = fs at hf
  have hlen : fs.length = 2 := by have := congrArg List.length hf; simpa using this
  match fs, hlen, hf with
  | [x, y], _, hf =>
    simp at hf
    obtain ⟨⟨h1, h2, h3⟩, h4, h5, h6⟩ := hf
    simp [Op.eqFields, h1, h2, h3, h4, h5, h6, go_sem]
    by_cases e1 : f.1 = g.1
    · rw [if_pos (by rw [e1])]
      by_cases e2 : f.2 = g.2
      · rw [if_pos e2]
        have : f = g := Prod.ext e1 e2
        simp [this]
      · rw [if_neg e2]
        have : f ≠ g := fun e => e2 (congrArg Prod.snd e)
        simp [this]
    · rw [if_neg (fun e => e1 (toList_inj e))]
      have : f ≠ g := fun e => e1 (congrArg Prod.fst e)
      simp [this]

/-- An entry: what it follows, the block of its group, its stamp. -/
structure FEnt where
  f : Filt
  m : Nat
  born : Nat
def FEnt.ent (e : FEnt) : MapEntry := { key := fk e.f, val := .pointer (some ⟨e.m, 0, none⟩), born := e.born }
def fobj (L : List FEnt) (clock : Nat) : Obj := .map (L.map FEnt.ent).toArray clock
def findF (f : Filt) : List FEnt → Nat → Option (Nat × Value)
  | [], _ => none
  | e :: L, i => if f = e.f then some (i, .pointer (some ⟨e.m, 0, none⟩)) else findF f L (i + 1)
theorem run_asking (f : Filt) (w : World) : ∀ (L : List FEnt) (i : Nat), (Instr.findAsking 72 (fk f) (L.map FEnt.ent) i).run Try.prog w = .ok (findF f L i) w
  | [], i => by simp [Instr.findAsking, findF]
  | e :: L, i => by
    simp only [List.map_cons, Instr.findAsking, Sem.run_bind, FEnt.ent, run_equal_filt, Result.andThen, findF]
    by_cases h : f = e.f
    · simp [h]
    · simp only [h, decide_false, Bool.false_eq_true, if_false]
      exact run_asking f w L (i + 1)
theorem run_find (f : Filt) (w : World) (L : List FEnt) : (Instr.findKey 72 (fk f) (L.map FEnt.ent)).run Try.prog w = .ok (findF f L 0) w := by
  cases L with
  | nil => simp [Instr.findKey, run_underlying Try.underlying72, Instr.findNow, findF, Result.andThen]
  | cons e L =>
    have hn : Instr.findNow (.struct (Try.prog.fieldsOf 72)) (fk f) ((e :: L).map FEnt.ent) 0 = none := by
      simp [Instr.findNow, fk, FEnt.ent, Instr.sameNow]
    simp only [Instr.findKey, Sem.run_bind, run_underlying Try.fields72, Result.andThen, hn]
    exact run_asking f w (e :: L) 0
theorem run_check9 (b : Bool) (n : Nat) (s : ByteArray) (w : World) : (Instr.checkKey b (n + 1) 9 (.string s)).run Try.prog w = .ok () w := run_checkKey Try.underlying9 (by exact trivial) b n
theorem run_check4 (b : Bool) (n : Nat) (s : Bool) (w : World) : (Instr.checkKey b (n + 1) 4 (.bool s)).run Try.prog w = .ok () w := run_checkKey Try.underlying4 (by exact trivial) b n
theorem run_check (b : Bool) (f : Filt) (w : World) : (Instr.checkKey b 10000 72 (fk f)).run Try.prog w = .ok () w := by
  have h9 := run_check9 b 9998 f.1 w
  have h4 := run_check4 b 9998 f.2 w
  show (Instr.checkKey b (9999 + 1) 72 (fk f)).run Try.prog w = _
  rw [Instr.checkKey]
  simp only [Sem.run_bind, run_underlying Try.underlying72, Result.andThen, fk]
  rw [← Array.forIn_toList]
  simp [go_sem, h9, h4]
theorem findF_spec (f : Filt) : ∀ (L : List FEnt) (i : Nat), (findF f L i = none ∧ ∀ e ∈ L, e.f ≠ f) ∨ ∃ j e, L[j]? = some e ∧ e.f = f ∧ (∀ k x, k < j → L[k]? = some x → x.f ≠ f) ∧ findF f L i = some (i + j, .pointer (some ⟨e.m, 0, none⟩))
  | [], i => .inl ⟨rfl, fun e he => by simp at he⟩
  | e :: L, i => by
    unfold findF
    by_cases h : f = e.f
    · rw [if_pos h]
      exact .inr ⟨0, e, rfl, h.symm, fun k x hk => absurd hk (Nat.not_lt_zero _), rfl⟩
    · rw [if_neg h]
      rcases findF_spec f L (i + 1) with ⟨h1, h2⟩ | ⟨j, x, h1, h2, h3, h4⟩
      · refine .inl ⟨h1, fun y hy => ?_⟩
        rcases List.mem_cons.1 hy with rfl | hy
        · exact fun e' => h e'.symm
        · exact h2 y hy
      · refine .inr ⟨j + 1, x, h1, h2, fun k y hk hy => ?_, by rw [h4, show i + 1 + j = i + (j + 1) by omega]⟩
        cases k with
        | zero => simp at hy; subst hy; exact fun e' => h e'.symm
        | succ k => exact h3 k y (by omega) hy

/-- Block b is the map. -/
structure FIs (w : World) (b : Nat) (L : List FEnt) (clock : Nat) : Prop where
  block : w.heap[b]? = some (fobj L clock)
  nodup : (L.map (·.f)).Nodup
theorem FIs.lt {w : World} {b : Nat} {L : List FEnt} {c : Nat} (h : FIs w b L c) : b < w.heap.size := (Array.getElem?_eq_some_iff.1 h.block).1
theorem FIs.of_block {w w' : World} {b : Nat} {L : List FEnt} {c : Nat} (h : FIs w b L c) (e : w'.heap[b]? = w.heap[b]?) : FIs w' b L c := ⟨e.trans h.block, h.nodup⟩
theorem FIs.obj {w : World} {b : Nat} {L : List FEnt} {c : Nat} (h : FIs w b L c) : w.heap[b]? = some (.map (L.map FEnt.ent).toArray c) := h.block
theorem FIs.at_unique {w : World} {b : Nat} {L : List FEnt} {c : Nat} (h : FIs w b L c) {e e' : FEnt} (he : e ∈ L) (he' : e' ∈ L) (hf : e.f = e'.f) : e = e' := by
  obtain ⟨i, hi⟩ := List.getElem?_of_mem he
  obtain ⟨j, hj⟩ := List.getElem?_of_mem he'
  have hp := List.pairwise_iff_getElem.1 h.nodup
  obtain ⟨a1, a2⟩ := List.getElem?_eq_some_iff.1 hi
  obtain ⟨b1, b2⟩ := List.getElem?_eq_some_iff.1 hj
  rcases Nat.lt_trichotomy i j with hlt | heq | hgt
  · refine absurd ?_ (hp i j (by simpa using a1) (by simpa using b1) hlt)
    rw [List.getElem_map, List.getElem_map, a2, b2, hf]
  · subst heq; rw [hi] at hj; exact Option.some.inj hj
  · refine absurd ?_ (hp j i (by simpa using b1) (by simpa using a1) hgt)
    rw [List.getElem_map, List.getElem_map, a2, b2, hf]
/-- 'm[f]', found. -/
theorem FIs.look_yes {w : World} {b : Nat} {L : List FEnt} {c : Nat} (h : FIs w b L c) {e : FEnt} (he : e ∈ L) : (Instr.lookup 43 (.map (some b)) (fk e.f) true).run Try.prog w = .ok (.tuple #[.pointer (some ⟨e.m, 0, none⟩), .bool true]) w := by
  rcases findF_spec e.f L 0 with ⟨_, h2⟩ | ⟨j, x, h1, h2, _, h4⟩
  · exact absurd rfl (h2 e he)
  · have hxe : x = e := h.at_unique (List.mem_of_getElem? h1) he h2
    subst hxe
    simp [Instr.lookup, run_underlying Try.underlying43, MapKept.run_getObj_map h.obj, run_check, run_find, h4, Result.andThen]
theorem FIs.look_no {w : World} {b : Nat} {L : List FEnt} {c : Nat} (h : FIs w b L c) {f : Filt} (hf : ∀ e ∈ L, e.f ≠ f) : (Instr.lookup 43 (.map (some b)) (fk f) true).run Try.prog w = .ok (.tuple #[.pointer none, .bool false]) w := by
  rcases findF_spec f L 0 with ⟨h1, _⟩ | ⟨j, x, h1, h2, _, _⟩
  · simp [Instr.lookup, run_underlying Try.underlying43, MapKept.run_getObj_map h.obj, run_check, run_find, h1, Result.andThen]
  · exact absurd h2 (hf x (List.mem_of_getElem? h1))
/-- 'm[f] = g', f being new. -/
theorem FIs.put {w : World} {b : Nat} {L : List FEnt} {c : Nat} (h : FIs w b L c) {f : Filt} (hf : ∀ e ∈ L, e.f ≠ f) (m : Nat) :
    (Instr.mapUpdate 43 (.map (some b)) (fk f) (.pointer (some ⟨m, 0, none⟩))).run Try.prog w = .ok () (setBlock w b (fobj (L ++ [⟨f, m, c⟩]) (c + 1))) := by
  rcases findF_spec f L 0 with ⟨h1, _⟩ | ⟨j, x, h1, h2, _, _⟩
  · simp [Instr.mapUpdate, run_underlying Try.underlying43, MapKept.run_getObj_map h.obj, run_check, run_find, h1, MapKept.run_setObj_map _ h.obj, Result.andThen, setBlock, fobj, FEnt.ent]
  · exact absurd h2 (hf x (List.mem_of_getElem? h1))
theorem FIs.afterPut {w : World} {b : Nat} {L : List FEnt} {c : Nat} (h : FIs w b L c) {f : Filt} (hf : ∀ e ∈ L, e.f ≠ f) (m : Nat) : FIs (setBlock w b (fobj (L ++ [⟨f, m, c⟩]) (c + 1))) b (L ++ [⟨f, m, c⟩]) (c + 1) :=
  ⟨(MapKept.heap_set h.block).1, by
    rw [List.map_append]
    refine List.nodup_append.2 ⟨h.nodup, by simp, fun a ha b' hb' => ?_⟩
    simp at hb'
    subst hb'
    obtain ⟨e, he, rfl⟩ := List.mem_map.1 ha
    exact hf e he⟩
/-- 'delete(m, f)', f being there. -/
theorem FIs.drop {w : World} {b : Nat} {L : List FEnt} {c : Nat} (h : FIs w b L c) {e : FEnt} (he : e ∈ L) (ty : TypeId) :
    (Builtin.delete_ #[43, 72] ty #[.map (some b), fk e.f]).run Try.prog w = .ok (.tuple #[]) (setBlock w b (fobj (L.filter fun x => decide (x.f ≠ e.f)) c)) := by
  rcases findF_spec e.f L 0 with ⟨_, h2⟩ | ⟨j, x, h1, h2, _, h4⟩
  · exact absurd rfl (h2 e he)
  · have hxe : x = e := h.at_unique (List.mem_of_getElem? h1) he h2
    subst hxe
    have hL : L.eraseIdx j = L.filter fun y => decide (y.f ≠ x.f) := by
      obtain ⟨hj, hx⟩ := List.getElem?_eq_some_iff.1 h1
      have hsplit : L = L.take j ++ x :: L.drop (j + 1) := by
        rw [← hx, List.getElem_cons_drop, List.take_append_drop]
      have hn := h.nodup
      rw [hsplit, List.map_append, List.map_cons, List.nodup_append] at hn
      obtain ⟨_, n2, n3⟩ := hn
      have n4 := List.nodup_cons.1 n2
      have e1 : (L.take j).filter (fun y => decide (y.f ≠ x.f)) = L.take j := List.filter_eq_self.2 fun y hy => by
        have := n3 y.f (List.mem_map.2 ⟨y, hy, rfl⟩) x.f List.mem_cons_self
        simpa using this
      have e2 : (L.drop (j + 1)).filter (fun y => decide (y.f ≠ x.f)) = L.drop (j + 1) := List.filter_eq_self.2 fun y hy => by
        have : y.f ≠ x.f := fun e' => n4.1 (e' ▸ List.mem_map.2 ⟨y, hy, rfl⟩)
        simpa using this
      rw [List.eraseIdx_eq_take_drop_succ]
      conv => rhs; rw [hsplit]
      rw [List.filter_append, List.filter_cons, e1, e2]
      simp
    have hsz : j < (L.map FEnt.ent).toArray.size := by have := (List.getElem?_eq_some_iff.1 h1).1; simpa using this
    simp [Builtin.delete_, run_underlying Try.underlying43, MapKept.run_getObj_map h.obj, run_check, run_find, h4, MapKept.run_setObj_map _ h.obj, Result.andThen, setBlock, fobj]
    have hmap : (L.map FEnt.ent).eraseIdx j = (L.eraseIdx j).map FEnt.ent := by
      rw [List.eraseIdx_eq_take_drop_succ, List.eraseIdx_eq_take_drop_succ, List.map_append, List.map_take, List.map_drop]
    rw [hmap, hL]
    simp
theorem FIs.afterDrop {w : World} {b : Nat} {L : List FEnt} {c : Nat} (h : FIs w b L c) (f : Filt) : FIs (setBlock w b (fobj (L.filter fun x => decide (x.f ≠ f)) c)) b (L.filter fun x => decide (x.f ≠ f)) c := by
  refine ⟨(MapKept.heap_set h.block).1, ?_⟩
  have hs : ((L.filter fun x => decide (x.f ≠ f)).map (·.f)).Sublist (L.map (·.f)) := List.Sublist.map _ List.filter_sublist
  exact h.nodup.sublist hs
theorem FIs.count {w : World} {b : Nat} {L : List FEnt} {c : Nat} (h : FIs w b L c) (ty : TypeId) : (Builtin.len_ #[43] ty #[.map (some b)]).run Try.prog w = .ok (.int .i64 L.length) w := by
  have := run_len_map (P := Try.prog) (w := w) 43 ty b _ _ (by kernel_rfl) h.obj
  rw [this]
  simp [goInt]
end Go.Proofs.Qxb6612256a
