import Derived.Test.Qxb6612256aFMap
namespace Go.Proofs.Qxb6612256a
open Go.RowKit Go.MapKept
open Go.ChangeMaps (setBlock)

/-! ### The small functions -/
/-- A prefix length and the number of its groups. -/
def lcells (p : Int × Int) : List Value := [.int .i64 p.1, .int .i64 p.2]
theorem l_len (p : Int × Int) : (lcells p).length = 2 := rfl

theorem groupCount_any (hb mb : Nat) (L : List FEnt) (c : Nat) (w : World) (h26 : w.cell? ⟨hb, 26, none⟩ = some (.map (some mb))) (h : FIs w mb L c) :
    Calls Try.prog 16 #[.pointer (some ⟨hb, 0, none⟩)] w fun r w' => r = .returned (.int .i64 L.length) ∧ w = w' := by
  have hc := h.count
  go_enter Try.func16, Try.ntmps16
  go_wp2
  go_ret
  exact ⟨rfl, rfl⟩
theorem lengthCount_any (hb : Nat) (a : Option Addr) (n c : Nat) (w : World) (h27 : w.cell? ⟨hb, 27, none⟩ = some (.slice a n c)) :
    Calls Try.prog 17 #[.pointer (some ⟨hb, 0, none⟩)] w fun r w' => r = .returned (.int .i64 n) ∧ w = w' := by
  go_enter Try.func17, Try.ntmps17
  go_wp2
  go_ret
  exact ⟨rfl, rfl⟩
theorem groupWatches_any (m : Nat) (x : Int) (w : World) (h0 : w.cell? ⟨m, 0, none⟩ = some (.int .i64 x)) :
    Calls Try.prog 23 #[.pointer (some ⟨m, 0, none⟩)] w fun r w' => r = .returned (.int .i64 x) ∧ w = w' := by
  go_enter Try.func23, Try.ntmps23
  go_wp2
  go_ret
  exact ⟨rfl, rfl⟩
theorem group_yes (hb mb : Nat) (L : List FEnt) (c : Nat) (e : FEnt) (w : World) (h26 : w.cell? ⟨hb, 26, none⟩ = some (.map (some mb))) (h : FIs w mb L c) (he : e ∈ L) :
    Calls Try.prog 22 #[.pointer (some ⟨hb, 0, none⟩), .string e.f.1, .bool e.f.2] w fun r w' => r = .returned (.tuple #[.pointer (some ⟨e.m, 0, none⟩), .bool true]) ∧ w = w' := by
  have hl : (Instr.lookup 43 (.map (some mb)) (.agg #[.string e.f.1, .bool e.f.2]) true).run Try.prog w = .ok (.tuple #[.pointer (some ⟨e.m, 0, none⟩), .bool true]) w := h.look_yes he
  go_enter Try.func22, Try.ntmps22
  go_wp2
  go_ret2
  exact ⟨rfl, rfl⟩
theorem group_no (hb mb : Nat) (L : List FEnt) (c : Nat) (f : Filt) (w : World) (h26 : w.cell? ⟨hb, 26, none⟩ = some (.map (some mb))) (h : FIs w mb L c) (hf : ∀ e ∈ L, e.f ≠ f) :
    Calls Try.prog 22 #[.pointer (some ⟨hb, 0, none⟩), .string f.1, .bool f.2] w fun r w' => r = .returned (.tuple #[.pointer none, .bool false]) ∧ w = w' := by
  have hl : (Instr.lookup 43 (.map (some mb)) (.agg #[.string f.1, .bool f.2]) true).run Try.prog w = .ok (.tuple #[.pointer none, .bool false]) w := h.look_no hf
  go_enter Try.func22, Try.ntmps22
  go_wp2
  go_ret2
  exact ⟨rfl, rfl⟩
theorem lengthAt_any (hb b off n c k : Nat) (ls : List (Int × Int)) (p : Int × Int) (w : World) (h27 : w.cell? ⟨hb, 27, none⟩ = some (.slice (some ⟨b, off, none⟩) n c)) (hr : RowAt w (some ⟨b, off, none⟩) 2 lcells ls) (hn : ls.length = n) (hp : ls[k]? = some p) :
    Calls Try.prog 18 #[.pointer (some ⟨hb, 0, none⟩), .int .i64 k] w fun r w' => r = .returned (.tuple #[.int .i64 p.1, .int .i64 p.2]) ∧ ∃ d, w' = w.drewN d := by
  have hc := hr.at hp
  have c0 : w.cell? ⟨b, off + k * 2, none⟩ = some (.int .i64 p.1) := hc 0 _ rfl
  have c1 : w.cell? ⟨b, off + k * 2 + 1, none⟩ = some (.int .i64 p.2) := hc 1 _ rfl
  have hk : (k : Int) < (n : Int) := by have := (List.getElem?_eq_some_iff.1 hp).1; omega
  clear hc hp hr
  go_enter Try.func18, Try.ntmps18
  go_wp2
  go_quiet (fail)
  go_wp2
  go_ret2
  exact ⟨rfl, _, rfl⟩
end Go.Proofs.Qxb6612256a
