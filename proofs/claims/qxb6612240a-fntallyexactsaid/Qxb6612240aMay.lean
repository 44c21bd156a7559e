import Derived.Test.Qxb6612240aLast
namespace Go.Proofs.Qxb6612240a
open Go.RowKit Go.MapKept
open Go.ChangeMaps (setBlock)

theorem toList_inj {a b : ByteArray} (h : a.toList = b.toList) : a = b := by
  rw [ByteArray.toList_eq, ByteArray.toList_eq] at h
  exact ByteArray.ext (Array.toList_inj.mp h)
/-- Has the member been heard among the first k promises? -/
def heardTo (ps : List Pr) (name : ByteArray) (k : Nat) : Bool := (ps.take k).any fun p => p.fr.toList == name.toList
theorem heardTo_succ {ps : List Pr} {name : ByteArray} {k : Nat} {p : Pr} (h : ps[k]? = some p) : heardTo ps name (k + 1) = (heardTo ps name k || p.fr.toList == name.toList) := by
  simp [heardTo, take_get h, List.any_append]
theorem mem_froms {ps : List Pr} {name : ByteArray} : name ∈ fromsOf ps ↔ ∃ p ∈ ps, p.fr = name := by
  have : ∀ (ps : List Pr) (o : List ByteArray), name ∈ ps.foldl (fun o p => addKey o p.fr) o ↔ name ∈ o ∨ ∃ p ∈ ps, p.fr = name := by
    intro ps
    induction ps with
    | nil => intro o; simp
    | cons p ps ih =>
      intro o
      rw [List.foldl_cons, ih, mem_addKey]
      constructor
      · rintro ((h | h) | ⟨p', hp', h⟩)
        · exact .inl h
        · exact .inr ⟨p, List.mem_cons_self, h.symm⟩
        · exact .inr ⟨p', List.mem_cons_of_mem _ hp', h⟩
      · rintro (h | ⟨p', hp', h⟩)
        · exact .inl (.inl h)
        · rcases List.mem_cons.1 hp' with rfl | hp''
          · exact .inl (.inr h.symm)
          · exact .inr ⟨p', hp'', h⟩
  rw [fromsOf, this]
  simp
theorem heard_all (ps : List Pr) (name : ByteArray) {k : Nat} (hk : ps.length ≤ k) : heardTo ps name k = memB name (fromsOf ps) := by
  unfold heardTo
  rw [List.take_of_length_le hk]
  by_cases h : name ∈ fromsOf ps
  · rw [memB_iff.2 h]
    obtain ⟨p, hp, rfl⟩ := mem_froms.1 h
    exact List.any_eq_true.2 ⟨p, hp, by simp⟩
  · rw [memB_no.2 h, Bool.eq_false_iff]
    intro h'
    obtain ⟨p, hp, he⟩ := List.any_eq_true.1 h'
    exact h (mem_froms.2 ⟨p, hp, toList_inj (by simpa using he)⟩)
/-- A vote of the member's at the slot, for the request. -/
def hitAt (s : Int) (name : ByteArray) (best : Vt) (e : Ent) : Bool := decide (e.v.slot = s) && hit name best e
theorem any_grp (E : List Ent) (s : Int) (name : ByteArray) (best : Vt) : (grp E s).any (hit name best) = E.any (hitAt s name best) := by
  unfold grp hitAt
  rw [List.any_filter]

set_option maxRecDepth 100000 in
set_option maxHeartbeats 4000000 in
theorem mayHave_any (a : Option Addr) (n c : Nat) (rs : List Rd) (ea : Option Addr) (ec : Nat) (s : Int) (best : Vt) (name : ByteArray) (w : World) (h : RsOk w a n rs) (hrow : RowAt w ea 10 Ent.cells (reported rs)) (hEn : (reported rs).length ≤ 1048576) (hs : s ∈ slotsOf (reported rs)) :
    Calls Try.prog 34 #[.slice a n c, .slice ea (reported rs).length ec, .int .u64 s, .agg #[.int .u64 best.slot, .int .u64 best.round, .string best.leader, .string best.origin, .int .u64 best.inc, .int .u64 best.seq, .slice best.ta best.tl best.tc, .int .u64 best.nxt], .string name] w fun r w' => r = .returned (.bool (mhv (namesOf rs (reported rs) s) (grp (reported rs) s) best name)) ∧ Below w.heap.size w w' := by
  have hq : lastRd (reported rs) s < n := by
    have := lastRd_lt (rs := rs) (k := rs.length) (s := s) hs
    rw [h.len] at this
    have e : repTo rs n = reported rs := by rw [← h.len]; rfl
    rw [e] at this
    exact this
  obtain ⟨en, ra, rn, rc, rps, b, off, hr, rfl, c0, c1, hok⟩ := h.get hq
  have HN : Hid (namesOf rs (reported rs) s = fromsOf rps) := by show _ = _; simp [namesOf, hr]
  have HM : Hid (mhv (namesOf rs (reported rs) s) (grp (reported rs) s) best name = (!(memB name (fromsOf rps)) || (reported rs).any (hitAt s name best))) := by
    show _ = _
    rw [HN.out, mhv, any_grp]
  have hn := h.n_max
  have hrn := hok.n_max
  have HRow := hideP hrow
  have HLen := hideP hok.len
  clear hr h hrow hs
  obtain ⟨E, hE⟩ : ∃ E, E = reported rs := ⟨_, rfl⟩
  have HLast := hideP (last_rep rs s)
  rw [← hE] at HM HRow hEn HLast hq c0 c1 ⊢
  clear hE HN
  obtain ⟨q, hqe⟩ : ∃ q, q = lastRd E s := ⟨_, rfl⟩
  rw [← hqe] at HLast hq c0 c1
  clear hqe
  have hbb := below_alloc1 w (.cells #[.int .u64 best.slot, .int .u64 best.round, .string best.leader, .string best.origin, .int .u64 best.inc, .int .u64 best.seq, .slice best.ta best.tl best.tc, .int .u64 best.nxt] 50)
  have c1' := cell_ext hbb c1
  have hok' := hok.ext hbb
  have hcb := hideP (new_cells' w [.int .u64 best.slot, .int .u64 best.round, .string best.leader, .string best.origin, .int .u64 best.inc, .int .u64 best.seq, .slice best.ta best.tl best.tc, .int .u64 best.nxt] 50)
  go_enter Try.func34, Try.ntmps34
  go_wp2_with fail
  refine (lastRound_any ea _ ec E s _ (HRow.out.ext hbb) rfl hEn).mono ?_
  rintro r' w' ⟨rfl, rfl⟩
  rw [HLast.out]
  generalize hwb : w.alloc (.cells #[.int .u64 best.slot, .int .u64 best.round, .string best.leader, .string best.origin, .int .u64 best.inc, .int .u64 best.seq, .slice best.ta best.tl best.tc, .int .u64 best.nxt] 50) = wb at hbb c1' hok' hcb ⊢
  clear hwb
  go_wp2
  go_loopw [12, 13] (fun v i wr => ∃ k : Nat, k ≤ rn ∧ v = .bool (heardTo rps name k) ∧ i = .int .i64 k ∧ wb = wr) (fun _ i _ => rn - (intOf i).toNat)
  case atStart => exact ⟨0, Nat.zero_le _, by simp [heardTo], rfl, rfl⟩
  case round =>
    obtain ⟨k, hk, rfl, rfl, rfl⟩ := hrel
    by_cases hlt : k < rn
    · obtain ⟨fr, pa, pn, pc, pvs, pb, poff, hp, rfl, d0, d1, _⟩ := hok'.get hlt
      have HS := hideP (heardTo_succ (name := name) hp)
      clear hp
      by_cases hfr : fr.toList = name.toList
      · go_wp2
        exact ⟨⟨k + 1, by omega, by rw [HS.out]; simp [hfr], by go_num, trivial⟩, by simp [intOf]; omega⟩
      · have hfb : (fr.toList == name.toList) = false := by simpa using hfr
        go_wp2
        exact ⟨⟨k + 1, by omega, by rw [HS.out]; simp [hfr], by go_num, trivial⟩, by simp [intOf]; omega⟩
    · have hh := heard_all rps name (k := k) (by have : rps.length = rn := HLen.out; omega)
      rw [hh]
      clear hh
      cases hmb : memB name (fromsOf rps)
      · have HR : Hid (mhv (namesOf rs E s) (grp E s) best name = true) := by show _ = _; rw [HM.out, hmb]; rfl
        go_wp2
        go_ret
        rw [HR.out]
        exact ⟨rfl, hbb⟩
      · have HR : Hid (mhv (namesOf rs E s) (grp E s) best name = E.any (hitAt s name best)) := by show _ = _; rw [HM.out, hmb]; rfl
        clear hmb HM
        go_wp2
        go_loopw [14] (fun i wr => ∃ l : Nat, l ≤ E.length ∧ i = .int .i64 l ∧ Hid ((E.take l).any (hitAt s name best) = false) ∧ Below wb.heap.size wb wr) (fun i _ => E.length - (intOf i).toNat)
        case atStart => exact ⟨0, Nat.zero_le _, rfl, by show _ = _; simp, Below.refl _ _⟩
        case round =>
          rename World => wr
          obtain ⟨l, hl, rfl, HNo, hbr⟩ := hrel
          by_cases hll : l < E.length
          · obtain ⟨e, he⟩ := get_of_lt rfl hll
            have hbwr : Below w.heap.size w wr := hbb.trans (hbr.mono hbb.size)
            have hrowr := HRow.out.ext hbwr
            obtain ⟨eb, eoff, rfl, _⟩ := HRow.out l e he
            obtain ⟨f2, f3, f4, f5, f6, f7, f8, f9⟩ := ent_get hrowr he
            obtain ⟨f0, f1⟩ := ent_get' hrowr he
            have HE := hide_get he
            clear he hrowr
            have k3 := cell_ext hbr (hcb.out 3 _ rfl)
            have k4 := cell_ext hbr (hcb.out 4 _ rfl)
            have k5 := cell_ext hbr (hcb.out 5 _ rfl)
            have hlt' := lt_of_cell k3
            go_wp2
            all_goals first
              | (go_ret
                 rw [HR.out, any_hit HE.out _ (by simp [hitAt, hit, sameId, *])]
                 exact ⟨rfl, hbb.trans ((hbr.alloc hbr.size _).mono hbb.size)⟩)
              | (refine ⟨⟨l + 1, by omega, by go_num, any_step HE.out _ HNo.out ?_, hbr.alloc hbr.size _⟩, ?_⟩
                 · simp [hitAt, hit, sameId, *]
                 · simp [intOf]; omega)
          · have e : E.take l = E := List.take_of_length_le (by omega)
            rw [e] at HNo
            go_wp2
            go_ret
            rw [HR.out, HNo.out]
            exact ⟨rfl, hbb.trans (hbr.mono hbb.size)⟩
end Go.Proofs.Qxb6612240a
