/-
  No cell of these rows narrows 'for every input' (looked for: loops, veiled, ifaces, maps, wideKeys, modest, calm, conditions, laid).
  DERIVED. THE GIVEN ROWS OF THIS SEAT. 3 by the template 'for every input the law returns true; each argument reads behind the call as it read before'; 0 by the template 'total and deterministic' (their statements: Qxb6612240aTotals.lean).
  GIVEN WITH THE SEED: the statements are not yours to turn. If you find one false, say at which input.
  Laid BY PROGRAM, IN A SANDBOX (cutbox-rows.mjs): the forced cells as the released guide's own fill.sh prints them over the translation 53e6cf88c83cb708… (all of the seat's roots in one cut). By AI agents, Wed Nov 11 2026. No macro, syntax, notation, axiom, sorry.
-/
import Derived.Test.Qxb6612240aChecked
import GoSem.Claim
import GoSem.ClaimJoined
import GoSem.ClaimMapViews
import Derived.JoinedTies
import Derived.KernelRfl
namespace Go.Proofs.Qxb6612240a
/- THE CELL 'sum', in the pinned program and in every row, IS THE sha256 OF THE DUMP (.gsa) THAT Qxb6612240aProg.lean LOADS. Nothing in Lean hashes anything: it is a label: what it is worth is what the hold of that sum in a sandbox is worth. -/
noncomputable def Try.pinned : Pinned := { name := "qxb6612240a", sum := "53e6cf88c83cb7083fb9343cf97c2450d236afb2bc391aeabd1da3c5b391b653", checked := Try.checked }
namespace Rows
def none {H : Type} : Left H := { results := [], args := [] }

/-- 'zzlaws_root_b1.FnDecoderBytesFramesRoundTrip': WHATEVER THE INPUT: true; the input reads as it did. -/
def fnDecoderBytesFramesRoundTripSpec : ChangeSpec := { name := "fnDecoderBytesFramesRoundTrip", fn := fun _ => fun
  | [d1, d2, d3] => { results := [.lit (.bool true)], args := [d1, d2, d3] }
  | _ => none }
def fnDecoderBytesFramesRoundTripRow : OpenClaim := { program := "qxb6612240a", sum := "53e6cf88c83cb7083fb9343cf97c2450d236afb2bc391aeabd1da3c5b391b653", func := "example.com/regather/regather/zzlaws_root_b1.FnDecoderBytesFramesRoundTrip", spec := "fnDecoderBytesFramesRoundTrip", named := ["encoding/binary.BigEndian"], apart := false }
def FnDecoderBytesFramesRoundTripSaid : Prop := fnDecoderBytesFramesRoundTripRow.holds Try.pinned (OpenSpec.ofChange fnDecoderBytesFramesRoundTripSpec)

/-- ITS FALSE NEIGHBOUR: 'it returns false'. Refute it at one input. -/
def fnDecoderBytesFramesRoundTripWrong : ChangeSpec := { name := "fnDecoderBytesFramesRoundTrip", fn := fun _ => fun
  | [d1, d2, d3] => { results := [.lit (.bool false)], args := [d1, d2, d3] }
  | _ => none }
def FnDecoderBytesFramesRoundTripWrongFalsely : Prop := fnDecoderBytesFramesRoundTripRow.holds Try.pinned (OpenSpec.ofChange fnDecoderBytesFramesRoundTripWrong)

/-- 'zzlaws_root_b1.FnTallyExact': WHATEVER THE INPUT: true; the input reads as it did. -/
def fnTallyExactSpec : ChangeSpec := { name := "fnTallyExact", fn := fun _ => fun
  | [d1, d2] => { results := [.lit (.bool true)], args := [d1, d2] }
  | _ => none }
def fnTallyExactRow : OpenClaim := { program := "qxb6612240a", sum := "53e6cf88c83cb7083fb9343cf97c2450d236afb2bc391aeabd1da3c5b391b653", func := "example.com/regather/regather/zzlaws_root_b1.FnTallyExact", spec := "fnTallyExact", unfollowed := true, recurses := true, apart := false }
def FnTallyExactSaid : Prop := fnTallyExactRow.holds Try.pinned (OpenSpec.ofChange fnTallyExactSpec)

/-- ITS FALSE NEIGHBOUR: 'it returns false'. Refute it at one input. -/
def fnTallyExactWrong : ChangeSpec := { name := "fnTallyExact", fn := fun _ => fun
  | [d1, d2] => { results := [.lit (.bool false)], args := [d1, d2] }
  | _ => none }
def FnTallyExactWrongFalsely : Prop := fnTallyExactRow.holds Try.pinned (OpenSpec.ofChange fnTallyExactWrong)

/-- 'zzlaws_root_b1.FnTallyJoinsPools': WHATEVER THE INPUT: true; the input reads as it did. -/
def fnTallyJoinsPoolsSpec : ChangeSpec := { name := "fnTallyJoinsPools", fn := fun _ => fun
  | [d1, d2, d3] => { results := [.lit (.bool true)], args := [d1, d2, d3] }
  | _ => none }
def fnTallyJoinsPoolsRow : OpenClaim := { program := "qxb6612240a", sum := "53e6cf88c83cb7083fb9343cf97c2450d236afb2bc391aeabd1da3c5b391b653", func := "example.com/regather/regather/zzlaws_root_b1.FnTallyJoinsPools", spec := "fnTallyJoinsPools", unfollowed := true, recurses := true, apart := false }
def FnTallyJoinsPoolsSaid : Prop := fnTallyJoinsPoolsRow.holds Try.pinned (OpenSpec.ofChange fnTallyJoinsPoolsSpec)

/-- ITS FALSE NEIGHBOUR: 'it returns false'. Refute it at one input. -/
def fnTallyJoinsPoolsWrong : ChangeSpec := { name := "fnTallyJoinsPools", fn := fun _ => fun
  | [d1, d2, d3] => { results := [.lit (.bool false)], args := [d1, d2, d3] }
  | _ => none }
def FnTallyJoinsPoolsWrongFalsely : Prop := fnTallyJoinsPoolsRow.holds Try.pinned (OpenSpec.ofChange fnTallyJoinsPoolsWrong)

end Rows
end Go.Proofs.Qxb6612240a
