/-
  No cell of these rows narrows 'for every input' (looked for: loops, veiled, ifaces, maps, wideKeys, modest, calm, conditions, laid).
  DERIVED. THE GIVEN ROWS OF THIS SEAT. 2 by the template 'for every input the law returns true; each argument reads behind the call as it read before'; 0 by the template 'total and deterministic' (their statements: Qxb6609474aTotals.lean).
  GIVEN WITH THE SEED: the statements are not yours to turn. If you find one false, say at which input.
  Laid BY PROGRAM, IN A SANDBOX (cutbox-rows.mjs): the forced cells as the released guide's own fill.sh prints them over the translation ef5fb85c6106774e… (all of the seat's roots in one cut). By AI agents, Wed Nov 11 2026. No macro, syntax, notation, axiom, sorry.
-/
import Derived.Test.Qxb6609474aChecked
import GoSem.Claim
import GoSem.ClaimJoined
import GoSem.ClaimMapViews
import Derived.JoinedTies
import Derived.KernelRfl
namespace Go.Proofs.Qxb6609474a
/- THE CELL 'sum', in the pinned program and in every row, IS THE sha256 OF THE DUMP (.gsa) THAT Qxb6609474aProg.lean LOADS. Nothing in Lean hashes anything: it is a label: what it is worth is what the hold of that sum in a sandbox is worth. -/
noncomputable def Try.pinned : Pinned := { name := "qxb6609474a", sum := "ef5fb85c6106774e0a5f698ed2e3f3a803202e755625096ad94b2e53a9bfe7d0", checked := Try.checked }
namespace Rows
def none {H : Type} : Left H := { results := [], args := [] }

/-- 'zzlaws_internal_compile_b1.FnIsAlnumTable': WHATEVER THE INPUT: true; the input reads as it did. -/
def fnIsAlnumTableSpec : ChangeSpec := { name := "fnIsAlnumTable", fn := fun _ => fun
  | [d] => { results := [.lit (.bool true)], args := [d] }
  | _ => none }
def fnIsAlnumTableRow : OpenClaim := { program := "qxb6609474a", sum := "ef5fb85c6106774e0a5f698ed2e3f3a803202e755625096ad94b2e53a9bfe7d0", func := "example.com/nestgen/nestgen/zzlaws_internal_compile_b1.FnIsAlnumTable", spec := "fnIsAlnumTable", apart := false }
def FnIsAlnumTableSaid : Prop := fnIsAlnumTableRow.holds Try.pinned (OpenSpec.ofChange fnIsAlnumTableSpec)

/-- ITS FALSE NEIGHBOUR: 'it returns false'. Refute it at one input. -/
def fnIsAlnumTableWrong : ChangeSpec := { name := "fnIsAlnumTable", fn := fun _ => fun
  | [d] => { results := [.lit (.bool false)], args := [d] }
  | _ => none }
def FnIsAlnumTableWrongFalsely : Prop := fnIsAlnumTableRow.holds Try.pinned (OpenSpec.ofChange fnIsAlnumTableWrong)

/-- 'zzlaws_internal_compile_b1.FnEscaperNameLenAgreesWithIsAlnum': WHATEVER THE INPUT: true; the input reads as it did. -/
def fnEscaperNameLenAgreesWithIsAlnumSpec : ChangeSpec := { name := "fnEscaperNameLenAgreesWithIsAlnum", fn := fun _ => fun
  | [d] => { results := [.lit (.bool true)], args := [d] }
  | _ => none }
def fnEscaperNameLenAgreesWithIsAlnumRow : OpenClaim := { program := "qxb6609474a", sum := "ef5fb85c6106774e0a5f698ed2e3f3a803202e755625096ad94b2e53a9bfe7d0", func := "example.com/nestgen/nestgen/zzlaws_internal_compile_b1.FnEscaperNameLenAgreesWithIsAlnum", spec := "fnEscaperNameLenAgreesWithIsAlnum", apart := false }
def FnEscaperNameLenAgreesWithIsAlnumSaid : Prop := fnEscaperNameLenAgreesWithIsAlnumRow.holds Try.pinned (OpenSpec.ofChange fnEscaperNameLenAgreesWithIsAlnumSpec)

/-- ITS FALSE NEIGHBOUR: 'it returns false'. Refute it at one input. -/
def fnEscaperNameLenAgreesWithIsAlnumWrong : ChangeSpec := { name := "fnEscaperNameLenAgreesWithIsAlnum", fn := fun _ => fun
  | [d] => { results := [.lit (.bool false)], args := [d] }
  | _ => none }
def FnEscaperNameLenAgreesWithIsAlnumWrongFalsely : Prop := fnEscaperNameLenAgreesWithIsAlnumRow.holds Try.pinned (OpenSpec.ofChange fnEscaperNameLenAgreesWithIsAlnumWrong)

end Rows
end Go.Proofs.Qxb6609474a
