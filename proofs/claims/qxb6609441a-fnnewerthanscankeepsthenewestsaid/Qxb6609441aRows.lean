/-
  No cell of these rows narrows 'for every input' (looked for: loops, veiled, ifaces, maps, wideKeys, modest, calm, conditions, laid).
  DERIVED. THE GIVEN ROWS OF THIS SEAT. 3 by the template 'for every input the law returns true; each argument reads behind the call as it read before'; 0 by the template 'total and deterministic' (their statements: Qxb6609441aTotals.lean).
  GIVEN WITH THE SEED: the statements are not yours to turn. If you find one false, say at which input.
  Laid BY PROGRAM, IN A SANDBOX (cutbox-rows.mjs): the forced cells as the released guide's own fill.sh prints them over the translation be4724f7038704b3… (all of the seat's roots in one cut). By AI agents, Wed Nov 11 2026. No macro, syntax, notation, axiom, sorry.
-/
import Derived.Test.Qxb6609441aChecked
import GoSem.Claim
import GoSem.ClaimJoined
import GoSem.ClaimMapViews
import Derived.JoinedTies
import Derived.KernelRfl
namespace Go.Proofs.Qxb6609441a
/- THE CELL 'sum', in the pinned program and in every row, IS THE sha256 OF THE DUMP (.gsa) THAT Qxb6609441aProg.lean LOADS. Nothing in Lean hashes anything: it is a label: what it is worth is what the hold of that sum in a sandbox is worth. -/
noncomputable def Try.pinned : Pinned := { name := "qxb6609441a", sum := "be4724f7038704b3815ae2f7e14428cf89e3fc226e2c080418d70680fa2bd0a7", checked := Try.checked }
namespace Rows
def none {H : Type} : Left H := { results := [], args := [] }

/-- 'zzlaws_pkg_keyring_b1.FnFootprintRemoveUndoesAdd': WHATEVER THE INPUT: true; the input reads as it did. -/
def fnFootprintRemoveUndoesAddSpec : ChangeSpec := { name := "fnFootprintRemoveUndoesAdd", fn := fun _ => fun
  | [d1, d2, d3, d4, d5, d6, d7] => { results := [.lit (.bool true)], args := [d1, d2, d3, d4, d5, d6, d7] }
  | _ => none }
def fnFootprintRemoveUndoesAddRow : OpenClaim := { program := "qxb6609441a", sum := "be4724f7038704b3815ae2f7e14428cf89e3fc226e2c080418d70680fa2bd0a7", func := "example.com/keymeld/keymeld/zzlaws_pkg_keyring_b1.FnFootprintRemoveUndoesAdd", spec := "fnFootprintRemoveUndoesAdd", apart := false }
def FnFootprintRemoveUndoesAddSaid : Prop := fnFootprintRemoveUndoesAddRow.holds Try.pinned (OpenSpec.ofChange fnFootprintRemoveUndoesAddSpec)

/-- ITS FALSE NEIGHBOUR: 'it returns false'. Refute it at one input. -/
def fnFootprintRemoveUndoesAddWrong : ChangeSpec := { name := "fnFootprintRemoveUndoesAdd", fn := fun _ => fun
  | [d1, d2, d3, d4, d5, d6, d7] => { results := [.lit (.bool false)], args := [d1, d2, d3, d4, d5, d6, d7] }
  | _ => none }
def FnFootprintRemoveUndoesAddWrongFalsely : Prop := fnFootprintRemoveUndoesAddRow.holds Try.pinned (OpenSpec.ofChange fnFootprintRemoveUndoesAddWrong)

/-- 'zzlaws_pkg_keyring_b1.FnNewerThanOrdersByCreatedThenPlace': WHATEVER THE INPUT: true; the input reads as it did. -/
def fnNewerThanOrdersByCreatedThenPlaceSpec : ChangeSpec := { name := "fnNewerThanOrdersByCreatedThenPlace", fn := fun _ => fun
  | [d1, d2, d3, d4, d5, d6, d7, d8, d9, d10, d11] => { results := [.lit (.bool true)], args := [d1, d2, d3, d4, d5, d6, d7, d8, d9, d10, d11] }
  | _ => none }
def fnNewerThanOrdersByCreatedThenPlaceRow : OpenClaim := { program := "qxb6609441a", sum := "be4724f7038704b3815ae2f7e14428cf89e3fc226e2c080418d70680fa2bd0a7", func := "example.com/keymeld/keymeld/zzlaws_pkg_keyring_b1.FnNewerThanOrdersByCreatedThenPlace", spec := "fnNewerThanOrdersByCreatedThenPlace", apart := false }
def FnNewerThanOrdersByCreatedThenPlaceSaid : Prop := fnNewerThanOrdersByCreatedThenPlaceRow.holds Try.pinned (OpenSpec.ofChange fnNewerThanOrdersByCreatedThenPlaceSpec)

/-- ITS FALSE NEIGHBOUR: 'it returns false'. Refute it at one input. -/
def fnNewerThanOrdersByCreatedThenPlaceWrong : ChangeSpec := { name := "fnNewerThanOrdersByCreatedThenPlace", fn := fun _ => fun
  | [d1, d2, d3, d4, d5, d6, d7, d8, d9, d10, d11] => { results := [.lit (.bool false)], args := [d1, d2, d3, d4, d5, d6, d7, d8, d9, d10, d11] }
  | _ => none }
def FnNewerThanOrdersByCreatedThenPlaceWrongFalsely : Prop := fnNewerThanOrdersByCreatedThenPlaceRow.holds Try.pinned (OpenSpec.ofChange fnNewerThanOrdersByCreatedThenPlaceWrong)

/-- 'zzlaws_pkg_keyring_b1.FnNewerThanScanKeepsTheNewest': WHATEVER THE INPUT: true; the input reads as it did. -/
def fnNewerThanScanKeepsTheNewestSpec : ChangeSpec := { name := "fnNewerThanScanKeepsTheNewest", fn := fun _ => fun
  | [d1, d2, d3, d4, d5, d6] => { results := [.lit (.bool true)], args := [d1, d2, d3, d4, d5, d6] }
  | _ => none }
def fnNewerThanScanKeepsTheNewestRow : OpenClaim := { program := "qxb6609441a", sum := "be4724f7038704b3815ae2f7e14428cf89e3fc226e2c080418d70680fa2bd0a7", func := "example.com/keymeld/keymeld/zzlaws_pkg_keyring_b1.FnNewerThanScanKeepsTheNewest", spec := "fnNewerThanScanKeepsTheNewest", apart := false }
def FnNewerThanScanKeepsTheNewestSaid : Prop := fnNewerThanScanKeepsTheNewestRow.holds Try.pinned (OpenSpec.ofChange fnNewerThanScanKeepsTheNewestSpec)

/-- ITS FALSE NEIGHBOUR: 'it returns false'. Refute it at one input. -/
def fnNewerThanScanKeepsTheNewestWrong : ChangeSpec := { name := "fnNewerThanScanKeepsTheNewest", fn := fun _ => fun
  | [d1, d2, d3, d4, d5, d6] => { results := [.lit (.bool false)], args := [d1, d2, d3, d4, d5, d6] }
  | _ => none }
def FnNewerThanScanKeepsTheNewestWrongFalsely : Prop := fnNewerThanScanKeepsTheNewestRow.holds Try.pinned (OpenSpec.ofChange fnNewerThanScanKeepsTheNewestWrong)

end Rows
end Go.Proofs.Qxb6609441a
