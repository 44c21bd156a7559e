/-
  No cell of these rows narrows 'for every input' (looked for: loops, veiled, ifaces, maps, wideKeys, modest, calm, conditions, laid).
  DERIVED. THE GIVEN ROWS OF THIS SEAT. 1 by the template 'for every input the law returns true; each argument reads behind the call as it read before'; 0 by the template 'total and deterministic' (their statements: Qxb6612256aTotals.lean).
  GIVEN WITH THE SEED: the statements are not yours to turn. If you find one false, say at which input.
  Laid BY PROGRAM, IN A SANDBOX (cutbox-rows.mjs): the forced cells as the released guide's own fill.sh prints them over the translation b17504e7b5f2d01e… (all of the seat's roots in one cut). By AI agents, Wed Nov 11 2026. No macro, syntax, notation, axiom, sorry.
-/
import Derived.Test.Qxb6612256aChecked
import GoSem.Claim
import GoSem.ClaimJoined
import GoSem.ClaimMapViews
import Derived.JoinedTies
import Derived.KernelRfl
namespace Go.Proofs.Qxb6612256a
/- THE CELL 'sum', in the pinned program and in every row, IS THE sha256 OF THE DUMP (.gsa) THAT Qxb6612256aProg.lean LOADS. Nothing in Lean hashes anything: it is a label: what it is worth is what the hold of that sum in a sandbox is worth. -/
noncomputable def Try.pinned : Pinned := { name := "qxb6612256a", sum := "b17504e7b5f2d01eeb45f34c140892cbb6c49c6abd7d938ae114ce6a7563ba21", checked := Try.checked }
namespace Rows
def none {H : Type} : Left H := { results := [], args := [] }

/-- 'zzlaws_kv_b1.FnUnwatchEndsOneWatchExactly': WHATEVER THE INPUT: true; the input reads as it did. -/
def fnUnwatchEndsOneWatchExactlySpec : ChangeSpec := { name := "fnUnwatchEndsOneWatchExactly", fn := fun _ => fun
  | [d1, d2] => { results := [.lit (.bool true)], args := [d1, d2] }
  | _ => none }
def fnUnwatchEndsOneWatchExactlyRow : OpenClaim := { program := "qxb6612256a", sum := "b17504e7b5f2d01eeb45f34c140892cbb6c49c6abd7d938ae114ce6a7563ba21", func := "example.com/understudy/understudy/zzlaws_kv_b1.FnUnwatchEndsOneWatchExactly", spec := "fnUnwatchEndsOneWatchExactly", inPlace := ["slices.overlaps[example.com/understudy/understudy/kv.prefixLength]", "(*sync.RWMutex).Lock", "internal/race.Read", "internal/race.Disable", "(*internal/sync.Mutex).Lock", "sync/atomic.CompareAndSwapInt32", "internal/race.Enable", "internal/race.Acquire", "(*internal/sync.Mutex).lockSlow", "internal/sync.runtime_canSpin", "internal/sync.runtime_doSpin", "internal/sync.throw", "internal/sync.runtime_nanotime", "internal/sync.runtime_SemacquireMutex", "sync/atomic.AddInt32", "sync.runtime_SemacquireRWMutex", "(*sync.RWMutex).Unlock", "internal/race.Release", "internal/race.ReleaseMerge", "sync.fatal", "sync.runtime_Semrelease", "(*internal/sync.Mutex).Unlock", "(*internal/sync.Mutex).unlockSlow", "internal/sync.fatal", "internal/sync.runtime_Semrelease"], unfollowed := true, recurses := true, plainKeys := false, apart := false }
def FnUnwatchEndsOneWatchExactlySaid : Prop := fnUnwatchEndsOneWatchExactlyRow.holds Try.pinned (OpenSpec.ofChange fnUnwatchEndsOneWatchExactlySpec)

/-- ITS FALSE NEIGHBOUR: 'it returns false'. Refute it at one input. -/
def fnUnwatchEndsOneWatchExactlyWrong : ChangeSpec := { name := "fnUnwatchEndsOneWatchExactly", fn := fun _ => fun
  | [d1, d2] => { results := [.lit (.bool false)], args := [d1, d2] }
  | _ => none }
def FnUnwatchEndsOneWatchExactlyWrongFalsely : Prop := fnUnwatchEndsOneWatchExactlyRow.holds Try.pinned (OpenSpec.ofChange fnUnwatchEndsOneWatchExactlyWrong)

end Rows
end Go.Proofs.Qxb6612256a
