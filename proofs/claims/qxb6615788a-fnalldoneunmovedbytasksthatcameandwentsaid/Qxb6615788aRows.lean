/-
  No cell of these rows narrows 'for every input' (looked for: loops, veiled, ifaces, maps, wideKeys, modest, calm, conditions, laid).
  DERIVED. THE GIVEN ROWS OF THIS SEAT. 2 by the template 'for every input the law returns true; each argument reads behind the call as it read before'; 0 by the template 'total and deterministic' (their statements: Qxb6615788aTotals.lean).
  GIVEN WITH THE SEED: the statements are not yours to turn. If you find one false, say at which input.
  Laid BY PROGRAM, IN A SANDBOX (cutbox-rows.mjs): the forced cells as the released guide's own fill.sh prints them over the translation 7002bd36f3388a36… (all of the seat's roots in one cut). By AI agents, Wed Nov 11 2026. No macro, syntax, notation, axiom, sorry.
-/
import Derived.Test.Qxb6615788aChecked
import GoSem.Claim
import GoSem.ClaimJoined
import GoSem.ClaimMapViews
import Derived.JoinedTies
import Derived.KernelRfl
namespace Go.Proofs.Qxb6615788a
/- THE CELL 'sum', in the pinned program and in every row, IS THE sha256 OF THE DUMP (.gsa) THAT Qxb6615788aProg.lean LOADS. Nothing in Lean hashes anything: it is a label: what it is worth is what the hold of that sum in a sandbox is worth. -/
noncomputable def Try.pinned : Pinned := { name := "qxb6615788a", sum := "7002bd36f3388a367f7d0049e734918e1161d5b05fe17a7ac617cb64eaa3cc35", checked := Try.checked }
namespace Rows
def none {H : Type} : Left H := { results := [], args := [] }

/-- 'zzlaws_root_b1.FnAllDoneExactlyWhenNothingPending': WHATEVER THE INPUT: true; the input reads as it did. -/
def fnAllDoneExactlyWhenNothingPendingSpec : ChangeSpec := { name := "fnAllDoneExactlyWhenNothingPending", fn := fun _ => fun
  | [d1, d2, d3, d4] => { results := [.lit (.bool true)], args := [d1, d2, d3, d4] }
  | _ => none }
def fnAllDoneExactlyWhenNothingPendingRow : OpenClaim := { program := "qxb6615788a", sum := "7002bd36f3388a367f7d0049e734918e1161d5b05fe17a7ac617cb64eaa3cc35", func := "example.com/knitt/knitt/zzlaws_root_b1.FnAllDoneExactlyWhenNothingPending", spec := "fnAllDoneExactlyWhenNothingPending", inPlace := ["sync/atomic.StoreUint64", "sync/atomic.LoadUint64"], apart := false }
def FnAllDoneExactlyWhenNothingPendingSaid : Prop := fnAllDoneExactlyWhenNothingPendingRow.holds Try.pinned (OpenSpec.ofChange fnAllDoneExactlyWhenNothingPendingSpec)

/-- ITS FALSE NEIGHBOUR: 'it returns false'. Refute it at one input. -/
def fnAllDoneExactlyWhenNothingPendingWrong : ChangeSpec := { name := "fnAllDoneExactlyWhenNothingPending", fn := fun _ => fun
  | [d1, d2, d3, d4] => { results := [.lit (.bool false)], args := [d1, d2, d3, d4] }
  | _ => none }
def FnAllDoneExactlyWhenNothingPendingWrongFalsely : Prop := fnAllDoneExactlyWhenNothingPendingRow.holds Try.pinned (OpenSpec.ofChange fnAllDoneExactlyWhenNothingPendingWrong)

/-- 'zzlaws_root_b1.FnAllDoneUnmovedByTasksThatCameAndWent': WHATEVER THE INPUT: true; the input reads as it did. -/
def fnAllDoneUnmovedByTasksThatCameAndWentSpec : ChangeSpec := { name := "fnAllDoneUnmovedByTasksThatCameAndWent", fn := fun _ => fun
  | [d1, d2, d3, d4, d5, d6] => { results := [.lit (.bool true)], args := [d1, d2, d3, d4, d5, d6] }
  | _ => none }
def fnAllDoneUnmovedByTasksThatCameAndWentRow : OpenClaim := { program := "qxb6615788a", sum := "7002bd36f3388a367f7d0049e734918e1161d5b05fe17a7ac617cb64eaa3cc35", func := "example.com/knitt/knitt/zzlaws_root_b1.FnAllDoneUnmovedByTasksThatCameAndWent", spec := "fnAllDoneUnmovedByTasksThatCameAndWent", inPlace := ["sync/atomic.StoreUint64", "sync/atomic.LoadUint64"], apart := false }
def FnAllDoneUnmovedByTasksThatCameAndWentSaid : Prop := fnAllDoneUnmovedByTasksThatCameAndWentRow.holds Try.pinned (OpenSpec.ofChange fnAllDoneUnmovedByTasksThatCameAndWentSpec)

/-- ITS FALSE NEIGHBOUR: 'it returns false'. Refute it at one input. -/
def fnAllDoneUnmovedByTasksThatCameAndWentWrong : ChangeSpec := { name := "fnAllDoneUnmovedByTasksThatCameAndWent", fn := fun _ => fun
  | [d1, d2, d3, d4, d5, d6] => { results := [.lit (.bool false)], args := [d1, d2, d3, d4, d5, d6] }
  | _ => none }
def FnAllDoneUnmovedByTasksThatCameAndWentWrongFalsely : Prop := fnAllDoneUnmovedByTasksThatCameAndWentRow.holds Try.pinned (OpenSpec.ofChange fnAllDoneUnmovedByTasksThatCameAndWentWrong)

end Rows
end Go.Proofs.Qxb6615788a
