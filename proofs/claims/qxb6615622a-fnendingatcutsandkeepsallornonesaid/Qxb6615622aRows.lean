/-
  No cell of these rows narrows 'for every input' (looked for: loops, veiled, ifaces, maps, wideKeys, modest, calm, conditions, laid).
  DERIVED. THE GIVEN ROWS OF THIS SEAT. 1 by the template 'for every input the law returns true; each argument reads behind the call as it read before'; 0 by the template 'total and deterministic' (their statements: Qxb6615622aTotals.lean).
  GIVEN WITH THE SEED: the statements are not yours to turn. If you find one false, say at which input.
  Laid BY PROGRAM, IN A SANDBOX (cutbox-rows.mjs): the forced cells as the released guide's own fill.sh prints them over the translation a4991293131e3c4f… (all of the seat's roots in one cut). By AI agents, Wed Nov 11 2026. No macro, syntax, notation, axiom, sorry.
-/
import Derived.Test.Qxb6615622aChecked
import GoSem.Claim
import GoSem.ClaimJoined
import GoSem.ClaimMapViews
import Derived.JoinedTies
import Derived.KernelRfl
namespace Go.Proofs.Qxb6615622a
/- THE CELL 'sum', in the pinned program and in every row, IS THE sha256 OF THE DUMP (.gsa) THAT Qxb6615622aProg.lean LOADS. Nothing in Lean hashes anything: it is a label: what it is worth is what the hold of that sum in a sandbox is worth. -/
noncomputable def Try.pinned : Pinned := { name := "qxb6615622a", sum := "a4991293131e3c4f228bfc341cd9780af5988b0243be43737dffbc4b14c9cb99", checked := Try.checked }
namespace Rows
def none {H : Type} : Left H := { results := [], args := [] }

/-- 'zzlaws_root_b1.FnEndingAtCutsAndKeepsAllOrNone': WHATEVER THE INPUT: true; the input reads as it did. -/
def fnEndingAtCutsAndKeepsAllOrNoneSpec : ChangeSpec := { name := "fnEndingAtCutsAndKeepsAllOrNone", fn := fun _ => fun
  | [d1, d2, d3] => { results := [.lit (.bool true)], args := [d1, d2, d3] }
  | _ => none }
def fnEndingAtCutsAndKeepsAllOrNoneRow : OpenClaim := { program := "qxb6615622a", sum := "a4991293131e3c4f228bfc341cd9780af5988b0243be43737dffbc4b14c9cb99", func := "example.com/keyturn/keyturn/zzlaws_root_b1.FnEndingAtCutsAndKeepsAllOrNone", spec := "fnEndingAtCutsAndKeepsAllOrNone", unfollowed := true, recurses := true, apart := false }
def FnEndingAtCutsAndKeepsAllOrNoneSaid : Prop := fnEndingAtCutsAndKeepsAllOrNoneRow.holds Try.pinned (OpenSpec.ofChange fnEndingAtCutsAndKeepsAllOrNoneSpec)

/-- ITS FALSE NEIGHBOUR: 'it returns false'. Refute it at one input. -/
def fnEndingAtCutsAndKeepsAllOrNoneWrong : ChangeSpec := { name := "fnEndingAtCutsAndKeepsAllOrNone", fn := fun _ => fun
  | [d1, d2, d3] => { results := [.lit (.bool false)], args := [d1, d2, d3] }
  | _ => none }
def FnEndingAtCutsAndKeepsAllOrNoneWrongFalsely : Prop := fnEndingAtCutsAndKeepsAllOrNoneRow.holds Try.pinned (OpenSpec.ofChange fnEndingAtCutsAndKeepsAllOrNoneWrong)

end Rows
end Go.Proofs.Qxb6615622a
