/-
  No cell of these rows narrows 'for every input' (looked for: loops, veiled, ifaces, maps, wideKeys, modest, calm, conditions, laid).
  DERIVED. THE GIVEN ROWS OF THIS SEAT. 2 by the template 'for every input the law returns true; each argument reads behind the call as it read before'; 0 by the template 'total and deterministic' (their statements: Qxb6615639aTotals.lean).
  GIVEN WITH THE SEED: the statements are not yours to turn. If you find one false, say at which input.
  Laid BY PROGRAM, IN A SANDBOX (cutbox-rows.mjs): the forced cells as the released guide's own fill.sh prints them over the translation 26ccd1b7f64ad977… (all of the seat's roots in one cut). By AI agents, Wed Nov 11 2026. No macro, syntax, notation, axiom, sorry.
-/
import Derived.Test.Qxb6615639aChecked
import GoSem.Claim
import GoSem.ClaimJoined
import GoSem.ClaimMapViews
import Derived.JoinedTies
import Derived.KernelRfl
namespace Go.Proofs.Qxb6615639a
/- THE CELL 'sum', in the pinned program and in every row, IS THE sha256 OF THE DUMP (.gsa) THAT Qxb6615639aProg.lean LOADS. Nothing in Lean hashes anything: it is a label: what it is worth is what the hold of that sum in a sandbox is worth. -/
noncomputable def Try.pinned : Pinned := { name := "qxb6615639a", sum := "26ccd1b7f64ad9776d5dcf995e369ed2f8dfdc84e87f24a23ac7c9b7a4eb4d1d", checked := Try.checked }
namespace Rows
def none {H : Type} : Left H := { results := [], args := [] }

/-- 'zzlaws_conflict_b1.FnAdvanceReleasesExactlyTheFreed': WHATEVER THE INPUT: true; the input reads as it did. -/
def fnAdvanceReleasesExactlyTheFreedSpec : ChangeSpec := { name := "fnAdvanceReleasesExactlyTheFreed", fn := fun _ => fun
  | [d1, d2, d3, d4, d5, d6, d7, d8, d9, d10] => { results := [.lit (.bool true)], args := [d1, d2, d3, d4, d5, d6, d7, d8, d9, d10] }
  | _ => none }
def fnAdvanceReleasesExactlyTheFreedRow : OpenClaim := { program := "qxb6615639a", sum := "26ccd1b7f64ad9776d5dcf995e369ed2f8dfdc84e87f24a23ac7c9b7a4eb4d1d", func := "example.com/escalon/escalon/zzlaws_conflict_b1.FnAdvanceReleasesExactlyTheFreed", spec := "fnAdvanceReleasesExactlyTheFreed", unfollowed := true, recurses := true, apart := false }
def FnAdvanceReleasesExactlyTheFreedSaid : Prop := fnAdvanceReleasesExactlyTheFreedRow.holds Try.pinned (OpenSpec.ofChange fnAdvanceReleasesExactlyTheFreedSpec)

/-- ITS FALSE NEIGHBOUR: 'it returns false'. Refute it at one input. -/
def fnAdvanceReleasesExactlyTheFreedWrong : ChangeSpec := { name := "fnAdvanceReleasesExactlyTheFreed", fn := fun _ => fun
  | [d1, d2, d3, d4, d5, d6, d7, d8, d9, d10] => { results := [.lit (.bool false)], args := [d1, d2, d3, d4, d5, d6, d7, d8, d9, d10] }
  | _ => none }
def FnAdvanceReleasesExactlyTheFreedWrongFalsely : Prop := fnAdvanceReleasesExactlyTheFreedRow.holds Try.pinned (OpenSpec.ofChange fnAdvanceReleasesExactlyTheFreedWrong)

/-- 'zzlaws_conflict_b1.FnAdvanceFromTheStartReleasesWhatIsFreed': WHATEVER THE INPUT: true; the input reads as it did. -/
def fnAdvanceFromTheStartReleasesWhatIsFreedSpec : ChangeSpec := { name := "fnAdvanceFromTheStartReleasesWhatIsFreed", fn := fun _ => fun
  | [d1, d2, d3, d4, d5, d6, d7, d8] => { results := [.lit (.bool true)], args := [d1, d2, d3, d4, d5, d6, d7, d8] }
  | _ => none }
def fnAdvanceFromTheStartReleasesWhatIsFreedRow : OpenClaim := { program := "qxb6615639a", sum := "26ccd1b7f64ad9776d5dcf995e369ed2f8dfdc84e87f24a23ac7c9b7a4eb4d1d", func := "example.com/escalon/escalon/zzlaws_conflict_b1.FnAdvanceFromTheStartReleasesWhatIsFreed", spec := "fnAdvanceFromTheStartReleasesWhatIsFreed", unfollowed := true, recurses := true, apart := false }
def FnAdvanceFromTheStartReleasesWhatIsFreedSaid : Prop := fnAdvanceFromTheStartReleasesWhatIsFreedRow.holds Try.pinned (OpenSpec.ofChange fnAdvanceFromTheStartReleasesWhatIsFreedSpec)

/-- ITS FALSE NEIGHBOUR: 'it returns false'. Refute it at one input. -/
def fnAdvanceFromTheStartReleasesWhatIsFreedWrong : ChangeSpec := { name := "fnAdvanceFromTheStartReleasesWhatIsFreed", fn := fun _ => fun
  | [d1, d2, d3, d4, d5, d6, d7, d8] => { results := [.lit (.bool false)], args := [d1, d2, d3, d4, d5, d6, d7, d8] }
  | _ => none }
def FnAdvanceFromTheStartReleasesWhatIsFreedWrongFalsely : Prop := fnAdvanceFromTheStartReleasesWhatIsFreedRow.holds Try.pinned (OpenSpec.ofChange fnAdvanceFromTheStartReleasesWhatIsFreedWrong)

end Rows
end Go.Proofs.Qxb6615639a
