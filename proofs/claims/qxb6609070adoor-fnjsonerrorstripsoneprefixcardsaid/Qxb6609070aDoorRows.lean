/-
  NARROWER THAN 'FOR EVERY INPUT', by the rows' own cells (each row's printed sentence says how): FnJsonErrorStripsOnePrefix: laid.
  DERIVED. THE GIVEN ROWS OF THIS SEAT. 1 by the template 'for every input the law returns true; each argument reads behind the call as it read before'; 0 by the template 'total and deterministic' (their statements: Qxb6609070aDoorTotals.lean).
  GIVEN WITH THE SEED: the statements are not yours to turn. If you find one false, say at which input.
  Laid BY PROGRAM, IN A SANDBOX (cutbox-rows.mjs): the forced cells as the released guide's own fill.sh prints them over the translation 43f674153fd5ce14… (all of the seat's roots in one cut). By AI agents, Wed Nov 11 2026. No macro, syntax, notation, axiom, sorry.
-/
import Derived.Test.Qxb6609070aDoorChecked
import GoSem.Claim
import GoSem.ClaimJoined
import GoSem.ClaimMapViews
import Derived.JoinedTies
import Derived.KernelRfl
namespace Go.Proofs.Qxb6609070aDoor
/- THE CELL 'sum', in the pinned program and in every row, IS THE sha256 OF THE DUMP (.gsa) THAT Qxb6609070aDoorProg.lean LOADS. Nothing in Lean hashes anything: it is a label: what it is worth is what the hold of that sum in a sandbox is worth. -/
noncomputable def Tryd.pinned : Pinned := { name := "qxb6609070adoor", sum := "43f674153fd5ce1485c3221cc95d677fd9c7e891944cf65ecfc27661f4b7a12a", checked := Tryd.checked }
namespace Rows
def none {H : Type} : Left H := { results := [], args := [] }

/- WHAT THE LISTED PACKAGE-LEVEL VARIABLES READ AS WHEN THE CALL BEGINS. Each datum BY PROGRAM (the guide's laid-datum.mjs) off the statement by which the dump's own 'gosem.cut.vars' lays the variable. In a bare row this is a premise. The card (Qxb6609070aDoorCards.lean) ties it to the program's text. -/
def laid_io_EOF {H : Type} : DataW H := .iface "*errors.errorString" (.ptr (.agg [.lit (.string [69, 79, 70])]))

/-- 'zzlaws_pkg_fund_b1.FnJsonErrorStripsOnePrefix': WHATEVER THE INPUT: true; the input reads as it did. -/
def fnJsonErrorStripsOnePrefixSpec : ChangeSpec := { name := "fnJsonErrorStripsOnePrefix", fn := fun _ => fun
  | [d] => { results := [.lit (.bool true)], args := [d] }
  | _ => none }
def fnJsonErrorStripsOnePrefixRow : OpenClaim := { program := "qxb6609070adoor", sum := "43f674153fd5ce1485c3221cc95d677fd9c7e891944cf65ecfc27661f4b7a12a", func := "example.com/tuoguan/tuoguan/zzlaws_pkg_fund_b1.FnJsonErrorStripsOnePrefix", spec := "fnJsonErrorStripsOnePrefix", unfollowed := true, recurses := true, named := ["io.EOF"], apart := false, laid := [("io.EOF", laid_io_EOF)] }
def FnJsonErrorStripsOnePrefixSaid : Prop := fnJsonErrorStripsOnePrefixRow.holds Tryd.pinned (OpenSpec.ofChange fnJsonErrorStripsOnePrefixSpec)

/-- ITS FALSE NEIGHBOUR: 'it returns false'. Refute it at one input. -/
def fnJsonErrorStripsOnePrefixWrong : ChangeSpec := { name := "fnJsonErrorStripsOnePrefix", fn := fun _ => fun
  | [d] => { results := [.lit (.bool false)], args := [d] }
  | _ => none }
def FnJsonErrorStripsOnePrefixWrongFalsely : Prop := fnJsonErrorStripsOnePrefixRow.holds Tryd.pinned (OpenSpec.ofChange fnJsonErrorStripsOnePrefixWrong)

end Rows
end Go.Proofs.Qxb6609070aDoor
