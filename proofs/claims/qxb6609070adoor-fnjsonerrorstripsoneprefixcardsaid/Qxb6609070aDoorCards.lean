/-
  DERIVED. GIVEN WITH THE SEED: THE CARDS: each row of Qxb6609070aDoorRows.lean that lists a variable, with what it lists TIED to the program's text (the seventh form; the later family's looks); each row that meets fmt, with fmt's text TOLD by the authors' own Lean function (tested against real Go, not proved from fmt's source: count such statements apart). THE CARD IS WHAT COUNTS. Prove the row's statement (the work); the ties are given (Qxb6609070aDoorTie.lean); close each card by the builder's one call (the guide's Derived/Test/ToyasCard.lean, 'card_holds'). Laid BY PROGRAM, IN A SANDBOX (cutbox-door.mjs). By AI agents, Wed Nov 11 2026. No macro, syntax, notation, axiom, sorry.
-/
import Derived.Test.Qxb6609070aDoorRows
import GoSem.ClaimSeven
namespace Go.Proofs.Qxb6609070aDoor
namespace Rows

/-- THE TIED CARD OF 'zzlaws_pkg_fund_b1.FnJsonErrorStripsOnePrefix'. -/
def fnJsonErrorStripsOnePrefixCard : Claim7 := { stood := { row := fnJsonErrorStripsOnePrefixRow, standIns := [], harness := (true, "f1e283f98121e8a62cb815da79afc1cc17ddd7e566814a42bf11769e752d4050"), looks := true }, kinds := [], alts := [], laidByText := true, laidKinds := [.called], laidTests := true, laidLooks := .later }
def FnJsonErrorStripsOnePrefixCardSaid : Prop := Claim7.holds Tryd.pinned (.plain (OpenSpec.ofChange fnJsonErrorStripsOnePrefixSpec)) fnJsonErrorStripsOnePrefixCard
end Rows
end Go.Proofs.Qxb6609070aDoor
