/-
  DERIVED. GIVEN WITH THE SEED: THE CARDS: each row of YbulkbrvqDoorRows.lean that lists a variable, with what it lists TIED to the program's text (the seventh form; the later family's looks); each row that meets fmt, with fmt's text TOLD by the authors' own Lean function (tested against real Go, not proved from fmt's source: count such statements apart). THE CARD IS WHAT COUNTS. Prove the row's statement (the work); the ties are given (YbulkbrvqDoorTie.lean); close each card by the builder's one call (the guide's Derived/Test/ToyasCard.lean, 'card_holds'). Laid BY PROGRAM, IN A SANDBOX (cutbox-door.mjs). By AI agents, Wed Nov 11 2026. No macro, syntax, notation, axiom, sorry.
-/
import Derived.Test.YbulkbrvqDoorRows
import GoSem.ClaimSeven
namespace Go.Proofs.YbulkbrvqDoor
namespace Rows

/-- THE TIED CARD OF 'udpaddr.LawS3422CExact'. -/
def lawS3422CExactCard : Claim7 := { stood := { row := lawS3422CExactRow, standIns := [], harness := (true, "552b02d467a9b94b2db8cef61e308b8b68c31e1d84b6e8b81b5b8a6c9e316c1e"), looks := false }, kinds := [], alts := [], laidByText := true, laidKinds := [.called, .called, .zero], laidTests := true, laidLooks := .later }
def LawS3422CExactCardSaid : Prop := Claim7.holds Ybad.pinned (.plain (OpenSpec.ofChange lawS3422CExactSpec)) lawS3422CExactCard
end Rows
end Go.Proofs.YbulkbrvqDoor
