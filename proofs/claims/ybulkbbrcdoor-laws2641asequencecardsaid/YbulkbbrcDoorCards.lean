/-
  DERIVED. GIVEN WITH THE SEED: THE CARDS: each row of YbulkbbrcDoorRows.lean that lists a variable, with what it lists TIED to the program's text (the seventh form; the later family's looks); each row that meets fmt, with fmt's text TOLD by the authors' own Lean function (tested against real Go, not proved from fmt's source: count such statements apart). THE CARD IS WHAT COUNTS. Prove the row's statement (the work); the ties are given (YbulkbbrcDoorTie.lean); close each card by the builder's one call (the guide's Derived/Test/ToyasCard.lean, 'card_holds'). Laid BY PROGRAM, IN A SANDBOX (cutbox-door.mjs). By AI agents, Wed Nov 11 2026. No macro, syntax, notation, axiom, sorry.
-/
import Derived.Test.YbulkbbrcDoorRows
import GoSem.ClaimSeven
namespace Go.Proofs.YbulkbbrcDoor
namespace Rows

/-- THE TIED CARD OF 'wirepool.LawS2641AOutcome'. -/
def lawS2641AOutcomeCard : Claim7 := { stood := { row := lawS2641AOutcomeRow, standIns := [], harness := (true, "12115b93097a632a9e9205be1fdcd41c568edbe0c7b8f0164b755eb078ca161c"), looks := true }, kinds := [], alts := [], laidByText := true, laidKinds := [.sentinel, .sentinel], laidTests := true, laidLooks := .later }
def LawS2641AOutcomeCardSaid : Prop := Claim7.holds Ybad.pinned (.plain (OpenSpec.ofChange lawS2641AOutcomeSpec)) lawS2641AOutcomeCard

/-- THE TIED CARD OF 'wirepool.LawS2641ASequence'. -/
def lawS2641ASequenceCard : Claim7 := { stood := { row := lawS2641ASequenceRow, standIns := [], harness := (true, "12115b93097a632a9e9205be1fdcd41c568edbe0c7b8f0164b755eb078ca161c"), looks := true }, kinds := [], alts := [], laidByText := true, laidKinds := [.sentinel, .sentinel], laidTests := true, laidLooks := .later }
def LawS2641ASequenceCardSaid : Prop := Claim7.holds Ybad.pinned (.plain (OpenSpec.ofChange lawS2641ASequenceSpec)) lawS2641ASequenceCard
end Rows
end Go.Proofs.YbulkbbrcDoor
