/-
  DERIVED. GIVEN WITH THE SEED: THE CARDS: each row of YbulkbbqaFmtRows.lean that lists a variable, with what it lists TIED to the program's text (the seventh form; the later family's looks); each row that meets fmt, with fmt's text TOLD by the authors' own Lean function (tested against real Go, not proved from fmt's source: count such statements apart). THE CARD IS WHAT COUNTS. Prove the row's statement (the work); the ties are given (YbulkbbqaFmtTie.lean); close each card by the builder's one call (the guide's Derived/Test/ToyasCard.lean, 'card_holds'). Laid BY PROGRAM, IN A SANDBOX (cutbox-door.mjs). By AI agents, Wed Nov 11 2026. No macro, syntax, notation, axiom, sorry.
-/
import Derived.Test.YbulkbbqaFmtRows
import GoSem.ClaimSeven
namespace Go.Proofs.YbulkbbqaFmt
namespace Rows

/-- THE TOLD CARD OF 'pb.LawS2639BModel'. -/
def lawS2639BModelCard : Claim7 := { stood := { row := lawS2639BModelRow, standIns := [], harness := (true, "d182460c2adc90d7296b0d22fb4ca33f65bde47d406808376a498084802d495c"), looks := false }, told := true, goes := false }
def LawS2639BModelToldSaid : Prop := Claim7.holds Ybaf.pinned (.plain (OpenSpec.ofChange lawS2639BModelSpec)) lawS2639BModelCard
/-- ITS FALSE NEIGHBOUR. Refute it at one input. -/
def LawS2639BModelToldWrongFalsely : Prop := Claim7.holds Ybaf.pinned (.plain (OpenSpec.ofChange lawS2639BModelWrong)) lawS2639BModelCard

/-- THE TOLD CARD OF 'pb.LawS2639BRoundTrip'. -/
def lawS2639BRoundTripCard : Claim7 := { stood := { row := lawS2639BRoundTripRow, standIns := [], harness := (true, "d182460c2adc90d7296b0d22fb4ca33f65bde47d406808376a498084802d495c"), looks := false }, told := true, goes := false }
def LawS2639BRoundTripToldSaid : Prop := Claim7.holds Ybaf.pinned (.plain (OpenSpec.ofChange lawS2639BRoundTripSpec)) lawS2639BRoundTripCard
/-- ITS FALSE NEIGHBOUR. Refute it at one input. -/
def LawS2639BRoundTripToldWrongFalsely : Prop := Claim7.holds Ybaf.pinned (.plain (OpenSpec.ofChange lawS2639BRoundTripWrong)) lawS2639BRoundTripCard

/-- THE TOLD AND TIED CARD OF 'dagjson.LawS2639CModel'. -/
def lawS2639CModelCard : Claim7 := { stood := { row := lawS2639CModelRow, standIns := [], harness := (true, "d182460c2adc90d7296b0d22fb4ca33f65bde47d406808376a498084802d495c"), looks := false }, told := true, laidByText := true, laidKinds := [.data, .pinned, .pinned, .pinned, .pinned, .pinned, .pinned], laidTests := true, laidLooks := .later, goes := false }
def LawS2639CModelToldSaid : Prop := Claim7.holds Ybaf.pinned (.plain (OpenSpec.ofChange lawS2639CModelSpec)) lawS2639CModelCard
/-- ITS FALSE NEIGHBOUR. Refute it at one input. -/
def LawS2639CModelToldWrongFalsely : Prop := Claim7.holds Ybaf.pinned (.plain (OpenSpec.ofChange lawS2639CModelWrong)) lawS2639CModelCard

/-- THE TOLD AND TIED CARD OF 'dagjson.LawS2639CPieces'. -/
def lawS2639CPiecesCard : Claim7 := { stood := { row := lawS2639CPiecesRow, standIns := [], harness := (true, "d182460c2adc90d7296b0d22fb4ca33f65bde47d406808376a498084802d495c"), looks := false }, told := true, laidByText := true, laidKinds := [.data, .pinned, .pinned, .pinned, .pinned, .pinned, .pinned], laidTests := true, laidLooks := .later, goes := false }
def LawS2639CPiecesToldSaid : Prop := Claim7.holds Ybaf.pinned (.plain (OpenSpec.ofChange lawS2639CPiecesSpec)) lawS2639CPiecesCard
/-- ITS FALSE NEIGHBOUR. Refute it at one input. -/
def LawS2639CPiecesToldWrongFalsely : Prop := Claim7.holds Ybaf.pinned (.plain (OpenSpec.ofChange lawS2639CPiecesWrong)) lawS2639CPiecesCard
end Rows
end Go.Proofs.YbulkbbqaFmt
