/-
  NARROWER THAN 'FOR EVERY INPUT', by the rows' own cells (each row's printed sentence says how): LawS2639CModel: laid · LawS2639CPieces: laid.
  DERIVED. THE GIVEN ROWS OF THIS SEAT. 4 by the template 'for every input the law returns true; each argument reads behind the call as it read before'; 0 by the template 'total and deterministic' (their statements: YbulkbbqaFmtTotals.lean).
  GIVEN WITH THE SEED: the statements are not yours to turn. If you find one false, say at which input.
  Laid BY PROGRAM, IN A SANDBOX (cutbox-rows.mjs): the forced cells as the released guide's own fill.sh prints them over the translation 3920e5bf9c985a1d… (all of the seat's roots in one cut). By AI agents, Wed Nov 11 2026. No macro, syntax, notation, axiom, sorry.
-/
import Derived.Test.YbulkbbqaFmtChecked
import GoSem.PinnedTables
import GoSem.Claim
import GoSem.ClaimJoined
import GoSem.ClaimMapViews
import Derived.JoinedTies
import Derived.KernelRfl
namespace Go.Proofs.YbulkbbqaFmt
/- THE CELL 'sum', in the pinned program and in every row, IS THE sha256 OF THE DUMP (.gsa) THAT YbulkbbqaFmtProg.lean LOADS. Nothing in Lean hashes anything: it is a label: what it is worth is what the hold of that sum in a sandbox is worth. -/
noncomputable def Ybaf.pinned : Pinned := { name := "ybulkbbqafmt", sum := "3920e5bf9c985a1d170ba4cce36ae31dffc8558dc7547eb76ee5c4504b94c0cc", checked := Ybaf.checked }
namespace Rows
def none {H : Type} : Left H := { results := [], args := [] }

/- WHAT THE LISTED PACKAGE-LEVEL VARIABLES READ AS WHEN THE CALL BEGINS. Each datum BY PROGRAM (the guide's laid-datum.mjs) off the statement by which the dump's own 'gosem.cut.vars' lays the variable. In a bare row this is a premise. The card (YbulkbbqaFmtCards.lean) ties it to the program's text. -/
def laid_unicode_utf8_acceptRanges {H : Type} : DataW H := .agg [.agg [.lit (.int .u8 128), .lit (.int .u8 191)], .agg [.lit (.int .u8 160), .lit (.int .u8 191)], .agg [.lit (.int .u8 128), .lit (.int .u8 159)], .agg [.lit (.int .u8 144), .lit (.int .u8 191)], .agg [.lit (.int .u8 128), .lit (.int .u8 143)], .agg [.lit (.int .u8 0), .lit (.int .u8 0)], .agg [.lit (.int .u8 0), .lit (.int .u8 0)], .agg [.lit (.int .u8 0), .lit (.int .u8 0)], .agg [.lit (.int .u8 0), .lit (.int .u8 0)], .agg [.lit (.int .u8 0), .lit (.int .u8 0)], .agg [.lit (.int .u8 0), .lit (.int .u8 0)], .agg [.lit (.int .u8 0), .lit (.int .u8 0)], .agg [.lit (.int .u8 0), .lit (.int .u8 0)], .agg [.lit (.int .u8 0), .lit (.int .u8 0)], .agg [.lit (.int .u8 0), .lit (.int .u8 0)], .agg [.lit (.int .u8 0), .lit (.int .u8 0)]]
/-- One of Go's own tables, pinned by name: the form's constant. -/
def laid_strconv_isGraphic : DataW Unit := Go.Pinned.isGraphic
/-- One of Go's own tables, pinned by name: the form's constant. -/
def laid_strconv_isNotPrint16 : DataW Unit := Go.Pinned.isNotPrint16
/-- One of Go's own tables, pinned by name: the form's constant. -/
def laid_strconv_isNotPrint32 : DataW Unit := Go.Pinned.isNotPrint32
/-- One of Go's own tables, pinned by name: the form's constant. -/
def laid_strconv_isPrint16 : DataW Unit := Go.Pinned.isPrint16
/-- One of Go's own tables, pinned by name: the form's constant. -/
def laid_strconv_isPrint32 : DataW Unit := Go.Pinned.isPrint32
/-- One of Go's own tables, pinned by name: the form's constant. -/
def laid_unicode_utf8_first : DataW Unit := Go.Pinned.utf8First

/-- 'pb.LawS2639BModel': WHATEVER THE INPUT: true; the input reads as it did. -/
def lawS2639BModelSpec : ChangeSpec := { name := "lawS2639BModel", fn := fun _ => fun
  | [d1, d2] => { results := [.lit (.bool true)], args := [d1, d2] }
  | _ => none }
def lawS2639BModelRow : OpenClaim := { program := "ybulkbbqafmt", sum := "3920e5bf9c985a1d170ba4cce36ae31dffc8558dc7547eb76ee5c4504b94c0cc", func := "example.com/dagwright/dagwright/internal/pb.LawS2639BModel", spec := "lawS2639BModel", stops := ["fmt.errorf", "fmt.Sprintf"], inPlace := ["fmt.errorf"], apart := false }
/-- NO THEOREM (fmt's text is open here; it may be false): for the released tool's asking of the row's closed facts alone. THE STATEMENT IS 'LawS2639BModelToldSaid' (YbulkbbqaFmtCards.lean). -/
def LawS2639BModelFormAsk : Prop := lawS2639BModelRow.holds Ybaf.pinned (OpenSpec.ofChange lawS2639BModelSpec)

/-- ITS FALSE NEIGHBOUR: 'it returns false'. Refute it at one input. -/
def lawS2639BModelWrong : ChangeSpec := { name := "lawS2639BModel", fn := fun _ => fun
  | [d1, d2] => { results := [.lit (.bool false)], args := [d1, d2] }
  | _ => none }
def LawS2639BModelWrongFormAsk : Prop := lawS2639BModelRow.holds Ybaf.pinned (OpenSpec.ofChange lawS2639BModelWrong)

/-- 'pb.LawS2639BRoundTrip': WHATEVER THE INPUT: true; the input reads as it did. -/
def lawS2639BRoundTripSpec : ChangeSpec := { name := "lawS2639BRoundTrip", fn := fun _ => fun
  | [d1, d2] => { results := [.lit (.bool true)], args := [d1, d2] }
  | _ => none }
def lawS2639BRoundTripRow : OpenClaim := { program := "ybulkbbqafmt", sum := "3920e5bf9c985a1d170ba4cce36ae31dffc8558dc7547eb76ee5c4504b94c0cc", func := "example.com/dagwright/dagwright/internal/pb.LawS2639BRoundTrip", spec := "lawS2639BRoundTrip", stops := ["fmt.errorf", "fmt.Sprintf"], inPlace := ["fmt.errorf"], apart := false }
/-- NO THEOREM (fmt's text is open here; it may be false): for the released tool's asking of the row's closed facts alone. THE STATEMENT IS 'LawS2639BRoundTripToldSaid' (YbulkbbqaFmtCards.lean). -/
def LawS2639BRoundTripFormAsk : Prop := lawS2639BRoundTripRow.holds Ybaf.pinned (OpenSpec.ofChange lawS2639BRoundTripSpec)

/-- ITS FALSE NEIGHBOUR: 'it returns false'. Refute it at one input. -/
def lawS2639BRoundTripWrong : ChangeSpec := { name := "lawS2639BRoundTrip", fn := fun _ => fun
  | [d1, d2] => { results := [.lit (.bool false)], args := [d1, d2] }
  | _ => none }
def LawS2639BRoundTripWrongFormAsk : Prop := lawS2639BRoundTripRow.holds Ybaf.pinned (OpenSpec.ofChange lawS2639BRoundTripWrong)

/-- 'dagjson.LawS2639CModel': WHATEVER THE INPUT: true; the input reads as it did. -/
def lawS2639CModelSpec : ChangeSpec := { name := "lawS2639CModel", fn := fun _ => fun
  | [d1, d2] => { results := [.lit (.bool true)], args := [d1, d2] }
  | _ => none }
def lawS2639CModelRow : OpenClaim := { program := "ybulkbbqafmt", sum := "3920e5bf9c985a1d170ba4cce36ae31dffc8558dc7547eb76ee5c4504b94c0cc", func := "example.com/dagwright/dagwright/dagjson.LawS2639CModel", spec := "lawS2639CModel", stops := ["fmt.errorf", "fmt.Sprintf"], inPlace := ["fmt.Sprintf", "fmt.errorf", "internal/bytealg.IndexByteString"], named := ["unicode/utf8.first", "unicode/utf8.acceptRanges", "strconv.isPrint16", "strconv.isNotPrint16", "strconv.isPrint32", "strconv.isNotPrint32", "strconv.isGraphic"], apart := false, laid := [("unicode/utf8.acceptRanges", laid_unicode_utf8_acceptRanges), ("strconv.isGraphic", laid_strconv_isGraphic), ("strconv.isNotPrint16", laid_strconv_isNotPrint16), ("strconv.isNotPrint32", laid_strconv_isNotPrint32), ("strconv.isPrint16", laid_strconv_isPrint16), ("strconv.isPrint32", laid_strconv_isPrint32), ("unicode/utf8.first", laid_unicode_utf8_first)] }
/-- NO THEOREM (fmt's text is open here; it may be false): for the released tool's asking of the row's closed facts alone. THE STATEMENT IS 'LawS2639CModelToldSaid' (YbulkbbqaFmtCards.lean). -/
def LawS2639CModelFormAsk : Prop := lawS2639CModelRow.holds Ybaf.pinned (OpenSpec.ofChange lawS2639CModelSpec)

/-- ITS FALSE NEIGHBOUR: 'it returns false'. Refute it at one input. -/
def lawS2639CModelWrong : ChangeSpec := { name := "lawS2639CModel", fn := fun _ => fun
  | [d1, d2] => { results := [.lit (.bool false)], args := [d1, d2] }
  | _ => none }
def LawS2639CModelWrongFormAsk : Prop := lawS2639CModelRow.holds Ybaf.pinned (OpenSpec.ofChange lawS2639CModelWrong)

/-- 'dagjson.LawS2639CPieces': WHATEVER THE INPUT: true; the input reads as it did. -/
def lawS2639CPiecesSpec : ChangeSpec := { name := "lawS2639CPieces", fn := fun _ => fun
  | [d1, d2] => { results := [.lit (.bool true)], args := [d1, d2] }
  | _ => none }
def lawS2639CPiecesRow : OpenClaim := { program := "ybulkbbqafmt", sum := "3920e5bf9c985a1d170ba4cce36ae31dffc8558dc7547eb76ee5c4504b94c0cc", func := "example.com/dagwright/dagwright/dagjson.LawS2639CPieces", spec := "lawS2639CPieces", stops := ["fmt.errorf", "fmt.Sprintf"], inPlace := ["fmt.Sprintf", "fmt.errorf", "internal/bytealg.IndexByteString"], named := ["unicode/utf8.first", "unicode/utf8.acceptRanges", "strconv.isPrint16", "strconv.isNotPrint16", "strconv.isPrint32", "strconv.isNotPrint32", "strconv.isGraphic"], apart := false, laid := [("unicode/utf8.acceptRanges", laid_unicode_utf8_acceptRanges), ("strconv.isGraphic", laid_strconv_isGraphic), ("strconv.isNotPrint16", laid_strconv_isNotPrint16), ("strconv.isNotPrint32", laid_strconv_isNotPrint32), ("strconv.isPrint16", laid_strconv_isPrint16), ("strconv.isPrint32", laid_strconv_isPrint32), ("unicode/utf8.first", laid_unicode_utf8_first)] }
/-- NO THEOREM (fmt's text is open here; it may be false): for the released tool's asking of the row's closed facts alone. THE STATEMENT IS 'LawS2639CPiecesToldSaid' (YbulkbbqaFmtCards.lean). -/
def LawS2639CPiecesFormAsk : Prop := lawS2639CPiecesRow.holds Ybaf.pinned (OpenSpec.ofChange lawS2639CPiecesSpec)

/-- ITS FALSE NEIGHBOUR: 'it returns false'. Refute it at one input. -/
def lawS2639CPiecesWrong : ChangeSpec := { name := "lawS2639CPieces", fn := fun _ => fun
  | [d1, d2] => { results := [.lit (.bool false)], args := [d1, d2] }
  | _ => none }
def LawS2639CPiecesWrongFormAsk : Prop := lawS2639CPiecesRow.holds Ybaf.pinned (OpenSpec.ofChange lawS2639CPiecesWrong)

end Rows
end Go.Proofs.YbulkbbqaFmt
