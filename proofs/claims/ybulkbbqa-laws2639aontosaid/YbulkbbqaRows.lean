/-
  No cell of these rows narrows 'for every input' (looked for: loops, veiled, ifaces, maps, wideKeys, modest, calm, conditions, laid).
  DERIVED. THE GIVEN ROWS OF THIS SEAT. 2 by the template 'for every input the law returns true; each argument reads behind the call as it read before'; 0 by the template 'total and deterministic' (their statements: YbulkbbqaTotals.lean).
  GIVEN WITH THE SEED: the statements are not yours to turn. If you find one false, say at which input.
  Laid BY PROGRAM, IN A SANDBOX (cutbox-rows.mjs): the forced cells as the released guide's own fill.sh prints them over the translation 7282a509811c5328… (all of the seat's roots in one cut). By AI agents, Wed Nov 11 2026. No macro, syntax, notation, axiom, sorry.
-/
import Derived.Test.YbulkbbqaChecked
import GoSem.Claim
import GoSem.ClaimJoined
import GoSem.ClaimMapViews
import Derived.JoinedTies
import Derived.KernelRfl
namespace Go.Proofs.Ybulkbbqa
/- THE CELL 'sum', in the pinned program and in every row, IS THE sha256 OF THE DUMP (.gsa) THAT YbulkbbqaProg.lean LOADS. Nothing in Lean hashes anything: it is a label: what it is worth is what the hold of that sum in a sandbox is worth. -/
noncomputable def Yba.pinned : Pinned := { name := "ybulkbbqa", sum := "7282a509811c5328ac55b6a4084bf2999efc0757df6a0bec61519383cd29fcdb", checked := Yba.checked }
namespace Rows
def none {H : Type} : Left H := { results := [], args := [] }

/-- 'murmur3.LawS2639ARoundTrip': WHATEVER THE INPUT: true; the input reads as it did. -/
def lawS2639ARoundTripSpec : ChangeSpec := { name := "lawS2639ARoundTrip", fn := fun _ => fun
  | [d] => { results := [.lit (.bool true)], args := [d] }
  | _ => none }
def lawS2639ARoundTripRow : OpenClaim := { program := "ybulkbbqa", sum := "7282a509811c5328ac55b6a4084bf2999efc0757df6a0bec61519383cd29fcdb", func := "example.com/dagwright/dagwright/internal/murmur3.LawS2639ARoundTrip", spec := "lawS2639ARoundTrip", apart := false }
def LawS2639ARoundTripSaid : Prop := lawS2639ARoundTripRow.holds Yba.pinned (OpenSpec.ofChange lawS2639ARoundTripSpec)

/-- ITS FALSE NEIGHBOUR: 'it returns false'. Refute it at one input. -/
def lawS2639ARoundTripWrong : ChangeSpec := { name := "lawS2639ARoundTrip", fn := fun _ => fun
  | [d] => { results := [.lit (.bool false)], args := [d] }
  | _ => none }
def LawS2639ARoundTripWrongFalsely : Prop := lawS2639ARoundTripRow.holds Yba.pinned (OpenSpec.ofChange lawS2639ARoundTripWrong)

/-- 'murmur3.LawS2639AOnto': WHATEVER THE INPUT: true; the input reads as it did. -/
def lawS2639AOntoSpec : ChangeSpec := { name := "lawS2639AOnto", fn := fun _ => fun
  | [d] => { results := [.lit (.bool true)], args := [d] }
  | _ => none }
def lawS2639AOntoRow : OpenClaim := { program := "ybulkbbqa", sum := "7282a509811c5328ac55b6a4084bf2999efc0757df6a0bec61519383cd29fcdb", func := "example.com/dagwright/dagwright/internal/murmur3.LawS2639AOnto", spec := "lawS2639AOnto", apart := false }
def LawS2639AOntoSaid : Prop := lawS2639AOntoRow.holds Yba.pinned (OpenSpec.ofChange lawS2639AOntoSpec)

/-- ITS FALSE NEIGHBOUR: 'it returns false'. Refute it at one input. -/
def lawS2639AOntoWrong : ChangeSpec := { name := "lawS2639AOnto", fn := fun _ => fun
  | [d] => { results := [.lit (.bool false)], args := [d] }
  | _ => none }
def LawS2639AOntoWrongFalsely : Prop := lawS2639AOntoRow.holds Yba.pinned (OpenSpec.ofChange lawS2639AOntoWrong)

end Rows
end Go.Proofs.Ybulkbbqa
