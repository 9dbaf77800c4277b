/-
  No cell of these rows narrows 'for every input' (looked for: loops, veiled, ifaces, maps, wideKeys, modest, calm, conditions, laid).
  DERIVED. THE GIVEN ROWS OF THIS SEAT. 4 by the template 'for every input the law returns true; each argument reads behind the call as it read before'; 0 by the template 'total and deterministic' (their statements: YbulkbboyTotals.lean).
  GIVEN WITH THE SEED: the statements are not yours to turn. If you find one false, say at which input.
  Laid BY PROGRAM, IN A SANDBOX (cutbox-rows.mjs): the forced cells as the released guide's own fill.sh prints them over the translation b5502547a32ca52f… (all of the seat's roots in one cut). By AI agents, Wed Nov 11 2026. No macro, syntax, notation, axiom, sorry.
-/
import Derived.Test.YbulkbboyChecked
import GoSem.Claim
import GoSem.ClaimJoined
import GoSem.ClaimMapViews
import Derived.JoinedTies
import Derived.KernelRfl
namespace Go.Proofs.Ybulkbboy
/- THE CELL 'sum', in the pinned program and in every row, IS THE sha256 OF THE DUMP (.gsa) THAT YbulkbboyProg.lean LOADS. Nothing in Lean hashes anything: it is a label: what it is worth is what the hold of that sum in a sandbox is worth. -/
noncomputable def Yba.pinned : Pinned := { name := "ybulkbboy", sum := "b5502547a32ca52f32e24da847c7392a23312082a8392ea2fa68357f3f40ffbe", checked := Yba.checked }
namespace Rows
def none {H : Type} : Left H := { results := [], args := [] }

/-- 'cursorloom.LawS2637AModel': WHATEVER THE INPUT: true; the input reads as it did. -/
def lawS2637AModelSpec : ChangeSpec := { name := "lawS2637AModel", fn := fun _ => fun
  | [d1, d2, d3, d4] => { results := [.lit (.bool true)], args := [d1, d2, d3, d4] }
  | _ => none }
def lawS2637AModelRow : OpenClaim := { program := "ybulkbboy", sum := "b5502547a32ca52f32e24da847c7392a23312082a8392ea2fa68357f3f40ffbe", func := "example.com/cursorloom/cursorloom.LawS2637AModel", spec := "lawS2637AModel", inPlace := ["internal/bytealg.abigen_runtime_cmpstring"], unfollowed := true, recurses := true, apart := false }
def LawS2637AModelSaid : Prop := lawS2637AModelRow.holds Yba.pinned (OpenSpec.ofChange lawS2637AModelSpec)

/-- ITS FALSE NEIGHBOUR: 'it returns false'. Refute it at one input. -/
def lawS2637AModelWrong : ChangeSpec := { name := "lawS2637AModel", fn := fun _ => fun
  | [d1, d2, d3, d4] => { results := [.lit (.bool false)], args := [d1, d2, d3, d4] }
  | _ => none }
def LawS2637AModelWrongFalsely : Prop := lawS2637AModelRow.holds Yba.pinned (OpenSpec.ofChange lawS2637AModelWrong)

/-- 'cursorloom.LawS2637AIdempotent': WHATEVER THE INPUT: true; the input reads as it did. -/
def lawS2637AIdempotentSpec : ChangeSpec := { name := "lawS2637AIdempotent", fn := fun _ => fun
  | [d1, d2, d3, d4] => { results := [.lit (.bool true)], args := [d1, d2, d3, d4] }
  | _ => none }
def lawS2637AIdempotentRow : OpenClaim := { program := "ybulkbboy", sum := "b5502547a32ca52f32e24da847c7392a23312082a8392ea2fa68357f3f40ffbe", func := "example.com/cursorloom/cursorloom.LawS2637AIdempotent", spec := "lawS2637AIdempotent", inPlace := ["internal/bytealg.abigen_runtime_cmpstring"], unfollowed := true, recurses := true, apart := false }
def LawS2637AIdempotentSaid : Prop := lawS2637AIdempotentRow.holds Yba.pinned (OpenSpec.ofChange lawS2637AIdempotentSpec)

/-- ITS FALSE NEIGHBOUR: 'it returns false'. Refute it at one input. -/
def lawS2637AIdempotentWrong : ChangeSpec := { name := "lawS2637AIdempotent", fn := fun _ => fun
  | [d1, d2, d3, d4] => { results := [.lit (.bool false)], args := [d1, d2, d3, d4] }
  | _ => none }
def LawS2637AIdempotentWrongFalsely : Prop := lawS2637AIdempotentRow.holds Yba.pinned (OpenSpec.ofChange lawS2637AIdempotentWrong)

/-- 'cursorloom.LawS2637CCases': WHATEVER THE INPUT: true; the input reads as it did. -/
def lawS2637CCasesSpec : ChangeSpec := { name := "lawS2637CCases", fn := fun _ => fun
  | [d1, d2, d3, d4, d5, d6] => { results := [.lit (.bool true)], args := [d1, d2, d3, d4, d5, d6] }
  | _ => none }
def lawS2637CCasesRow : OpenClaim := { program := "ybulkbboy", sum := "b5502547a32ca52f32e24da847c7392a23312082a8392ea2fa68357f3f40ffbe", func := "example.com/cursorloom/cursorloom.LawS2637CCases", spec := "lawS2637CCases", apart := false }
def LawS2637CCasesSaid : Prop := lawS2637CCasesRow.holds Yba.pinned (OpenSpec.ofChange lawS2637CCasesSpec)

/-- ITS FALSE NEIGHBOUR: 'it returns false'. Refute it at one input. -/
def lawS2637CCasesWrong : ChangeSpec := { name := "lawS2637CCases", fn := fun _ => fun
  | [d1, d2, d3, d4, d5, d6] => { results := [.lit (.bool false)], args := [d1, d2, d3, d4, d5, d6] }
  | _ => none }
def LawS2637CCasesWrongFalsely : Prop := lawS2637CCasesRow.holds Yba.pinned (OpenSpec.ofChange lawS2637CCasesWrong)

/-- 'cursorloom.LawS2637CCounts': WHATEVER THE INPUT: true; the input reads as it did. -/
def lawS2637CCountsSpec : ChangeSpec := { name := "lawS2637CCounts", fn := fun _ => fun
  | [d1, d2, d3] => { results := [.lit (.bool true)], args := [d1, d2, d3] }
  | _ => none }
def lawS2637CCountsRow : OpenClaim := { program := "ybulkbboy", sum := "b5502547a32ca52f32e24da847c7392a23312082a8392ea2fa68357f3f40ffbe", func := "example.com/cursorloom/cursorloom.LawS2637CCounts", spec := "lawS2637CCounts", apart := false }
def LawS2637CCountsSaid : Prop := lawS2637CCountsRow.holds Yba.pinned (OpenSpec.ofChange lawS2637CCountsSpec)

/-- ITS FALSE NEIGHBOUR: 'it returns false'. Refute it at one input. -/
def lawS2637CCountsWrong : ChangeSpec := { name := "lawS2637CCounts", fn := fun _ => fun
  | [d1, d2, d3] => { results := [.lit (.bool false)], args := [d1, d2, d3] }
  | _ => none }
def LawS2637CCountsWrongFalsely : Prop := lawS2637CCountsRow.holds Yba.pinned (OpenSpec.ofChange lawS2637CCountsWrong)

end Rows
end Go.Proofs.Ybulkbboy
