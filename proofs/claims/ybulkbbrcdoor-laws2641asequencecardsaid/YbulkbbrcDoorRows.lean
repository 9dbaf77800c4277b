/-
  NARROWER THAN 'FOR EVERY INPUT', by the rows' own cells (each row's printed sentence says how): LawS2641AOutcome: ifaces, laid · LawS2641ASequence: ifaces, laid.
  DERIVED. THE GIVEN ROWS OF THIS SEAT. 2 by the template 'for every input the law returns true; each argument reads behind the call as it read before'; 0 by the template 'total and deterministic' (their statements: YbulkbbrcDoorTotals.lean).
  GIVEN WITH THE SEED: the statements are not yours to turn. If you find one false, say at which input.
  Laid BY PROGRAM, IN A SANDBOX (cutbox-rows.mjs): the forced cells as the released guide's own fill.sh prints them over the translation 575840888f83ce9a… (all of the seat's roots in one cut). By AI agents, Wed Nov 11 2026. No macro, syntax, notation, axiom, sorry.
-/
import Derived.Test.YbulkbbrcDoorChecked
import GoSem.Claim
import GoSem.ClaimJoined
import GoSem.ClaimMapViews
import Derived.JoinedTies
import Derived.KernelRfl
namespace Go.Proofs.YbulkbbrcDoor
/- THE CELL 'sum', in the pinned program and in every row, IS THE sha256 OF THE DUMP (.gsa) THAT YbulkbbrcDoorProg.lean LOADS. Nothing in Lean hashes anything: it is a label: what it is worth is what the hold of that sum in a sandbox is worth. -/
noncomputable def Ybad.pinned : Pinned := { name := "ybulkbbrcdoor", sum := "575840888f83ce9a5f8f33ab332786421255a4606c12aea7db7b8fe33c8f047a", checked := Ybad.checked }
namespace Rows
def none {H : Type} : Left H := { results := [], args := [] }

/- WHAT THE LISTED PACKAGE-LEVEL VARIABLES READ AS WHEN THE CALL BEGINS. Each datum BY PROGRAM (the guide's laid-datum.mjs) off the statement by which the dump's own 'gosem.cut.vars' lays the variable. In a bare row this is a premise. The card (YbulkbbrcDoorCards.lean) ties it to the program's text. -/
def laid_example_com_wirepool_wirepool_ErrClosed {H : Type} : DataW H := .iface "*errors.errorString" (.ptr (.agg [.lit (.string [119, 105, 114, 101, 112, 111, 111, 108, 58, 32, 112, 111, 111, 108, 32, 105, 115, 32, 99, 108, 111, 115, 101, 100])]))
def laid_example_com_wirepool_wirepool_errInUse {H : Type} : DataW H := .iface "*errors.errorString" (.ptr (.agg [.lit (.string [119, 105, 114, 101, 112, 111, 111, 108, 58, 32, 116, 104, 101, 32, 99, 111, 110, 110, 101, 99, 116, 105, 111, 110, 32, 105, 115, 32, 105, 110, 32, 117, 115, 101])]))

/-- 'wirepool.LawS2641AOutcome': WHATEVER THE INPUT: true; the input reads as it did. -/
def lawS2641AOutcomeSpec : ChangeSpec := { name := "lawS2641AOutcome", vars := ["example.com/wirepool/wirepool.ErrClosed", "example.com/wirepool/wirepool.errInUse"], fn := fun _ => fun
  | [d1, d2, d3, d4, d5, d6, g1, g2] => { results := [.lit (.bool true)], args := [d1, d2, d3, d4, d5, d6], vars := [g1, g2] }
  | _ => none }
def lawS2641AOutcomeRow : OpenClaim := { program := "ybulkbbrcdoor", sum := "575840888f83ce9a5f8f33ab332786421255a4606c12aea7db7b8fe33c8f047a", func := "example.com/wirepool/wirepool.LawS2641AOutcome", spec := "lawS2641AOutcome", inPlace := ["(*internal/sync.Mutex).Lock", "internal/race.Disable", "sync/atomic.CompareAndSwapInt32", "internal/race.Enable", "internal/race.Acquire", "(*internal/sync.Mutex).lockSlow", "internal/sync.runtime_canSpin", "internal/sync.runtime_doSpin", "internal/sync.throw", "internal/sync.runtime_nanotime", "internal/sync.runtime_SemacquireMutex", "sync/atomic.AddInt32", "(*internal/sync.Mutex).Unlock", "internal/race.ReleaseMerge", "(*internal/sync.Mutex).unlockSlow", "internal/sync.fatal", "internal/sync.runtime_Semrelease", "sync/atomic.AddInt64", "sync/atomic.LoadInt64"], unfollowed := true, recurses := true, named := ["example.com/wirepool/wirepool.ErrClosed", "example.com/wirepool/wirepool.errInUse"], ifaces := true, apart := false, laid := [("example.com/wirepool/wirepool.ErrClosed", laid_example_com_wirepool_wirepool_ErrClosed), ("example.com/wirepool/wirepool.errInUse", laid_example_com_wirepool_wirepool_errInUse)] }
def LawS2641AOutcomeSaid : Prop := lawS2641AOutcomeRow.holds Ybad.pinned (OpenSpec.ofChange lawS2641AOutcomeSpec)

/-- ITS FALSE NEIGHBOUR: 'it returns false'. Refute it at one input. -/
def lawS2641AOutcomeWrong : ChangeSpec := { name := "lawS2641AOutcome", vars := ["example.com/wirepool/wirepool.ErrClosed", "example.com/wirepool/wirepool.errInUse"], fn := fun _ => fun
  | [d1, d2, d3, d4, d5, d6, g1, g2] => { results := [.lit (.bool false)], args := [d1, d2, d3, d4, d5, d6], vars := [g1, g2] }
  | _ => none }
def LawS2641AOutcomeWrongFalsely : Prop := lawS2641AOutcomeRow.holds Ybad.pinned (OpenSpec.ofChange lawS2641AOutcomeWrong)

/-- 'wirepool.LawS2641ASequence': WHATEVER THE INPUT: true; the input reads as it did. -/
def lawS2641ASequenceSpec : ChangeSpec := { name := "lawS2641ASequence", vars := ["example.com/wirepool/wirepool.errInUse", "example.com/wirepool/wirepool.ErrClosed"], fn := fun _ => fun
  | [d, g1, g2] => { results := [.lit (.bool true)], args := [d], vars := [g1, g2] }
  | _ => none }
def lawS2641ASequenceRow : OpenClaim := { program := "ybulkbbrcdoor", sum := "575840888f83ce9a5f8f33ab332786421255a4606c12aea7db7b8fe33c8f047a", func := "example.com/wirepool/wirepool.LawS2641ASequence", spec := "lawS2641ASequence", inPlace := ["(*internal/sync.Mutex).Lock", "internal/race.Disable", "sync/atomic.CompareAndSwapInt32", "internal/race.Enable", "internal/race.Acquire", "(*internal/sync.Mutex).lockSlow", "internal/sync.runtime_canSpin", "internal/sync.runtime_doSpin", "internal/sync.throw", "internal/sync.runtime_nanotime", "internal/sync.runtime_SemacquireMutex", "sync/atomic.AddInt32", "(*internal/sync.Mutex).Unlock", "internal/race.ReleaseMerge", "(*internal/sync.Mutex).unlockSlow", "internal/sync.fatal", "internal/sync.runtime_Semrelease", "sync/atomic.AddInt64", "sync/atomic.LoadInt64"], unfollowed := true, recurses := true, named := ["example.com/wirepool/wirepool.errInUse", "example.com/wirepool/wirepool.ErrClosed"], ifaces := true, apart := false, laid := [("example.com/wirepool/wirepool.ErrClosed", laid_example_com_wirepool_wirepool_ErrClosed), ("example.com/wirepool/wirepool.errInUse", laid_example_com_wirepool_wirepool_errInUse)] }
def LawS2641ASequenceSaid : Prop := lawS2641ASequenceRow.holds Ybad.pinned (OpenSpec.ofChange lawS2641ASequenceSpec)

/-- ITS FALSE NEIGHBOUR: 'it returns false'. Refute it at one input. -/
def lawS2641ASequenceWrong : ChangeSpec := { name := "lawS2641ASequence", vars := ["example.com/wirepool/wirepool.errInUse", "example.com/wirepool/wirepool.ErrClosed"], fn := fun _ => fun
  | [d, g1, g2] => { results := [.lit (.bool false)], args := [d], vars := [g1, g2] }
  | _ => none }
def LawS2641ASequenceWrongFalsely : Prop := lawS2641ASequenceRow.holds Ybad.pinned (OpenSpec.ofChange lawS2641ASequenceWrong)

end Rows
end Go.Proofs.YbulkbbrcDoor
