/- errors.New (22) AND fmt.Errorf (17) over the plain stop fmt.errorf (23): the closed facts at this dump and the contracts. After the guide's CheckFmt, GuardFmt, DigitsErrorf. -/
import Derived.Test.YbulkbbqaFmtRows
import Derived.WalkKit
import Derived.WalkSpells
import Derived.Stop.CallBack
import Derived.Stop.IfaceNil
import Derived.Below
import GoSem.ClaimData
namespace Go.Proofs.YbulkbbqaFmt
open Go.RowKit Go.Extern.Stop Go.Stop Go.Extern
set_option linter.unusedVariables false
set_option linter.unusedSimpArgs false

theorem call23 (args : Array Value) (w : World) : (callFunc 23 args).run Ybaf.prog w = ((FmtStop.errorf #[9, 56] #[27] args).run Ybaf.prog w).andThen fun v w' => .ok (.value v) w' :=
  run_callFunc_extern Ybaf.func23 (by kernel_rfl) (by kernel_rfl) (by kernel_rfl) (by kernel_rfl) args w
theorem guardF (name : String) (w : World) : (FmtStop.guard name).run Ybaf.prog w = .ok () w := by kernel_rfl

theorem fmtA (w : World) : (FmtDoors.printed ⟨#[118, 97, 114, 105, 110, 116, 32, 108, 111, 110, 103, 101, 114, 32, 116, 104, 97, 110, 32, 37, 100, 32, 98, 121, 116, 101, 115]⟩ 1).run Ybaf.prog w = .ok [(0, 100, false)] w := by kernel_rfl
theorem fmtA0 : FmtStop.printed? ⟨#[118, 97, 114, 105, 110, 116, 32, 108, 111, 110, 103, 101, 114, 32, 116, 104, 97, 110, 32, 37, 100, 32, 98, 121, 116, 101, 115]⟩ 1 = some [(0, 100, false)] := by kernel_rfl
theorem fmtB (w : World) : (FmtDoors.printed ⟨#[118, 97, 108, 117, 101, 32, 37, 100, 58, 32, 37, 118]⟩ 2).run Ybaf.prog w = .ok [(0, 100, false), (1, 118, false)] w := by kernel_rfl
theorem fmtB0 : FmtStop.printed? ⟨#[118, 97, 108, 117, 101, 32, 37, 100, 58, 32, 37, 118]⟩ 2 = some [(0, 100, false), (1, 118, false)] := by kernel_rfl

def shape3 : List UInt8 := [5, 3, 0, 0, 0, 0, 0, 0, 0, 105, 110, 116]
theorem op3 (name : String) (x : Int) (w : World) : (FmtStop.operand name true 100 false (.iface 3 (.int .i64 x))).run Ybaf.prog w = .ok (shape3, Go.Extern.Stop.digits 8 (x % 2 ^ 64).toNat) w := by kernel_rfl

theorem ptr60 (w : World) : (FmtStop.ptrTo "errors.errorString").run Ybaf.prog w = .ok 60 w := by kernel_rfl
theorem elem60 (w : World) : (elemOf 60).run Ybaf.prog w = .ok 62 w := by kernel_rfl
theorem isError60 (w : World) : (FmtDoors.textMethod 60 "Error").run Ybaf.prog w = .ok true w := by kernel_rfl
def str60 : String := String.ofList ([42, 101, 114, 114, 111, 114, 115, 46, 101, 114, 114, 111, 114, 83, 116, 114, 105, 110, 103].map Char.ofNat)
def plain60 : List UInt8 := 14 :: FmtStop.pack str60.toUTF8.data.toList
theorem opPlain60 (name : String) (a : Addr) (s : ByteArray) (w : World) (hc : w.cell? a = some (.string s)) :
    (FmtStop.operand name true 118 false (.iface 60 (.pointer (some a)))).run Ybaf.prog w = .ok (plain60, s.data.toList) w := by
  have h1 : (typeStr 60).run Ybaf.prog w = .ok str60 w := by kernel_rfl
  have d2 : Ybaf.t60.desc = .pointer 62 := rfl
  have d3 : Ybaf.t62.desc = .named "errors.errorString" 61 := rfl
  simp [FmtStop.operand, h1, d2, d3, run_load, hc, plain60]

attribute [local go_sem] call23 guardF fmtA fmtA0 fmtB fmtB0 op3 ptr60 elem60 isError60

theorem errNew_any (s : ByteArray) (w : World) :
    Calls Ybaf.prog 22 #[.string s] w fun e w' => e = .returned (.iface 60 (.pointer (some ⟨w.heap.size, 0, none⟩))) ∧ w' = w.alloc (.cells #[.string s] 62) := by
  go_enter Ybaf.func22, Ybaf.ntmps22
  go_wp2
  go_ret
  exact ⟨rfl, rfl⟩

/-- What a call that hands back a new error of errors.New's make leaves. -/
def NewErr (w : World) (e : Ending) (w' : World) : Prop := ∃ b s, w.heap.size ≤ b ∧ e = .returned (.iface 60 (.pointer (some ⟨b, 0, none⟩))) ∧ w'.cell? ⟨b, 0, none⟩ = some (.string s) ∧ Below w.heap.size w w'

theorem newErr_alloc (w : World) (s : ByteArray) (v : Value) (hv : v = .iface 60 (.pointer (some ⟨w.heap.size, 0, none⟩))) : NewErr w (.returned v) (w.alloc (.cells #[.string s] 62)).drew := by
  subst hv
  exact ⟨w.heap.size, s, Nat.le_refl _, rfl, by simp, ((Below.refl _ _).alloc (Nat.le_refl _) _).drew⟩

set_option maxHeartbeats 400000 in
theorem errorfA_any (F : Interp) (blk : Nat) (x : Int) (w : World) (hF : F.answers w.tape) (hc0 : w.cell? ⟨blk, 0, none⟩ = some (.iface 3 (.int .i64 x))) :
    Calls Ybaf.prog 17 #[.string ⟨#[118, 97, 114, 105, 110, 116, 32, 108, 111, 110, 103, 101, 114, 32, 116, 104, 97, 110, 32, 37, 100, 32, 98, 121, 116, 101, 115]⟩, .slice (some ⟨blk, 0, none⟩) 1 1] w fun e w' => NewErr w e w' := by
  have hF' := answers_open hF
  go_enter Ybaf.func17, Ybaf.ntmps17
  go_wp2
  go_ret
  exact newErr_alloc w _ _ rfl

set_option maxHeartbeats 400000 in
theorem errorfB_any (F : Interp) (blk : Nat) (x : Int) (a : Addr) (s : ByteArray) (w : World) (hF : F.answers w.tape) (hc0 : w.cell? ⟨blk, 0, none⟩ = some (.iface 3 (.int .i64 x))) (hc1 : w.cell? ⟨blk, 1, none⟩ = some (.iface 60 (.pointer (some a)))) (hs : w.cell? a = some (.string s)) :
    Calls Ybaf.prog 17 #[.string ⟨#[118, 97, 108, 117, 101, 32, 37, 100, 58, 32, 37, 118]⟩, .slice (some ⟨blk, 0, none⟩) 2 2] w fun e w' => NewErr w e w' := by
  have hF' := answers_open hF
  have hop := fun nm => opPlain60 nm a s w hs
  go_enter Ybaf.func17, Ybaf.ntmps17
  go_wp2
  go_ret
  exact newErr_alloc w _ _ rfl
#print axioms errorfB_any
end Go.Proofs.YbulkbbqaFmt
