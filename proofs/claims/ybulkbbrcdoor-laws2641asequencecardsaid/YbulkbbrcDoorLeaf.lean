/- The leaves: atomic.Int64's Load (8) and Add (13); refusal (10); idle (11); wake (14). -/
import Derived.Test.YbulkbbrcDoorRows
import Derived.Test.YbulkbbrcDoorLocks
import Derived.WalkKit
import Derived.Tactics2
import Derived.Laws.Pointers
import Derived.Laws.LoneSync
import Derived.Conc.LoneSelect
import Derived.Below
namespace Go.Proofs.YbulkbbrcDoor
open Go.RowKit
set_option linter.unusedVariables false
set_option linter.unusedSimpArgs false

theorem load_any (g o : Nat) (x : Int) (w : World) (h : w.cell? ⟨g, o, none⟩ = some (.int .i64 x)) :
    Calls Ybad.prog 8 #[.pointer (some ⟨g, o, none⟩)] w fun e w' => e = .returned (.int .i64 x) ∧ w' = w := by
  have hl := run_call_load (P := Ybad.prog) Ybad.func15 (by kernel_rfl) (by kernel_rfl) (by kernel_rfl) .i64 (by kernel_rfl) h
  go_enter Ybad.func8, Ybad.ntmps8
  go_wp2
  go_ret
  exact ⟨rfl, rfl⟩

theorem add_any (g o : Nat) (x : Int) (w : World) (h : w.cell? ⟨g, o, none⟩ = some (.int .i64 x)) (hz : w.frozen? ⟨g, o, none⟩ = false) (hx : IntKind.i64.wrap (x + 1) = x + 1) :
    Calls Ybad.prog 13 #[.pointer (some ⟨g, o, none⟩), .int .i64 1] w fun e w' => e = .returned (.int .i64 (x + 1)) ∧ w' = w.setCell ⟨g, o, none⟩ (.int .i64 (x + 1)) := by
  have hl := run_call_add (P := Ybad.prog) Ybad.func18 (by kernel_rfl) (by kernel_rfl) (by kernel_rfl) .i64 (by kernel_rfl) (y := 1) (s := x + 1) h hz (by simp [go_sem, hx])
  go_enter Ybad.func13, Ybad.ntmps13
  go_wp2
  go_ret
  exact ⟨rfl, rfl⟩

theorem refusal_any (g : Nat) (w : World) (h1 : w.cell? ⟨g, 20, none⟩ = some (.bool false)) (h2 : w.cell? ⟨g, 21, none⟩ = some .nilIface) :
    Calls Ybad.prog 10 #[.pointer (some ⟨g, 0, none⟩)] w fun e w' => e = .returned .nilIface ∧ w = w' := by
  go_enter Ybad.func10, Ybad.ntmps10
  go_wp2
  go_ret
  exact ⟨rfl, rfl⟩

theorem len58_any (g : Nat) (x : Int) (w : World) (h : w.cell? ⟨g, 1, none⟩ = some (.int .i64 x)) :
    Calls Ybad.prog 58 #[.pointer (some ⟨g, 0, none⟩)] w fun e w' => e = .returned (.int .i64 x) ∧ w = w' := by
  go_enter Ybad.func58, Ybad.ntmps58
  go_wp2
  go_ret
  exact ⟨rfl, rfl⟩

theorem idle_full (g : Nat) (n c : Nat) (ua : Option Addr) (w : World) (h1 : w.cell? ⟨g, 20, none⟩ = some (.bool false)) (h2 : w.cell? ⟨g, 21, none⟩ = some .nilIface) (h3 : w.cell? ⟨g, 6, none⟩ = some (.slice ua n c)) (hn : 0 < n) :
    Calls Ybad.prog 11 #[.pointer (some ⟨g, 0, none⟩)] w fun e w' => e = .returned (.bool false) ∧ w = w' := by
  have hn' : ¬ (n : Int) = 0 := by omega
  have hn'' : ¬ n = 0 := by omega
  go_enter Ybad.func11, Ybad.ntmps11
  go_wp2_with (go_at_call 10; refine (refusal_any g w h1 h2).mono ?_; rintro e w' ⟨rfl, rfl⟩)
  go_ret
  exact ⟨rfl, rfl⟩

/-- The ledger's method 'len', its name taken off the interface's own row (a name with a slash is not typed here). -/
theorem len_method {m0 m1 m2 m4 m5 : String × TypeId} {s : String} {n : TypeId} (h : Ybad.prog.underlying 44 = some (.interface #[m0, m1, m2, (s, n), m4, m5])) (v : Value) (w : World) : (method 257 65 v s).run Ybad.prog w = .ok (58, v) w := by
  have e := Ybad.underlying44.symm.trans h
  simp only [Option.some.injEq, TypeDesc.interface.injEq, Array.mk.injEq, List.cons.injEq, Prod.mk.injEq] at e
  obtain ⟨_, _, _, ⟨rfl, _⟩, _⟩ := e
  first | (show Sem.run _ _ _ = _; kernel_rfl) | rfl

set_option maxRecDepth 100000 in
theorem idle_empty (g lb : Nat) (c : Nat) (ua : Option Addr) (w : World) (h1 : w.cell? ⟨g, 20, none⟩ = some (.bool false)) (h2 : w.cell? ⟨g, 21, none⟩ = some .nilIface) (h3 : w.cell? ⟨g, 6, none⟩ = some (.slice ua 0 c))
    (h4 : w.cell? ⟨g, 7, none⟩ = some (.iface 65 (.pointer (some ⟨lb, 0, none⟩)))) (h5 : w.cell? ⟨lb, 1, none⟩ = some (.int .i64 0)) :
    Calls Ybad.prog 11 #[.pointer (some ⟨g, 0, none⟩)] w fun e w' => e = .returned (.bool true) ∧ w = w' := by
  have hm := fun (v : Value) (w : World) => len_method Ybad.underlying44 v w
  go_enter Ybad.func11, Ybad.ntmps11
  go_wp2_with (first | (go_at_call 10; refine (refusal_any g w h1 h2).mono ?_; rintro e w' ⟨rfl, rfl⟩) | (go_at_call 58; refine (len58_any lb 0 w h5).mono ?_; rintro e w' ⟨rfl, rfl⟩))
  go_ret
  exact ⟨rfl, rfl⟩
end Go.Proofs.YbulkbbrcDoor
