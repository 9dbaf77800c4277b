/- wake (14): a select of one send with a default; the channel has room: the send is carried out. -/
import Derived.Test.YbulkbbrcDoorRows
import Derived.Conc.LoneSelect
import Derived.KernelRfl
import Derived.Laws.Rows
import Derived.Laws.Runes
import Derived.Laws.Tables
import Derived.Laws.Pointers
namespace Go.Proofs.YbulkbbrcDoor
open Go.Conc Go.RowKit
set_option linter.unusedVariables false
set_option linter.unusedSimpArgs false

theorem bd30 (w : World) : (Instr.build 30 #[]).run Ybad.prog w = .ok (.agg #[]) w := run_build w 30 #[] #[] (by kernel_rfl)

set_option maxRecDepth 100000 in
theorem wake_any (g c s r : Nat) (w : World) (h3 : w.cell? ⟨g, 3, none⟩ = some (.chan (some c))) (hc : w.heap[c]? = some (.chan 1 #[] false s r false)) :
    Calls Ybad.prog 14 #[.pointer (some ⟨g, 0, none⟩)] w fun e w' => e = .returned (.tuple #[]) ∧ w' = w.setChan c 1 #[.agg #[]] false (s + 1) r false := by
  refine calls_of_loneTo fun cs => ?_
  have e : Frame.enter Ybad.prog 14 #[.pointer (some ⟨g, 0, none⟩)] .normal = (base 14).at ⟨#[.pointer (some ⟨g, 0, none⟩), undef, undef, undef, undef, undef, undef, undef, undef, undef], []⟩ [.code (Ybad.f14.body.getD .skip)] := by
    simp [Frame.enter, Frame.at, Ybad.func14, base, Ybad.f14]
  rw [e]
  have hbd := bd30
  refine LoneTo.goes (n := 40) ?_
  simp only [Ybad.f14, Option.getD_some]
  s_c stepG_seq
  s_c stepG_seq
  s_reg
  s_op
  s_op
  s_op
  s_op
  s_c stepG_region_end
  s_reg
  s_op
  s_c stepG_region_end
  s_c stepG_seq
  s_reg
  s_stop
  refine LoneTo.step (step_lone_select_send_room (c := c) (cap := 1) (buf := #[]) (s := s) (r := r) (tm := false) (stepG_comm (cases := #[scase c (.agg #[]) (.agg #[])]) (blocking := false) (shape := .select) (w' := w) rfl rfl (by decide) (by simp [go_sem, execOp, scase, Act.eval])) hc (by simp)) ?_
  rw [Frame.finish_at]
  walk_nrm
  refine LoneTo.goes (n := 30) ?_
  s_op
  s_op
  s_c stepG_region_end
  s_c stepG_block
  s_cond true
  s_c stepG_skip
  s_c stepG_inBlock
  s_c stepG_end
  s_stop
  exact LoneTo.done ⟨.returned (.tuple #[]), _, rfl, ⟨rfl, rfl⟩, rfl, rfl, rfl, rfl, _, Ybad.func14, by simp [results, Ybad.f14, Frame.at]⟩
#print axioms wake_any
end Go.Proofs.YbulkbbrcDoor
