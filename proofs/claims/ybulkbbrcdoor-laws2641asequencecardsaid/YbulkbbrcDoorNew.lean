/- zzs2641anew (6). -/
import Derived.Test.YbulkbbrcDoorEnq
namespace Go.Proofs.YbulkbbrcDoor
open Go.RowKit Go.MuLone Go.Conc
set_option linter.unusedVariables false
set_option linter.unusedSimpArgs false

theorem mk35 (w : World) : (Instr.makeChan 35 (.int .i64 1)).run Ybad.prog w = .ok (.chan (some w.heap.size)) (w.alloc (.chan 1 #[] false 0 0 false)) := by
  have h : (Ybad.prog.info? 30).map (·.bytes) = some 0 := by kernel_rfl
  obtain ⟨i, hi, hb⟩ := Option.map_eq_some_iff.1 h
  simpa using run_makeChan (P := Ybad.prog) (w := w) Ybad.underlying35 hi .i64 1 (by omega) (by rw [hb]; omega)

set_option maxRecDepth 100000 in
theorem anew_any (w : World) : Calls Ybad.prog 6 #[.bool false, .int .i64 0] w fun e w' => e = .returned (.pointer (some ⟨w.heap.size + 3, 0, none⟩)) ∧ Pipe w' (w.heap.size + 3) (w.heap.size + 2) (w.heap.size + 1) 0 0 (.slice none 0 0) false ∧ Below w.heap.size w w' ∧ w'.heap.size = w.heap.size + 4 := by
  have hmc := mk35
  have hmm : ∀ w : World, (Instr.makeMap 66 none).run Ybad.prog w = .ok (.map (some w.heap.size)) (w.alloc (.map #[] 0)) := fun _ => rfl
  go_enter Ybad.func6, Ybad.ntmps6
  go_wp2
  go_ret
  refine ⟨rfl, ⟨?_, ?_, .map (some w.heap.size), ?_⟩, ?_, ?_⟩
  · have h := heap_alloc_new (((w.alloc (.map #[] 0)).alloc (.cells #[.map (some w.heap.size), .int .i64 0] 68)).alloc (.chan 1 #[] false 0 0 false)) (.cells (pcells (w.heap.size + 2) (w.heap.size + 1) 0 0 (.slice none 0 0)) 50)
    rw [show (((w.alloc (.map #[] 0)).alloc (.cells #[.map (some w.heap.size), .int .i64 0] 68)).alloc (.chan 1 #[] false 0 0 false)).heap.size = w.heap.size + 3 by simp] at h
    exact h
  · rw [heap_alloc_old _ _ (by simp)]
    have h := heap_alloc_new ((w.alloc (.map #[] 0)).alloc (.cells #[.map (some w.heap.size), .int .i64 0] 68)) (.chan 1 #[] false 0 0 false)
    rw [show ((w.alloc (.map #[] 0)).alloc (.cells #[.map (some w.heap.size), .int .i64 0] 68)).heap.size = w.heap.size + 2 by simp] at h
    exact h
  · rw [heap_alloc_old _ _ (by simp), heap_alloc_old _ _ (by simp)]
    have h := heap_alloc_new (w.alloc (.map #[] 0)) (.cells #[.map (some w.heap.size), .int .i64 0] 68)
    rw [show (w.alloc (.map #[] 0)).heap.size = w.heap.size + 1 by simp] at h
    exact h
  · exact ((((Below.refl _ w).alloc (Nat.le_refl _) _).alloc (by simp) _).alloc (by simp; omega) _).alloc (by simp; omega) _
  · simp
end Go.Proofs.YbulkbbrcDoor
