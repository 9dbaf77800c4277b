/- THE WALKS OF fmix (6), zzs2639ainv (7), zzs2639aunfmix (5). -/
import Derived.Test.YbulkbbqaRows
import Derived.WalkKit
import Derived.ProofKit
import Derived.Test.YbulkbbqaMath
namespace Go.Proofs.Ybulkbbqa
open Go.ChangeShapes Go.WideShapes Go.ChangeAt Go.RowKit
set_option linter.unusedVariables false
set_option linter.unusedSimpArgs false

theorem ret_int {k : IntKind} {a b : Int} (h : a = b) : Ending.returned (.int k a) = .returned (.int k b) := by rw [h]

set_option maxHeartbeats 400000 in
theorem fmix_any (k : Nat) (hk : k < 18446744073709551616) (w : World) :
    Calls Yba.prog 6 #[.int .u64 (k : Int)] w fun e w' => e = .returned (.int .u64 ((fmixN k : Nat) : Int)) ∧ w' = w := by
  go_enter Yba.func6, Yba.ntmps6
  go_wp2
  go_ret
  exact ⟨ret_int (fmix_eq k hk), rfl⟩

set_option maxHeartbeats 400000 in
theorem inv_any (c : Int) (w : World) :
    Calls Yba.prog 7 #[.int .u64 c] w fun e w' => e = .returned (.int .u64 (newt c 5)) ∧ w' = w := by
  go_enter Yba.func7, Yba.ntmps7
  go_wp2
  go_loop [3, 4] (fun x i => ∃ k : Nat, k ≤ 5 ∧ i = .int .i64 k ∧ x = .int .u64 (newt c k)) (fun _ i => 5 - (intOf i).toNat)
  case atStart => exact ⟨0, by omega, rfl, rfl⟩
  case round =>
    obtain ⟨k, hk, rfl, rfl⟩ := hrel
    by_cases hlt : k < 5
    · have hlt' : (k : Int) < 5 := by omega
      go_wp2
      go_round
      case rel => exact ⟨k + 1, by omega, by go_num, rfl⟩
      case measure => simp [intOf]; omega
    · have h5 : k = 5 := by omega
      subst h5
      go_wp2
      go_ret
      exact ⟨rfl, rfl⟩

set_option maxHeartbeats 400000 in
theorem unf_any (k : Nat) (hk : k < 18446744073709551616) (w : World) :
    Calls Yba.prog 5 #[.int .u64 (k : Int)] w fun e w' => e = .returned (.int .u64 ((unfN k : Nat) : Int)) ∧ w' = w := by
  go_enter Yba.func5, Yba.ntmps5
  go_wp2_with (go_at_call 7; refine (inv_any _ _).mono ?_; rintro e w' ⟨rfl, rfl⟩)
  go_ret
  exact ⟨ret_int (unf_eq k hk), rfl⟩
#print axioms unf_any
end Go.Proofs.Ybulkbbqa
