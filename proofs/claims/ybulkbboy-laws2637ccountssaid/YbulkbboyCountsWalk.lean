/- THE WALK OF 'LawS2637CCounts' (6). -/
import Derived.Test.YbulkbboyCounts
import Derived.OpenShut
import Derived.Deep.QuietTactic
import Derived.BigQuiet
namespace Go.Proofs.Ybulkbboy
open Go.ChangeShapes Go.WideShapes Go.ChangeAt Go.RowKit
set_option linter.unusedVariables false
set_option linter.unusedSimpArgs false

set_option maxHeartbeats 1000000 in
theorem countsLaw_walk (a0 : Int) (a1 : Option Addr) (len1 cap1 : Nat) (z1 : List Int) (a2 : Int) (w : World) (w0 : (Lit.int .u8 a0).wf = true) (w1 : IsRow .i64 w a1 len1 cap1 z1) (w2 : (Lit.int .i64 a2).wf = true) :
    Calls Yba.prog 6 #[.int .u8 a0, .slice a1 len1 cap1, .int .i64 a2] w fun e w' => e = .returned (.bool true) ∧ Below w.heap.size w w' := by
  have b0 := bounds_u8 w0
  obtain ⟨t, ht⟩ : ∃ t : Nat, a0 % 8 = (t : Int) := ⟨(a0 % 8).toNat, by omega⟩
  have ht7 : t ≤ 7 := by omega
  go_enter Yba.func6, Yba.ntmps6
  go_wp2_with (first | (go_at_call 12; refine (above_any t ht7 _ _ _ _ _ w1).mono ?_; rintro e wa ⟨rfl, hown, hbel, hsz⟩) | fail)
  have hca : ∀ j u, (abvRow len1 z1 t t)[j]? = some u → wa.cell? ⟨w.heap.size, j, none⟩ = some u := by
    intro j u hu
    have hj : j < t := by have := (List.getElem?_eq_some_iff.1 hu).1; rwa [abvRow_length] at this
    rw [hown.cellAt j (by omega)]; exact hu
  refine (counts_any t ht7 w.heap.size a2 (abvRow len1 z1 t t) _ (abvRow_length _ _ _ _) (fun j u hu => ?_)).mono ?_
  · rw [World.cell?_alloc_lt (h := by simpa using hsz)]; exact hca j u hu
  rintro e w3 ⟨g', cap', rfl, hown3, hbel3⟩
  -- what the three rows hold in the last world
  have hfr : ∀ a : Addr, a.block < wa.heap.size → w3.cell? a = wa.cell? a := by
    intro a ha
    rw [hbel3.cell (by simp; omega), World.cell?_alloc_lt (h := ha)]
  have hab : ∀ j, j < t → w3.cell? ⟨w.heap.size, j, none⟩ = some (.int .i64 (abv len1 z1 j)) := by
    intro j hj
    rw [hfr _ hsz]; exact hca j _ (by simp [abvRow, hj])
  have hcs : ∀ j, j < t → w3.cell? ⟨g', j, none⟩ = some (.int .i64 (abv len1 z1 j)) := by
    intro j hj
    rw [hown3.cellAt j (by omega), List.getElem?_append_left (by rw [abvRow_length]; exact hj)]; simp [abvRow, hj]
  have hct : w3.cell? ⟨g', t, none⟩ = some (.int .i64 a2) := by
    rw [hown3.cellAt t (by omega), List.getElem?_append_right (by rw [abvRow_length]; omega), abvRow_length]; simp
  have hp0 : w3.cell? ⟨wa.heap.size, 0, none⟩ = some (.int .i64 t) := by rw [hbel3.cell (by simp)]; simp
  have hp3 : w3.cell? ⟨wa.heap.size, 3, none⟩ = some (.slice (some ⟨w.heap.size, 0, none⟩) t t) := by rw [hbel3.cell (by simp)]; simp
  have hp4 : w3.cell? ⟨wa.heap.size, 4, none⟩ = some (.int .i64 a2) := by rw [hbel3.cell (by simp)]; simp
  have hold : ∀ a : Addr, a.block < w.heap.size → w3.cell? a = w.cell? a := fun a ha => by rw [hfr a (by omega)]; exact hbel.cell ha
  have hB : Below w.heap.size w w3 := (hbel.alloc (by omega) _).trans (hbel3.mono (by simp; omega))
  clear hca hfr hown hown3 hbel hbel3 hsz
  go_wp2
  go_loop [11] (fun i => ∃ k : Nat, k ≤ t + 3 ∧ i = .int .i64 k) (fun i => t + 3 - (intOf i).toNat)
  case atStart => exact ⟨0, Nat.zero_le _, rfl⟩
  case round =>
    obtain ⟨k, hk, rfl⟩ := hrel
    by_cases c1 : k < t
    · have f1 := hab k c1
      have f2 := hcs k c1
      go_wp2
      go_round
      case rel => exact ⟨k + 1, by omega, by go_num⟩
      case measure => simp [intOf]; omega
    by_cases c2 : k = t
    · subst c2
      go_wp2
      go_round
      case rel => exact ⟨k + 1, by omega, by go_num⟩
      case measure => simp [intOf]
    by_cases c3 : k < t + 3
    · go_wp2
      go_round
      case rel => exact ⟨k + 1, by omega, by go_num⟩
      case measure => simp [intOf]; omega
    by_cases hl : 0 < len1
    · rcases w1 with ⟨_, h0, _⟩ | ⟨⟨b, off, spot⟩, rfl, hlc, hcm, hzc, hcell, _⟩
      · omega
      have hspot : spot = none := by simpa [Addr.add] using World.cell?_spot (hcell 0 (by omega))
      subst hspot
      unfold maxLen at hcm
      have hl' : (0 : Int) < (len1 : Int) := by omega
      have hcz : ∀ j, j < len1 → w3.cell? ⟨b, off + j, none⟩ = some (.int .i64 (z1.getD j 0)) := by
        intro j hj
        have h := hcell j (by omega)
        rw [add_plain] at h
        rw [hold _ (World.block_lt_of_cell? _ _ h)]; exact h
      clear hcell hold hcs hct hp3
      go_wp2
      go_loopw [13] (fun i wr => ∃ k n : Nat, k ≤ t ∧ i = .int .i64 k ∧ wr = w3.drewN n) (fun i _ => t - (intOf i).toNat)
      case atStart => exact ⟨0, 0, Nat.zero_le _, rfl, rfl⟩
      case round =>
        obtain ⟨q, n, hq, rfl, rfl⟩ := hrel
        by_cases d1 : q < t
        · have hmod : q % len1 < len1 := Nat.mod_lt _ hl
          have f1 := hab q d1
          have f2 := hcz _ hmod
          have ea : abv len1 z1 q = z1.getD (q % len1) 0 := by simp [abv, hl]
          rw [ea] at f1
          clear ea hab hcz
          go_wp2
          go_quiet (fail)
          go_wp2
          go_roundw
          case rel => exact ⟨q + 1, n + nq, by omega, by go_num, by simp⟩
          case measure => simp [intOf]; omega
        · go_wp2
          go_ret
          exact ⟨rfl, hB.trans ⟨rfl, rfl, rfl, Nat.le_refl _, fun _ _ => rfl⟩⟩
    · have hl0 : len1 = 0 := by omega
      subst hl0
      clear hold hcs hct hp3 w1
      go_wp2
      go_loopw [13] (fun i wr => ∃ k n : Nat, k ≤ t ∧ i = .int .i64 k ∧ wr = w3.drewN n) (fun i _ => t - (intOf i).toNat)
      case atStart => exact ⟨0, 0, Nat.zero_le _, rfl, rfl⟩
      case round =>
        obtain ⟨q, n, hq, rfl, rfl⟩ := hrel
        by_cases d1 : q < t
        · have f1 := hab q d1
          have ea : abv 0 z1 q = (q : Int) + 1 := by simp [abv]
          rw [ea] at f1
          clear ea hab
          go_wp2
          go_roundw
          case rel => exact ⟨q + 1, n, by omega, by go_num, rfl⟩
          case measure => simp [intOf]; omega
        · go_wp2
          go_ret
          exact ⟨rfl, hB.trans ⟨rfl, rfl, rfl, Nat.le_refl _, fun _ _ => rfl⟩⟩
#print axioms countsLaw_walk
end Go.Proofs.Ybulkbboy
