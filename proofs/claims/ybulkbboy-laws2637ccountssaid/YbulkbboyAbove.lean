/- THE CONTRACTS OF 'zzs2637cabove' (12) AND '(*place).limit' (11), shared by both C laws. -/
import Derived.Test.YbulkbboyRows
import Derived.WalkKit
import Derived.ProofKit
import Derived.Below
namespace Go.Proofs.Ybulkbboy
open Go.ChangeShapes Go.WideShapes Go.ChangeAt Go.RowKit
set_option linter.unusedVariables false
set_option linter.unusedSimpArgs false

theorem Yba.info3 : (Yba.prog.info? 3).map (fun i => (i.zero, i.size, i.bytes)) = some (some (.int .i64 0), 1, 8) := by kernel_rfl

/-- WHAT THE WALK IS TOLD OF A SLICE OF INTEGERS THAT CAME IN (as the shell has it). -/
def IsRow (k : IntKind) (w : World) (a : Option Addr) (len cap : Nat) (zs : List Int) : Prop :=
  (a = none ∧ len = 0 ∧ cap = 0 ∧ zs = []) ∨
  ∃ x, a = some x ∧ len ≤ cap ∧ cap ≤ maxLen ∧ zs.length = cap ∧ (∀ i, i < zs.length → w.cell? (x.add i) = some (.int k (zs.getD i 0))) ∧ ∀ n ∈ zs, (Lit.int k n).wf = true

/-- The number that 'above' lays at place i. -/
def abv (len : Nat) (zs : List Int) (i : Nat) : Int := if 0 < len then zs.getD (i % len) 0 else (i : Int) + 1

/-- What the row holds when k rounds are done. -/
def abvRow (len : Nat) (zs : List Int) (t k : Nat) : List Value := (List.range t).map fun i => .int .i64 (if i < k then abv len zs i else 0)

theorem abvRow_length (len : Nat) (zs : List Int) (t k : Nat) : (abvRow len zs t k).length = t := by simp [abvRow]

theorem abvRow_zero (len : Nat) (zs : List Int) (t : Nat) : abvRow len zs t 0 = List.replicate t (.int .i64 0) := by
  apply List.ext_getElem?
  intro j
  by_cases hj : j < t
  · simp [abvRow, hj, List.getElem?_replicate]
  · simp [abvRow, hj, List.getElem?_replicate]

theorem abvRow_set (len : Nat) (zs : List Int) (t k : Nat) : (abvRow len zs t k).set k (.int .i64 (abv len zs k)) = abvRow len zs t (k + 1) := by
  apply List.ext_getElem?
  intro j
  rw [List.getElem?_set]
  by_cases hj : j < t
  · by_cases hjk : k = j
    · subst hjk; simp [abvRow, hj]
    · have e : j < k + 1 ↔ j < k := by omega
      simp [abvRow, hj, hjk, e]
  · by_cases hjk : k = j
    · subst hjk; simp [abvRow, hj]
    · simp [abvRow, hj, hjk]

theorem abv_row0 (z : List Int) (t : Nat) : (madeCells (Value.int .i64 0).cells (t * 1)).toList = abvRow 0 z t 0 := by
  rw [abvRow_zero, Nat.mul_one]; exact toList_madeCells_one _ _

set_option maxHeartbeats 400000 in
theorem above_pos (t : Nat) (ht : t ≤ 7) (b off len cap : Nat) (zs : List Int) (w : World) (hl : 0 < len) (hlm : len ≤ maxLen) (hz : len ≤ zs.length) (hc : ∀ i, i < zs.length → w.cell? ⟨b, off + i, none⟩ = some (.int .i64 (zs.getD i 0))) :
    Calls Yba.prog 12 #[.int .i64 t, .slice (some ⟨b, off, none⟩) len cap] w fun e w' => e = .returned (.slice (some ⟨w.heap.size, 0, none⟩) t t) ∧
      w'.ownsRow w.heap.size 3 1 (.slice (some ⟨w.heap.size, 0, none⟩) t t) t (abvRow len zs t t) ∧ Below w.heap.size w w' ∧ w.heap.size < w'.heap.size := by
  obtain ⟨i0, hi, hz0, hz1, hz2⟩ := info_parts Yba.info3
  have hbw : b < w.heap.size := World.block_lt_of_cell? _ _ (hc 0 (by omega))
  unfold maxLen at hlm
  have hl' : (0 : Int) < (len : Int) := by omega
  go_enter Yba.func12, Yba.ntmps12
  go_wp2_with (at_make; refine wpList_make_full _ rfl _ _ 54 rfl w.heap.size 3 i0 (.int .i64 0) 1 Yba.underlying54 hi hz0 hz1 .i64 .i64 _ _ t rfl rfl rfl rfl (by rw [hz2]; omega) (by unfold maxLen; omega) (Nat.le_refl _) ?_; intro w1 hown hgrow)
  have hb1 : Below w.heap.size w w1 := (Below.refl _ _).grown hgrow (Nat.le_refl _) (fun k h => by cases h)
  go_loopw [6] (fun i wr => ∃ k : Nat, k ≤ t ∧ i = .int .i64 k ∧ wr.ownsRow w.heap.size 3 1 (.slice (some ⟨w.heap.size, 0, none⟩) t t) t (abvRow len zs t k) ∧ Below w.heap.size w wr) (fun i _ => t - (intOf i).toNat)
  case atStart => 
    refine ⟨0, Nat.zero_le _, rfl, ?_, hb1⟩
    rw [abv_row0 zs] at hown
    rw [abvRow_zero] at hown ⊢
    exact hown
  case round =>
    obtain ⟨k, hk, rfl, hor, hbr⟩ := hrel
    clear hown hgrow hb1
    by_cases hkt : k < t
    · have hmod : k % len < len := Nat.mod_lt _ hl
      have hcx : wr.cell? ⟨b, off + k % len, none⟩ = some (.int .i64 (zs.getD (k % len) 0)) := (hbr.cell (by exact hbw)).trans (hc _ (by omega))
      have hfr := hor.frozenAt k
      have hck := hor.cellAt k (by omega)
      rw [List.getElem?_eq_getElem (by rw [abvRow_length]; exact hkt)] at hck
      obtain ⟨old, hold⟩ : ∃ v, wr.cell? ⟨w.heap.size, k, none⟩ = some v := ⟨_, hck⟩
      clear hck
      go_wp2
      have hst := (hor.stored k (.int .i64 (zs[k % len]?.getD 0))).1
      have e : (abvRow len zs t k).set k (.int .i64 (zs[k % len]?.getD 0)) = abvRow len zs t (k + 1) := by
        rw [← abvRow_set]; simp [abv, hl]
      rw [e] at hst
      go_roundw
      case rel => exact ⟨k + 1, by omega, by go_num, hst, hbr.setCell (Nat.le_refl _) _⟩
      case measure => simp [intOf]; omega
    · have hkt' : k = t := by omega
      subst hkt'
      go_wp2
      go_ret
      refine ⟨rfl, hor, hbr, ?_⟩
      rcases hor.2 with ⟨h, _⟩ | ⟨g, cp, cur, h, _, hg, _⟩
      · simp at h
      · simp only [Value.slice.injEq, Option.some.injEq, Addr.mk.injEq, and_true, true_and] at h
        obtain ⟨rfl, rfl⟩ := h
        exact (Array.getElem?_eq_some_iff.1 hg).1

set_option maxHeartbeats 400000 in
theorem above_zero (t : Nat) (ht : t ≤ 7) (a : Option Addr) (cap : Nat) (zs : List Int) (w : World) :
    Calls Yba.prog 12 #[.int .i64 t, .slice a 0 cap] w fun e w' => e = .returned (.slice (some ⟨w.heap.size, 0, none⟩) t t) ∧
      w'.ownsRow w.heap.size 3 1 (.slice (some ⟨w.heap.size, 0, none⟩) t t) t (abvRow 0 zs t t) ∧ Below w.heap.size w w' ∧ w.heap.size < w'.heap.size := by
  obtain ⟨i0, hi, hz0, hz1, hz2⟩ := info_parts Yba.info3
  go_enter Yba.func12, Yba.ntmps12
  go_wp2_with (at_make; refine wpList_make_full _ rfl _ _ 54 rfl w.heap.size 3 i0 (.int .i64 0) 1 Yba.underlying54 hi hz0 hz1 .i64 .i64 _ _ t rfl rfl rfl rfl (by rw [hz2]; omega) (by unfold maxLen; omega) (Nat.le_refl _) ?_; intro w1 hown hgrow)
  have hb1 : Below w.heap.size w w1 := (Below.refl _ _).grown hgrow (Nat.le_refl _) (fun k h => by cases h)
  go_loopw [6] (fun i wr => ∃ k : Nat, k ≤ t ∧ i = .int .i64 k ∧ wr.ownsRow w.heap.size 3 1 (.slice (some ⟨w.heap.size, 0, none⟩) t t) t (abvRow 0 zs t k) ∧ Below w.heap.size w wr) (fun i _ => t - (intOf i).toNat)
  case atStart => 
    refine ⟨0, Nat.zero_le _, rfl, ?_, hb1⟩
    rw [abv_row0 zs] at hown
    exact hown
  case round =>
    obtain ⟨k, hk, rfl, hor, hbr⟩ := hrel
    clear hown hgrow hb1
    by_cases hkt : k < t
    · have hfr := hor.frozenAt k
      have hck := hor.cellAt k (by omega)
      rw [List.getElem?_eq_getElem (by rw [abvRow_length]; exact hkt)] at hck
      obtain ⟨old, hold⟩ : ∃ v, wr.cell? ⟨w.heap.size, k, none⟩ = some v := ⟨_, hck⟩
      clear hck
      go_wp2
      have hst := (hor.stored k (.int .i64 ((k : Int) + 1))).1
      have e : (abvRow 0 zs t k).set k (.int .i64 ((k : Int) + 1)) = abvRow 0 zs t (k + 1) := by
        rw [← abvRow_set]; simp [abv]
      rw [e] at hst
      go_roundw
      case rel => exact ⟨k + 1, by omega, by go_num, hst, hbr.setCell (Nat.le_refl _) _⟩
      case measure => simp [intOf]; omega
    · have hkt' : k = t := by omega
      subst hkt'
      go_wp2
      go_ret
      refine ⟨rfl, hor, hbr, ?_⟩
      rcases hor.2 with ⟨h, _⟩ | ⟨g, cp, cur, h, _, hg, _⟩
      · simp at h
      · simp only [Value.slice.injEq, Option.some.injEq, Addr.mk.injEq, and_true, true_and] at h
        obtain ⟨rfl, rfl⟩ := h
        exact (Array.getElem?_eq_some_iff.1 hg).1

theorem above_any (t : Nat) (ht : t ≤ 7) (a : Option Addr) (len cap : Nat) (zs : List Int) (w : World) (h : IsRow .i64 w a len cap zs) :
    Calls Yba.prog 12 #[.int .i64 t, .slice a len cap] w fun e w' => e = .returned (.slice (some ⟨w.heap.size, 0, none⟩) t t) ∧
      w'.ownsRow w.heap.size 3 1 (.slice (some ⟨w.heap.size, 0, none⟩) t t) t (abvRow len zs t t) ∧ Below w.heap.size w w' ∧ w.heap.size < w'.heap.size := by
  by_cases hl : 0 < len
  · rcases h with ⟨_, h0, _⟩ | ⟨⟨b, off, spot⟩, rfl, hlc, hcm, hzc, hcell, _⟩
    · omega
    · have hspot : spot = none := by simpa [Addr.add] using World.cell?_spot (hcell 0 (by omega))
      subst hspot
      exact above_pos t ht b off len cap zs w hl (by omega) (by omega) (fun i hi => by rw [← add_plain]; exact hcell i hi)
  · have h0 : len = 0 := by omega
    subst h0
    exact above_zero t ht a cap zs w
#print axioms above_any
end Go.Proofs.Ybulkbboy
