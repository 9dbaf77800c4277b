/- THE CONTRACT OF '(place).counts' (13). -/
import Derived.Test.YbulkbboyAbove
import Derived.Deep.RegionHeld3
import Derived.Deep.RegionLawGrows
import Derived.Deep.AppendLies
namespace Go.Proofs.Ybulkbboy
open Go.ChangeShapes Go.WideShapes Go.ChangeAt Go.RowKit
set_option linter.unusedVariables false
set_option linter.unusedSimpArgs false

theorem cell_aad {w : World} {o o' : Obj} {a : Addr} {u : Value} (h : w.cell? a = some u) : ((w.alloc o).alloc o').drew.cell? a = some u := by
  have hlt := World.block_lt_of_cell? _ _ h
  have h1 : Below w.heap.size w ((w.alloc o).alloc o').drew := (((Below.refl _ _).alloc (Nat.le_refl _) _).alloc (by simp) _).drew
  rw [h1.cell hlt]; exact h

theorem cell_one2 (w : World) (o : Obj) (v : Value) (j : Nat) (u : Value) (h : ([v] : List Value)[j]? = some u) : ((w.alloc o).alloc (.cells #[v] 3)).drew.cell? (Addr.add ⟨w.heap.size + 1, 0, none⟩ j) = some u := by
  match j, h with
  | 0, h => simp at h; subst h; simp [Addr.add]

theorem ownsRow_down {w : World} {base base' : Nat} {e : TypeId} {size : Nat} {v : Value} {n : Nat} {xs : List Value} (h : w.ownsRow base e size v n xs) (hb : base' ≤ base) : w.ownsRow base' e size v n xs := by
  obtain ⟨h1, h2⟩ := h
  refine ⟨h1, ?_⟩
  rcases h2 with h2 | ⟨g, cap, cur, hv, hg, r⟩
  · exact Or.inl h2
  · exact Or.inr ⟨g, cap, cur, hv, by omega, r⟩

set_option maxHeartbeats 400000 in
theorem counts_any (t : Nat) (ht : t ≤ 7) (g : Nat) (count : Int) (xs : List Value) (w : World) (hl : xs.length = t) (hc : ∀ j u, xs[j]? = some u → w.cell? ⟨g, j, none⟩ = some u) :
    Calls Yba.prog 13 #[.agg #[.int .i64 t, .string ⟨#[]⟩, .int .i64 0, .slice (some ⟨g, 0, none⟩) t t, .int .i64 count, .int .i64 0, .int .i64 0, .slice none 0 0]] w fun e w' =>
      ∃ g' cap', e = .returned (.slice (some ⟨g', 0, none⟩) (t + 1) cap') ∧ w'.ownsRow w.heap.size 3 1 (.slice (some ⟨g', 0, none⟩) (t + 1) cap') (t + 1) (xs ++ [.int .i64 count]) ∧ Below w.heap.size w w' := by
  obtain ⟨i0, hi, hz0, hz1, hz2⟩ := info_parts Yba.info3
  have ht0 : (0 : Int) ≤ (t : Int) := by omega
  go_enter Yba.func13, Yba.ntmps13
  go_wp2
  go_region_held3 (fun w' => w'.cell? ⟨w.heap.size, 0, none⟩ = some (.int .i64 t) ∧ w'.cell? ⟨w.heap.size, 3, none⟩ = some (.slice (some ⟨g, 0, none⟩) t t) ∧ w'.cell? ⟨w.heap.size, 4, none⟩ = some (.int .i64 count))
    (first | go_keep | (go_split_ands; refine ⟨?_, ?_, ?_⟩ <;> (rw [hgrow.cell_far _ (by simp; omega) (by simp)]; assumption)))
    ((refine step_append_grows (by rfl) _ _ 54 (by rfl) 3 i0 (.int .i64 0) 1 8 Yba.underlying54 hi hz0 hz1 hz2 rfl (by decide) (some ⟨g, 0, none⟩) t t xs (by rfl) (by simp) (by omega) (by intro b hb j u hu; cases hb; have := hc j u hu; rw [add_plain, Nat.zero_add]; exact cell_aad this) ⟨w.heap.size + 1, 0, none⟩ 1 1 [.int .i64 count] (by rfl) rfl (cell_one2 w _ _) (by simp [Value.oneCell']) (by omega) (by unfold maxLen; omega) (by omega) ?_; intro v' w1 hown hgrow; obtain ⟨g', cap', rfl, hg1, hg2⟩ := hown.form (by omega)))
  go_wp2
  go_ret
  exact ⟨g', cap', rfl, ownsRow_down hown (by simp; omega), (((((Below.refl _ _).alloc (Nat.le_refl _) _).alloc (by simp) _).drew).grown hgrow (by simp; omega) (fun k h => by cases h))⟩
#print axioms counts_any
end Go.Proofs.Ybulkbboy
