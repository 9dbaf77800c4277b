/- 19 (Batch.after), 16 (run.spot). -/
import Derived.Test.YbulkbboyPassed
import Derived.WalkSpells
namespace Go.Proofs.Ybulkbboy
open Go.ChangeShapes Go.WideShapes Go.ChangeAt Go.RowKit
set_option linter.unusedVariables false
set_option linter.unusedSimpArgs false

/-- The positions' slice of a run. -/
def posV (up : Bool) (q len : Nat) : Value := if up then .slice (some ⟨q, 0, none⟩) len len else .slice none 0 0

/-- The spot just after the first i hits. -/
def aftP (len : Nat) (next : ByteArray) (up : Bool) (pv : ByteArray) (pos : ByteArray) (i : Nat) : ByteArray := if i = len then next else if 0 < i ∧ up = true then pv else pos
def aftS (len : Nat) (up : Bool) (i : Nat) : Int := if i = len then 0 else if 0 < i ∧ up = true then 0 else i

set_option maxHeartbeats 400000 in
theorem after_any (g q len i : Nat) (hi : i ≤ len) (hlen : len ≤ 1024) (next pos pv : ByteArray) (more up : Bool) (w : World) (hq : up = true → 0 < i → i < len → w.cell? ⟨q, i - 1, none⟩ = some (.string pv)) :
    Calls Yba.prog 19 #[.agg #[.slice (some ⟨g, 0, none⟩) len len, .string next, .bool more, posV up q len], .string pos, .int .i64 i] w fun e w' =>
      e = .returned (.agg #[.string (aftP len next up pv pos i), .int .i64 (aftS len up i)]) ∧ Below w.heap.size w w' := by
  have hne : ∀ w a n c, (binOp .neq 36 (.slice a n c) (.slice none 0 0)).run Yba.prog w = .ok (.bool (!a.isNone)) w := fun w a n c => run_neq_slice_nil_any w 36 9 a n c 0 0 Yba.underlying36
  by_cases h1 : i = len
  · subst h1
    have e1 : aftP i next up pv pos i = next := by simp [aftP]
    have e2 : aftS i up i = 0 := by simp [aftS]
    rw [e1, e2]
    unfold posV
    cases up
    all_goals
      simp only [if_true, if_false, Bool.false_eq_true]
      go_enter Yba.func19, Yba.ntmps19
      go_wp2
      refine bodyPost_ret (v := .agg #[.string next, .int .i64 0]) (by simp [results, Yba.results19, go_sem]) rfl ⟨rfl, ?_⟩
      exact bel2 w _ _
  · have h1' : ((i : Int) == (len : Int)) = false := by simp; omega
    cases up
    · have e1 : aftP len next false pv pos i = pos := by simp [aftP, h1]
      have e2 : aftS len false i = i := by simp [aftS, h1]
      rw [e1, e2]
      simp only [posV, if_false, Bool.false_eq_true]
      by_cases h2 : 0 < i
      · go_enter Yba.func19, Yba.ntmps19
        go_wp2
        refine bodyPost_ret (v := .agg #[.string pos, .int .i64 i]) (by simp [results, Yba.results19, go_sem]) rfl ⟨rfl, ?_⟩
        exact bel2 w _ _
      · go_enter Yba.func19, Yba.ntmps19
        go_wp2
        refine bodyPost_ret (v := .agg #[.string pos, .int .i64 i]) (by simp [results, Yba.results19, go_sem]) rfl ⟨rfl, ?_⟩
        exact bel2 w _ _
    · simp only [posV, if_true]
      by_cases h2 : 0 < i
      · have e1 : aftP len next true pv pos i = pv := by simp [aftP, h1, h2]
        have e2 : aftS len true i = 0 := by simp [aftS, h1, h2]
        rw [e1, e2]
        obtain ⟨m, rfl⟩ : ∃ m, i = m + 1 := ⟨i - 1, by omega⟩
        have hc := hq rfl h2 (by omega)
        have hlt := World.block_lt_of_cell? _ _ hc
        simp only [Nat.add_sub_cancel] at hlt hc
        clear hq
        go_enter Yba.func19, Yba.ntmps19
        go_wp2
        refine bodyPost_ret (v := .agg #[.string pv, .int .i64 0]) (by simp [results, Yba.results19, go_sem]) rfl ⟨rfl, ?_⟩
        exact bel2 w _ _
      · have e1 : aftP len next true pv pos i = pos := by simp [aftP, h1, h2]
        have e2 : aftS len true i = i := by simp [aftS, h1, h2]
        rw [e1, e2]
        clear hq
        go_enter Yba.func19, Yba.ntmps19
        go_wp2
        refine bodyPost_ret (v := .agg #[.string pos, .int .i64 i]) (by simp [results, Yba.results19, go_sem]) rfl ⟨rfl, ?_⟩
        exact bel2 w _ _

theorem cell_apart {w : World} {x b o o' : Nat} {v : Value} (h : x ≠ b) : (w.setCell ⟨b, o', none⟩ v).cell? ⟨x, o, none⟩ = w.cell? ⟨x, o, none⟩ :=
  World.cell?_of_block (Below.heap_setCell _ _ _ _ h)

/-- WHAT A RUN's CELLS HOLD (from offset o of block x on): its position, its skip, its answer. -/
structure RunAt (w : World) (x o : Nat) (pos : ByteArray) (sk : Int) (g len : Nat) (next : ByteArray) (more : Bool) (pv : Value) : Prop where
  c1 : w.cell? ⟨x, o + 1, none⟩ = some (.string pos)
  c2 : w.cell? ⟨x, o + 2, none⟩ = some (.int .i64 sk)
  c3 : w.cell? ⟨x, o + 3, none⟩ = some (.slice (some ⟨g, 0, none⟩) len len)
  c4 : w.cell? ⟨x, o + 4, none⟩ = some (.string next)
  c5 : w.cell? ⟨x, o + 5, none⟩ = some (.bool more)
  c6 : w.cell? ⟨x, o + 6, none⟩ = some pv

set_option maxHeartbeats 400000 in
theorem spot_any (x o g q len i : Nat) (hi : i ≤ len) (hlen : len ≤ 1024) (next pos pv : ByteArray) (more up : Bool) (w : World) (hr : RunAt w x o pos i g len next more (posV up q len)) (hq : up = true → 0 < i → i < len → w.cell? ⟨q, i - 1, none⟩ = some (.string pv)) :
    Calls Yba.prog 16 #[.pointer (some ⟨x, o, none⟩)] w fun e w' =>
      e = .returned (.agg #[.string (aftP len next up pv pos i), .int .i64 (aftS len up i)]) ∧ Below w.heap.size w w' := by
  obtain ⟨c1, c2, c3, c4, c5, c6⟩ := hr
  have hlt := World.block_lt_of_cell? _ _ c1
  simp only at hlt
  have hne : x ≠ w.heap.size := by omega
  obtain ⟨pa, pn, pc, hpv⟩ : ∃ a n c, posV up q len = .slice a n c := by unfold posV; cases up <;> exact ⟨_, _, _, rfl⟩
  rw [hpv] at c6
  have HPV : Hid (posV up q len = .slice pa pn pc) := hpv
  clear hpv
  obtain ⟨rp, hrp⟩ : ∃ rp, rp = aftP len next up pv pos i := ⟨_, rfl⟩
  obtain ⟨rs, hrs⟩ : ∃ rs, rs = aftS len up i := ⟨_, rfl⟩
  have HC := fun w' hq' => after_any g q len i hi hlen next pos pv more up w' hq'
  rw [← hrp, ← hrs, HPV.out] at HC
  rw [← hrp, ← hrs]
  have HH : Hid (∀ w', (up = true → 0 < i → i < len → w'.cell? ⟨q, i - 1, none⟩ = some (.string pv)) → Calls Yba.prog 19 #[.agg #[.slice (some ⟨g, 0, none⟩) len len, .string next, .bool more, .slice pa pn pc], .string pos, .int .i64 i] w' fun e w'' => e = .returned (.agg #[.string rp, .int .i64 rs]) ∧ Below w'.heap.size w' w'') := HC
  have HQ : Hid (∀ w', Below w.heap.size w w' → (up = true → 0 < i → i < len → w'.cell? ⟨q, i - 1, none⟩ = some (.string pv))) := by
    intro w' hb a b c
    have h := hq a b c
    rw [hb.cell (World.block_lt_of_cell? _ _ h)]; exact h
  clear HC hq hrp hrs HPV
  go_enter Yba.func16, Yba.ntmps16
  go_wp2
  go_region_held3 (fun w' => w'.cell? ⟨x, o + 1, none⟩ = some (.string pos) ∧ w'.cell? ⟨x, o + 2, none⟩ = some (.int .i64 i) ∧ w'.cell? ⟨x, o + 3, none⟩ = some (.slice (some ⟨g, 0, none⟩) len len) ∧ w'.cell? ⟨x, o + 4, none⟩ = some (.string next) ∧ w'.cell? ⟨x, o + 5, none⟩ = some (.bool more) ∧ w'.cell? ⟨x, o + 6, none⟩ = some (.slice pa pn pc))
    (first | go_keep | (go_split_ands; refine ⟨?_, ?_, ?_, ?_, ?_, ?_⟩ <;> (first | (rw [hb.cell (by simp <;> omega)]; assumption) | (rw [cell_apart hne, cell_apart hne]; assumption))))
    (first | (go_at_call 19; refine (HH.out _ (HQ.out _ (bel1d w _))).mono ?_; rintro e w1 ⟨rfl, hb⟩; have s0 : w1.cell? ⟨w.heap.size, 0, none⟩ = some (.string ⟨#[]⟩) := (by rw [hb.cell (by simp)]; simp); have s1 : w1.cell? ⟨w.heap.size, 1, none⟩ = some (.int .i64 0) := (by rw [hb.cell (by simp)]; simp); have f0 : w1.frozen? ⟨w.heap.size, 0, none⟩ = false := (by rw [hb.frozen (by simp)]; simp); have f1 : w1.frozen? ⟨w.heap.size, 1, none⟩ = false := (by rw [hb.frozen (by simp)]; simp)))
  go_wp2
  refine bodyPost_ret (v := .agg #[.string rp, .int .i64 rs]) (by simp [results, Yba.results16, go_sem, s0, s1]) rfl ⟨rfl, ?_⟩
  exact (((bel1d w _).trans (hb.mono (by simp))).setCell (by simp) _).setCell (by simp) _
#print axioms spot_any
end Go.Proofs.Ybulkbboy
