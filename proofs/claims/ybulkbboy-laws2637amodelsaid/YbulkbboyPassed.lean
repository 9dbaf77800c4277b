/- 20 (Merge.compare), 18 (Merge.precedes), 15 (sortedRead.passed). -/
import Derived.Test.YbulkbboyLeaf
import Derived.Deep.RegionHeld3
namespace Go.Proofs.Ybulkbboy
open Go.ChangeShapes Go.WideShapes Go.ChangeAt Go.RowKit
set_option linter.unusedVariables false
set_option linter.unusedSimpArgs false

theorem cmpB_le : ∀ (a b : List UInt8), decide (Lib.compareBytes a b ≤ 0) = (Op.bytesLess a b || a == b)
  | [], [] => by simp [Lib.compareBytes]
  | [], _ :: _ => by simp [Lib.compareBytes, Op.bytesLess]
  | _ :: _, [] => by simp [Lib.compareBytes, Op.bytesLess]
  | x :: a, y :: b => by
    have ih := cmpB_le a b
    by_cases h1 : x < y
    · simp [Lib.compareBytes, Op.bytesLess, h1]
    · by_cases h2 : y < x
      · have hne : x ≠ y := fun e => by subst e; exact h1 h2
        simp [Lib.compareBytes, Op.bytesLess, h1, h2, hne]
      · have he : x = y := by
          apply UInt8.le_antisymm
          · exact UInt8.not_lt.1 h2
          · exact UInt8.not_lt.1 h1
        subst he
        simp [Lib.compareBytes, Op.bytesLess, h1, ih]

def cmpM (desc : Bool) (id : ByteArray) (key : Int) (lid : ByteArray) (lkey : Int) : Int :=
  if key = lkey then Lib.compareBytes id.data.toList lid.data.toList else if desc then - cmpI key lkey else cmpI key lkey

theorem pas_eq (desc : Bool) (count : Int) (lid : ByteArray) (lkey : Int) (id : ByteArray) (key : Int) :
    (decide (0 < count) && decide (cmpM desc id key lid lkey ≤ 0)) = pasB desc count lid lkey id key := by
  unfold pasB cmpM
  by_cases h1 : count ≤ 0
  · have h1' : ¬ 0 < count := by omega
    simp [h1, h1']
  · have h1' : 0 < count := by omega
    by_cases h2 : key = lkey
    · rw [if_neg h1, if_pos h2, if_pos h2, cmpB_le, strLe, ByteArray.toList_eq, ByteArray.toList_eq]; simp [h1']
    · rw [if_neg h1, if_neg h2, if_neg h2]
      unfold cmpI
      cases desc
      · by_cases h3 : key < lkey
        · simp [h1', h3]
        · have h4 : lkey < key := by omega
          simp [h1', h3, h4]
      · by_cases h3 : key < lkey
        · have h4 : ¬ lkey < key := by omega
          simp [h1', h3, h4]
        · have h4 : lkey < key := by omega
          simp [h1', h3, h4]

def ordI (desc : Bool) : Int := if desc then 1 else 0

set_option maxHeartbeats 400000 in
theorem compare_any (desc : Bool) (pM : Nat) (id : ByteArray) (key : Int) (lid : ByteArray) (lkey : Int) (w : World) (hM : w.cell? ⟨pM, 2, none⟩ = some (.int .i64 (ordI desc))) :
    Calls Yba.prog 20 #[.pointer (some ⟨pM, 0, none⟩), .agg #[.string id, .int .i64 key], .agg #[.string lid, .int .i64 lkey]] w fun e w' => e = .returned (.int .i64 (cmpM desc id key lid lkey)) ∧ Below w.heap.size w w' := by
  have hlt := World.block_lt_of_cell? _ _ hM
  simp only at hlt
  have hd : (ordI desc == 1) = desc := by cases desc <;> rfl
  unfold cmpM
  by_cases h1 : key = lkey
  · subst h1
    have hc : cmpI key key = 0 := by simp [cmpI]
    cases desc
    · go_enter Yba.func20, Yba.ntmps20
      go_wp2_with (first | (go_at_call 21; refine (cmpInt_any _ _ _).mono ?_; rintro e w' ⟨rfl, rfl⟩) | (go_at_call 22; refine (strCompare_any _ _ _).mono ?_; rintro e w' ⟨rfl, rfl⟩))
      go_ret
      exact ⟨by simp, ((Below.refl _ _).alloc (Nat.le_refl _) _).alloc (by simp) _⟩
    · go_enter Yba.func20, Yba.ntmps20
      go_wp2_with (first | (go_at_call 21; refine (cmpInt_any _ _ _).mono ?_; rintro e w' ⟨rfl, rfl⟩) | (go_at_call 22; refine (strCompare_any _ _ _).mono ?_; rintro e w' ⟨rfl, rfl⟩))
      go_ret
      exact ⟨by simp, ((Below.refl _ _).alloc (Nat.le_refl _) _).alloc (by simp) _⟩
  · rw [if_neg h1]
    have hcases : cmpI key lkey = 1 ∨ cmpI key lkey = -1 := by unfold cmpI; by_cases h : key < lkey; · simp [h]
                                                               · have h' : lkey < key := by omega
                                                                 simp [h, h']
    rcases hcases with hc | hc
    · cases desc
      · go_enter Yba.func20, Yba.ntmps20
        go_wp2_with (first | (go_at_call 21; refine (cmpInt_any _ _ _).mono ?_; rintro e w' ⟨rfl, rfl⟩))
        go_ret
        exact ⟨by simp [hc], ((Below.refl _ _).alloc (Nat.le_refl _) _).alloc (by simp) _⟩
      · go_enter Yba.func20, Yba.ntmps20
        go_wp2_with (first | (go_at_call 21; refine (cmpInt_any _ _ _).mono ?_; rintro e w' ⟨rfl, rfl⟩))
        go_ret
        exact ⟨by simp [hc], ((Below.refl _ _).alloc (Nat.le_refl _) _).alloc (by simp) _⟩
    · cases desc
      · go_enter Yba.func20, Yba.ntmps20
        go_wp2_with (first | (go_at_call 21; refine (cmpInt_any _ _ _).mono ?_; rintro e w' ⟨rfl, rfl⟩))
        go_ret
        exact ⟨by simp [hc], ((Below.refl _ _).alloc (Nat.le_refl _) _).alloc (by simp) _⟩
      · go_enter Yba.func20, Yba.ntmps20
        go_wp2_with (first | (go_at_call 21; refine (cmpInt_any _ _ _).mono ?_; rintro e w' ⟨rfl, rfl⟩))
        go_ret
        exact ⟨by simp [hc], ((Below.refl _ _).alloc (Nat.le_refl _) _).alloc (by simp) _⟩

theorem bel1d (w : World) (o : Obj) : Below w.heap.size w (w.alloc o).drew := ((Below.refl _ _).alloc (Nat.le_refl _) _).drew
theorem bel2 (w : World) (o o' : Obj) : Below w.heap.size w ((w.alloc o).alloc o') := ((Below.refl _ _).alloc (Nat.le_refl _) _).alloc (by simp) _

set_option maxHeartbeats 400000 in
theorem precedes_any (desc : Bool) (pM : Nat) (count : Int) (id : ByteArray) (key : Int) (lid : ByteArray) (lkey : Int) (sp : Value) (hsp : ∃ a n c, sp = .slice a n c) (w : World) (hM : w.cell? ⟨pM, 2, none⟩ = some (.int .i64 (ordI desc))) :
    Calls Yba.prog 18 #[.pointer (some ⟨pM, 0, none⟩), .agg #[.string id, .int .i64 key], .agg #[.int .i64 count, .string lid, .int .i64 lkey, sp]] w fun e w' => e = .returned (.bool (pasB desc count lid lkey id key)) ∧ Below w.heap.size w w' := by
  have hlt := World.block_lt_of_cell? _ _ hM
  simp only at hlt
  obtain ⟨sa, sn, sc, rfl⟩ := hsp
  rw [← pas_eq]
  by_cases h0 : 0 < count
  · go_enter Yba.func18, Yba.ntmps18
    go_wp2_with (go_at_call 20; refine (compare_any desc pM _ _ _ _ _ (by rw [(bel2 w _ _).cell hlt]; exact hM)).mono ?_; rintro e w1 ⟨rfl, hb⟩)
    go_ret
    exact ⟨by simp [h0], (bel2 w _ _).trans (hb.mono (by simp; omega))⟩
  · have h0' : decide (0 < count) = false := by simpa using h0
    go_enter Yba.func18, Yba.ntmps18
    go_wp2
    go_ret
    exact ⟨by simp [h0], bel2 w _ _⟩

set_option maxHeartbeats 400000 in
theorem passed_any (desc : Bool) (pM pR : Nat) (count : Int) (id : ByteArray) (key : Int) (lid : ByteArray) (lkey : Int) (sp : Value) (hsp : ∃ a n c, sp = .slice a n c) (w : World) (hM : w.cell? ⟨pM, 2, none⟩ = some (.int .i64 (ordI desc)))
    (h0 : w.cell? ⟨pR, 0, none⟩ = some (.pointer (some ⟨pM, 0, none⟩))) (h1 : w.cell? ⟨pR, 1, none⟩ = some (.int .i64 count)) (h2 : w.cell? ⟨pR, 2, none⟩ = some (.string lid)) (h3 : w.cell? ⟨pR, 3, none⟩ = some (.int .i64 lkey)) (h4 : w.cell? ⟨pR, 4, none⟩ = some sp) :
    Calls Yba.prog 15 #[.pointer (some ⟨pR, 0, none⟩), .agg #[.string id, .int .i64 key]] w fun e w' => e = .returned (.bool (pasB desc count lid lkey id key)) ∧ Below w.heap.size w w' := by
  have hltM := World.block_lt_of_cell? _ _ hM
  have hltR := World.block_lt_of_cell? _ _ h0
  simp only at hltM hltR
  have hneM : pM ≠ w.heap.size := by omega
  have hneR : pR ≠ w.heap.size := by omega
  obtain ⟨sa, sn, sc, rfl⟩ := hsp
  go_enter Yba.func15, Yba.ntmps15
  go_wp2
  go_region_held3 (fun w' => w'.cell? ⟨pM, 2, none⟩ = some (.int .i64 (ordI desc)) ∧ w'.cell? ⟨pR, 0, none⟩ = some (.pointer (some ⟨pM, 0, none⟩)) ∧ w'.cell? ⟨pR, 1, none⟩ = some (.int .i64 count) ∧ w'.cell? ⟨pR, 2, none⟩ = some (.string lid) ∧ w'.cell? ⟨pR, 3, none⟩ = some (.int .i64 lkey) ∧ w'.cell? ⟨pR, 4, none⟩ = some (.slice sa sn sc) ∧ w'.cell? ⟨w.heap.size, 0, none⟩ = some (.string id) ∧ w'.cell? ⟨w.heap.size, 1, none⟩ = some (.int .i64 key)) (first | go_keep | (go_split_ands; refine ⟨?_, ?_, ?_, ?_, ?_, ?_, ?_, ?_⟩ <;> (rw [hb.cell (by simp <;> omega)]; assumption)))
    (first | (go_at_call 18; refine (precedes_any desc pM count id key lid lkey _ ⟨sa, sn, sc, rfl⟩ _ (by rw [(bel1d w _).cell hltM]; exact hM)).mono ?_; rintro e w1 ⟨rfl, hb⟩))
  go_wp2
  go_ret
  exact ⟨rfl, (bel1d w _).trans (hb.mono (by simp))⟩
#print axioms passed_any
end Go.Proofs.Ybulkbboy
