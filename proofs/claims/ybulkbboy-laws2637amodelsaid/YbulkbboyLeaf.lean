/- THE LEAVES OF LawS2637AModel's ROAD: 22, 24 (strings.Compare), 21 (cmp.Compare), 20 (Merge.compare), 18 (Merge.precedes), 10 (zzs2637apassed). -/
import Derived.Test.YbulkbboyRows
import Derived.WalkKit
import Derived.ProofKit
import Derived.WalkLawsBesides
import Derived.Lib.Bytealg
import Derived.Below
namespace Go.Proofs.Ybulkbboy
open Go.ChangeShapes Go.WideShapes Go.ChangeAt Go.RowKit
set_option linter.unusedVariables false
set_option linter.unusedSimpArgs false

/-- 'a <= b' as the walk writes it. -/
def strLe (a b : ByteArray) : Bool := Op.bytesLess a.toList b.toList || a.toList == b.toList

/-- Has the read (at 'count', 'lid', 'lkey') passed the hit (id, key)? -/
def pasB (desc : Bool) (count : Int) (lid : ByteArray) (lkey : Int) (id : ByteArray) (key : Int) : Bool :=
  if count ≤ 0 then false else if key = lkey then strLe id lid else if desc then decide (lkey < key) else decide (key < lkey)

set_option maxHeartbeats 400000 in
theorem cmpString_any (a b : ByteArray) (w : World) :
    Calls Yba.prog 24 #[.string a, .string b] w fun e w' => e = .returned (.int .i64 (Lib.compareBytes a.data.toList b.data.toList)) ∧ w' = w := by
  go_enter Yba.func24, Yba.ntmps24
  go_wp2
  rw [run_callFunc_extern Yba.func25 (by kernel_rfl) (by kernel_rfl) (by kernel_rfl) (e := Extern.BytealgCompare.compare) (by kernel_rfl), Lib.run_compareString]
  simp only [Result.andThen]
  rw [Oper.upon_value]
  go_wp2
  go_ret
  exact ⟨rfl, rfl⟩

set_option maxHeartbeats 400000 in
theorem strCompare_any (a b : ByteArray) (w : World) :
    Calls Yba.prog 22 #[.string a, .string b] w fun e w' => e = .returned (.int .i64 (Lib.compareBytes a.data.toList b.data.toList)) ∧ w' = w := by
  go_enter Yba.func22, Yba.ntmps22
  go_wp2_with (go_at_call 24; refine (cmpString_any _ _ _).mono ?_; rintro e w' ⟨rfl, rfl⟩)
  go_ret
  exact ⟨rfl, rfl⟩

def cmpI (x y : Int) : Int := if x < y then -1 else if y < x then 1 else 0

set_option maxHeartbeats 400000 in
theorem cmpInt_any (x y : Int) (w : World) :
    Calls Yba.prog 21 #[.int .i64 x, .int .i64 y] w fun e w' => e = .returned (.int .i64 (cmpI x y)) ∧ w' = w := by
  unfold cmpI
  by_cases h1 : x < y
  · go_enter Yba.func21, Yba.ntmps21
    go_wp2
    go_ret
    exact ⟨by simp [h1], rfl⟩
  · by_cases h2 : y < x
    · go_enter Yba.func21, Yba.ntmps21
      go_wp2
      go_ret
      exact ⟨by simp [h1, h2], rfl⟩
    · go_enter Yba.func21, Yba.ntmps21
      go_wp2
      go_ret
      exact ⟨by simp [h1, h2], rfl⟩

set_option maxHeartbeats 400000 in
theorem apassed_any (desc : Bool) (count : Int) (lid : ByteArray) (lkey : Int) (id : ByteArray) (key : Int) (w : World) :
    Calls Yba.prog 10 #[.bool desc, .int .i64 count, .agg #[.string lid, .int .i64 lkey], .agg #[.string id, .int .i64 key]] w fun e w' => e = .returned (.bool (pasB desc count lid lkey id key)) ∧ Below w.heap.size w w' := by
  unfold pasB
  by_cases h1 : count ≤ 0
  · go_enter Yba.func10, Yba.ntmps10
    go_wp2
    go_ret
    exact ⟨by simp [h1], ((Below.refl _ _).alloc (Nat.le_refl _) _).alloc (by simp) _⟩
  · by_cases h2 : key = lkey
    · have h2' : (key == lkey) = true := by simpa using h2
      go_enter Yba.func10, Yba.ntmps10
      go_wp2
      go_ret
      exact ⟨by simp [h1, h2, strLe], ((Below.refl _ _).alloc (Nat.le_refl _) _).alloc (by simp) _⟩
    · have h2' : (key == lkey) = false := by simpa using h2
      cases desc
      · go_enter Yba.func10, Yba.ntmps10
        go_wp2
        go_ret
        exact ⟨by simp [h1, h2], ((Below.refl _ _).alloc (Nat.le_refl _) _).alloc (by simp) _⟩
      · go_enter Yba.func10, Yba.ntmps10
        go_wp2
        go_ret
        exact ⟨by simp [h1, h2], ((Below.refl _ _).alloc (Nat.le_refl _) _).alloc (by simp) _⟩
end Go.Proofs.Ybulkbboy
