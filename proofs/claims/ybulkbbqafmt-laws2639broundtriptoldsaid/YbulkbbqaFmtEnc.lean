/- PLAIN: what AppendUvarint writes, value after value, spells those values again. No Go text in sight. -/
import Derived.Test.YbulkbbqaFmtMath
namespace Go.Proofs.YbulkbbqaFmt
set_option linter.unusedVariables false
set_option linter.unusedSimpArgs false
open Go.Lib

theorem from_uvarint : ∀ (f x : Nat), x ≤ f → ∀ (i acc : Nat) (r : List UInt8), i ≤ 9 → x * 2 ^ (7 * i) < 18446744073709551616 → uvarintFrom i acc (uvarint x ++ r) = (acc + x * 2 ^ (7 * i), ((i + (uvarint x).length : Nat) : Int)) := by
  intro f
  induction f with
  | zero =>
    intro x hx i acc r hi hb
    obtain rfl : x = 0 := by omega
    have e : uvarint 0 = [0] := uvarint_small (by omega)
    rw [e, List.singleton_append, uvarintFrom, if_neg (by omega), if_pos (by decide), if_neg (by simp)]
    simp
  | succ f ih =>
    intro x hx i acc r hi hb
    by_cases h : x < 128
    · rw [uvarint_small h, List.singleton_append, uvarintFrom, if_neg (by omega)]
      have e : x.toUInt8.toNat = x := by simp only [UInt8.toNat_ofNat']; exact Nat.mod_eq_of_lt (by omega)
      rw [e, if_pos h, if_neg ?_]
      · simp
      · rintro ⟨rfl, h1⟩
        have : 2 ^ (7 * 9) = 9223372036854775808 := by decide
        rw [this] at hb
        omega
    · rw [uvarint_big (by omega), List.cons_append, uvarintFrom, if_neg (by omega)]
      have e : (x % 128 + 128).toUInt8.toNat = x % 128 + 128 := by simp only [UInt8.toNat_ofNat']; exact Nat.mod_eq_of_lt (by omega)
      have hp : 2 ^ (7 * (i + 1)) = 128 * 2 ^ (7 * i) := by rw [Nat.mul_add, Nat.pow_add]; rw [Nat.mul_comm]
      have h9 : i ≠ 9 := by
        rintro rfl
        have : 2 ^ (7 * 9) = 9223372036854775808 := by decide
        rw [this] at hb
        omega
      have hx' : x / 128 * (128 * 2 ^ (7 * i)) ≤ x * 2 ^ (7 * i) := by
        rw [← Nat.mul_assoc]
        exact Nat.mul_le_mul_right _ (by omega)
      rw [e, if_neg (by omega), ih (x / 128) (by omega) (i + 1) _ r (by omega) (by rw [hp]; omega), hp]
      have hv : x * 2 ^ (7 * i) = x % 128 * 2 ^ (7 * i) + x / 128 * (128 * 2 ^ (7 * i)) := by
        rw [← Nat.mul_assoc, ← Nat.add_mul]
        have : x % 128 + x / 128 * 128 = x := by omega
        rw [this]
      have hm : (x % 128 + 128) % 128 = x % 128 := by omega
      rw [hm, hv, List.length_cons]
      refine Prod.ext ?_ ?_
      · simp only; omega
      · simp only; omega

theorem dec_uvarint (x : Nat) (hx : x < 18446744073709551616) (r : List UInt8) : uvarintDec (uvarint x ++ r) = (x, ((uvarint x).length : Int)) := by
  have := from_uvarint x x (Nat.le_refl _) 0 0 r (by omega) (by simpa using hx)
  simpa [uvarintDec] using this

/-- The varints of the values, end to end. -/
def encs (vs : List Nat) : List UInt8 := (vs.map uvarint).flatten

theorem encs_snoc (vs : List Nat) (x : Nat) : encs (vs ++ [x]) = encs vs ++ uvarint x := by simp [encs]

theorem dec_encs : ∀ (vs : List Nat), (∀ x ∈ vs, x < 18446744073709551616) → dec (encs vs) = some vs
  | [], _ => rfl
  | v :: r, h => by
    have e : encs (v :: r) = uvarint v ++ encs r := by simp [encs]
    have hv := dec_uvarint v (h v (by simp)) (encs r)
    have hp := uvarint_pos v
    have hne : uvarint v ++ encs r ≠ [] := by
      intro he
      have := congrArg List.length he
      rw [List.length_append, List.length_nil] at this
      omega
    have ed : (uvarint v ++ encs r).drop (((uvarint v).length : Int)).toNat = encs r := by simp
    rw [e, dec_step _ hne (by rw [hv]; simp only; omega), hv, ed, dec_encs r (fun x hx => h x (by simp [hx]))]
    rfl

theorem encs_length : ∀ (vs : List Nat), (∀ x ∈ vs, x < 18446744073709551616) → (encs vs).length ≤ 10 * vs.length
  | [], _ => by simp [encs]
  | v :: r, h => by
    have e : encs (v :: r) = uvarint v ++ encs r := by simp [encs]
    have h1 := uvarint_length64 (h v (by simp))
    have h2 := encs_length r (fun x hx => h x (by simp [hx]))
    rw [e, List.length_append, List.length_cons]
    omega
theorem encs_take (vs : List Nat) (k : Nat) (hk : k < vs.length) : encs (vs.take (k + 1)) = encs (vs.take k) ++ uvarint vs[k] := by
  rw [← encs_snoc, List.take_append_getElem]
end Go.Proofs.YbulkbbqaFmt
