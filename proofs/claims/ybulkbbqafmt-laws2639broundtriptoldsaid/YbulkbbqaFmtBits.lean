/- PLAIN: the decoder's 'x |= uint64(c & 127) << s' in the walk's own spelling. -/
import Derived.Lib.VarintDec
import Derived.Laws.BitsAllLaws
import Derived.Lib.VarintBits
import Derived.Laws.Bits64
namespace Go.Proofs.YbulkbbqaFmt
set_option linter.unusedVariables false
set_option linter.unusedSimpArgs false
open Go.Lib

theorem wrap_shl (x i : Nat) (h : x * 2 ^ i < 18446744073709551616) : IntKind.u64.wrap ((x : Int) * 2 ^ i) = ((x * 2 ^ i : Nat) : Int) := by
  have e : (x : Int) * 2 ^ i = ((x * 2 ^ i : Nat) : Int) := by
    rw [Int.natCast_mul, Int.natCast_pow]; rfl
  rw [e, IntKind.wrap_u64]
  omega

theorem or_shl (a x i : Nat) (ha : a < 2 ^ i) (ha64 : a < 18446744073709551616) (h : x * 2 ^ i < 18446744073709551616) : bits .or .u64 (a : Int) (IntKind.u64.wrap ((x : Int) * 2 ^ i)) = ((a + x * 2 ^ i : Nat) : Int) := by
  rw [wrap_shl x i h, u64_or_nat a _ ha64 h]
  have h1 := Nat.two_pow_add_eq_or_of_lt ha x
  rw [Nat.or_comm, Nat.mul_comm x, ← h1, Nat.add_comm]

theorem and127 (b : Nat) (h : b < 256) : IntKind.u64.wrap (bits .and .u8 (b : Int) 127) = ((b % 128 : Nat) : Int) := by
  have h1 := u8_and127 (x := (b : Int)) (by omega) (by omega)
  have h2 : IntKind.u64.wrap (bits .and .u8 (b : Int) 127) = IntKind.u64.wrap ((b : Int) % 128) := congrArg _ h1
  rw [h2, IntKind.wrap_u64]
  omega

theorem pow7_le {k : Nat} (h : k ≤ 8) : 2 ^ (7 * k) * 128 ≤ 9223372036854775808 := by
  have h1 : 2 ^ (7 * k) ≤ 2 ^ 56 := Nat.pow_le_pow_right (by decide) (by omega)
  have h2 : (2 : Nat) ^ 56 = 72057594037927936 := by decide
  omega

/-- A byte that bears the bit 128, the first nine. -/
theorem more_eq (a b k : Nat) (hk : k ≤ 8) (ha : a < 2 ^ (7 * k)) (hb : b < 256) :
    bits .or .u64 (a : Int) (IntKind.u64.wrap (IntKind.u64.wrap (bits .and .u8 (b : Int) 127) * 2 ^ (7 * k))) = ((a + b % 128 * 2 ^ (7 * k) : Nat) : Int) ∧ a + b % 128 * 2 ^ (7 * k) < 2 ^ (7 * (k + 1)) := by
  have hp := pow7_le hk
  have hm : b % 128 * 2 ^ (7 * k) ≤ 127 * 2 ^ (7 * k) := Nat.mul_le_mul_right _ (by omega)
  have e : 2 ^ (7 * (k + 1)) = 2 ^ (7 * k) * 128 := by rw [show 7 * (k + 1) = 7 * k + 7 by omega, Nat.pow_add]
  rw [and127 b hb, or_shl a (b % 128) (7 * k) ha (by omega) (by omega)]
  exact ⟨rfl, by omega⟩

/-- The tenth byte, bearing the bit 128: whatever it makes of x. -/
theorem more_any (a b : Nat) (ha : a < 2 ^ (7 * 9)) (hb : b < 256) : ∃ x : Nat, bits .or .u64 (a : Int) (IntKind.u64.wrap (IntKind.u64.wrap (bits .and .u8 (b : Int) 127) * 2 ^ (7 * 9))) = (x : Int) ∧ x < 2 ^ (7 * 10) := by
  have h2 : (2 : Nat) ^ (7 * 9) = 9223372036854775808 := by decide
  have h3 : (2 : Nat) ^ (7 * 10) = 1180591620717411303424 := by decide
  obtain ⟨y, hy⟩ : ∃ y : Nat, IntKind.u64.wrap (IntKind.u64.wrap (bits .and .u8 (b : Int) 127) * 2 ^ (7 * 9)) = (y : Int) ∧ y < 18446744073709551616 := by
    generalize IntKind.u64.wrap (bits .and .u8 (b : Int) 127) * 2 ^ (7 * 9) = z
    rw [IntKind.wrap_u64]
    exact ⟨(z % 18446744073709551616).toNat, by omega, by omega⟩
  rw [hy.1, u64_or_nat a y (by omega) hy.2]
  have hlt : a ||| y < 2 ^ 64 := Nat.or_lt_two_pow (by omega) (by omega)
  exact ⟨_, rfl, by omega⟩

/-- The last byte. -/
theorem last_eq (a b k : Nat) (hk : k ≤ 9) (ha : a < 2 ^ (7 * k)) (hb : b < 128) (h9 : k = 9 → b ≤ 1) :
    bits .or .u64 (a : Int) (IntKind.u64.wrap ((b : Int) * 2 ^ (7 * k))) = ((a + b * 2 ^ (7 * k) : Nat) : Int) ∧ a + b * 2 ^ (7 * k) < 18446744073709551616 := by
  by_cases h : k ≤ 8
  · have hp := pow7_le h
    have hm : b * 2 ^ (7 * k) ≤ 127 * 2 ^ (7 * k) := Nat.mul_le_mul_right _ (by omega)
    rw [or_shl a b (7 * k) ha (by omega) (by omega)]
    exact ⟨rfl, by omega⟩
  · have hk9 : k = 9 := by omega
    subst hk9
    have h2 : (2 : Nat) ^ (7 * 9) = 9223372036854775808 := by decide
    have hb1 := h9 rfl
    have hm : b * 2 ^ (7 * 9) ≤ 1 * 2 ^ (7 * 9) := Nat.mul_le_mul_right _ hb1
    rw [or_shl a b (7 * 9) ha (by omega) (by omega)]
    exact ⟨rfl, by omega⟩

/-! ### What one byte makes of 'uvarintFrom' -/
theorem from_more (k a : Nat) (b : UInt8) (r : List UInt8) (hk : k < 10) (hb : ¬ b.toNat < 128) : uvarintFrom k a (b :: r) = uvarintFrom (k + 1) (a + b.toNat % 128 * 2 ^ (7 * k)) r := by
  rw [uvarintFrom, if_neg (by omega), if_neg hb]
theorem from_last (k a : Nat) (b : UInt8) (r : List UInt8) (hk : k < 10) (hb : b.toNat < 128) (h9 : ¬ (k = 9 ∧ 1 < b.toNat)) : uvarintFrom k a (b :: r) = (a + b.toNat * 2 ^ (7 * k), (k : Int) + 1) := by
  rw [uvarintFrom, if_neg (by omega), if_pos hb, if_neg h9]
theorem from_over (k a : Nat) (b : UInt8) (r : List UInt8) (hk : k < 10) (hb : b.toNat < 128) (h9 : k = 9 ∧ 1 < b.toNat) : (uvarintFrom k a (b :: r)).2 ≤ 0 := by
  rw [uvarintFrom, if_neg (by omega), if_pos hb, if_pos h9]; simp; omega
theorem from_ten (a : Nat) (r : List UInt8) : (uvarintFrom 10 a r).2 ≤ 0 := by
  cases r <;> simp [uvarintFrom]
theorem from_nil (k a : Nat) : (uvarintFrom k a []).2 ≤ 0 := by simp [uvarintFrom]
end Go.Proofs.YbulkbbqaFmt
