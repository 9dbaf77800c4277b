/- THE PLAIN LAW OF fmix AND ITS INVERSE: no Go text in sight. -/
import Derived.Laws.Bits64
namespace Go.Proofs.Ybulkbbqa
set_option linter.unusedVariables false
set_option linter.unusedSimpArgs false

def xs (x : Nat) : Nat := x ^^^ x / 8589934592
def mw (c x : Nat) : Nat := x * c % 18446744073709551616

theorem xs_lt (x : Nat) (h : x < 18446744073709551616) : xs x < 18446744073709551616 := by
  have h1 : x / 8589934592 < 2 ^ 64 := Nat.lt_of_le_of_lt (Nat.div_le_self _ _) h
  exact Nat.xor_lt_two_pow (n := 64) h h1

theorem mw_lt (c x : Nat) : mw c x < 18446744073709551616 := Nat.mod_lt _ (by decide)

theorem xs_xs (x : Nat) (h : x < 18446744073709551616) : xs (xs x) = x := by
  unfold xs
  rw [show (8589934592 : Nat) = 2 ^ 33 from rfl, ← Nat.shiftRight_eq_div_pow, ← Nat.shiftRight_eq_div_pow, Nat.shiftRight_xor_distrib, ← Nat.shiftRight_add, Nat.xor_assoc]
  rw [← Nat.xor_assoc (x >>> 33), Nat.xor_self, Nat.zero_xor]
  have h0 : x >>> (33 + 33) = 0 := by
    rw [Nat.shiftRight_eq_div_pow]
    exact Nat.div_eq_of_lt (Nat.lt_of_lt_of_le h (by decide))
  rw [h0, Nat.xor_zero]

theorem mw_mw (c i x : Nat) (h : x < 18446744073709551616) (hci : c * i % 18446744073709551616 = 1) : mw i (mw c x) = x := by
  unfold mw
  rw [Nat.mod_mul_mod, Nat.mul_assoc, Nat.mul_mod, hci, Nat.mul_one, Nat.mod_mod]
  exact Nat.mod_eq_of_lt h

def fmixN (k : Nat) : Nat := xs (mw 14181476777654086739 (xs (mw 18397679294719823053 (xs k))))
def unfN (y : Nat) : Nat := xs (mw 5725274745694666757 (xs (mw 11291846944257947611 (xs y))))

theorem fmix_lt (k : Nat) (h : k < 18446744073709551616) : fmixN k < 18446744073709551616 := xs_lt _ (mw_lt _ _)
theorem unf_lt (k : Nat) (h : k < 18446744073709551616) : unfN k < 18446744073709551616 := xs_lt _ (mw_lt _ _)

theorem unf_fmix (k : Nat) (h : k < 18446744073709551616) : unfN (fmixN k) = k := by
  unfold unfN fmixN
  rw [xs_xs _ (mw_lt _ _), mw_mw _ _ _ (xs_lt _ (mw_lt _ _)) (by decide), xs_xs _ (mw_lt _ _), mw_mw _ _ _ (xs_lt _ h) (by decide), xs_xs _ h]
theorem fmix_unf (k : Nat) (h : k < 18446744073709551616) : fmixN (unfN k) = k := by
  unfold unfN fmixN
  rw [xs_xs _ (mw_lt _ _), mw_mw _ _ _ (xs_lt _ (mw_lt _ _)) (by decide), xs_xs _ (mw_lt _ _), mw_mw _ _ _ (xs_lt _ h) (by decide), xs_xs _ h]
theorem fmix_zero : fmixN 0 = 0 := by decide

/-! ### As the walk writes it -/
theorem xs_eq (x : Nat) (h : x < 18446744073709551616) : bits .xor .u64 (x : Int) ((x : Int) / 8589934592) = ((xs x : Nat) : Int) := xorShift_u64 x 8589934592 h
theorem mw_eq (c x : Nat) : IntKind.u64.wrap ((x : Int) * (c : Int)) = ((mw c x : Nat) : Int) := by
  rw [IntKind.wrap_u64, mw, Int.natCast_emod, Int.natCast_mul]; rfl

/-- Newton's iteration, in the walk's own spelling. -/
def newt (c : Int) : Nat → Int
  | 0 => c
  | k + 1 => IntKind.u64.wrap (newt c k * IntKind.u64.wrap (2 - IntKind.u64.wrap (c * newt c k)))

theorem newt1 : newt 18397679294719823053 5 = ((5725274745694666757 : Nat) : Int) := by decide +kernel
theorem newt2 : newt 14181476777654086739 5 = ((11291846944257947611 : Nat) : Int) := by decide +kernel

theorem fmix_eq (k : Nat) (h : k < 18446744073709551616) :
    bits .xor .u64 (IntKind.u64.wrap (bits .xor .u64 (IntKind.u64.wrap (bits .xor .u64 (k : Int) ((k : Int) / 8589934592) * 18397679294719823053)) (IntKind.u64.wrap (bits .xor .u64 (k : Int) ((k : Int) / 8589934592) * 18397679294719823053) / 8589934592) * 14181476777654086739))
      (IntKind.u64.wrap (bits .xor .u64 (IntKind.u64.wrap (bits .xor .u64 (k : Int) ((k : Int) / 8589934592) * 18397679294719823053)) (IntKind.u64.wrap (bits .xor .u64 (k : Int) ((k : Int) / 8589934592) * 18397679294719823053) / 8589934592) * 14181476777654086739) / 8589934592)
      = ((fmixN k : Nat) : Int) := by
  have m1 : IntKind.u64.wrap (((xs k : Nat) : Int) * 18397679294719823053) = ((mw 18397679294719823053 (xs k) : Nat) : Int) := mw_eq 18397679294719823053 (xs k)
  have m2 : IntKind.u64.wrap (((xs (mw 18397679294719823053 (xs k)) : Nat) : Int) * 14181476777654086739) = ((mw 14181476777654086739 (xs (mw 18397679294719823053 (xs k))) : Nat) : Int) := mw_eq 14181476777654086739 _
  rw [xs_eq k h, m1, xs_eq _ (mw_lt _ _), m2, xs_eq _ (mw_lt _ _)]
  rfl

theorem unf_eq (k : Nat) (h : k < 18446744073709551616) :
    bits .xor .u64 (IntKind.u64.wrap (bits .xor .u64 (IntKind.u64.wrap (bits .xor .u64 (k : Int) ((k : Int) / 8589934592) * newt 14181476777654086739 5)) (IntKind.u64.wrap (bits .xor .u64 (k : Int) ((k : Int) / 8589934592) * newt 14181476777654086739 5) / 8589934592) * newt 18397679294719823053 5))
      (IntKind.u64.wrap (bits .xor .u64 (IntKind.u64.wrap (bits .xor .u64 (k : Int) ((k : Int) / 8589934592) * newt 14181476777654086739 5)) (IntKind.u64.wrap (bits .xor .u64 (k : Int) ((k : Int) / 8589934592) * newt 14181476777654086739 5) / 8589934592) * newt 18397679294719823053 5) / 8589934592)
      = ((unfN k : Nat) : Int) := by
  rw [newt1, newt2, xs_eq k h, mw_eq, xs_eq _ (mw_lt _ _), mw_eq, xs_eq _ (mw_lt _ _)]
  rfl
end Go.Proofs.Ybulkbbqa
