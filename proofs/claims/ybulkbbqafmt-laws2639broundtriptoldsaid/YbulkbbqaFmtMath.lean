/- PLAIN: a packed run of varints, by 'Lib.uvarintDec', value after value. No Go text in sight. -/
import Derived.Lib.VarintDec
import Derived.Lib.Varint
namespace Go.Proofs.YbulkbbqaFmt
set_option linter.unusedVariables false
set_option linter.unusedSimpArgs false
open Go.Lib

theorem from_bounds : ∀ (l : List UInt8) (i acc : Nat), 0 < (uvarintFrom i acc l).2 → (i : Int) < (uvarintFrom i acc l).2 ∧ (uvarintFrom i acc l).2 ≤ i + l.length
  | [], i, acc, h => by simp [uvarintFrom] at h
  | b :: r, i, acc, h => by
    unfold uvarintFrom at h ⊢
    by_cases h10 : i = 10
    · rw [if_pos h10] at h ⊢; simp at h; omega
    · rw [if_neg h10] at h ⊢
      by_cases hb : b.toNat < 128
      · rw [if_pos hb] at h ⊢
        by_cases h9 : i = 9 ∧ 1 < b.toNat
        · rw [if_pos h9] at h ⊢; simp at h; omega
        · rw [if_neg h9] at h ⊢; simp; omega
      · rw [if_neg hb] at h ⊢
        have ih := from_bounds r (i + 1) _ h
        simp only [List.length_cons] at *
        omega

theorem dec_bounds (l : List UInt8) (h : 0 < (uvarintDec l).2) : 1 ≤ (uvarintDec l).2 ∧ (uvarintDec l).2 ≤ l.length := by
  have := from_bounds l 0 0 h
  unfold uvarintDec at *
  omega

def decF : Nat → List UInt8 → Option (List Nat)
  | 0, l => if l = [] then some [] else none
  | f + 1, l => if l = [] then some [] else if 0 < (uvarintDec l).2 then (decF f (l.drop (uvarintDec l).2.toNat)).map ((uvarintDec l).1 :: ·) else none

theorem decF_fuel : ∀ (f g : Nat) (l : List UInt8), l.length ≤ f → l.length ≤ g → decF f l = decF g l
  | 0, 0, l, _, _ => rfl
  | 0, g + 1, l, h, _ => by
    have hl : l = [] := List.eq_nil_of_length_eq_zero (by omega)
    subst hl; simp [decF]
  | f + 1, 0, l, _, h => by
    have hl : l = [] := List.eq_nil_of_length_eq_zero (by omega)
    subst hl; simp [decF]
  | f + 1, g + 1, l, hf, hg => by
    unfold decF
    by_cases hl : l = []
    · simp [hl]
    · rw [if_neg hl, if_neg hl]
      by_cases hm : 0 < (uvarintDec l).2
      · rw [if_pos hm, if_pos hm]
        have hb := dec_bounds l hm
        have hd : (l.drop (uvarintDec l).2.toNat).length = l.length - (uvarintDec l).2.toNat := List.length_drop
        rw [decF_fuel f g _ (by omega) (by omega)]
      · rw [if_neg hm, if_neg hm]

/-- The values that the bytes spell; none where one is cut short or too great. -/
def dec (l : List UInt8) : Option (List Nat) := decF l.length l

theorem dec_nil : dec [] = some [] := rfl

theorem dec_step (l : List UInt8) (hl : l ≠ []) (hm : 0 < (uvarintDec l).2) : dec l = (dec (l.drop (uvarintDec l).2.toNat)).map ((uvarintDec l).1 :: ·) := by
  have hb := dec_bounds l hm
  have hd : (l.drop (uvarintDec l).2.toNat).length = l.length - (uvarintDec l).2.toNat := List.length_drop
  obtain ⟨f, hf⟩ : ∃ f, l.length = f + 1 := ⟨l.length - 1, by have := List.length_pos_iff.2 hl; omega⟩
  have e : dec l = decF (f + 1) l := by rw [dec, hf]
  rw [e, decF, if_neg hl, if_pos hm, dec]
  rw [decF_fuel f (l.drop (uvarintDec l).2.toNat).length _ (by omega) (by omega)]

theorem dec_fail (l : List UInt8) (hl : l ≠ []) (hm : (uvarintDec l).2 ≤ 0) : dec l = none := by
  obtain ⟨f, hf⟩ : ∃ f, l.length = f + 1 := ⟨l.length - 1, by have := List.length_pos_iff.2 hl; omega⟩
  rw [dec, hf, decF, if_neg hl, if_neg (by omega)]

theorem map_cons_append {o : Option (List Nat)} (vs : List Nat) (v : Nat) : (o.map (v :: ·)).map (vs ++ ·) = o.map ((vs ++ [v]) ++ ·) := by
  cases o <;> simp

/-- One more value of the run. -/
theorem dec_more {l : List UInt8} {p : Nat} {vs : List Nat} (h : dec l = (dec (l.drop p)).map (vs ++ ·)) (hl : l.drop p ≠ []) (hm : 0 < (uvarintDec (l.drop p)).2) :
    dec l = (dec (l.drop (p + (uvarintDec (l.drop p)).2.toNat))).map ((vs ++ [(uvarintDec (l.drop p)).1]) ++ ·) := by
  rw [h, dec_step _ hl hm, map_cons_append, List.drop_drop]
theorem dec_stop {l : List UInt8} {p : Nat} {vs : List Nat} (h : dec l = (dec (l.drop p)).map (vs ++ ·)) (hl : l.drop p ≠ []) (hm : (uvarintDec (l.drop p)).2 ≤ 0) : dec l = none := by
  rw [h, dec_fail _ hl hm]; rfl
theorem dec_end {l : List UInt8} {p : Nat} {vs : List Nat} (h : dec l = (dec (l.drop p)).map (vs ++ ·)) (hl : l.drop p = []) : dec l = some vs := by
  rw [h, hl, dec_nil]; simp
theorem dec_start (l : List UInt8) : dec l = (dec (l.drop 0)).map (([] : List Nat) ++ ·) := by
  cases h : dec l <;> simp [h]
end Go.Proofs.YbulkbbqaFmt
