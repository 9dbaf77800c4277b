/- readVarint (16), ReadPackedVarints (8). -/
import Derived.Test.YbulkbbqaFmtErr
import Derived.Test.YbulkbbqaFmtShelf
import Derived.Test.YbulkbbqaFmtMath
import Derived.Deep.AppendLies
namespace Go.Proofs.YbulkbbqaFmt
open Go.RowKit Go.Extern.Stop Go.Stop Go.Extern
set_option linter.unusedVariables false
set_option linter.unusedSimpArgs false

/-- What readVarint leaves where binary.Uvarint answers (v, m). -/
def RV (v : Nat) (m : Int) (w : World) (e : Ending) (w' : World) : Prop :=
  (0 < m ∧ e = .returned (.tuple #[.int .u64 v, .int .i64 m, .nilIface]) ∧ w' = w) ∨
  (m ≤ 0 ∧ ∃ b s, w.heap.size ≤ b ∧ e = .returned (.tuple #[.int .u64 0, .int .i64 0, .iface 60 (.pointer (some ⟨b, 0, none⟩))]) ∧ w'.cell? ⟨b, 0, none⟩ = some (.string s) ∧ Below w.heap.size w w')

theorem rv_yes {v : Nat} {m : Int} {w : World} {a b : Value} (h : 0 < m) (ha : a = .int .u64 v) (hb : b = .int .i64 m) : RV v m w (.returned (.tuple #[a, b, .nilIface])) w := by
  subst ha hb; exact .inl ⟨h, rfl, rfl⟩
theorem rv_new {v : Nat} {m : Int} {w : World} {s : ByteArray} {a b c : Value} (h : m ≤ 0) (ha : a = .int .u64 0) (hb : b = .int .i64 0) (hc : c = .iface 60 (.pointer (some ⟨w.heap.size, 0, none⟩))) : RV v m w (.returned (.tuple #[a, b, c])) (w.alloc (.cells #[.string s] 62)) := by
  subst ha hb hc; exact .inr ⟨h, _, s, Nat.le_refl _, rfl, by simp, (Below.refl _ _).alloc (Nat.le_refl _) _⟩

set_option maxHeartbeats 400000 in
theorem readVarint_any (F : Interp) (g o n c : Nat) (l : List UInt8) (w : World) (hF : F.answers w.tape) (hl : l.length = n) (hcell : ∀ j (hj : j < l.length), w.cell? ⟨g, o + j, none⟩ = some (.int .u8 (l[j]).toNat)) :
    Calls Ybaf.prog 16 #[.slice (some ⟨g, o, none⟩) n c, .bool false] w fun e w' => RV (Lib.uvarintDec l).1 (Lib.uvarintDec l).2 w e w' := by
  have hu := Ybaf.binary_Uvarint g o n c l w hl hcell
  obtain ⟨v, hv⟩ : ∃ v, (Lib.uvarintDec l).1 = v := ⟨_, rfl⟩
  obtain ⟨m, hm⟩ : ∃ m, (Lib.uvarintDec l).2 = m := ⟨_, rfl⟩
  rw [hv, hm] at hu
  rw [hv, hm]
  have HU : Hid (Calls Ybaf.prog 21 #[.slice (some ⟨g, o, none⟩) n c] w fun e w' => e = .returned (.tuple #[.int .u64 v, .int .i64 m]) ∧ w = w') := hu.mono fun e w' ⟨h1, h2⟩ => ⟨h1, h2.symm⟩
  have HF : Hid (F.answers w.tape) := hF
  clear hu hv hm hcell hF hl
  have hcs : m = 0 ∨ m < -10 ∨ (-10 ≤ m ∧ m < 0) ∨ 0 < m := by omega
  rcases hcs with rfl | hm | ⟨hm1, hm2⟩ | hm
  · go_enter Ybaf.func16, Ybaf.ntmps16
    go_wp2_with (first | (go_at_call 21; refine (HU.out).mono ?_; rintro e w' ⟨rfl, rfl⟩) | (go_at_call 22; refine (errNew_any _ _).mono ?_; rintro e w' ⟨rfl, rfl⟩))
    go_ret3
    exact rv_new (by omega) rfl rfl rfl
  · have h0 : (m == 0) = false := by simp; omega
    go_enter Ybaf.func16, Ybaf.ntmps16
    go_wp2_with (first | (go_at_call 21; refine (HU.out).mono ?_; rintro e w' ⟨rfl, rfl⟩) | (go_at_call 17; refine (errorfA_any F w.heap.size 10 _ (by exact HF.out) (by simp)).mono ?_; rintro e w' ⟨b, s, hb, rfl, hs, hbel⟩))
    go_ret3
    refine .inr ⟨by omega, b, s, ?_, rfl, hs, ?_⟩
    · simp at hb; omega
    · exact ((Below.refl _ _).alloc (Nat.le_refl _) _).trans (hbel.mono (by simp))
  · have h0 : (m == 0) = false := by simp; omega
    go_enter Ybaf.func16, Ybaf.ntmps16
    go_wp2_with (first | (go_at_call 21; refine (HU.out).mono ?_; rintro e w' ⟨rfl, rfl⟩) | (go_at_call 22; refine (errNew_any _ _).mono ?_; rintro e w' ⟨rfl, rfl⟩))
    go_ret3
    exact rv_new (by omega) rfl rfl rfl
  · have h0 : (m == 0) = false := by simp; omega
    go_enter Ybaf.func16, Ybaf.ntmps16
    go_wp2_with (first | (go_at_call 21; refine (HU.out).mono ?_; rintro e w' ⟨rfl, rfl⟩))
    go_ret3
    exact rv_yes hm rfl rfl
#print axioms readVarint_any
end Go.Proofs.YbulkbbqaFmt
