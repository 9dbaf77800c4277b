/- slices.Clone at []uint64 (7), at every slice; what an owned row of uint64 looks like. -/
import Derived.Test.YbulkbbqaFmtDec
import Derived.Lib.SmallJoins
namespace Go.Proofs.YbulkbbqaFmt
open Go.RowKit Go.Extern.Stop Go.Stop Go.Extern
set_option linter.unusedVariables false
set_option linter.unusedSimpArgs false

/-- A []uint64 that came in: its numbers ds. -/
structure U64At (w : World) (a : Option Addr) (n : Nat) (ds : List Nat) : Prop where
  len : ds.length = n
  nil : a = none → n = 0
  cell : ∀ ad, a = some ad → ∀ j u, (u64s ds)[j]? = some u → w.cell? (ad.add j) = some u

def CL (n : Nat) (ds : List Nat) (w : World) (e : Ending) (w' : World) : Prop := ∃ v', e = .returned v' ∧ w'.ownsRow w.heap.size 25 1 v' n (u64s ds) ∧ Below w.heap.size w w'

theorem u64s_length (ds : List Nat) : (u64s ds).length = ds.length := by simp [u64s]
theorem u64s_one (ds : List Nat) : ∀ u ∈ u64s ds, u.oneCell' = true := by
  intro u hu
  simp [u64s] at hu
  obtain ⟨x, _, rfl⟩ := hu
  rfl

set_option maxHeartbeats 400000 in
theorem clone_any (a : Option Addr) (n c : Nat) (ds : List Nat) (w : World) (h : U64At w a n ds) (hn : n ≤ 1024) : Calls Ybaf.prog 7 #[.slice a n c] w fun e w' => CL n ds w e w' := by
  have heql : ∀ w a n c, (binOp .eql 23 (.slice a n c) (.slice none 0 0)).run Ybaf.prog w = .ok (.bool a.isNone) w := fun w a n c => Lib.run_eql_slice_nil w 23 25 a n c 0 0 Ybaf.underlying23
  obtain ⟨i0, hi, hz0, hz1, hz2⟩ := info_parts info25
  cases a with
  | none =>
    have hn0 := h.nil rfl
    subst hn0
    have hds : ds = [] := List.eq_nil_of_length_eq_zero h.len
    subst hds
    go_enter Ybaf.func7, Ybaf.ntmps7
    go_wp2
    go_ret
    exact ⟨_, rfl, World.ownsRow_nil _ _ _ _, Below.refl _ _⟩
  | some ad =>
    have hlen := h.len
    have HC : Hid (∀ j u, (u64s ds)[j]? = some u → w.cell? (ad.add j) = some u) := h.cell ad rfl
    clear h
    go_enter Ybaf.func7, Ybaf.ntmps7
    go_wp2_with (at_builtin; refine wpList_append_own _ rfl _ _ 23 rfl w.heap.size 25 i0 (.int .u64 0) 1 8 Ybaf.underlying23 hi hz0 hz1 hz2 rfl (by decide) _ 0 [] rfl (World.ownsRow_lit w #[] 0 (Nat.le_refl _) (by unfold maxLen; omega) rfl) ad n c (u64s ds) rfl ?c0 ?c1 ?c2 ?c3 ?c4 ?c5 ?_)
    case c0 => rw [u64s_length]; omega
    case c1 => intro j u hu; exact cell_later ((Below.refl _ _).alloc (Nat.le_refl _) _) (HC.out j u hu)
    case c2 => exact u64s_one ds
    case c3 => unfold maxLen; omega
    case c4 => omega
    case c5 => simp
    intro v' w1 hown hgrow _
    have hb : Below w.heap.size w w1 := ((Below.refl _ _).alloc (Nat.le_refl _) _).grown hgrow (by simp) (fun k hk => by simp [Value.ownBlock] at hk; omega)
    have HO : Hid (w1.ownsRow w.heap.size 25 1 v' n (u64s ds)) := by
      show w1.ownsRow w.heap.size 25 1 v' n (u64s ds)
      simpa using hown
    clear hown hgrow
    go_wp2
    go_ret
    exact ⟨_, rfl, HO.out, hb⟩

/-- An owned row of uint64, as the walk wants it. -/
theorem own_row {w : World} {B n : Nat} {v : Value} {ds : List Nat} (h : w.ownsRow B 25 1 v n (u64s ds)) (hb : B ≤ w.heap.size) : ∃ ao cap g, v = .slice ao n cap ∧ ds.length = n ∧ (0 < n → ao = some ⟨g, 0, none⟩) ∧ (0 < n → g < w.heap.size) ∧ (ao = none → v = .slice none 0 0 ∧ n = 0) ∧ ∀ j (hj : j < ds.length), w.cell? ⟨g, j, none⟩ = some (.int .u64 (ds[j] : Int)) := by
  have hlen : ds.length = n := by have := h.1; rw [u64s_length] at this; omega
  rcases Joins.ownsRow_forms h with ⟨rfl, rfl⟩ | ⟨g, cap, rfl⟩
  · exact ⟨none, 0, 0, rfl, hlen, fun h => by omega, fun h => by omega, fun _ => ⟨rfl, rfl⟩, fun j hj => by omega⟩
  · have hc : ∀ j (hj : j < ds.length), w.cell? ⟨g, j, none⟩ = some (.int .u64 (ds[j] : Int)) := fun j hj => by
      rw [h.cellAt j (by omega)]; simp [u64s, hj]
    exact ⟨some ⟨g, 0, none⟩, cap, g, rfl, hlen, fun _ => rfl, fun h0 => World.block_lt_of_cell? _ _ (hc 0 (by omega)), fun h => (by cases h), hc⟩
#print axioms clone_any
end Go.Proofs.YbulkbbqaFmt
