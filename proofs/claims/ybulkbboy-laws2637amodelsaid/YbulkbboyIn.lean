/- THE RUNS THAT CAME IN ('rs'), AND 7 (zzs2637asize). -/
import Derived.Test.YbulkbboyInv
namespace Go.Proofs.Ybulkbboy
open Go.ChangeShapes Go.WideShapes Go.ChangeAt Go.RowKit
set_option linter.unusedVariables false
set_option linter.unusedSimpArgs false

/-- What the elements of 'rs' hold, by their index. -/
structure Inp where
  ha : Nat → Option Addr
  hl : Nat → Nat
  hc : Nat → Nat
  sk : Nat → Int
  mo : Nat → Bool
  po : Nat → ByteArray
  ne : Nat → ByteArray
  up : Nat → Bool
  pa : Nat → Option Addr
  pl : Nat → Nat
  pc : Nat → Nat
  id : Nat → Nat → ByteArray
  key : Nat → Nat → Int
  ps : Nat → Nat → ByteArray

/-- Element i lies in w at block b, from offset o on. -/
structure ElAt (I : Inp) (w : World) (b o i : Nat) : Prop where
  c0 : w.cell? ⟨b, o, none⟩ = some (.slice (I.ha i) (I.hl i) (I.hc i))
  c1 : w.cell? ⟨b, o + 1, none⟩ = some (.int .u16 (I.sk i))
  c2 : w.cell? ⟨b, o + 2, none⟩ = some (.bool (I.mo i))
  c3 : w.cell? ⟨b, o + 3, none⟩ = some (.string (I.po i))
  c4 : w.cell? ⟨b, o + 4, none⟩ = some (.string (I.ne i))
  c5 : w.cell? ⟨b, o + 5, none⟩ = some (.bool (I.up i))
  c6 : w.cell? ⟨b, o + 6, none⟩ = some (.slice (I.pa i) (I.pl i) (I.pc i))
  sk0 : 0 ≤ I.sk i ∧ I.sk i ≤ 65535
  hits : 0 < I.hl i → ∃ hb ho, I.ha i = some ⟨hb, ho, none⟩ ∧ ∀ j, j < I.hl i → w.cell? ⟨hb, ho + j * 2, none⟩ = some (.string (I.id i j)) ∧ w.cell? ⟨hb, ho + j * 2 + 1, none⟩ = some (.int .i64 (I.key i j))
  poss : 0 < I.pl i → ∃ pb po, I.pa i = some ⟨pb, po, none⟩ ∧ ∀ j, j < I.pl i → w.cell? ⟨pb, po + j, none⟩ = some (.string (I.ps i j))
  hlm : I.hl i ≤ maxLen
  plm : I.pl i ≤ maxLen

/-- The slice 'rs'. -/
structure InAt (I : Inp) (w : World) (a : Option Addr) (n c b off : Nat) : Prop where
  ad : 0 < n → a = some ⟨b, off, none⟩
  el : ∀ i, i < n → ElAt I w b (off + i * 7) i
  nm : n ≤ maxLen

theorem cell_bel {w w' : World} (hb : Below w.heap.size w w') {a : Addr} {u : Value} (h : w.cell? a = some u) : w'.cell? a = some u := by
  rw [hb.cell (World.block_lt_of_cell? _ _ h)]; exact h

theorem ElAt.below {I : Inp} {w w' : World} {b o i : Nat} (h : ElAt I w b o i) (hb : Below w.heap.size w w') : ElAt I w' b o i := by
  refine ⟨cell_bel hb h.c0, cell_bel hb h.c1, cell_bel hb h.c2, cell_bel hb h.c3, cell_bel hb h.c4, cell_bel hb h.c5, cell_bel hb h.c6, h.sk0, fun h0 => ?_, fun h0 => ?_, h.hlm, h.plm⟩
  · obtain ⟨x, y, e, hc⟩ := h.hits h0
    exact ⟨x, y, e, fun j hj => ⟨cell_bel hb (hc j hj).1, cell_bel hb (hc j hj).2⟩⟩
  · obtain ⟨x, y, e, hc⟩ := h.poss h0
    exact ⟨x, y, e, fun j hj => cell_bel hb (hc j hj)⟩

theorem InAt.below {I : Inp} {w w' : World} {a : Option Addr} {n c b off : Nat} (h : InAt I w a n c b off) (hb : Below w.heap.size w w') : InAt I w' a n c b off :=
  ⟨h.ad, fun i hi => (h.el i hi).below hb, h.nm⟩

/-- What the size check answers. -/
def SizeOut (I : Inp) (n : Nat) (e : Ending) : Prop := ∃ bb : Bool, e = .returned (.bool bb) ∧ (bb = true → n ≤ 1024 ∧ ∀ i, i < n → I.hl i ≤ 1024)

set_option maxHeartbeats 400000 in
theorem size_any (I : Inp) (a : Option Addr) (n c b off : Nat) (w : World) (hin : InAt I w a n c b off) :
    Calls Yba.prog 7 #[.slice a n c] w fun e w' => SizeOut I n e ∧ w' = w := by
  by_cases h0 : 0 < n
  · have had := hin.ad h0
    subst had
    have hnm := hin.nm
    unfold maxLen at hnm
    have HIN : Hid (InAt I w (some ⟨b, off, none⟩) n c b off) := hin
    clear hin
    by_cases h1 : 1024 < n
    · go_enter Yba.func7, Yba.ntmps7
      go_wp2
      go_ret
      exact ⟨⟨false, rfl, fun h => by cases h⟩, rfl⟩
    · go_enter Yba.func7, Yba.ntmps7
      go_wp2
      go_loop [3] (fun i => ∃ k : Nat, k ≤ n ∧ i = .int .i64 k ∧ ∀ j, j < k → I.hl j ≤ 1024) (fun i => n - (intOf i).toNat)
      case atStart => exact ⟨0, Nat.zero_le _, rfl, fun j hj => by omega⟩
      case round =>
        obtain ⟨k, hk, rfl, hall⟩ := hrel
        have HA : Hid (∀ j, j < k → I.hl j ≤ 1024) := hall
        clear hall
        by_cases hlt : k < n
        · have c0 := (HIN.out.el k hlt).c0
          by_cases h2 : 1024 < I.hl k
          · go_wp2
            go_ret
            exact ⟨⟨false, rfl, fun h => by cases h⟩, rfl⟩
          · go_wp2
            go_round
            case rel =>
              refine ⟨k + 1, by omega, by go_num, fun j hj => ?_⟩
              by_cases hjk : j = k
              · subst hjk; omega
              · exact HA.out j (by omega)
            case measure => simp [intOf]; omega
        · go_wp2
          go_ret
          exact ⟨⟨true, rfl, fun _ => ⟨by omega, fun i hi => HA.out i (by omega)⟩⟩, rfl⟩
  · have hn0 : n = 0 := by omega
    subst hn0
    go_enter Yba.func7, Yba.ntmps7
    go_wp2
    refine wp_loop_rounds 1 ?_
    rw [rounds_succ]
    go_wp2
    go_ret
    exact ⟨⟨true, rfl, fun _ => ⟨by omega, fun i hi => by omega⟩⟩, rfl⟩
#print axioms size_any
end Go.Proofs.Ybulkbboy
