/- LawS2639BModel (3): the walk. -/
import Derived.Test.YbulkbbqaFmtClone
import Derived.Deep.QuietTactic
import Derived.ProofKit
import Derived.BigQuiet
namespace Go.Proofs.YbulkbbqaFmt
open Go.RowKit Go.Extern.Stop Go.Stop Go.Extern Go.ChangeShapes Go.WideShapes
set_option linter.unusedVariables false
set_option linter.unusedSimpArgs false

/-- A []byte that came in: its bytes l. -/
structure U8At (w : World) (a : Option Addr) (n c g o : Nat) (l : List UInt8) : Prop where
  len : l.length = n
  cap : n ≤ c
  capm : c ≤ maxLen
  ad : 0 < n → a = some ⟨g, o, none⟩
  cell : BytesAt w g o l
  lt : 0 < n → g < w.heap.size

/-- The end that the two laws share: got holds ds and vs, want holds vs. -/
theorem u64_in {w : World} {a : Option Addr} {n : Nat} {ds : List Nat} (h : U64At w a n ds) : 0 < n → ∃ g o, a = some ⟨g, o, none⟩ ∧ g < w.heap.size ∧ ∀ j (hj : j < ds.length), w.cell? ⟨g, o + j, none⟩ = some (.int .u64 (ds[j] : Int)) := by
  intro h0
  cases a with
  | none => have := h.nil rfl; omega
  | some ad =>
    obtain ⟨g, o, spot⟩ := ad
    have hc : ∀ j (hj : j < ds.length), w.cell? (Addr.add ⟨g, o, spot⟩ j) = some (.int .u64 (ds[j] : Int)) := fun j hj => h.cell _ rfl j _ (by simp [u64s, hj])
    have hl := h.len
    have hspot : spot = none := by simpa [Addr.add] using World.cell?_spot (hc 0 (by omega))
    subst hspot
    have hc' : ∀ j (hj : j < ds.length), w.cell? ⟨g, o + j, none⟩ = some (.int .u64 (ds[j] : Int)) := fun j hj => by have := hc j hj; rwa [add_plain] at this
    exact ⟨g, o, rfl, World.block_lt_of_cell? _ _ (hc' 0 (by omega)), hc'⟩

theorem app_left (ds vs : List Nat) (j : Nat) (hj : j < ds.length) : (ds ++ vs)[j]'(by simp; omega) = ds[j] := List.getElem_append_left hj
theorem app_right (ds vs : List Nat) (j : Nat) (hj : j < vs.length) : (ds ++ vs)[ds.length + j]'(by simp; omega) = vs[j] := by
  rw [List.getElem_append_right (by omega)]; simp

theorem below_draw {B : Nat} {w w' : World} (h : Below B w w') (n : Nat) : Below B w (w'.drewN n) := h.trans ⟨rfl, rfl, rfl, Nat.le_refl _, fun _ _ => rfl⟩

set_option maxHeartbeats 1000000 in
theorem lawB_walk (F : Interp) (a0 : Option Addr) (n c0 g o : Nat) (l : List UInt8) (a1 : Option Addr) (m c1 : Nat) (ds : List Nat) (w : World) (hF : F.answers w.tape) (hb : U8At w a0 n c0 g o l) (hd : U64At w a1 m ds) (hm : m ≤ maxLen) :
    Calls Ybaf.prog 3 #[.slice a0 n c0, .slice a1 m c1] w fun e w' => e = .returned (.bool true) ∧ Below w.heap.size w w' := by
  have hcap := hb.cap
  have hcapm := hb.capm
  unfold maxLen at hcapm hm
  by_cases h1 : 1024 < n
  · have h1' : (1024 : Int) < (n : Int) := by omega
    clear hb hd
    go_enter Ybaf.func3, Ybaf.ntmps3
    go_wp2
    go_ret
    exact ⟨rfl, Below.refl _ _⟩
  have h1' : decide ((1024 : Int) < (n : Int)) = false := by simp; omega
  by_cases h2 : 1024 < m
  · have h2' : (1024 : Int) < (m : Int) := by omega
    clear hb hd
    go_enter Ybaf.func3, Ybaf.ntmps3
    go_wp2
    go_ret
    exact ⟨rfl, Below.refl _ _⟩
  have h2' : ¬ (1024 : Int) < (m : Int) := by omega
  have heql : ∀ w a n c, (binOp .eql 23 (.slice a n c) (.slice none 0 0)).run Ybaf.prog w = .ok (.bool a.isNone) w := fun w a n c => Lib.run_eql_slice_nil w 23 25 a n c 0 0 Ybaf.underlying23
  have HU8 : Hid (U8At w a0 n c0 g o l) := hb
  have HD : Hid (U64At w a1 m ds) := hd
  have HF : Hid (F.answers w.tape) := hF
  have HCLONE : Hid (Calls Ybaf.prog 7 #[.slice a1 m c1] w fun e w' => CL m ds w e w') := clone_any a1 m c1 ds w hd (by omega)
  clear hb hd hF
  go_enter Ybaf.func3, Ybaf.ntmps3
  go_wp2_with fail
  refine (HCLONE.out).mono ?_
  rintro e wA ⟨dv, rfl, hoA, hbA⟩
  have HRP : Hid (Calls Ybaf.prog 8 #[.slice a0 n c0, dv] wA fun e w' => RP w.heap.size l m (u64s ds) wA e w') :=
    readPacked_any F w.heap.size g o n c0 m a0 l dv (u64s ds) wA (by rw [hbA.tape]; exact HF.out) HU8.out.len hcap HU8.out.capm (by omega) (by omega) HU8.out.ad (HU8.out.cell.below hbA (fun hne => HU8.out.lt (by have := List.length_pos_iff.2 hne; have := HU8.out.len; omega))) HU8.out.lt hbA.size hoA
  have HBA : Hid (Below w.heap.size w wA) := hbA
  clear hoA hbA HCLONE
  go_wp2_with fail
  refine (HRP.out).mono ?_
  intro e wB hrp
  have hbB : Below w.heap.size wA wB := by
    rcases hrp with ⟨vs, v', _, _, _, _, h⟩ | ⟨_, b, _, h⟩ <;> exact h
  have HBB : Hid (Below w.heap.size w wB) := HBA.out.trans hbB
  have hlB : w.heap.size ≤ wB.heap.size := HBB.out.size
  have HDC : Hid (Calls Ybaf.prog 9 #[.slice a0 n c0] wB fun e w' => DC l wB e w') :=
    decode_any g o n c0 a0 l wB HU8.out.len (by omega) HU8.out.ad (HU8.out.cell.below HBB.out (fun hne => HU8.out.lt (by have := List.length_pos_iff.2 hne; have := HU8.out.len; omega))) (fun h => by have := HU8.out.lt h; omega)
  clear hbB HRP HBA
  rcases hrp with ⟨vs, v', hdv, hvl, rfl, hoB, _⟩ | ⟨hdn, b, rfl, _⟩
  · have HOB : Hid (wB.ownsRow w.heap.size 25 1 v' (m + vs.length) (u64s ds ++ u64s vs)) := hoB
    have HDV : Hid (dec l = some vs) := hdv
    clear hdv hoB
    go_wp2_with fail
    refine (HDC.out).mono ?_
    intro e wC hdc
    rcases hdc with ⟨vs', v2, hd2, _, rfl, hoC, hbC⟩ | ⟨hd2, _⟩
    · rw [HDV.out] at hd2
      obtain rfl : vs = vs' := Option.some.inj hd2
      have hlds := HD.out.len
      have hszC : wB.heap.size ≤ wC.heap.size := hbC.size
      have hoB' : wB.ownsRow w.heap.size 25 1 v' (m + vs.length) (u64s (ds ++ vs)) := by
        have e : u64s (ds ++ vs) = u64s ds ++ u64s vs := by simp [u64s]
        rw [e]; exact HOB.out
      obtain ⟨ao1, cp1, g1, rfl, hl1, had1, hg1, _, hc1⟩ := own_row hoB' hlB
      obtain ⟨ao2, cp2, g2, rfl, hl2, had2, hg2, _, hc2⟩ := own_row hoC hszC
      have hin := u64_in HD.out
      have HBC : Hid (Below w.heap.size w wC) := HBB.out.trans (hbC.mono hlB)
      have HG : Hid (∀ j (hj : j < (ds ++ vs).length), wC.cell? ⟨g1, j, none⟩ = some (.int .u64 ((ds ++ vs)[j] : Int))) := fun j hj => by
        rw [hbC.cell (by exact hg1 (by omega))]; exact hc1 j hj
      have HW : Hid (∀ j (hj : j < vs.length), wC.cell? ⟨g2, j, none⟩ = some (.int .u64 (vs[j] : Int))) := hc2
      have HIN : Hid (0 < m → ∃ g o, a1 = some ⟨g, o, none⟩ ∧ g < w.heap.size ∧ ∀ j (hj : j < ds.length), w.cell? ⟨g, o + j, none⟩ = some (.int .u64 (ds[j] : Int))) := hin
      have HAD1 : Hid (0 < m + vs.length → ao1 = some ⟨g1, 0, none⟩) := had1
      have HAD2 : Hid (0 < vs.length → ao2 = some ⟨g2, 0, none⟩) := had2
      have hvn : vs.length ≤ 1024 := by have := HU8.out.len; omega
      clear hoB' hoC hbC hc1 hc2 hin had1 had2 hg1 hg2 hd2 HOB HDC HBB hl1 hl2
      go_wp2
      go_loopw [10] (fun i wr => ∃ k q : Nat, k ≤ m ∧ i = .int .i64 k ∧ wr = wC.drewN q) (fun i _ => m - (intOf i).toNat)
      case atStart => exact ⟨0, 0, Nat.zero_le _, rfl, rfl⟩
      case round =>
        obtain ⟨k, q, hk, rfl, rfl⟩ := hrel
        by_cases hkm : k < m
        · obtain ⟨g3, o3, rfl, hg3, hc3⟩ := HIN.out (by omega)
          have ha1 := HAD1.out (by omega)
          subst ha1
          have f1 : wC.cell? ⟨g1, k, none⟩ = some (.int .u64 (ds[k]'(by omega) : Int)) := by rw [HG.out k (by simp; omega)]; rw [app_left ds vs k (by omega)]
          have f2 : wC.cell? ⟨g3, o3 + k, none⟩ = some (.int .u64 (ds[k]'(by omega) : Int)) := by rw [HBC.out.cell (by exact hg3)]; exact hc3 k (by omega)
          obtain ⟨X, hX⟩ : ∃ X : Int, ((ds[k]'(by omega) : Nat) : Int) = X := ⟨_, rfl⟩
          rw [hX] at f1 f2
          have i1 : (k : Int) < (m : Int) := by omega
          have i2 : (k : Int) < ((m + vs.length : Nat) : Int) := by omega
          have i3 : (k : Int) < (m : Int) + (vs.length : Int) := by omega
          clear hc3 hX
          go_wp2
          go_quiet (fail)
          go_wp2
          go_roundw
          case rel => exact ⟨k + 1, q + nq, by omega, by go_num, by simp⟩
          case measure => simp [intOf]; omega
        · have hke : k = m := by omega
          subst hke
          go_wp2
          go_loopw [11] (fun i wr => ∃ k2 q2 : Nat, k2 ≤ vs.length ∧ i = .int .i64 k2 ∧ wr = wC.drewN q2) (fun i _ => vs.length - (intOf i).toNat)
          case atStart => exact ⟨0, q, Nat.zero_le _, rfl, rfl⟩
          case round =>
            obtain ⟨k2, q2, hk2, rfl, rfl⟩ := hrel
            by_cases hkv : k2 < vs.length
            · have ha1 := HAD1.out (by omega)
              subst ha1
              have ha2 := HAD2.out (by omega)
              subst ha2
              have f1 : wC.cell? ⟨g1, k + k2, none⟩ = some (.int .u64 (vs[k2]'(by omega) : Int)) := by
                rw [HG.out (k + k2) (by simp; omega)]
                have e := app_right ds vs k2 hkv
                simp only [hlds] at e
                rw [e]
              have f2 : wC.cell? ⟨g2, k2, none⟩ = some (.int .u64 (vs[k2]'(by omega) : Int)) := HW.out k2 hkv
              obtain ⟨X, hX⟩ : ∃ X : Int, ((vs[k2]'(by omega) : Nat) : Int) = X := ⟨_, rfl⟩
              rw [hX] at f1 f2
              have i1 : (k2 : Int) < (vs.length : Int) := by omega
              have i2 : (k : Int) + (k2 : Int) < ((k + vs.length : Nat) : Int) := by omega
              have i3 : (k : Int) + (k2 : Int) < (k : Int) + (vs.length : Int) := by omega
              have i4 : (0 : Int) ≤ (k : Int) + (k2 : Int) := by omega
              clear hX
              go_wp2
              go_quiet (fail)
              go_wp2
              go_roundw
              case rel => exact ⟨k2 + 1, q2 + nq, by omega, by go_num, by simp⟩
              case measure => simp [intOf]; omega
            · go_wp2
              go_ret
              exact ⟨rfl, below_draw HBC.out _⟩
    · rw [HDV.out] at hd2; cases hd2
  · have HDN : Hid (dec l = none) := hdn
    clear hdn
    go_wp2_with fail
    refine (HDC.out).mono ?_
    intro e wC hdc
    rcases hdc with ⟨vs', v2, hd2, _⟩ | ⟨hd2, rfl, hbC⟩
    · rw [HDN.out] at hd2; cases hd2
    · go_wp2
      go_ret
      exact ⟨rfl, HBB.out.trans (hbC.mono hlB)⟩
#print axioms lawB_walk
end Go.Proofs.YbulkbbqaFmt
