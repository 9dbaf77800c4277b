/- LawS2639BRoundTrip (4): the walk. -/
import Derived.Test.YbulkbbqaFmtLawB
import Derived.Test.YbulkbbqaFmtEnc
import Derived.Deep.QuietTactic
import Derived.ProofKit
import Derived.BigQuiet
namespace Go.Proofs.YbulkbbqaFmt
open Go.RowKit Go.Extern.Stop Go.Stop Go.Extern Go.ChangeShapes Go.WideShapes
set_option linter.unusedVariables false
set_option linter.unusedSimpArgs false

theorem U64At.below {w w' : World} {a : Option Addr} {n : Nat} {ds : List Nat} (h : U64At w a n ds) (hb : Below w.heap.size w w') : U64At w' a n ds :=
  ⟨h.len, h.nil, fun ad had j u hu => by
    have hc := h.cell ad had j u hu
    rw [hb.cell (World.block_lt_of_cell? _ _ hc)]; exact hc⟩

theorem own_bytes {w : World} {B n : Nat} {v : Value} {l : List UInt8} (h : w.ownsRow B 5 1 v n (Lib.byteCells l)) (hn : l.length = n) : ∃ ao cap g, v = .slice ao n cap ∧ n ≤ cap ∧ cap ≤ maxLen ∧ (0 < n → ao = some ⟨g, 0, none⟩) ∧ (0 < n → g < w.heap.size) ∧ BytesAt w g 0 l := by
  have h' := h
  rcases h'.2 with ⟨rfl, h0⟩ | ⟨g, cap, cur, rfl, hb, _, hcap, hm, _⟩
  · subst h0
    exact ⟨none, 0, 0, rfl, Nat.le_refl _, by unfold maxLen; omega, fun h => by omega, fun h => by omega, fun j hj => by omega⟩
  · have hc : BytesAt w g 0 l := fun j hj => by
      rw [Nat.zero_add, h.cellAt j (by omega)]; simp [Lib.byteCells, hj]
    exact ⟨some ⟨g, 0, none⟩, cap, g, rfl, hcap, hm, fun _ => rfl, fun h0 => World.block_lt_of_cell? _ _ (hc 0 (by omega)), hc⟩

theorem byteCells_append (a b : List UInt8) : Lib.byteCells (a ++ b) = Lib.byteCells a ++ Lib.byteCells b := by simp [Lib.byteCells]

/-- The writing loop's relation. -/
def WL (w : World) (vs : List Nat) (b i : Value) (wr : World) : Prop :=
  ∃ k : Nat, k ≤ vs.length ∧ i = .int .i64 k ∧ wr.ownsRow w.heap.size 5 1 b (encs (vs.take k)).length (Lib.byteCells (encs (vs.take k))) ∧ Below w.heap.size w wr

set_option maxHeartbeats 1000000 in
theorem lawRT_walk (F : Interp) (a0 : Option Addr) (n c0 : Nat) (vs : List Nat) (a1 : Option Addr) (m c1 : Nat) (ds : List Nat) (w : World) (hF : F.answers w.tape) (hb : U64At w a0 n vs) (hx : ∀ x ∈ vs, x < 18446744073709551616) (hd : U64At w a1 m ds) (hn : n ≤ maxLen) (hm : m ≤ maxLen) :
    Calls Ybaf.prog 4 #[.slice a0 n c0, .slice a1 m c1] w fun e w' => e = .returned (.bool true) ∧ Below w.heap.size w w' := by
  unfold maxLen at hn hm
  by_cases h1 : 1024 < n
  · have h1' : (1024 : Int) < (n : Int) := by omega
    clear hb hd hx
    go_enter Ybaf.func4, Ybaf.ntmps4
    go_wp2
    go_ret
    exact ⟨rfl, Below.refl _ _⟩
  have h1' : decide ((1024 : Int) < (n : Int)) = false := by simp; omega
  by_cases h2 : 1024 < m
  · have h2' : (1024 : Int) < (m : Int) := by omega
    clear hb hd hx
    go_enter Ybaf.func4, Ybaf.ntmps4
    go_wp2
    go_ret
    exact ⟨rfl, Below.refl _ _⟩
  have h2' : ¬ (1024 : Int) < (m : Int) := by omega
  have hlv : vs.length = n := hb.len
  subst hlv
  have HB : Hid (U64At w a0 vs.length vs) := hb
  have HX : Hid (∀ x ∈ vs, x < 18446744073709551616) := hx
  have HD : Hid (U64At w a1 m ds) := hd
  have HF : Hid (F.answers w.tape) := hF
  clear hb hd hF hx
  go_enter Ybaf.func4, Ybaf.ntmps4
  go_wp2
  go_loopw [5, 6] (fun b i wr => WL w vs b i wr) (fun b i _ => vs.length - (intOf i).toNat)
  case atStart => exact ⟨0, Nat.zero_le _, rfl, by simp [encs, Lib.byteCells, World.ownsRow], Below.refl _ _⟩
  case round =>
    obtain ⟨k, hk, rfl, hor, hbr⟩ := hrel
    have HOR : Hid (wr.ownsRow w.heap.size 5 1 u5 (encs (vs.take k)).length (Lib.byteCells (encs (vs.take k)))) := hor
    have HBR : Hid (Below w.heap.size w wr) := hbr
    clear hor hbr
    by_cases hkn : k < vs.length
    · obtain ⟨g3, o3, rfl, hg3, hc3⟩ := u64_in HB.out (by omega)
      have f1 : wr.cell? ⟨g3, o3 + k, none⟩ = some (.int .u64 (vs[k] : Int)) := by rw [HBR.out.cell (by exact hg3)]; exact hc3 k hkn
      have hlen : (encs (vs.take k)).length ≤ 10240 := by
        have := encs_length (vs.take k) (fun x hx => HX.out x (List.mem_of_mem_take hx))
        have e : (vs.take k).length = k := by simp; omega
        omega
      have HAP : Hid (Calls Ybaf.prog 10 #[u5, .int .u64 (vs[k] : Int)] wr fun e w' => ∃ v', e = .returned v' ∧ w'.ownsRow w.heap.size 5 1 v' ((encs (vs.take k)).length + (Lib.uvarint vs[k]).length) (Lib.byteCells (encs (vs.take k)) ++ Lib.byteCells (Lib.uvarint vs[k])) ∧ Below w.heap.size wr w') :=
        Ybaf.binary_AppendUvarint w.heap.size (encs (vs.take k)).length vs[k] (HX.out _ (List.getElem_mem hkn)) u5 _ wr HOR.out HBR.out.size (by omega)
      have hsnoc := encs_take vs k hkn
      have HSN : Hid (encs (vs.take (k + 1)) = encs (vs.take k) ++ Lib.uvarint vs[k]) := hsnoc
      obtain ⟨x, hxk⟩ : ∃ x : Nat, vs[k] = x := ⟨_, rfl⟩
      rw [hxk] at f1 HAP HSN
      have i1 : (k : Int) < (vs.length : Int) := by omega
      clear hc3 hsnoc hxk
      go_wp2_with fail
      refine (HAP.out).mono ?_
      rintro e w2 ⟨v', rfl, ho2, hb2⟩
      have HO2 : Hid (w2.ownsRow w.heap.size 5 1 v' (encs (vs.take (k + 1))).length (Lib.byteCells (encs (vs.take (k + 1))))) := by
        show w2.ownsRow w.heap.size 5 1 v' (encs (vs.take (k + 1))).length (Lib.byteCells (encs (vs.take (k + 1))))
        rw [HSN.out, byteCells_append, List.length_append]; exact ho2
      have HB2 : Hid (Below w.heap.size w w2) := HBR.out.trans hb2
      clear ho2 hb2 HAP HSN
      go_wp2
      go_roundw
      case rel => exact ⟨k + 1, by omega, by go_num, HO2.out, HB2.out⟩
      case measure => simp [intOf]; omega
    · obtain rfl : k = vs.length := by omega
      obtain ⟨w0, rfl⟩ : ∃ w0, w0 = wr := ⟨_, rfl⟩
      have hor := HOR.out
      rw [List.take_length] at hor
      obtain ⟨ab, cb, gb, rfl, hcb, hcbm, hab, hgb, hbb⟩ := own_bytes hor rfl
      have hlen : (encs vs).length ≤ 10240 := by
        have := encs_length vs HX.out
        omega
      have hsz0 := HBR.out.size
      have HCLONE : Hid (Calls Ybaf.prog 7 #[.slice a1 m c1] w0 fun e w' => CL m ds w0 e w') := clone_any a1 m c1 ds w0 (HD.out.below HBR.out) (by omega)
      have HAB : Hid (0 < (encs vs).length → ab = some ⟨gb, 0, none⟩) := hab
      have HGB : Hid (0 < (encs vs).length → gb < w0.heap.size) := hgb
      have HBB : Hid (BytesAt w0 gb 0 (encs vs)) := hbb
      have HCM : Hid (cb ≤ maxLen) := hcbm
      clear hor hab hgb hbb hcbm HOR
      go_wp2_with fail
      refine (HCLONE.out).mono ?_
      rintro e wA ⟨dv, rfl, hoA, hbA⟩
      have HRP : Hid (Calls Ybaf.prog 8 #[.slice ab (encs vs).length cb, dv] wA fun e w' => RP w0.heap.size (encs vs) m (u64s ds) wA e w') :=
        readPacked_any F w0.heap.size gb 0 (encs vs).length cb m ab (encs vs) dv (u64s ds) wA (by rw [hbA.tape, HBR.out.tape]; exact HF.out) rfl hcb HCM.out hlen (by omega) HAB.out (HBB.out.below hbA (fun hne => HGB.out (List.length_pos_iff.2 hne))) HGB.out hbA.size hoA
      have HBA : Hid (Below w0.heap.size w0 wA) := hbA
      clear hoA hbA HCLONE
      have HEN : Hid (dec (encs vs) = some vs) := dec_encs vs HX.out
      go_wp2_with fail
      refine (HRP.out).mono ?_
      intro e wC hrp
      rcases hrp with ⟨vs', v', hdv, hvl, rfl, hoB, hbC⟩ | ⟨hdn, _⟩
      · rw [HEN.out] at hdv
        obtain rfl : vs = vs' := Option.some.inj hdv
        have hlds := HD.out.len
        have hlB : w0.heap.size ≤ wC.heap.size := (HBA.out.trans hbC).size
        have hoB' : wC.ownsRow w0.heap.size 25 1 v' (m + vs.length) (u64s (ds ++ vs)) := by
          have e : u64s (ds ++ vs) = u64s ds ++ u64s vs := by simp [u64s]
          rw [e]; exact hoB
        obtain ⟨ao1, cp1, g1, rfl, hl1, had1, hg1, _, hc1⟩ := own_row hoB' hlB
        have hin := u64_in HD.out
        have hin2 := u64_in HB.out
        have HBC : Hid (Below w.heap.size w wC) := HBR.out.trans ((HBA.out.trans hbC).mono hsz0)
        have HG : Hid (∀ j (hj : j < (ds ++ vs).length), wC.cell? ⟨g1, j, none⟩ = some (.int .u64 ((ds ++ vs)[j] : Int))) := hc1
        have HIN : Hid (0 < m → ∃ g o, a1 = some ⟨g, o, none⟩ ∧ g < w.heap.size ∧ ∀ j (hj : j < ds.length), w.cell? ⟨g, o + j, none⟩ = some (.int .u64 (ds[j] : Int))) := hin
        have HIN2 : Hid (0 < vs.length → ∃ g o, a0 = some ⟨g, o, none⟩ ∧ g < w.heap.size ∧ ∀ j (hj : j < vs.length), w.cell? ⟨g, o + j, none⟩ = some (.int .u64 (vs[j] : Int))) := hin2
        have HAD1 : Hid (0 < m + vs.length → ao1 = some ⟨g1, 0, none⟩) := had1
        clear hoB' hoB hbC hc1 hin hin2 had1 hg1 hdv hl1 hvl HRP HBA HBB HAB HGB HEN
        go_wp2
        go_loopw [10] (fun i wr => ∃ k q : Nat, k ≤ m ∧ i = .int .i64 k ∧ wr = wC.drewN q) (fun i _ => m - (intOf i).toNat)
        case atStart => exact ⟨0, 0, Nat.zero_le _, rfl, rfl⟩
        case round =>
          obtain ⟨k, q, hk, rfl, rfl⟩ := hrel
          by_cases hkm : k < m
          · obtain ⟨g3, o3, rfl, hg3, hc3⟩ := HIN.out (by omega)
            have ha1 := HAD1.out (by omega)
            subst ha1
            have f1 : wC.cell? ⟨g1, k, none⟩ = some (.int .u64 (ds[k]'(by omega) : Int)) := by rw [HG.out k (by simp; omega)]; rw [app_left ds vs k (by omega)]
            have f2 : wC.cell? ⟨g3, o3 + k, none⟩ = some (.int .u64 (ds[k]'(by omega) : Int)) := by rw [HBC.out.cell (by exact hg3)]; exact hc3 k (by omega)
            obtain ⟨X, hX⟩ : ∃ X : Int, ((ds[k]'(by omega) : Nat) : Int) = X := ⟨_, rfl⟩
            rw [hX] at f1 f2
            have i1 : (k : Int) < (m : Int) := by omega
            have i2 : (k : Int) < ((m + vs.length : Nat) : Int) := by omega
            have i3 : (k : Int) < (m : Int) + (vs.length : Int) := by omega
            clear hc3 hX
            go_wp2
            go_quiet (fail)
            go_wp2
            go_roundw
            case rel => exact ⟨k + 1, q + nq, by omega, by go_num, by simp⟩
            case measure => simp [intOf]; omega
          · have hke : k = m := by omega
            subst hke
            go_wp2
            go_loopw [11] (fun i wr => ∃ k2 q2 : Nat, k2 ≤ vs.length ∧ i = .int .i64 k2 ∧ wr = wC.drewN q2) (fun i _ => vs.length - (intOf i).toNat)
            case atStart => exact ⟨0, q, Nat.zero_le _, rfl, rfl⟩
            case round =>
              obtain ⟨k2, q2, hk2, rfl, rfl⟩ := hrel
              by_cases hkv : k2 < vs.length
              · have ha1 := HAD1.out (by omega)
                subst ha1
                obtain ⟨g2, o2, rfl, hg2, hc2⟩ := HIN2.out (by omega)
                have f1 : wC.cell? ⟨g1, k + k2, none⟩ = some (.int .u64 (vs[k2]'(by omega) : Int)) := by
                  rw [HG.out (k + k2) (by simp; omega)]
                  have e := app_right ds vs k2 hkv
                  simp only [hlds] at e
                  rw [e]
                have f2 : wC.cell? ⟨g2, o2 + k2, none⟩ = some (.int .u64 (vs[k2]'(by omega) : Int)) := by rw [HBC.out.cell (by exact hg2)]; exact hc2 k2 hkv
                obtain ⟨X, hX⟩ : ∃ X : Int, ((vs[k2]'(by omega) : Nat) : Int) = X := ⟨_, rfl⟩
                rw [hX] at f1 f2
                have i1 : (k2 : Int) < (vs.length : Int) := by omega
                have i2 : (k : Int) + (k2 : Int) < ((k + vs.length : Nat) : Int) := by omega
                have i3 : (k : Int) + (k2 : Int) < (k : Int) + (vs.length : Int) := by omega
                have i4 : (0 : Int) ≤ (k : Int) + (k2 : Int) := by omega
                clear hX hc2
                go_wp2
                go_quiet (fail)
                go_wp2
                go_roundw
                case rel => exact ⟨k2 + 1, q2 + nq, by omega, by go_num, by simp⟩
                case measure => simp [intOf]; omega
              · go_wp2
                go_ret
                exact ⟨rfl, below_draw HBC.out _⟩
      · rw [HEN.out] at hdn; cases hdn
#print axioms lawRT_walk
end Go.Proofs.YbulkbbqaFmt
