/- ReadPackedVarints (8). -/
import Derived.Test.YbulkbbqaFmtRead
import Derived.Deep.LoopGhost
namespace Go.Proofs.YbulkbbqaFmt
open Go.RowKit Go.Extern.Stop Go.Stop Go.Extern
set_option linter.unusedVariables false
set_option linter.unusedSimpArgs false

theorem info25 : (Ybaf.prog.info? 25).map (fun i => (i.zero, i.size, i.bytes)) = some (some (.int .u64 0), 1, 8) := by kernel_rfl

/-- The bytes l lie at block g from offset o on. -/
def BytesAt (w : World) (g o : Nat) (l : List UInt8) : Prop := ∀ j (hj : j < l.length), w.cell? ⟨g, o + j, none⟩ = some (.int .u8 (l[j]).toNat)

theorem BytesAt.drop {w : World} {g o : Nat} {l : List UInt8} (h : BytesAt w g o l) (p : Nat) : BytesAt w g (o + p) (l.drop p) := by
  intro j hj
  have hd : (l.drop p).length = l.length - p := List.length_drop
  have h1 := h (p + j) (by omega)
  rw [List.getElem_drop, Nat.add_assoc]; exact h1

theorem BytesAt.below {w w' : World} {g o B : Nat} {l : List UInt8} (h : BytesAt w g o l) (hb : Below B w w') (hg : l ≠ [] → g < B) : BytesAt w' g o l := by
  intro j hj
  rw [hb.cell (by exact hg (fun e => by subst e; simp at hj))]; exact h j hj

def u64s (vs : List Nat) : List Value := vs.map fun (v : Nat) => Value.int .u64 (v : Int)

/-- What ReadPackedVarints leaves. -/
def RP (B : Nat) (l : List UInt8) (dn : Nat) (ds : List Value) (w : World) (e : Ending) (w' : World) : Prop :=
  (∃ vs v', dec l = some vs ∧ vs.length ≤ l.length ∧ e = .returned (.tuple #[v', .nilIface]) ∧ w'.ownsRow B 25 1 v' (dn + vs.length) (ds ++ u64s vs) ∧ Below B w w') ∨
  (dec l = none ∧ ∃ b, e = .returned (.tuple #[.slice none 0 0, .iface 60 (.pointer (some ⟨b, 0, none⟩))]) ∧ Below B w w')

theorem own_from {w : World} {B e size n : Nat} {v : Value} {xs : List Value} (h : w.ownsRow B e size v n xs) : ∀ k, v.ownBlock = some k → B ≤ k := by
  intro k hk
  rcases h.2 with ⟨rfl, _⟩ | ⟨g, cap, cur, rfl, hb, _⟩
  · simp [Value.ownBlock] at hk
  · simp [Value.ownBlock] at hk; omega

/-- The loop's relation. -/
def RL (B g o n c dn : Nat) (l : List UInt8) (ds : List Value) (w : World) (k : Nat) (b d i : Value) (wr : World) : Prop :=
  ∃ (p : Nat) (vs : List Nat) (ao : Option Addr), p ≤ n ∧ vs.length ≤ p ∧ k = n - p ∧ b = .slice ao (n - p) (c - p) ∧ (p < n → ao = some ⟨g, o + p, none⟩) ∧ i = .int .i64 vs.length ∧ wr.ownsRow B 25 1 d (dn + vs.length) (ds ++ u64s vs) ∧ Below B w wr ∧ dec l = (dec (l.drop p)).map (vs ++ ·)

set_option maxHeartbeats 1000000 in
theorem readPacked_any (F : Interp) (B g o n c dn : Nat) (ao : Option Addr) (l : List UInt8) (dv : Value) (ds : List Value) (w : World) (hF : F.answers w.tape) (hl : l.length = n) (hnc : n ≤ c) (hc : c ≤ maxLen) (hn : n ≤ 10240) (hdn : dn ≤ 1024) (had : 0 < n → ao = some ⟨g, o, none⟩) (hcell : BytesAt w g o l) (hg : 0 < n → g < B) (hB : B ≤ w.heap.size) (hown : w.ownsRow B 25 1 dv dn ds) :
    Calls Ybaf.prog 8 #[.slice ao n c, dv] w fun e w' => RP B l dn ds w e w' := by
  obtain ⟨i0, hi, hz0, hz1, hz2⟩ := info_parts info25
  unfold maxLen at hc
  have HF : Hid (F.answers w.tape) := hF
  have HC : Hid (BytesAt w g o l) := hcell
  have HOWN : Hid (w.ownsRow B 25 1 dv dn ds) := hown
  have HAD : Hid (0 < n → ao = some ⟨g, o, none⟩) := had
  have HG : Hid (0 < n → g < B) := hg
  clear hF hcell hown had hg
  go_enter Ybaf.func8, Ybaf.ntmps8
  go_wp2
  go_loopg [0, 1, 6] n (fun k b d i wr => RL B g o n c dn l ds w k b d i wr)
  case atStart => exact ⟨0, [], ao, Nat.zero_le _, by simp, rfl, rfl, HAD.out, rfl, by simpa [u64s] using HOWN.out, Below.refl _ _, dec_start l⟩
  case round =>
    obtain ⟨p, vs, ao', hp, hvp, rfl, rfl, hao, rfl, hor, hbr, hdec⟩ := hrel
    have HOR : Hid (wr.ownsRow B 25 1 u1 (dn + vs.length) (ds ++ u64s vs)) := hor
    have HBR : Hid (Below B w wr) := hbr
    have HDEC : Hid (dec l = (dec (l.drop p)).map (vs ++ ·)) := hdec
    have HAO : Hid (p < n → ao' = some ⟨g, o + p, none⟩) := hao
    clear hor hbr hdec hao
    by_cases hpn : p < n
    · have ha := HAO.out hpn
      subst ha
      have hld : (l.drop p).length = n - p := by rw [List.length_drop, hl]
      have hne : l.drop p ≠ [] := fun e => by rw [e] at hld; simp at hld; omega
      have hrv := readVarint_any F g (o + p) (n - p) (c - p) (l.drop p) wr (by rw [HBR.out.tape]; exact HF.out) hld ((HC.out.below HBR.out (fun _ => HG.out (by omega))).drop p)
      obtain ⟨v, hv⟩ : ∃ v, (Lib.uvarintDec (l.drop p)).1 = v := ⟨_, rfl⟩
      obtain ⟨m, hm⟩ : ∃ m, (Lib.uvarintDec (l.drop p)).2 = m := ⟨_, rfl⟩
      rw [hv, hm] at hrv
      have HV : Hid ((Lib.uvarintDec (l.drop p)).1 = v) := hv
      have HM : Hid ((Lib.uvarintDec (l.drop p)).2 = m) := hm
      by_cases hpos : 0 < m
      · have hb := dec_bounds (l.drop p) (by omega)
        rw [hm, hld] at hb
        obtain ⟨q, rfl⟩ : ∃ q : Nat, m = (q : Int) := ⟨m.toNat, by omega⟩
        have HRV : Hid (Calls Ybaf.prog 16 #[.slice (some ⟨g, o + p, none⟩) (n - p) (c - p), .bool false] wr fun e w' => e = .returned (.tuple #[.int .u64 v, .int .i64 q, .nilIface]) ∧ wr = w') := by
          refine hrv.mono fun e w' h => ?_
          rcases h with ⟨_, h1, h2⟩ | ⟨h, _⟩
          · exact ⟨h1, h2.symm⟩
          · omega
        have hq1 : 1 ≤ q := by omega
        have hq2 : q ≤ n - p := by omega
        have hBr : B ≤ wr.heap.size := Nat.le_trans hB HBR.out.size
        clear hrv hv hm hb hpos
        go_wp2_with (first | (go_at_call 16; refine (HRV.out).mono ?_; rintro e w' ⟨rfl, rfl⟩) | (at_builtin; refine wpList_append_own _ rfl _ _ 23 rfl B 25 i0 (.int .u64 0) 1 8 Ybaf.underlying23 hi hz0 hz1 hz2 rfl (by decide) _ _ _ rfl (HOR.out.alloc _) ⟨wr.heap.size, 0, none⟩ 1 1 [.int .u64 v] rfl rfl ?c1 ?c2 ?c3 ?c4 ?c5 ?_))
        case c1 => exact cell_one_new _ _ _
        case c2 => intro u hu; simp at hu; subst hu; rfl
        case c3 => unfold maxLen; omega
        case c4 => omega
        case c5 => simp; omega
        · intro v' w1 hown' hgrow _
          have hbel : Below B w w1 := (HBR.out.alloc hBr _).grown hgrow (by simp; omega) (own_from HOR.out)
          have HO1 : Hid (w1.ownsRow B 25 1 v' (dn + vs.length + 1) (ds ++ (u64s vs ++ [Value.int IntKind.u64 (v : Int)]))) := hown'
          have HB1 : Hid (Below B w w1) := hbel
          clear hown' hgrow hbel
          have hq3 : (q : Int) ≤ ((n - p : Nat) : Int) := by omega
          have hq4 : ((n - p : Nat) : Int) ≤ ((c - p : Nat) : Int) := by omega
          have hdm := dec_more HDEC.out hne (by rw [HM.out]; omega)
          rw [HV.out, HM.out] at hdm
          rw [Int.toNat_natCast] at hdm
          have HDM : Hid (dec l = (dec (l.drop (p + q))).map ((vs ++ [v]) ++ ·)) := hdm
          have HO2 : Hid (w1.ownsRow B 25 1 v' (dn + (vs ++ [v]).length) (ds ++ u64s (vs ++ [v]))) := by
            have h := HO1.out
            have e1 : dn + (vs ++ [v]).length = dn + vs.length + 1 := by simp; omega
            have e2 : u64s (vs ++ [v]) = u64s vs ++ [Value.int IntKind.u64 (v : Int)] := by simp [u64s]
            show w1.ownsRow B 25 1 v' (dn + (vs ++ [v]).length) (ds ++ u64s (vs ++ [v]))
            rw [e1, e2]; exact h
          clear hdm HO1
          go_wp2
          · go_roundg (n - (p + q))
            case measure => omega
            case rel => exact ⟨p + q, vs ++ [v], some ⟨g, o + p, none⟩, by omega, by simp; omega, rfl, by rw [show n - (p + q) = n - p - q by omega, show c - (p + q) = 0 by omega], fun h => by omega, by simp, HO2.out, HB1.out, HDM.out⟩
          · go_roundg (n - (p + q))
            case measure => omega
            case rel => exact ⟨p + q, vs ++ [v], some ⟨g, o + p + q, none⟩, by omega, by simp; omega, rfl, by rw [show n - (p + q) = n - p - q by omega, show c - (p + q) = c - p - q by omega], fun h => by rw [Nat.add_assoc], by simp, HO2.out, HB1.out, HDM.out⟩
      · have hBr : B ≤ wr.heap.size := Nat.le_trans hB HBR.out.size
        have HRV : Hid (Calls Ybaf.prog 16 #[.slice (some ⟨g, o + p, none⟩) (n - p) (c - p), .bool false] wr fun e w' => ∃ b s, wr.heap.size ≤ b ∧ e = .returned (.tuple #[.int .u64 0, .int .i64 0, .iface 60 (.pointer (some ⟨b, 0, none⟩))]) ∧ w'.cell? ⟨b, 0, none⟩ = some (.string s) ∧ Below wr.heap.size wr w') := by
          refine hrv.mono fun e w' h => ?_
          rcases h with ⟨h, _⟩ | ⟨_, h⟩
          · omega
          · exact h
        have hds := dec_stop HDEC.out hne (by rw [HM.out]; omega)
        have HDS : Hid (dec l = none) := hds
        clear hrv hv hm hds
        go_wp2_with (first | (go_at_call 16; refine (HRV.out).mono ?_; rintro e w1 ⟨b, s, hb, rfl, hs, hbel⟩; have HBE : Hid (Below wr.heap.size wr w1) := hbel; have hbl : b < w1.heap.size := World.block_lt_of_cell? _ _ hs; have hsz1 : wr.heap.size ≤ w1.heap.size := hbel.size; clear hbel) | (go_at_call 17; refine (errorfB_any F w1.heap.size vs.length ⟨b, 0, none⟩ s _ (by show F.answers w1.tape; rw [HBE.out.tape, HBR.out.tape]; exact HF.out) (by simp) (by simp) (by rw [World.cell?_alloc_lt (h := by exact hbl)]; exact hs)).mono ?_; rintro e w2 ⟨b2, s2, hb2, rfl, hs2, hbel2⟩; have HB2 : Hid (Below (w1.alloc (.cells #[.iface 3 (.int .i64 vs.length), .iface 60 (.pointer (some ⟨b, 0, none⟩))] 20)).heap.size (w1.alloc (.cells #[.iface 3 (.int .i64 vs.length), .iface 60 (.pointer (some ⟨b, 0, none⟩))] 20)) w2) := hbel2; clear hbel2))
        go_ret2
        refine .inr ⟨HDS.out, b2, rfl, ?_⟩
        exact ((HBR.out.trans (HBE.out.mono hBr)).alloc (by omega) _).trans (HB2.out.mono (by simp; omega))
    · have hpe : p = n := by omega
      subst hpe
      have hde := dec_end HDEC.out (List.drop_eq_nil_of_le (by omega))
      go_wp2
      go_ret2
      exact .inl ⟨vs, _, hde, by omega, rfl, HOR.out, HBR.out⟩
#print axioms readPacked_any
end Go.Proofs.YbulkbbqaFmt
