/- zzs2639bdecode (9). -/
import Derived.Test.YbulkbbqaFmtPacked
import Derived.Test.YbulkbbqaFmtBits
namespace Go.Proofs.YbulkbbqaFmt
open Go.RowKit Go.Extern.Stop Go.Stop Go.Extern
set_option linter.unusedVariables false
set_option linter.unusedSimpArgs false

/-- What zzs2639bdecode leaves. -/
def DC (l : List UInt8) (w : World) (e : Ending) (w' : World) : Prop :=
  (∃ vs v', dec l = some vs ∧ vs.length ≤ l.length ∧ e = .returned (.tuple #[v', .bool true]) ∧ w'.ownsRow w.heap.size 25 1 v' vs.length (u64s vs) ∧ Below w.heap.size w w') ∨
  (dec l = none ∧ e = .returned (.tuple #[.slice none 0 0, .bool false]) ∧ Below w.heap.size w w')

def DL (n : Nat) (l : List UInt8) (w : World) (k : Nat) (d i : Value) (wr : World) : Prop :=
  ∃ (p : Nat) (vs : List Nat), p ≤ n ∧ vs.length ≤ p ∧ k = n - p ∧ i = .int .i64 p ∧ wr.ownsRow w.heap.size 25 1 d vs.length (u64s vs) ∧ Below w.heap.size w wr ∧ dec l = (dec (l.drop p)).map (vs ++ ·)

set_option maxHeartbeats 1000000 in
theorem decode_any (g o n c : Nat) (ao : Option Addr) (l : List UInt8) (w : World) (hl : l.length = n) (hn : n ≤ 1024) (had : 0 < n → ao = some ⟨g, o, none⟩) (hcell : BytesAt w g o l) (hg : 0 < n → g < w.heap.size) :
    Calls Ybaf.prog 9 #[.slice ao n c] w fun e w' => DC l w e w' := by
  obtain ⟨i0, hi, hz0, hz1, hz2⟩ := info_parts info25
  have HC : Hid (BytesAt w g o l) := hcell
  have HAD : Hid (0 < n → ao = some ⟨g, o, none⟩) := had
  have HG : Hid (0 < n → g < w.heap.size) := hg
  clear hcell had hg
  go_enter Ybaf.func9, Ybaf.ntmps9
  go_wp2
  go_loopg [4, 5] n (fun k d i wr => DL n l w k d i wr)
  case atStart => exact ⟨0, [], Nat.zero_le _, by simp, rfl, rfl, World.ownsRow_nil _ _ _ _, Below.refl _ _, dec_start l⟩
  case round =>
    obtain ⟨p, vs, hp, hvp, rfl, rfl, hor, hbr, hdec⟩ := hrel
    obtain ⟨w0, rfl⟩ : ∃ w0, w0 = wr := ⟨_, rfl⟩
    have HOR : Hid (w0.ownsRow w.heap.size 25 1 u4 vs.length (u64s vs)) := hor
    have HBR : Hid (Below w.heap.size w w0) := hbr
    have HDEC : Hid (dec l = (dec (l.drop p)).map (vs ++ ·)) := hdec
    clear hor hbr hdec
    by_cases hpn : p < n
    · have ha := HAD.out (by omega)
      subst ha
      have hne : l.drop p ≠ [] := fun e => by have := congrArg List.length e; simp at this; omega
      have hcl := HC.out.below HBR.out (fun _ => HG.out (by omega))
      have HCL : Hid (BytesAt w0 g o l) := hcl
      clear hcl
      go_wp2
      go_loop [6, 7, 8, 9] (fun x s k dn => ∃ kk acc : Nat, kk ≤ 10 ∧ p + kk ≤ n ∧ acc < 2 ^ (7 * kk) ∧ x = .int .u64 acc ∧ s = .int .u64 ((7 * kk : Nat) : Int) ∧ k = .int .i64 kk ∧ dn = .bool false ∧ Lib.uvarintDec (l.drop p) = Lib.uvarintFrom kk acc (l.drop (p + kk))) (fun _ _ k _ => 10 - (intOf k).toNat)
      case atStart => exact ⟨0, 0, by omega, by omega, by decide, rfl, rfl, rfl, rfl, rfl⟩
      case round =>
        obtain ⟨k, acc, hk10, hkn, hacc, rfl, rfl, rfl, rfl, hud⟩ := hrel
        have HUD : Hid (Lib.uvarintDec (l.drop p) = Lib.uvarintFrom k acc (l.drop (p + k))) := hud
        have HACC : Hid (acc < 2 ^ (7 * k)) := hacc
        clear hud hacc
        by_cases hlt : k < 10 ∧ p + k < n
        · obtain ⟨hk, hpk⟩ := hlt
          have hc0 := HCL.out (p + k) (by omega)
          obtain ⟨bt, hbt⟩ : ∃ bt : UInt8, l[p + k]'(by omega) = bt := ⟨_, rfl⟩
          rw [hbt] at hc0
          have hb256 : bt.toNat < 256 := bt.toNat_lt
          have h7 : ((7 * k : Nat) : Int) ≤ 64 := by omega
          have hkd : decide ((k : Int) < 10) = true := by simp; omega
          have hpkd : (p : Int) + (k : Int) < (n : Int) := by omega
          have h0k : (0 : Int) ≤ (p : Int) + (k : Int) := by omega
          have haddr : w0.cell? ⟨g, o + (p + k), none⟩ = some (.int .u8 (bt.toNat : Int)) := hc0
          clear hc0
          have hcons : l.drop (p + k) = bt :: l.drop (p + k + 1) := by rw [List.drop_eq_getElem_cons (by omega), hbt]
          have HCONS : Hid (l.drop (p + k) = bt :: l.drop (p + k + 1)) := hcons
          clear hcons hbt
          by_cases hb : bt.toNat < 128
          · have hb' : (bt.toNat : Int) < 128 := by omega
            by_cases h9 : k = 9 ∧ 1 < bt.toNat
            · have hk9 : ((k : Int) == 9) = true := by simp; omega
              have hb1 : (1 : Int) < (bt.toNat : Int) := by omega
              have hds := dec_stop HDEC.out hne (by rw [HUD.out, HCONS.out]; exact from_over k acc bt (l.drop (p + k + 1)) hk hb h9)
              have HDS : Hid (dec l = none) := hds
              clear hds h9
              go_wp2
              go_ret2
              exact .inr ⟨HDS.out, rfl, HBR.out⟩
            · have hlast := last_eq acc bt.toNat k (by omega) HACC.out hb (fun h => by omega)
              have hfl := from_last k acc bt (l.drop (p + k + 1)) hk hb h9
              have hude : Lib.uvarintDec (l.drop p) = (acc + bt.toNat * 2 ^ (7 * k), (k : Int) + 1) := by rw [HUD.out, HCONS.out]; exact hfl
              have hdm := dec_more HDEC.out hne (by rw [hude]; simp <;> omega)
              rw [hude] at hdm
              obtain ⟨x, hx⟩ : ∃ x, x = acc + bt.toNat * 2 ^ (7 * k) := ⟨_, rfl⟩
              have heq := hlast.1
              rw [← hx] at heq hdm
              have hkk : ((k : Int) + 1).toNat = k + 1 := by omega
              simp only [hkk] at hdm
              have HDM : Hid (dec l = (dec (l.drop (p + (k + 1)))).map ((vs ++ [x]) ++ ·)) := hdm
              have hBr : w.heap.size ≤ w0.heap.size := HBR.out.size
              obtain ⟨X, hX⟩ : ∃ X : Int, bits .or .u64 (acc : Int) (IntKind.u64.wrap ((bt.toNat : Int) * 2 ^ (7 * k))) = X := ⟨_, rfl⟩
              rw [hX] at heq
              have HX : Hid (X = (x : Int)) := heq
              clear hdm hude hfl hlast hx hkk heq
              have H9 : Hid (¬ (k = 9 ∧ 1 < bt.toNat)) := h9
              clear h9
              obtain ⟨kb, hkb⟩ : ∃ kb, ((k : Int) == 9) = kb := ⟨_, rfl⟩
              have hb1 : kb = true → ¬ (1 : Int) < (bt.toNat : Int) := fun h => by subst h; simp at hkb; have := H9.out; omega
              cases kb
              · clear hb1
                go_wp2_with (at_builtin; refine wpList_append_own _ rfl _ _ 23 rfl w.heap.size 25 i0 (.int .u64 0) 1 8 Ybaf.underlying23 hi hz0 hz1 hz2 rfl (by decide) _ _ _ rfl (HOR.out.alloc _) ⟨w0.heap.size, 0, none⟩ 1 1 [.int .u64 X] rfl rfl ?c1 ?c2 ?c3 ?c4 ?c5 ?_)
                case c2 => rfl
                case c3 => unfold maxLen; omega
                case c4 => omega
                case c5 => omega
                intro v' w1 hown' hgrow _
                have hbel : Below w.heap.size w w1 := (HBR.out.alloc hBr _).grown hgrow (by simp; omega) (own_from HOR.out)
                have HO1 : Hid (w1.ownsRow w.heap.size 25 1 v' (vs ++ [x]).length (u64s (vs ++ [x]))) := by
                  have e2 : u64s (vs ++ [x]) = u64s vs ++ [Value.int IntKind.u64 X] := by simp [u64s, HX.out]
                  show w1.ownsRow w.heap.size 25 1 v' (vs ++ [x]).length (u64s (vs ++ [x]))
                  rw [e2, List.length_append]; exact hown'
                have HB1 : Hid (Below w.heap.size w w1) := hbel
                clear hown' hgrow hbel
                go_wp2
                go_roundg (n - (p + (k + 1)))
                case measure => omega
                case rel => exact ⟨p + (k + 1), vs ++ [x], by omega, by simp; omega, rfl, by go_num, HO1.out, HB1.out, HDM.out⟩
              · have hb2 := hb1 rfl
                clear hb1
                go_wp2_with (at_builtin; refine wpList_append_own _ rfl _ _ 23 rfl w.heap.size 25 i0 (.int .u64 0) 1 8 Ybaf.underlying23 hi hz0 hz1 hz2 rfl (by decide) _ _ _ rfl (HOR.out.alloc _) ⟨w0.heap.size, 0, none⟩ 1 1 [.int .u64 X] rfl rfl ?d1 ?d2 ?d3 ?d4 ?d5 ?_)
                case d2 => rfl
                case d3 => unfold maxLen; omega
                case d4 => omega
                case d5 => omega
                intro v' w1 hown' hgrow _
                have hbel : Below w.heap.size w w1 := (HBR.out.alloc hBr _).grown hgrow (by simp; omega) (own_from HOR.out)
                have HO1 : Hid (w1.ownsRow w.heap.size 25 1 v' (vs ++ [x]).length (u64s (vs ++ [x]))) := by
                  have e2 : u64s (vs ++ [x]) = u64s vs ++ [Value.int IntKind.u64 X] := by simp [u64s, HX.out]
                  show w1.ownsRow w.heap.size 25 1 v' (vs ++ [x]).length (u64s (vs ++ [x]))
                  rw [e2, List.length_append]; exact hown'
                have HB1 : Hid (Below w.heap.size w w1) := hbel
                clear hown' hgrow hbel
                go_wp2
                go_roundg (n - (p + (k + 1)))
                case measure => omega
                case rel => exact ⟨p + (k + 1), vs ++ [x], by omega, by simp; omega, rfl, by go_num, HO1.out, HB1.out, HDM.out⟩
          · have hb' : ¬ (bt.toNat : Int) < 128 := by omega
            have hfm := from_more k acc bt (l.drop (p + k + 1)) hk hb
            have HFM : Hid (Lib.uvarintFrom k acc (bt :: l.drop (p + k + 1)) = Lib.uvarintFrom (k + 1) (acc + bt.toNat % 128 * 2 ^ (7 * k)) (l.drop (p + k + 1))) := hfm
            clear hfm
            obtain ⟨X, hX⟩ : ∃ X : Int, bits .or .u64 (acc : Int) (IntKind.u64.wrap (IntKind.u64.wrap (bits .and .u8 (bt.toNat : Int) 127) * 2 ^ (7 * k))) = X := ⟨_, rfl⟩
            have hxx : ∃ x : Nat, X = (x : Int) ∧ x < 2 ^ (7 * (k + 1)) ∧ Lib.uvarintDec (l.drop p) = Lib.uvarintFrom (k + 1) x (l.drop (p + (k + 1))) := by
              by_cases hk8 : k ≤ 8
              · have hm := more_eq acc bt.toNat k hk8 HACC.out hb256
                exact ⟨_, by rw [← hX]; exact hm.1, hm.2, by rw [HUD.out, HCONS.out, HFM.out, Nat.add_assoc]⟩
              · have hk9 : k = 9 := by omega
                subst hk9
                obtain ⟨x, hx1, hx2⟩ := more_any acc bt.toNat HACC.out hb256
                exact ⟨x, by rw [← hX]; exact hx1, hx2, by rw [HUD.out, HCONS.out, HFM.out]; exact Lib.uvarintFrom_ten _ _ _⟩
            obtain ⟨x, rfl, hx2, hx3⟩ := hxx
            have HX2 : Hid (x < 2 ^ (7 * (k + 1))) := hx2
            have HX3 : Hid (Lib.uvarintDec (l.drop p) = Lib.uvarintFrom (k + 1) x (l.drop (p + (k + 1)))) := hx3
            clear hx2 hx3
            go_wp2
            go_round
            case rel => exact ⟨k + 1, x, by omega, by omega, HX2.out, rfl, by first | rfl | (congr 1; done) | (congr 1; omega), by go_num, rfl, HX3.out⟩
            case measure => simp [intOf]; omega
        · have hds : dec l = none := by
            refine dec_stop HDEC.out hne ?_
            rw [HUD.out]
            by_cases hk : k = 10
            · subst hk; exact from_ten _ _
            · rw [List.drop_eq_nil_of_le (by omega)]; exact from_nil _ _
          have HDS : Hid (dec l = none) := hds
          clear hds
          by_cases hk : k < 10
          · have hkd : decide ((k : Int) < 10) = true := by simp; omega
            have hpkd : ¬ (p : Int) + (k : Int) < (n : Int) := by omega
            clear hlt
            go_wp2
            go_ret2
            exact .inr ⟨HDS.out, rfl, HBR.out⟩
          · have hkd : decide ((k : Int) < 10) = false := by simp; omega
            clear hlt
            go_wp2
            go_ret2
            exact .inr ⟨HDS.out, rfl, HBR.out⟩
    · have hde := dec_end HDEC.out (List.drop_eq_nil_of_le (by omega))
      go_wp2
      go_ret2
      exact .inl ⟨vs, _, hde, by omega, rfl, HOR.out, HBR.out⟩
#print axioms decode_any
end Go.Proofs.YbulkbbqaFmt
