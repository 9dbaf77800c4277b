/- 8 (zzs2637abuild). -/
import Derived.Test.YbulkbboyBInv
import Derived.Test.YbulkbboyNext
import Derived.Deep.Cut
import Derived.Deep.CutRange
import Derived.Deep.DeepCutAuto
namespace Go.Proofs.Ybulkbboy
open Go.ChangeShapes Go.WideShapes Go.ChangeAt Go.RowKit
set_option linter.unusedVariables false
set_option linter.unusedSimpArgs false

theorem Yba.info28 : (Yba.prog.info? 28).map (fun i => (i.zero, i.size, i.bytes)) = some (some (.agg #[.string ⟨#[]⟩, .int .i64 0]), 2, 24) := by kernel_rfl
theorem Yba.info48 : (Yba.prog.info? 48).map (fun i => (i.zero, i.size, i.bytes)) = some (some (.agg #[.nilIface, .string ⟨#[]⟩, .int .i64 0, .slice none 0 0, .string ⟨#[]⟩, .bool false, .slice none 0 0, .bool false]), 8, 120) := by kernel_rfl
theorem Yba.info9 : (Yba.prog.info? 9).map (fun i => (i.zero, i.size, i.bytes)) = some (some (.string ⟨#[]⟩), 1, 16) := by kernel_rfl

theorem make28 (n : Nat) (hn : n ≤ 1024) (w : World) : (Instr.makeSlice 44 (.int .i64 (n : Int)) (.int .i64 (n : Int))).run Yba.prog w = .ok (.slice (some ⟨w.heap.size, 0, none⟩) n n) (w.alloc (.cells (zero41 n) 28)) := by
  obtain ⟨i, hi, hz0, hz1, hz2⟩ := info_parts Yba.info28
  have h := run_make (P := Yba.prog) w 44 28 i _ Yba.underlying44 hi hz0 .i64 .i64 n n (by omega) (Int.le_refl _) (by rw [hz2]; omega) (by omega)
  rw [hz1] at h
  simpa [zero41, Value.cells] using h

theorem make48 (n : Nat) (hn : n ≤ 1024) (w : World) : (Instr.makeSlice 50 (.int .i64 (n : Int)) (.int .i64 (n : Int))).run Yba.prog w = .ok (.slice (some ⟨w.heap.size, 0, none⟩) n n) (w.alloc (.cells (zero48 n) 48)) := by
  obtain ⟨i, hi, hz0, hz1, hz2⟩ := info_parts Yba.info48
  have h := run_make (P := Yba.prog) w 50 48 i _ Yba.underlying50 hi hz0 .i64 .i64 n n (by omega) (Int.le_refl _) (by rw [hz2]; omega) (by omega)
  rw [hz1] at h
  simpa [zero48, Value.cells] using h

theorem make9 (n : Nat) (hn : n ≤ 1024) (w : World) : (Instr.makeSlice 36 (.int .i64 (n : Int)) (.int .i64 (n : Int))).run Yba.prog w = .ok (.slice (some ⟨w.heap.size, 0, none⟩) n n) (w.alloc (.cells (zero9 n) 9)) := by
  obtain ⟨i, hi, hz0, hz1, hz2⟩ := info_parts Yba.info9
  have h := run_make (P := Yba.prog) w 36 9 i _ Yba.underlying36 hi hz0 .i64 .i64 n n (by omega) (Int.le_refl _) (by rw [hz2]; omega) (by omega)
  rw [hz1] at h
  simpa [zero9, Value.cells] using h

theorem mkD_ps (I : Inp) (k : Nat) : (mkD I k).ps = fun j => if j < I.pl k then I.ps k j else ⟨#[]⟩ := rfl

set_option maxRecDepth 100000 in
set_option maxHeartbeats 2000000 in
theorem build_any (I : Inp) (desc : Bool) (count : Int) (lid : ByteArray) (lkey : Int) (a : Option Addr) (n c b off : Nat) (w : World) (hin : InAt I w a n c b off) (hn : n ≤ 1024) (hl : ∀ i, i < n → I.hl i ≤ 1024) :
    Calls Yba.prog 8 #[.bool desc, .int .i64 count, .agg #[.string lid, .int .i64 lkey], .slice a n c] w fun e w' => ∃ pM pR x, w.heap.size ≤ pM ∧ w.heap.size ≤ pR ∧ w.heap.size ≤ x ∧ x ≠ pR ∧ x ≠ pM ∧
      e = .returned (.pointer (some ⟨pR, 0, none⟩)) ∧ BuildInv w pM pR x n (mkD I) (mkS I) desc count lid lkey n w' := by
  have hmk48 := make48 n hn
  have HIN : Hid (InAt I w a n c b off) := hin
  have HL : Hid (∀ i, i < n → I.hl i ≤ 1024) := hl
  clear hin hl
  go_enter Yba.func8, Yba.ntmps8
  go_upto_if 18 with (fail)
  go_cut [9] (fun o wc => o = .int .i64 (ordI desc) ∧ wc = w.alloc (.cells #[.string lid, .int .i64 lkey] 23))
  case first =>
    cases desc
    all_goals
      go_wp2
      go_meet
      exact ⟨rfl, rfl⟩
  case rest =>
    obtain ⟨rfl, rfl⟩ := hcut
    go_wp2
    go_cut [10] (fun r wc => ∃ pM pR x, w.heap.size ≤ pM ∧ w.heap.size ≤ pR ∧ w.heap.size ≤ x ∧ x ≠ pR ∧ x ≠ pM ∧ r = .pointer (some ⟨pR, 0, none⟩) ∧ BuildInv w pM pR x n (mkD I) (mkS I) desc count lid lkey 0 wc)
    case first =>
      go_region_held3 (fun w' => w'.cell? ⟨w.heap.size, 0, none⟩ = some (.string lid) ∧ w'.cell? ⟨w.heap.size, 1, none⟩ = some (.int .i64 lkey))
        (go_keep) (fail)
      all_goals go_wp2
      all_goals go_meet
      · exact ⟨_, _, _, by omega, by omega, by omega, by omega, by omega, rfl, build_start1 w n _ _ desc count lid lkey⟩
      · exact ⟨_, _, _, by omega, by omega, by omega, by omega, by omega, rfl, build_start2 w n _ _ desc count lid lkey⟩
    case rest =>
      obtain ⟨pM, pR, x, hM, hR, hX, hxR, hxM, rfl, hinv⟩ := hcut
      have HI0 : Hid (BuildInv w pM pR x n (mkD I) (mkS I) desc count lid lkey 0 wc) := hinv
      clear hinv hmk48
      go_wp2
      go_loopw [11] (fun i wr => ∃ k : Nat, k ≤ n ∧ i = .int .i64 k ∧ BuildInv w pM pR x n (mkD I) (mkS I) desc count lid lkey k wr) (fun i _ => n - (intOf i).toNat)
      case atStart => exact ⟨0, Nat.zero_le _, rfl, HI0.out⟩
      case round =>
        obtain ⟨k, hk, rfl, hinv⟩ := hrel
        obtain ⟨w0, rfl⟩ : ∃ w0, w0 = wr := ⟨_, rfl⟩
        clear HI0
        by_cases hlt : k < n
        · have had := HIN.out.ad (by omega)
          subst had
          have hel := (HIN.out.el k hlt).below (w' := w0) hinv.below
          have hlk := HL.out k hlt
          have hmk28 := make28 (I.hl k) hlk
          have hmk9 := make9 (I.hl k) hlk
          obtain ⟨len, hlen⟩ : ∃ l, I.hl k = l := ⟨_, rfl⟩
          obtain ⟨ha, hha⟩ : ∃ l, I.ha k = l := ⟨_, rfl⟩
          obtain ⟨pl, hpl⟩ : ∃ l, I.pl k = l := ⟨_, rfl⟩
          obtain ⟨pa, hpa⟩ : ∃ l, I.pa k = l := ⟨_, rfl⟩
          obtain ⟨u, hu⟩ : ∃ l, I.up k = l := ⟨_, rfl⟩
          have hsk := mkS_eq I k
          obtain ⟨c0, c1, c2, c3, c4, c5, c6, sk0, hits, poss, hlm, plm⟩ := hel
          rw [hlen] at c0 hits hlm hlk hmk28 hmk9 hsk
          rw [hha] at c0 hits
          rw [hpl] at c6 poss plm
          rw [hpa] at c6 poss
          rw [hu] at c5
          unfold maxLen at hlm plm
          have HLEN : Hid (I.hl k = len) := hlen
          have HPL : Hid (I.pl k = pl) := hpl
          have HU : Hid (I.up k = u) := hu
          have HHITS : Hid (0 < len → ∃ hb ho, ha = some ⟨hb, ho, none⟩ ∧ ∀ j, j < len → w0.cell? ⟨hb, ho + j * 2, none⟩ = some (.string (I.id k j)) ∧ w0.cell? ⟨hb, ho + j * 2 + 1, none⟩ = some (.int .i64 (I.key k j))) := hits
          have HPOSS : Hid (0 < pl → ∃ pb po, pa = some ⟨pb, po, none⟩ ∧ ∀ j, j < pl → w0.cell? ⟨pb, po + j, none⟩ = some (.string (I.ps k j))) := poss
          have HI : Hid (BuildInv w pM pR x n (mkD I) (mkS I) desc count lid lkey k w0) := hinv
          have r5 := hinv.c5
          clear hlen hha hpl hpa hu hits poss hinv
          have hRlt := World.block_lt_of_cell? _ _ r5
          have hblt := World.block_lt_of_cell? _ _ (HIN.out.el k hlt).c0
          have hbw : b < w.heap.size := hblt
          have hszw : w.heap.size ≤ w0.heap.size := HI.out.below.size
          simp only at hRlt
          clear hblt
          go_wp2
          go_loopw [14] (fun j wj => ∃ m : Nat, m ≤ len ∧ j = .int .i64 m ∧ Below w0.heap.size w0 wj ∧ wj.rowIs w0.heap.size 28 (len * 2) (hitF (I.id k) (I.key k) m)) (fun j _ => len - (intOf j).toNat)
          case atStart => exact ⟨0, Nat.zero_le _, rfl, (Below.refl _ _).alloc (Nat.le_refl _) _, row28 w0 len _ _⟩
          case round =>
            obtain ⟨m, hm, rfl, hbj, hrow⟩ := hrel
            obtain ⟨wj, rfl⟩ : ∃ wj, wj = wr := ⟨_, rfl⟩
            by_cases hml : m < len
            · obtain ⟨hb, ho, rfl, hcs⟩ := HHITS.out (by omega)
              have hq := hcs m hml
              have hhb := World.block_lt_of_cell? _ _ hq.1
              simp only at hhb
              have q1 : wj.cell? ⟨hb, ho + m * 2, none⟩ = some (.string (I.id k m)) := cell_bel hbj hq.1
              have q2 : wj.cell? ⟨hb, ho + m * 2 + 1, none⟩ = some (.int .i64 (I.key k m)) := cell_bel hbj hq.2
              obtain ⟨o1, ho1⟩ : ∃ u, wj.cell? ⟨w0.heap.size, m * 2, none⟩ = some u := ⟨_, hrow.cell (by omega)⟩
              obtain ⟨o2, ho2⟩ : ∃ u, wj.cell? ⟨w0.heap.size, m * 2 + 1, none⟩ = some u := ⟨_, hrow.cell (by omega)⟩
              have ff1 := hrow.frozen (m * 2)
              have ff2 := hrow.frozen (m * 2 + 1)
              have hne : hb ≠ w0.heap.size := by omega
              have i1 : (m : Int) < (len : Int) := by omega
              have i2 : (0 : Int) ≤ (m : Int) := by omega
              have HRW : Hid (wj.rowIs w0.heap.size 28 (len * 2) (hitF (I.id k) (I.key k) m)) := hrow
              have HBJ : Hid (Below w0.heap.size w0 wj) := hbj
              clear hrow hbj hcs hq c0 c1 c2 c3 c4 c5 c6 r5
              go_wp2
              go_region_held3 (fun w' => w'.cell? ⟨hb, ho + m * 2, none⟩ = some (.string (I.id k m)) ∧ w'.cell? ⟨hb, ho + m * 2 + 1, none⟩ = some (.int .i64 (I.key k m)))
                (first | (go_split_ands; refine ⟨?_, ?_⟩ <;> (rw [World.cell?_drew, cell_apart hne, cell_apart hne]; assumption)) | go_keep) (fail)
              go_wp2
              go_roundw
              case rel => exact ⟨m + 1, by omega, by go_num, ((HBJ.out.setCell (Nat.le_refl _) _).setCell (Nat.le_refl _) _).drew, (hitF_step HRW.out).drew⟩
              case measure => simp [intOf]; omega
            · have hml' : m = len := by omega
              subst hml'
              have HRW : Hid (wj.rowIs w0.heap.size 28 (m * 2) (hitF (I.id k) (I.key k) m)) := hrow
              have HBJ : Hid (Below w0.heap.size w0 wj) := hbj
              have hszj := hbj.size
              have hgl := hrow.lt
              clear hrow hbj
              cases u
              · have d1 := cell_bel HBJ.out c1
                have d2 := cell_bel HBJ.out c2
                have d3 := cell_bel HBJ.out c3
                have d4 := cell_bel HBJ.out c4
                have d5 := cell_bel HBJ.out c5
                have d6 := cell_bel HBJ.out c6
                have e5 := cell_bel HBJ.out r5
                obtain ⟨f, hf0⟩ := HI.out.row
                have hf := hf0.of_block (HBJ.out.block _ hf0.lt)
                obtain ⟨x0, hx0⟩ : ∃ u, wj.cell? ⟨x, k * 8, none⟩ = some u := ⟨_, hf.cell (by omega)⟩
                obtain ⟨x1, hx1⟩ : ∃ u, wj.cell? ⟨x, k * 8 + 1, none⟩ = some u := ⟨_, hf.cell (by omega)⟩
                obtain ⟨x2, hx2⟩ : ∃ u, wj.cell? ⟨x, k * 8 + 2, none⟩ = some u := ⟨_, hf.cell (by omega)⟩
                obtain ⟨x3, hx3⟩ : ∃ u, wj.cell? ⟨x, k * 8 + 3, none⟩ = some u := ⟨_, hf.cell (by omega)⟩
                obtain ⟨x4, hx4⟩ : ∃ u, wj.cell? ⟨x, k * 8 + 4, none⟩ = some u := ⟨_, hf.cell (by omega)⟩
                obtain ⟨x5, hx5⟩ : ∃ u, wj.cell? ⟨x, k * 8 + 5, none⟩ = some u := ⟨_, hf.cell (by omega)⟩
                obtain ⟨x6, hx6⟩ : ∃ u, wj.cell? ⟨x, k * 8 + 6, none⟩ = some u := ⟨_, hf.cell (by omega)⟩
                obtain ⟨x7, hx7⟩ : ∃ u, wj.cell? ⟨x, k * 8 + 7, none⟩ = some u := ⟨_, hf.cell (by omega)⟩
                have y0 := hf.frozen (k * 8)
                have y1 := hf.frozen (k * 8 + 1)
                have y2 := hf.frozen (k * 8 + 2)
                have y3 := hf.frozen (k * 8 + 3)
                have y4 := hf.frozen (k * 8 + 4)
                have y5 := hf.frozen (k * 8 + 5)
                have y6 := hf.frozen (k * 8 + 6)
                have y7 := hf.frozen (k * 8 + 7)
                clear hf hf0 c0 c1 c2 c3 c4 c5 c6 r5
                have i1 : (k : Int) < (n : Int) := by omega
                have i2 : (0 : Int) ≤ (k : Int) := by omega
                have hbx : b ≠ x := by omega
                clear HHITS HPOSS
                go_wp2
                go_region_held3 (fun w' => w'.cell? ⟨pR, 5, none⟩ = some (.slice (some ⟨x, 0, none⟩) n n) ∧ w'.cell? ⟨b, off + k * 7 + 3, none⟩ = some (.string (I.po k)) ∧ w'.cell? ⟨b, off + k * 7 + 4, none⟩ = some (.string (I.ne k)) ∧ w'.cell? ⟨b, off + k * 7 + 2, none⟩ = some (.bool (I.mo k)))
                  (first | (go_split_ands; refine ⟨?_, ?_, ?_, ?_⟩ <;> (rw [World.cell?_drew, cell_apart (by omega), cell_apart (by omega), cell_apart (by omega), cell_apart (by omega), cell_apart (by omega), cell_apart (by omega), cell_apart (by omega), cell_apart (by omega)]; assumption)) | go_keep) (fail)
                go_wp2
                have el : (mkD I k).len = m := HLEN.out
                have eu : (mkD I k).up = false := HU.out
                have hst := build_step HI.out hlt hX hxR hxM HBJ.out w0.heap.size w0.heap.size (Nat.le_refl _) (Nat.le_refl _) hgl hgl (by rw [el]; exact hits_of_row HRW.out) (fun h => by rw [eu] at h; cases h) .nilIface (.bool true)
                rw [el, eu] at hst
                unfold put8 posV at hst
                simp only [Bool.false_eq_true, if_false] at hst
                go_roundw
                case rel => exact ⟨k + 1, by omega, by go_num, hst.drew⟩
                case measure => simp [intOf]; omega
              · have hgl2 : w0.heap.size < wj.heap.size := hgl
                have d5 := cell_bel HBJ.out c5
                go_wp2
                go_loopw [16] (fun j wq => ∃ p : Nat, p ≤ m ∧ j = .int .i64 p ∧ Below wj.heap.size wj wq ∧ wq.rowIs wj.heap.size 9 m (posF pl (I.ps k) p)) (fun j _ => m - (intOf j).toNat)
                case atStart => exact ⟨0, Nat.zero_le _, rfl, (Below.refl _ _).alloc (Nat.le_refl _) _, row9 wj m pl _⟩
                case round =>
                  obtain ⟨p, hp, rfl, hbq, hprow⟩ := hrel
                  obtain ⟨wq, rfl⟩ : ∃ wq, wq = wr := ⟨_, rfl⟩
                  clear d5
                  have hbq0 : Below w0.heap.size w0 wq := HBJ.out.trans (hbq.mono (by omega))
                  have hszq := hbq.size
                  by_cases hpm : p < m
                  · have d6 := cell_bel hbq0 c6
                    by_cases hpp : p < pl
                    · obtain ⟨pb, po, rfl, hcs⟩ := HPOSS.out (by omega)
                      have q1 := cell_bel hbq0 (hcs p hpp)
                      have hpb := World.block_lt_of_cell? _ _ (hcs p hpp)
                      simp only at hpb
                      obtain ⟨o1, ho1⟩ : ∃ u, wq.cell? ⟨wj.heap.size, p, none⟩ = some u := ⟨_, hprow.cell (by omega)⟩
                      have ff1 := hprow.frozen p
                      have HPR : Hid (wq.rowIs wj.heap.size 9 m (posF pl (I.ps k) p)) := hprow
                      have HBQ : Hid (Below wj.heap.size wj wq) := hbq
                      clear hprow hbq hbq0 hcs c0 c1 c2 c3 c4 c5 c6 r5
                      go_wp2
                      go_roundw
                      case rel => exact ⟨p + 1, by omega, by go_num, HBQ.out.setCell (Nat.le_refl _) _, posF_step1 HPR.out hpp⟩
                      case measure => simp [intOf]; omega
                    · have HPR : Hid (wq.rowIs wj.heap.size 9 m (posF pl (I.ps k) p)) := hprow
                      have HBQ : Hid (Below wj.heap.size wj wq) := hbq
                      clear hprow hbq hbq0 c0 c1 c2 c3 c4 c5 c6 r5
                      go_wp2
                      go_roundw
                      case rel => exact ⟨p + 1, by omega, by go_num, HBQ.out, posF_step2 HPR.out hpp⟩
                      case measure => simp [intOf]; omega
                  · have hpm' : p = m := by omega
                    subst hpm'
                    have hql := hprow.lt
                    have HPR : Hid (wq.rowIs wj.heap.size 9 p (posF pl (I.ps k) p)) := hprow
                    have HBQ : Hid (Below wj.heap.size wj wq) := hbq
                    have HB0 : Hid (Below w0.heap.size w0 wq) := hbq0
                    clear hprow hbq hbq0
                    have d1 := cell_bel HB0.out c1
                    have d2 := cell_bel HB0.out c2
                    have d3 := cell_bel HB0.out c3
                    have d4 := cell_bel HB0.out c4
                    have d5 := cell_bel HB0.out c5
                    have d6 := cell_bel HB0.out c6
                    have e5 := cell_bel HB0.out r5
                    obtain ⟨f, hf0⟩ := HI.out.row
                    have hf := hf0.of_block (HB0.out.block _ hf0.lt)
                    obtain ⟨x0, hx0⟩ : ∃ u, wq.cell? ⟨x, k * 8, none⟩ = some u := ⟨_, hf.cell (by omega)⟩
                    obtain ⟨x1, hx1⟩ : ∃ u, wq.cell? ⟨x, k * 8 + 1, none⟩ = some u := ⟨_, hf.cell (by omega)⟩
                    obtain ⟨x2, hx2⟩ : ∃ u, wq.cell? ⟨x, k * 8 + 2, none⟩ = some u := ⟨_, hf.cell (by omega)⟩
                    obtain ⟨x3, hx3⟩ : ∃ u, wq.cell? ⟨x, k * 8 + 3, none⟩ = some u := ⟨_, hf.cell (by omega)⟩
                    obtain ⟨x4, hx4⟩ : ∃ u, wq.cell? ⟨x, k * 8 + 4, none⟩ = some u := ⟨_, hf.cell (by omega)⟩
                    obtain ⟨x5, hx5⟩ : ∃ u, wq.cell? ⟨x, k * 8 + 5, none⟩ = some u := ⟨_, hf.cell (by omega)⟩
                    obtain ⟨x6, hx6⟩ : ∃ u, wq.cell? ⟨x, k * 8 + 6, none⟩ = some u := ⟨_, hf.cell (by omega)⟩
                    obtain ⟨x7, hx7⟩ : ∃ u, wq.cell? ⟨x, k * 8 + 7, none⟩ = some u := ⟨_, hf.cell (by omega)⟩
                    have y0 := hf.frozen (k * 8)
                    have y1 := hf.frozen (k * 8 + 1)
                    have y2 := hf.frozen (k * 8 + 2)
                    have y3 := hf.frozen (k * 8 + 3)
                    have y4 := hf.frozen (k * 8 + 4)
                    have y5 := hf.frozen (k * 8 + 5)
                    have y6 := hf.frozen (k * 8 + 6)
                    have y7 := hf.frozen (k * 8 + 7)
                    clear hf hf0 c0 c1 c2 c3 c4 c5 c6 r5
                    have i1 : (k : Int) < (n : Int) := by omega
                    have i2 : (0 : Int) ≤ (k : Int) := by omega
                    have hbx : b ≠ x := by omega
                    clear HHITS HPOSS
                    go_wp2
                    go_region_held3 (fun w' => w'.cell? ⟨pR, 5, none⟩ = some (.slice (some ⟨x, 0, none⟩) n n) ∧ w'.cell? ⟨b, off + k * 7 + 3, none⟩ = some (.string (I.po k)) ∧ w'.cell? ⟨b, off + k * 7 + 4, none⟩ = some (.string (I.ne k)) ∧ w'.cell? ⟨b, off + k * 7 + 2, none⟩ = some (.bool (I.mo k)))
                      (first | (go_split_ands; refine ⟨?_, ?_, ?_, ?_⟩ <;> (rw [World.cell?_drew, cell_apart (by omega), cell_apart (by omega), cell_apart (by omega), cell_apart (by omega), cell_apart (by omega), cell_apart (by omega), cell_apart (by omega), cell_apart (by omega)]; assumption)) | go_keep) (fail)
                    go_wp2
                    have el : (mkD I k).len = p := HLEN.out
                    have eu : (mkD I k).up = true := HU.out
                    have hgl3 : w0.heap.size < wq.heap.size := by omega
                    have hst := build_step HI.out hlt hX hxR hxM HB0.out w0.heap.size wj.heap.size (Nat.le_refl _) (by omega) hgl3 hql (by rw [el]; exact hits_of_row (HRW.out.of_block (HBQ.out.block _ hgl2))) (fun h => by rw [el, mkD_ps, HPL.out]; exact pos_of_row HPR.out) .nilIface (.bool true)
                    rw [el, eu] at hst
                    unfold put8 posV at hst
                    simp only [if_true] at hst
                    go_roundw
                    case rel => exact ⟨k + 1, by omega, by go_num, hst.drew⟩
                    case measure => simp [intOf]; omega
        · go_wp2
          go_ret
          have hkn : k = n := by omega
          subst hkn
          exact ⟨_, _, _, hM, hR, hX, hxR, hxM, rfl, hinv⟩
#print axioms build_any
end Go.Proofs.Ybulkbboy
