/- 9 (sortedRead.next). -/
import Derived.Test.YbulkbboyInv
import Derived.Deep.Cut
import Derived.Deep.AppendLies
import Derived.Deep.DeepCutAuto
namespace Go.Proofs.Ybulkbboy
open Go.ChangeShapes Go.WideShapes Go.ChangeAt Go.RowKit
set_option linter.unusedVariables false
set_option linter.unusedSimpArgs false

theorem Yba.info41 : (Yba.prog.info? 41).map (fun i => (i.zero, i.size, i.bytes)) = some (some (.agg #[.string ⟨#[]⟩, .int .i64 0]), 2, 24) := by kernel_rfl

theorem make41 (n : Nat) (hn : n ≤ 1024) (w : World) : (Instr.makeSlice 29 (.int .i64 (n : Int)) (.int .i64 (n : Int))).run Yba.prog w = .ok (.slice (some ⟨w.heap.size, 0, none⟩) n n) (w.alloc (.cells (zero41 n) 41)) := by
  obtain ⟨i, hi, hz0, hz1, hz2⟩ := info_parts Yba.info41
  have h := run_make (P := Yba.prog) w 29 41 i _ Yba.underlying29 hi hz0 .i64 .i64 n n (by omega) (Int.le_refl _) (by rw [hz2]; omega) (by omega)
  rw [hz1] at h
  simpa [zero41, Value.cells] using h

/-- What 'next' leaves. -/
structure NextOut (w : World) (x sp n : Nat) (D : Nat → RunData) (r : Nat → Nat) (wr : World) : Prop where
  grown : w.grownBy wr (some x)
  runs : ∀ i, i < n → RunOk w.heap.size wr x i (D i) (r i)
  spots : wr.rowIs sp 41 (n * 2) (spotF D r n)

theorem NextInv.out {w wr : World} {x sp pk n : Nat} {D : Nat → RunData} {S0 r : Nat → Nat} {count : Int} {lid : ByteArray} {lkey : Int} (h : NextInv w x sp pk w.heap.size n D S0 r count lid lkey n n wr) (hx : x < w.heap.size) (hsp : w.heap.size < sp) (v0 v1 v2 v3 : Value) :
    NextOut w x sp n D r ((((wr.setCell ⟨w.heap.size, 0, none⟩ v0).setCell ⟨w.heap.size, 1, none⟩ v1).setCell ⟨w.heap.size, 2, none⟩ v2).setCell ⟨w.heap.size, 3, none⟩ v3) := by
  refine ⟨⟨h.grown.os, h.grown.tape, h.grown.output, by simpa using h.grown.size, fun k hk hne => ?_⟩, fun i hi => ?_, ?_⟩
  · rw [heap_setCell_at, if_neg (by omega), heap_setCell_at, if_neg (by omega), heap_setCell_at, if_neg (by omega), heap_setCell_at, if_neg (by omega)]; exact h.grown.block k hk hne
  · have hr := h.runs i hi
    rw [if_pos hi] at hr
    exact (((hr.far (Nat.le_refl _) (by omega) _).far (Nat.le_refl _) (by omega) _).far (Nat.le_refl _) (by omega) _).far (Nat.le_refl _) (by omega) _
  · exact (((h.spots.setOther (by show sp ≠ w.heap.size; omega) _).setOther (by show sp ≠ w.heap.size; omega) _).setOther (by show sp ≠ w.heap.size; omega) _).setOther (by show sp ≠ w.heap.size; omega) _

def anyM (D : Nat → RunData) (r : Nat → Nat) : Nat → Bool
  | 0 => false
  | k + 1 => (decide (r k < (D k).len) || (D k).more) || anyM D r k

/-- 'more' at run a, as the round meets it. -/
theorem more_at {w wr : World} {x sp pk rb n pM pR : Nat} {D : Nat → RunData} {S0 r : Nat → Nat} {desc : Bool} {count : Int} {lid : ByteArray} {lkey : Int} {a b : Nat} (h : NextInv w x sp pk rb n D S0 r count lid lkey a b wr) (ha : a < n)
    (hxlt : x < w.heap.size) (hRlt : pR < w.heap.size) (hMlt : pM < w.heap.size) (hxR : x ≠ pR) (hxM : x ≠ pM) (hd : RdAt w pM pR desc count lid lkey none 0 0) (hS : S0 a ≤ (D a).len ∧ (D a).len ≤ 1024) (hr : r a = stopAt (fun j => pasB desc count lid lkey ((D a).id j) ((D a).key j)) (D a).len (S0 a)) :
    Calls Yba.prog 14 #[.pointer (some ⟨x, a * 8, none⟩), .func (.func 15) #[.pointer (some ⟨pR, 0, none⟩)] #[]] wr fun e w' =>
      e = .returned (.bool (decide (r a < (D a).len) || (D a).more)) ∧ Below wr.heap.size (wr.setCell ⟨x, a * 8 + 2, none⟩ (.int .i64 (r a))) w' := by
  have hrun := h.runs a ha
  rw [if_neg (by omega)] at hrun
  obtain ⟨g, q, h1, h2, h3, h4, h5, h6, h7⟩ := hrun
  have hd' : RdAt wr pM pR desc count lid lkey none 0 0 := hd.of (h.grown.block _ hMlt (by simp; omega)) (h.grown.block _ hRlt (by simp; omega))
  have hm := more_any x (a * 8) g (D a).len (S0 a) pM pR hS.1 hS.2 (D a).id (D a).key (D a).pos (D a).next (D a).more _ desc count lid lkey none 0 0 wr h1 h2 hd' (h.fz _) hxR hxM h4
  rw [← hr] at hm
  exact hm

/-- 'spot' at run b, as the round meets it. -/
theorem spot_at {w wr : World} {x sp pk rb n : Nat} {D : Nat → RunData} {S0 r : Nat → Nat} {count : Int} {lid : ByteArray} {lkey : Int} {a b : Nat} (h : NextInv w x sp pk rb n D S0 r count lid lkey a b wr) (hb : b < n) (hba : b < a) (hr : r b ≤ (D b).len) (hl : (D b).len ≤ 1024) :
    Calls Yba.prog 16 #[.pointer (some ⟨x, b * 8, none⟩)] wr fun e w' =>
      e = .returned (.agg #[.string (aftP (D b).len (D b).next (D b).up ((D b).ps (r b - 1)) (D b).pos (r b)), .int .i64 (aftS (D b).len (D b).up (r b))]) ∧ Below wr.heap.size wr w' := by
  have hrun := h.runs b hb
  rw [if_pos hba] at hrun
  obtain ⟨g, q, h1, h2, h3, h4, h5, h6, h7⟩ := hrun
  exact spot_any x (b * 8) g q (D b).len (r b) hr hl (D b).next (D b).pos ((D b).ps (r b - 1)) (D b).more (D b).up wr h1 (fun hu h0 hlt => h3 hu _ (by omega))

set_option maxHeartbeats 1000000 in
theorem next_any (x n pM pR : Nat) (hn : n ≤ 1024) (D : Nat → RunData) (S0 : Nat → Nat) (desc : Bool) (count : Int) (lid : ByteArray) (lkey : Int) (w : World) (hS : ∀ i, i < n → S0 i ≤ (D i).len ∧ (D i).len ≤ 1024)
    (hd : RdAt w pM pR desc count lid lkey none 0 0) (h5 : w.cell? ⟨pR, 5, none⟩ = some (.slice (some ⟨x, 0, none⟩) n n)) (hxlt : x < w.heap.size) (hxR : x ≠ pR) (hxM : x ≠ pM) (hfz : ∀ j, w.frozen? ⟨x, j, none⟩ = false)
    (hruns : ∀ i, i < n → RunOk w.heap.size w x i (D i) (S0 i)) (r : Nat → Nat) (hr : ∀ i, r i = stopAt (fun j => pasB desc count lid lkey ((D i).id j) ((D i).key j)) (D i).len (S0 i)) :
    Calls Yba.prog 9 #[.pointer (some ⟨pR, 0, none⟩)] w fun e w' => ∃ sp, w.heap.size ≤ sp ∧
      e = .returned (.tuple #[.agg #[.int .i64 count, .string lid, .int .i64 lkey, .slice (some ⟨sp, 0, none⟩) n n], .bool (anyM D r n)]) ∧ NextOut w x sp n D r w' := by
  have hRlt := World.block_lt_of_cell? _ _ hd.h0
  simp only at hRlt
  have hMlt := World.block_lt_of_cell? _ _ hd.hM
  simp only at hMlt
  have HRD : Hid (RdAt w pM pR desc count lid lkey none 0 0) := hd
  have HR5 : Hid (w.cell? ⟨pR, 5, none⟩ = some (.slice (some ⟨x, 0, none⟩) n n)) := h5
  have HRR : Hid (∀ i, r i = stopAt (fun j => pasB desc count lid lkey ((D i).id j) ((D i).key j)) (D i).len (S0 i)) := hr
  have HSS : Hid (∀ i, i < n → S0 i ≤ (D i).len ∧ (D i).len ≤ 1024) := hS
  obtain ⟨hM, h0, h1, h2, h3, h4⟩ := hd
  clear hr hS
  have hmk := make41 n hn
  have HR : Hid (∀ i, i < n → RunOk w.heap.size w x i (D i) (S0 i)) := hruns
  have HF : Hid (∀ j, w.frozen? ⟨x, j, none⟩ = false) := hfz
  clear hruns hfz
  go_enter Yba.func9, Yba.ntmps9
  go_wp2
  go_cut [4] (fun k wc => ∃ sp pk, w.heap.size < sp ∧ w.heap.size < pk ∧ sp ≠ pk ∧ k = .pointer (some ⟨pk, 0, none⟩) ∧ NextInv w x sp pk w.heap.size n D S0 r count lid lkey 0 0 wc)
  case first =>
    go_region_held3 (fun w' => w'.cell? ⟨pR, 1, none⟩ = some (.int .i64 count) ∧ w'.cell? ⟨pR, 2, none⟩ = some (.string lid) ∧ w'.cell? ⟨pR, 3, none⟩ = some (.int .i64 lkey) ∧ w'.cell? ⟨pR, 5, none⟩ = some (.slice (some ⟨x, 0, none⟩) n n))
      (first | (go_split_ands; refine ⟨?_, ?_, ?_, ?_⟩ <;> (first | (apply cell_b3; assumption) | (apply cell_b2; assumption))) | go_keep)
      (fail)
    all_goals go_wp2
    all_goals go_meet
    · exact ⟨_, _, by omega, by omega, by omega, rfl, next_start1 w x n D S0 r count lid lkey hxlt HF.out HR.out⟩
    · exact ⟨_, _, by omega, by omega, by omega, rfl, next_start2 w x n D S0 r count lid lkey hxlt HF.out HR.out⟩
  case rest =>
    obtain ⟨sp, pk, hsp, hpk, hspk, rfl, hinv⟩ := hcut
    have f5 : wc.cell? ⟨pR, 5, none⟩ = some (.slice (some ⟨x, 0, none⟩) n n) := by rw [hinv.grown.cell_far _ hRlt (by simp; omega)]; exact h5
    have HI : Hid (NextInv w x sp pk w.heap.size n D S0 r count lid lkey 0 0 wc) := hinv
    clear hinv h5
    go_wp2
    go_loopw [29, 5] (fun i m wr => ∃ k : Nat, k ≤ n ∧ i = .int .i64 k ∧ m = .bool (anyM D r k) ∧ NextInv w x sp pk w.heap.size n D S0 r count lid lkey k k wr) (fun i _ _ => n - (intOf i).toNat)
    case atStart => exact ⟨0, Nat.zero_le _, rfl, rfl, HI.out⟩
    case round =>
      obtain ⟨k, hk, rfl, rfl, hinv⟩ := hrel
      clear f5 HI
      have f5 : wr.cell? ⟨pR, 5, none⟩ = some (.slice (some ⟨x, 0, none⟩) n n) := by rw [hinv.grown.cell_far _ hRlt (by simp; omega)]; exact HR5.out
      have HI : Hid (NextInv w x sp pk w.heap.size n D S0 r count lid lkey k k wr) := hinv
      clear hinv
      by_cases hlt : k < n
      · have hlt' : (k : Int) < (n : Int) := by omega
        obtain ⟨mb, hmb⟩ : ∃ mb, mb = (decide (r k < (D k).len) || (D k).more) := ⟨_, rfl⟩
        have hma := more_at HI.out hlt hxlt hRlt hMlt hxR hxM HRD.out (HSS.out k hlt) (HRR.out k)
        rw [← hmb] at hma
        have HMA : Hid (Calls Yba.prog 14 #[.pointer (some ⟨x, k * 8, none⟩), .func (.func 15) #[.pointer (some ⟨pR, 0, none⟩)] #[]] wr fun e w' => e = .returned (.bool mb) ∧ Below wr.heap.size (wr.setCell ⟨x, k * 8 + 2, none⟩ (.int .i64 (r k))) w') := hma
        have HMB : Hid (mb = (decide (r k < (D k).len) || (D k).more)) := hmb
        clear hma hmb
        cases mb
        all_goals
          go_wp2_with (go_at_call 14; refine (HMA.out).mono ?_; rintro e w1 ⟨rfl, hb⟩)
          have hi1 := HI.out.skip hxlt (by omega) (by omega) (by omega) hb
          have g5 : w1.cell? ⟨pR, 5, none⟩ = some (.slice (some ⟨x, 0, none⟩) n n) := by rw [hi1.grown.cell_far _ hRlt (by simp; omega)]; exact HR5.out
          have g3 : w1.cell? ⟨pk, 3, none⟩ = some (.slice (some ⟨sp, 0, none⟩) n n) := by rw [hi1.ks.cell (by decide)]; rfl
          have hrk : r k ≤ (D k).len := by rw [HRR.out k]; exact (stops_at _ _ _ (HSS.out k hlt).1).hi
          have HI1 : Hid (NextInv w x sp pk w.heap.size n D S0 r count lid lkey (k + 1) k w1) := hi1
          have HLE : Hid (r k ≤ (D k).len) := hrk
          clear hi1 hb f5 HMA hrk
          obtain ⟨aP, haP⟩ : ∃ p, p = aftP (D k).len (D k).next (D k).up ((D k).ps (r k - 1)) (D k).pos (r k) := ⟨_, rfl⟩
          obtain ⟨aS, haS⟩ : ∃ p, p = aftS (D k).len (D k).up (r k) := ⟨_, rfl⟩
          have HAP : Hid (aP = aftP (D k).len (D k).next (D k).up ((D k).ps (r k - 1)) (D k).pos (r k)) := haP
          have HAS : Hid (aS = aftS (D k).len (D k).up (r k)) := haS
          have HSP : Hid (Calls Yba.prog 16 #[.pointer (some ⟨x, k * 8, none⟩)] w1.drew fun e w' => e = .returned (.agg #[.string aP, .int .i64 aS]) ∧ Below w1.heap.size w1 w') := by
            have h := spot_at (HI1.out.below (w' := w1.drew) hxlt (Below.refl _ _).drew) hlt (by omega) HLE.out (HSS.out k hlt).2
            rw [← haP, ← haS] at h
            exact h.mono fun e w' ⟨h1, h2⟩ => ⟨h1, (Below.refl _ _).drew.trans h2⟩
          clear haP haS
          go_region_held3 (fun w' => w'.cell? ⟨pR, 5, none⟩ = some (.slice (some ⟨x, 0, none⟩) n n) ∧ w'.cell? ⟨pk, 3, none⟩ = some (.slice (some ⟨sp, 0, none⟩) n n))
            (first | (go_split_ands; refine ⟨?_, ?_⟩ <;> (first | (rw [cell_apart (by omega), cell_apart (by omega)]; assumption) | assumption)) | go_keep)
            (first | (go_at_call 16; refine (HSP.out).mono ?_; rintro e w2 ⟨rfl, hb2⟩; have hi2 := (HI1.out.below hxlt hb2); have k5 : w2.cell? ⟨pR, 5, none⟩ = some (.slice (some ⟨x, 0, none⟩) n n) := (by rw [hi2.grown.cell_far _ hRlt (by simp; omega)]; exact HR5.out); have k3 : w2.cell? ⟨pk, 3, none⟩ = some (.slice (some ⟨sp, 0, none⟩) n n) := (by rw [hi2.ks.cell (by decide)]; rfl); obtain ⟨o1, ho1⟩ : ∃ u, w2.cell? ⟨sp, k * 2, none⟩ = some u := ⟨_, hi2.spots.cell (by omega)⟩; obtain ⟨o2, ho2⟩ : ∃ u, w2.cell? ⟨sp, k * 2 + 1, none⟩ = some u := ⟨_, hi2.spots.cell (by omega)⟩; have ff1 := hi2.spots.frozen (k * 2); have ff2 := hi2.spots.frozen (k * 2 + 1); have HI2 : Hid (NextInv w x sp pk w.heap.size n D S0 r count lid lkey (k + 1) k w2) := hi2; clear hi2))
          go_wp2
          have hi3 := HI2.out.store hxlt (by omega) (by omega) hspk (by omega)
          rw [← HAP.out, ← HAS.out] at hi3
          go_roundw
          case rel => exact ⟨k + 1, by omega, by go_num, by rw [anyM, ← HMB.out]; simp, hi3⟩
          case measure => simp [intOf]; omega
      · have hkn : k = n := by omega
        subst hkn
        have k0 : wr.cell? ⟨pk, 0, none⟩ = some (.int .i64 count) := by rw [HI.out.ks.cell (by decide)]; rfl
        have k1 : wr.cell? ⟨pk, 1, none⟩ = some (.string lid) := by rw [HI.out.ks.cell (by decide)]; rfl
        have k2 : wr.cell? ⟨pk, 2, none⟩ = some (.int .i64 lkey) := by rw [HI.out.ks.cell (by decide)]; rfl
        have k3 : wr.cell? ⟨pk, 3, none⟩ = some (.slice (some ⟨sp, 0, none⟩) k k) := by rw [HI.out.ks.cell (by decide)]; rfl
        have z0 : wr.cell? ⟨w.heap.size, 0, none⟩ = some (.int .i64 0) := by rw [HI.out.res.cell (by decide)]; rfl
        have z1 : wr.cell? ⟨w.heap.size, 1, none⟩ = some (.string ⟨#[]⟩) := by rw [HI.out.res.cell (by decide)]; rfl
        have z2 : wr.cell? ⟨w.heap.size, 2, none⟩ = some (.int .i64 0) := by rw [HI.out.res.cell (by decide)]; rfl
        have z3 : wr.cell? ⟨w.heap.size, 3, none⟩ = some (.slice none 0 0) := by rw [HI.out.res.cell (by decide)]; rfl
        have y0 := HI.out.res.frozen 0
        have y1 := HI.out.res.frozen 1
        have y2 := HI.out.res.frozen 2
        have y3 := HI.out.res.frozen 3
        go_wp2
        refine bodyPost_ret (v := .tuple #[.agg #[.int .i64 count, .string lid, .int .i64 lkey, .slice (some ⟨sp, 0, none⟩) k k], .bool (anyM D r k)]) (by simp [results, Yba.results9, go_sem, z0, z1, z2, z3]) rfl ⟨sp, by omega, rfl, ?_⟩
        exact HI.out.out hxlt hsp _ _ _ _
#print axioms next_any
end Go.Proofs.Ybulkbboy
