/- 3 (LawS2637AModel): the walk. -/
import Derived.Test.YbulkbboyBuild
import Derived.Laws.StructEq
import Derived.Deep.CutBlock
import Derived.WalkLawsBesides
namespace Go.Proofs.Ybulkbboy
open Go.ChangeShapes Go.WideShapes Go.ChangeAt Go.RowKit
set_option linter.unusedVariables false
set_option linter.unusedSimpArgs false

theorem eq28 (a : ByteArray) (b : Int) (w : World) : (Op.equalIn 10000 28 (.agg #[.string a, .int .i64 b]) (.agg #[.string a, .int .i64 b])).run Yba.prog w = .ok true w := by
  have u9 := Yba.underlying9
  have u2 := Yba.underlying2
  have hS : Yba.prog.underlying 28 = some (.struct (Yba.prog.fieldsOf 28)) := by kernel_rfl
  have hp : Yba.prog.stoodInHeld 28 = false := by kernel_rfl
  rw [show (10000 : Nat) = 9999 + 1 from rfl, run_equalIn_agg w 9999 28 _ _ hS hp]
  simp only [Program.fieldsOf, Yba.underlying28]
  go_simp
theorem eq41 (a : ByteArray) (b : Int) (w : World) : (Op.equalIn 10000 41 (.agg #[.string a, .int .i64 b]) (.agg #[.string a, .int .i64 b])).run Yba.prog w = .ok true w := by
  have u9 := Yba.underlying9
  have u3 := Yba.underlying3
  have hS : Yba.prog.underlying 41 = some (.struct (Yba.prog.fieldsOf 41)) := by kernel_rfl
  have hp : Yba.prog.stoodInHeld 41 = false := by kernel_rfl
  rw [show (10000 : Nat) = 9999 + 1 from rfl, run_equalIn_agg w 9999 41 _ _ hS hp]
  simp only [Program.fieldsOf, Yba.underlying41]
  go_simp

/-- 'build' and 'next', one behind the other, as the law meets them. -/
theorem next_at {I : Inp} {desc : Bool} {count : Int} {lid : ByteArray} {lkey : Int} {n pM pR x : Nat} {wA wB : World} (h : BuildInv wA pM pR x n (mkD I) (mkS I) desc count lid lkey n wB) (hn : n ≤ 1024) (hl : ∀ i, i < n → I.hl i ≤ 1024) (hxR : x ≠ pR) (hxM : x ≠ pM) :
    Calls Yba.prog 9 #[.pointer (some ⟨pR, 0, none⟩)] wB fun e w' => ∃ sp, wB.heap.size ≤ sp ∧
      e = .returned (.tuple #[.agg #[.int .i64 count, .string lid, .int .i64 lkey, .slice (some ⟨sp, 0, none⟩) n n], .bool (anyM (mkD I) (fun i => stopAt (fun j => pasB desc count lid lkey (I.id i j) (I.key i j)) (I.hl i) (mkS I i)) n)]) ∧
      NextOut wB x sp n (mkD I) (fun i => stopAt (fun j => pasB desc count lid lkey (I.id i j) (I.key i j)) (I.hl i) (mkS I i)) w' := by
  obtain ⟨f, hf⟩ := h.row
  exact next_any x n pM pR hn (mkD I) (mkS I) desc count lid lkey wB (fun i hi => ⟨mkS_le I i, hl i hi⟩) h.rd h.c5 hf.lt hxR hxM (fun j => hf.frozen j) h.runs _ (fun i => rfl)

/-- WHAT THE LAW's LOOP READS. -/
structure LawW (I : Inp) (b off n x sp pk pR lb : Nat) (r : Nat → Nat) (lid : ByteArray) (lkey : Int) (wr : World) : Prop where
  el : ∀ i, i < n → ElAt I wr b (off + i * 7) i
  run : ∀ i, i < n → RunOk wr.heap.size wr x i (mkD I i) (r i)
  spots : wr.rowIs sp 41 (n * 2) (spotF (mkD I) r n)
  ks : wr.cell? ⟨pk, 3, none⟩ = some (.slice (some ⟨sp, 0, none⟩) n n)
  rx : wr.cell? ⟨pR, 5, none⟩ = some (.slice (some ⟨x, 0, none⟩) n n)
  l0 : wr.cell? ⟨lb, 0, none⟩ = some (.string lid)
  l1 : wr.cell? ⟨lb, 1, none⟩ = some (.int .i64 lkey)

theorem LawW.below {I : Inp} {b off n x sp pk pR lb : Nat} {r : Nat → Nat} {lid : ByteArray} {lkey : Int} {wr w' : World} (h : LawW I b off n x sp pk pR lb r lid lkey wr) (hb : Below wr.heap.size wr w') : LawW I b off n x sp pk pR lb r lid lkey w' :=
  ⟨fun i hi => (h.el i hi).below hb, fun i hi => ((h.run i hi).below hb).mono hb.size, h.spots.of_block (hb.block _ h.spots.lt), cell_bel hb h.ks, cell_bel hb h.rx, cell_bel hb h.l0, cell_bel hb h.l1⟩

theorem law_start {I : Inp} {desc : Bool} {count : Int} {lid : ByteArray} {lkey : Int} {a : Option Addr} {n c b off pM pR x sp : Nat} {r : Nat → Nat} {w wB wC : World} (hin : InAt I (w.alloc (.cells #[.string lid, .int .i64 lkey] 23)) a n c b off)
    (h : BuildInv (w.alloc (.cells #[.string lid, .int .i64 lkey] 23)) pM pR x n (mkD I) (mkS I) desc count lid lkey n wB) (ho : NextOut wB x sp n (mkD I) r wC) (hX : w.heap.size + 1 ≤ x) (hxR : x ≠ pR) :
    LawW I b off n x sp wC.heap.size pR w.heap.size r lid lkey (wC.alloc (.cells #[.int .i64 count, .string lid, .int .i64 lkey, .slice (some ⟨sp, 0, none⟩) n n] 31)) ∧
      Below w.heap.size w (wC.alloc (.cells #[.int .i64 count, .string lid, .int .i64 lkey, .slice (some ⟨sp, 0, none⟩) n n] 31)) := by
  have hsA : (w.alloc (.cells #[.string lid, .int .i64 lkey] 23)).heap.size = w.heap.size + 1 := by simp
  have hAB := h.below.size
  have hBC := ho.grown.size
  have hbC : Below (w.alloc (.cells #[.string lid, .int .i64 lkey] 23)).heap.size (w.alloc (.cells #[.string lid, .int .i64 lkey] 23)) wC :=
    ⟨ho.grown.os.trans h.below.os, ho.grown.tape.trans h.below.tape, ho.grown.output.trans h.below.output, by omega, fun k hk => (ho.grown.block k (by omega) (by simp; omega)).trans (h.below.block k hk)⟩
  have hD : Below wC.heap.size wC (wC.alloc (.cells #[.int .i64 count, .string lid, .int .i64 lkey, .slice (some ⟨sp, 0, none⟩) n n] 31)) := (Below.refl _ _).alloc (Nat.le_refl _) _
  have hbD := hbC.trans (hD.mono (by omega))
  have hRl := World.block_lt_of_cell? _ _ h.c5
  refine ⟨⟨fun i hi => (hin.el i hi).below hbD, fun i hi => ((ho.runs i hi).below hD).mono (by simp; omega), ho.spots.of_block (hD.block _ ho.spots.lt), by simp, ?_, cell_bel hbD (by simp), cell_bel hbD (by simp)⟩, ?_⟩
  · refine cell_bel hD ?_
    rw [ho.grown.cell_far _ hRl (by simp; omega)]; exact h.c5
  · exact ((Below.refl _ _).alloc (Nat.le_refl _) _).trans (hbD.mono (by omega))

set_option maxRecDepth 100000 in
set_option maxHeartbeats 4000000 in
theorem model_walk (I : Inp) (desc : Bool) (count : Int) (lid : ByteArray) (lkey : Int) (a : Option Addr) (n c b off : Nat) (w : World) (hin : InAt I w a n c b off) :
    Calls Yba.prog 3 #[.bool desc, .int .i64 count, .agg #[.string lid, .int .i64 lkey], .slice a n c] w fun e w' => e = .returned (.bool true) ∧ Below w.heap.size w w' := by
  have heq28 := eq28 lid lkey
  have hg28 : Yba.prog.eqGuardType Yba.prog.depth 28 = false := by kernel_rfl
  have hA : ∀ o, Below w.heap.size w (w.alloc o) := fun o => (Below.refl _ _).alloc (Nat.le_refl _) _
  have HIN : Hid (InAt I (w.alloc (.cells #[.string lid, .int .i64 lkey] 23)) a n c b off) := hin.below (hA _)
  have HA : Hid (Below w.heap.size w (w.alloc (.cells #[.string lid, .int .i64 lkey] 23))) := hA _
  clear hin hA
  go_enter Yba.func3, Yba.ntmps3
  go_wp2_with (go_at_call 7; refine (size_any I a n c b off _ HIN.out).mono ?_; rintro e w1 ⟨⟨bb, rfl, hbb⟩, rfl⟩; have HBB : Hid (bb = true → n ≤ 1024 ∧ ∀ i, i < n → I.hl i ≤ 1024) := hbb; clear hbb)
  · go_ret
    exact ⟨rfl, HA.out⟩
  have hbt : bb = true := by
    cases bb
    · rename_i hh; cases hh
    · rfl
  obtain ⟨hn, hl⟩ := HBB.out hbt
  have HL : Hid (∀ i, i < n → I.hl i ≤ 1024) := hl
  clear HBB hl
  refine (build_any I desc count lid lkey a n c b off _ HIN.out hn HL.out).mono ?_
  rintro e wB ⟨pM, pR, x, hM, hR, hX, hxR, hxM, rfl, hinv⟩
  have HI : Hid (BuildInv (w.alloc (.cells #[.string lid, .int .i64 lkey] 23)) pM pR x n (mkD I) (mkS I) desc count lid lkey n wB) := hinv
  obtain ⟨r, hr⟩ : ∃ r, r = (fun i => stopAt (fun j => pasB desc count lid lkey (I.id i j) (I.key i j)) (I.hl i) (mkS I i)) := ⟨_, rfl⟩
  have hna := next_at hinv hn HL.out hxR hxM
  rw [← hr] at hna
  have HR : Hid (r = (fun i => stopAt (fun j => pasB desc count lid lkey (I.id i j) (I.key i j)) (I.hl i) (mkS I i))) := hr
  obtain ⟨mm, hmm⟩ : ∃ mm, mm = anyM (mkD I) r n := ⟨_, rfl⟩
  rw [← hmm] at hna
  have HMM : Hid (mm = anyM (mkD I) r n) := hmm
  have HN : Hid (Calls Yba.prog 9 #[.pointer (some ⟨pR, 0, none⟩)] wB fun e w' => ∃ sp, wB.heap.size ≤ sp ∧ e = .returned (.tuple #[.agg #[.int .i64 count, .string lid, .int .i64 lkey, .slice (some ⟨sp, 0, none⟩) n n], .bool mm]) ∧ NextOut wB x sp n (mkD I) r w') := hna
  have bl := cell_bel hinv.below (show (w.alloc (.cells #[.string lid, .int .i64 lkey] 23)).cell? ⟨w.heap.size, 0, none⟩ = some (.string lid) by simp)
  have bk := cell_bel hinv.below (show (w.alloc (.cells #[.string lid, .int .i64 lkey] 23)).cell? ⟨w.heap.size, 1, none⟩ = some (.int .i64 lkey) by simp)
  have hszB : w.heap.size + 1 ≤ wB.heap.size := by simpa using hinv.below.size
  have hXl : x < wB.heap.size := by obtain ⟨f, hf⟩ := hinv.row; exact hf.lt
  clear hinv hna hr hmm hbt
  simp only [World.size_alloc] at hM hR hX
  go_wp2_with (go_at_call 9; refine (HN.out).mono ?_; rintro e wC ⟨sp, hsp, rfl, hout⟩; have gl : wC.cell? ⟨w.heap.size, 0, none⟩ = some (.string lid) := (by rw [hout.grown.cell_far _ (by show w.heap.size < _; omega) (by simp; omega)]; exact bl); have gk : wC.cell? ⟨w.heap.size, 1, none⟩ = some (.int .i64 lkey) := (by rw [hout.grown.cell_far _ (by show w.heap.size < _; omega) (by simp; omega)]; exact bk); have hszC : wB.heap.size ≤ wC.heap.size := hout.grown.size; have hwC : w.heap.size < wC.heap.size := (by omega); have hwC' : w.heap.size ≠ wC.heap.size := (by omega); have HO : Hid (NextOut wB x sp n (mkD I) r wC) := hout; clear hout)
  have hls := law_start HIN.out HI.out HO.out hX hxR
  have HLW : Hid (LawW I b off n x sp wC.heap.size pR w.heap.size r lid lkey (wC.alloc (.cells #[.int .i64 count, .string lid, .int .i64 lkey, .slice (some ⟨sp, 0, none⟩) n n] 31))) := hls.1
  have HBW : Hid (Below w.heap.size w (wC.alloc (.cells #[.int .i64 count, .string lid, .int .i64 lkey, .slice (some ⟨sp, 0, none⟩) n n] 31))) := hls.2
  have HAD : Hid (0 < n → a = some ⟨b, off, none⟩) := HIN.out.ad
  clear hls HO HI HIN HN gl gk bl bk heq28 hg28 hszB hszC hwC hwC' HA
  go_loopw [12, 13] (fun e i wr => ∃ k : Nat, k ≤ n ∧ i = .int .i64 k ∧ e = .bool (anyM (mkD I) r k) ∧ LawW I b off n x sp wC.heap.size pR w.heap.size r lid lkey wr ∧ Below w.heap.size w wr) (fun _ i _ => n - (intOf i).toNat)
  case atStart => exact ⟨0, Nat.zero_le _, rfl, rfl, HLW.out, HBW.out⟩
  case round =>
    obtain ⟨k, hk, rfl, rfl, hlw, hbw⟩ := hrel
    obtain ⟨w0, rfl⟩ : ∃ w0, w0 = wr := ⟨_, rfl⟩
    clear HLW HBW
    by_cases hlt : k < n
    · have had := HAD.out (by omega)
      subst had
      have hlk := HL.out k hlt
      have hsk := mkS_eq I k
      obtain ⟨c0, c1, c2, c3, c4, c5, c6, sk0, hits, poss, hlm, plm⟩ := hlw.el k hlt
      obtain ⟨s0, hs0⟩ : ∃ l, mkS I k = l := ⟨_, rfl⟩
      have hs0l := mkS_le I k
      obtain ⟨len, hlen⟩ : ∃ l, I.hl k = l := ⟨_, rfl⟩
      obtain ⟨ha, hha⟩ : ∃ l, I.ha k = l := ⟨_, rfl⟩
      obtain ⟨pl, hpl⟩ : ∃ l, I.pl k = l := ⟨_, rfl⟩
      obtain ⟨pa, hpa⟩ : ∃ l, I.pa k = l := ⟨_, rfl⟩
      obtain ⟨u, hu⟩ : ∃ l, I.up k = l := ⟨_, rfl⟩
      obtain ⟨mo, hmo⟩ : ∃ l, I.mo k = l := ⟨_, rfl⟩
      rw [hlen] at c0 hits hlm hlk hsk hs0l
      rw [hs0] at hsk hs0l
      rw [hha] at c0 hits
      rw [hpl] at c6 poss plm
      rw [hpa] at c6 poss
      rw [hu] at c5
      rw [hmo] at c2
      unfold maxLen at hlm plm
      have HLEN : Hid (I.hl k = len) := hlen
      have HPL : Hid (I.pl k = pl) := hpl
      have HU : Hid (I.up k = u) := hu
      have HMO : Hid (I.mo k = mo) := hmo
      have HS0 : Hid (mkS I k = s0) := hs0
      have HHITS : Hid (0 < len → ∃ hb ho, ha = some ⟨hb, ho, none⟩ ∧ ∀ j, j < len → w0.cell? ⟨hb, ho + j * 2, none⟩ = some (.string (I.id k j)) ∧ w0.cell? ⟨hb, ho + j * 2 + 1, none⟩ = some (.int .i64 (I.key k j))) := hits
      have HPOSS : Hid (0 < pl → ∃ pb po, pa = some ⟨pb, po, none⟩ ∧ ∀ j, j < pl → w0.cell? ⟨pb, po + j, none⟩ = some (.string (I.ps k j))) := poss
      have HW0 : Hid (LawW I b off n x sp wC.heap.size pR w.heap.size r lid lkey w0) := hlw
      have HB0 : Hid (Below w.heap.size w w0) := hbw
      have HRK : Hid (r k = stopAt (fun j => pasB desc count lid lkey (I.id k j) (I.key k j)) len s0) := by
        show r k = _
        rw [HR.out]; simp only [hlen, hs0]
      clear hlen hha hpl hpa hu hmo hs0 hits poss hlw hbw
      obtain ⟨rk, hrk⟩ : ∃ rk, r k = rk := ⟨_, rfl⟩
      have hst := stops_at (fun j => pasB desc count lid lkey (I.id k j) (I.key k j)) len s0 hs0l
      rw [← HRK.out, hrk] at hst
      have HST : Hid (Stops (fun j => pasB desc count lid lkey (I.id k j) (I.key k j)) len s0 rk) := hst
      have HRK2 : Hid (r k = rk) := hrk
      have hrkl : rk ≤ len := hst.hi
      clear hst hrk HRK
      go_upto_block 2 with (fail)
      rw [hsk]
      clear hsk
      go_cut [15] (fun s wi => s = .int .i64 rk ∧ Below w0.heap.size w0 wi)
      case first =>
        go_wp2
        go_loopw [15] (fun s wi => ∃ s' : Nat, s0 ≤ s' ∧ s' ≤ len ∧ s = .int .i64 s' ∧ (∀ j, s0 ≤ j → j < s' → pasB desc count lid lkey (I.id k j) (I.key k j) = true) ∧ Below w0.heap.size w0 wi) (fun s _ => len - (intOf s).toNat)
        case atStart => exact ⟨s0, Nat.le_refl _, hs0l, rfl, fun j a b => by omega, Below.refl _ _⟩
        case round =>
          obtain ⟨s', hs1, hs2, rfl, hall, hbi⟩ := hrel
          obtain ⟨wi, rfl⟩ : ∃ wi, wi = wr := ⟨_, rfl⟩
          have HALL : Hid (∀ j, s0 ≤ j → j < s' → pasB desc count lid lkey (I.id k j) (I.key k j) = true) := hall
          have HBI : Hid (Below w0.heap.size w0 wi) := hbi
          have hszi := hbi.size
          have l0 := cell_bel hbi HW0.out.l0
          have l1 := cell_bel hbi HW0.out.l1
          clear hall hbi
          by_cases hsl : s' < len
          · obtain ⟨hb, ho, rfl, hcs⟩ := HHITS.out (by omega)
            have q1 := cell_bel HBI.out (hcs s' hsl).1
            have q2 := cell_bel HBI.out (hcs s' hsl).2
            have hd1 : decide ((s' : Int) < (len : Int)) = true := by simpa using hsl
            have hd2 : (s' : Int) < (len : Int) := by omega
            have hd3 : (0 : Int) ≤ (s' : Int) := by omega
            clear hcs c0 c1 c2 c3 c4 c5 c6 HHITS HPOSS
            obtain ⟨pb, hpb⟩ : ∃ pb, pasB desc count lid lkey (I.id k s') (I.key k s') = pb := ⟨_, rfl⟩
            have HAP : Hid (Calls Yba.prog 10 #[.bool desc, .int .i64 count, .agg #[.string lid, .int .i64 lkey], .agg #[.string (I.id k s'), .int .i64 (I.key k s')]] wi.drew fun e w' => e = .returned (.bool pb) ∧ Below wi.heap.size wi w') := by
              have h := apassed_any desc count lid lkey (I.id k s') (I.key k s') wi.drew
              rw [hpb] at h
              exact h.mono fun e w' ⟨h1, h2⟩ => ⟨h1, (Below.refl _ _).drew.trans h2⟩
            have HPB : Hid (pasB desc count lid lkey (I.id k s') (I.key k s') = pb) := hpb
            clear hpb
            cases pb
            · go_wp2
              go_region_held3 (fun w' => w'.cell? ⟨w.heap.size, 0, none⟩ = some (.string lid) ∧ w'.cell? ⟨w.heap.size, 1, none⟩ = some (.int .i64 lkey) ∧ w'.cell? ⟨hb, ho + s' * 2, none⟩ = some (.string (I.id k s')) ∧ w'.cell? ⟨hb, ho + s' * 2 + 1, none⟩ = some (.int .i64 (I.key k s')))
                (first | (go_split_ands; refine ⟨?_, ?_, ?_, ?_⟩ <;> (first | (apply cell_bel hb2; assumption) | assumption)) | go_keep)
                (first | (go_at_call 10; refine (HAP.out).mono ?_; rintro e w1 ⟨rfl, hb2⟩))
              go_wp2
              have he : rk = s' := HST.out.unique ⟨hs1, hs2, HALL.out, fun _ => HPB.out⟩
              subst he
              go_meet
              exact ⟨rfl, HBI.out.trans (hb2.mono hszi)⟩
            · go_wp2
              go_region_held3 (fun w' => w'.cell? ⟨w.heap.size, 0, none⟩ = some (.string lid) ∧ w'.cell? ⟨w.heap.size, 1, none⟩ = some (.int .i64 lkey) ∧ w'.cell? ⟨hb, ho + s' * 2, none⟩ = some (.string (I.id k s')) ∧ w'.cell? ⟨hb, ho + s' * 2 + 1, none⟩ = some (.int .i64 (I.key k s')))
                (first | (go_split_ands; refine ⟨?_, ?_, ?_, ?_⟩ <;> (first | (apply cell_bel hb2; assumption) | assumption)) | go_keep)
                (first | (go_at_call 10; refine (HAP.out).mono ?_; rintro e w1 ⟨rfl, hb2⟩))
              go_wp2
              go_roundw
              case rel =>
                refine ⟨s' + 1, by omega, by omega, by go_num, fun j a b => ?_, HBI.out.trans (hb2.mono hszi)⟩
                by_cases hj : j = s'
                · subst hj; exact HPB.out
                · exact HALL.out j a (by omega)
              case measure => simp [intOf]; omega
          · have hd1 : decide ((s' : Int) < (len : Int)) = false := by simpa using hsl
            clear c0 c1 c2 c3 c4 c5 c6 HHITS HPOSS
            go_wp2
            go_quiet (fail)
            go_wp2
            have he : rk = s' := HST.out.unique ⟨hs1, hs2, HALL.out, fun h => by omega⟩
            subst he
            go_meet
            exact ⟨rfl, HBI.out.trans ⟨rfl, rfl, rfl, Nat.le_refl _, fun _ _ => rfl⟩⟩
      case rest =>
        obtain ⟨rfl, hbi⟩ := hcut
        obtain ⟨w1, rfl⟩ : ∃ w1, w1 = wc := ⟨_, rfl⟩
        have d0 := cell_bel hbi c0
        have d1 := cell_bel hbi c1
        have d2 := cell_bel hbi c2
        have d3 := cell_bel hbi c3
        have d4 := cell_bel hbi c4
        have d5 := cell_bel hbi c5
        have d6 := cell_bel hbi c6
        have HBI : Hid (Below w0.heap.size w0 w1) := hbi
        have HW1 : Hid (LawW I b off n x sp wC.heap.size pR w.heap.size r lid lkey w1) := HW0.out.below hbi
        clear c0 c1 c2 c3 c4 c5 c6 hbi HHITS
        obtain ⟨ob, hob⟩ : ∃ ob, ob = (decide (rk < len) || mo) := ⟨_, rfl⟩
        have HOB : Hid (ob = (decide (rk < len) || mo)) := hob
        clear hob
        go_upto_region 15 with (fail)
        go_cut [100] (fun s wx => s = .bool ob ∧ w1 = wx)
        case first =>
          by_cases hrl : rk < len
          · go_wp2
            go_meet
            exact ⟨by rw [HOB.out]; simp [hrl], rfl⟩
          · go_wp2
            go_meet
            exact ⟨by rw [HOB.out]; simp [hrl], rfl⟩
        case rest =>
          obtain ⟨rfl, rfl⟩ := hcut
          go_upto_if 100 with (fail)
          go_cut [12] (fun e wx => e = .bool (anyM (mkD I) r (k + 1)) ∧ w1 = wx)
          case first =>
            have hev : anyM (mkD I) r (k + 1) = (ob || anyM (mkD I) r k) := by
              rw [HOB.out, anyM, HRK2.out]; show ((decide (rk < I.hl k) || I.mo k) || _) = _; rw [HLEN.out, HMO.out]
            have HEV : Hid (anyM (mkD I) r (k + 1) = (ob || anyM (mkD I) r k)) := hev
            clear hev
            cases ob
            · go_wp2
              go_meet
              exact ⟨by rw [HEV.out]; simp, rfl⟩
            · go_wp2
              go_meet
              exact ⟨by rw [HEV.out]; simp, rfl⟩
          case rest =>
            obtain ⟨rfl, rfl⟩ := hcut
            obtain ⟨an, han⟩ : ∃ an, anyM (mkD I) r (k + 1) = an := ⟨_, rfl⟩
            rw [han]
            have HAN : Hid (anyM (mkD I) r (k + 1) = an) := han
            clear han HOB
            obtain ⟨aP, haP⟩ : ∃ p, p = aftP len (I.ne k) u ((mkD I k).ps (rk - 1)) (I.po k) rk := ⟨_, rfl⟩
            obtain ⟨aS, haS⟩ : ∃ p, p = aftS len u rk := ⟨_, rfl⟩
            have HAP : Hid (aP = aftP len (I.ne k) u ((mkD I k).ps (rk - 1)) (I.po k) rk) := haP
            have HAS : Hid (aS = aftS len u rk) := haS
            clear haP haS
            go_upto_if 104 with (fail)
            go_cut [17] (fun p wx => w1.alloc (.cells #[.string aP, .int .i64 aS] 41) = wx)
            case first =>
              by_cases ha1 : rk = len
              · have e1 : aP = I.ne k := by rw [HAP.out]; simp [aftP, ha1]
                have e2 : aS = 0 := by rw [HAS.out]; simp [aftS, ha1]
                have E1 : Hid (aP = _) := e1
                have E2 : Hid (aS = _) := e2
                clear e1 e2
                have hq : ((rk : Int) == (len : Int)) = true := by simp; omega
                have hbl := World.block_lt_of_cell? _ _ d0
                simp only at hbl
                clear ha1
                go_wp2
                go_meet
                rw [E1.out, E2.out]
              · have hq : ((rk : Int) == (len : Int)) = false := by simp; omega
                have hrl : rk < len := by omega
                by_cases hb1 : 0 < rk ∧ u = true
                · obtain ⟨hr0, hut⟩ := hb1
                  subst hut
                  obtain ⟨m, rfl⟩ : ∃ m, rk = m + 1 := ⟨rk - 1, by omega⟩
                  have e2 : aS = 0 := by rw [HAS.out]; simp [aftS, ha1]
                  have e1 : aP = if m < pl then I.ps k m else ⟨#[]⟩ := by rw [HAP.out]; simp [aftP, ha1, mkD, HPL.out]
                  by_cases hmp : m < pl
                  · obtain ⟨pb, po, rfl, hcs⟩ := HPOSS.out (by omega)
                    have q1 := cell_bel HBI.out (hcs m hmp)
                    have hpb := World.block_lt_of_cell? _ _ q1
                    simp only at hpb
                    have hbl := World.block_lt_of_cell? _ _ d0
                    simp only at hbl
                    rw [if_pos hmp] at e1
                    have E1 : Hid (aP = _) := e1
                    have E2 : Hid (aS = _) := e2
                    clear hcs e1 e2 ha1
                    go_wp2
                    go_meet
                    rw [E1.out, E2.out]
                  · have hbl := World.block_lt_of_cell? _ _ d0
                    simp only at hbl
                    rw [if_neg hmp] at e1
                    have E1 : Hid (aP = _) := e1
                    have E2 : Hid (aS = _) := e2
                    clear e1 e2 ha1
                    go_wp2
                    go_meet
                    rw [E1.out, E2.out]
                · have e1 : aP = I.po k := by rw [HAP.out]; unfold aftP; rw [if_neg ha1, if_neg hb1]
                  have e2 : aS = (rk : Int) := by rw [HAS.out]; unfold aftS; rw [if_neg ha1, if_neg hb1]
                  have E1 : Hid (aP = _) := e1
                  have E2 : Hid (aS = _) := e2
                  have hbl := World.block_lt_of_cell? _ _ d0
                  simp only at hbl
                  by_cases hr0 : 0 < rk
                  · have hut : u = false := by
                      cases u
                      · rfl
                      · exact absurd ⟨hr0, rfl⟩ hb1
                    subst hut
                    clear e1 e2 ha1 hb1
                    go_wp2
                    go_meet
                    rw [E1.out, E2.out]
                  · clear e1 e2 ha1 hb1
                    go_wp2
                    go_meet
                    rw [E1.out, E2.out]
            case rest =>
              subst hcut
              have hbel : Below w1.heap.size w1 (w1.alloc (.cells #[.string aP, .int .i64 aS] 41)) := (Below.refl _ _).alloc (Nat.le_refl _) _
              have hw2 := HW1.out.below hbel
              have s0' : (w1.alloc (.cells #[.string aP, .int .i64 aS] 41)).cell? ⟨w1.heap.size, 0, none⟩ = some (.string aP) := by simp
              have s1' : (w1.alloc (.cells #[.string aP, .int .i64 aS] 41)).cell? ⟨w1.heap.size, 1, none⟩ = some (.int .i64 aS) := by simp
              obtain ⟨w2, hw2e⟩ : ∃ w2, w2 = w1.alloc (.cells #[.string aP, .int .i64 aS] 41) := ⟨_, rfl⟩
              rw [← hw2e] at hbel hw2 s0' s1' ⊢
              have HBE : Hid (Below w1.heap.size w1 w2) := hbel
              have f3 := cell_bel hbel d3
              have k3 := hw2.ks
              have k5 := hw2.rx
              have p0 : w2.cell? ⟨sp, k * 2, none⟩ = some (.string aP) := by
                rw [hw2.spots.cell (by omega)]
                have e1 : (k * 2) / 2 = k := by omega
                have e2 : (k * 2) % 2 = 0 := by omega
                simp only [spotF, e1, e2, if_pos hlt, if_true]
                rw [HAP.out, HRK2.out]
                show some (Value.string (aftP (I.hl k) (I.ne k) (I.up k) _ (I.po k) rk)) = _
                rw [HLEN.out, HU.out]
              have p1 : w2.cell? ⟨sp, k * 2 + 1, none⟩ = some (.int .i64 aS) := by
                rw [hw2.spots.cell (by omega)]
                have e1 : (k * 2 + 1) / 2 = k := by omega
                have e2 : (k * 2 + 1) % 2 = 1 := by omega
                simp only [spotF, e1, e2, if_pos hlt]
                rw [HAS.out, HRK2.out]
                show some (Value.int .i64 (aftS (I.hl k) (I.up k) rk)) = _
                rw [HLEN.out, HU.out]
              obtain ⟨g, q, hrun, _⟩ := hw2.run k hlt
              have x1 := hrun.c1
              have x2 := hrun.c2
              rw [HRK2.out] at x2
              have x1' : w2.cell? ⟨x, k * 8 + 1, none⟩ = some (.string (I.po k)) := x1
              have HW2 : Hid (LawW I b off n x sp wC.heap.size pR w.heap.size r lid lkey w2) := hw2
              have heq41 := eq41 aP aS
              have hg41 : Yba.prog.eqGuardType Yba.prog.depth 41 = false := by kernel_rfl
              have hd2 : (k : Int) < (n : Int) := by omega
              have hd3 : (0 : Int) ≤ (k : Int) := by omega
              clear hw2e hbel hw2 hrun x1 d0 d1 d2 d3 d4 d5 d6 HPOSS
              go_wp2
              go_quiet (fail)
              go_wp2
              go_quiet (fail)
              go_wp2
              go_roundw
              case rel =>
                refine ⟨k + 1, by omega, by go_num, by rw [HAN.out], HW2.out.below ⟨rfl, rfl, rfl, Nat.le_refl _, fun _ _ => rfl⟩, ?_⟩
                have hz1 := HB0.out.size
                have hz2 := HBI.out.size
                exact ((HB0.out.trans (HBI.out.mono hz1)).trans (HBE.out.mono (by omega))).trans ⟨rfl, rfl, rfl, Nat.le_refl _, fun _ _ => rfl⟩
              case measure => simp [intOf]; omega
    · go_wp2
      go_ret
      have hkn : k = n := by omega
      subst hkn
      have e := HMM.out
      subst e
      exact ⟨by simp, hbw⟩
#print axioms model_walk
end Go.Proofs.Ybulkbboy
