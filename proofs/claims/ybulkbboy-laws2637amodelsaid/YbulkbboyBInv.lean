/- WHAT 'zzs2637abuild' (8) HAS LAID WHEN k RUNS ARE DONE: no walk here. -/
import Derived.Test.YbulkbboyIn
namespace Go.Proofs.Ybulkbboy
open Go.ChangeShapes Go.WideShapes Go.ChangeAt Go.RowKit
set_option linter.unusedVariables false
set_option linter.unusedSimpArgs false

/-- The run that 'build' makes of element i. -/
def mkD (I : Inp) (i : Nat) : RunData :=
  { pos := I.po i, next := I.ne i, len := I.hl i, more := I.mo i, up := I.up i, id := I.id i, key := I.key i, ps := fun j => if j < I.pl i then I.ps i j else ⟨#[]⟩ }
def mkS (I : Inp) (i : Nat) : Nat := (I.sk i % ((I.hl i : Int) + 1)).toNat

theorem mkS_le (I : Inp) (i : Nat) : mkS I i ≤ I.hl i := by
  unfold mkS
  have h1 := Int.emod_nonneg (I.sk i) (b := (I.hl i : Int) + 1) (by omega)
  have h2 := Int.emod_lt_of_pos (I.sk i) (b := (I.hl i : Int) + 1) (by omega)
  omega
theorem mkS_eq (I : Inp) (i : Nat) : I.sk i % ((I.hl i : Int) + 1) = (mkS I i : Int) := by
  unfold mkS
  have h1 := Int.emod_nonneg (I.sk i) (b := (I.hl i : Int) + 1) (by omega)
  omega

structure BuildInv (w : World) (pM pR x n : Nat) (D : Nat → RunData) (S0 : Nat → Nat) (desc : Bool) (count : Int) (lid : ByteArray) (lkey : Int) (k : Nat) (wr : World) : Prop where
  below : Below w.heap.size w wr
  rd : RdAt wr pM pR desc count lid lkey none 0 0
  c5 : wr.cell? ⟨pR, 5, none⟩ = some (.slice (some ⟨x, 0, none⟩) n n)
  row : ∃ f, wr.rowIs x 48 (n * 8) f
  runs : ∀ i, i < k → RunOk wr.heap.size wr x i (D i) (S0 i)

theorem RunOk.mono {B B' : Nat} {w : World} {x i : Nat} {d : RunData} {s : Nat} (h : RunOk B w x i d s) (hB : B ≤ B') : RunOk B' w x i d s := by
  obtain ⟨g, q, h1, h2, h3, h4, h5, h6, h7⟩ := h
  exact ⟨g, q, h1, h2, h3, h4, h5, by omega, by omega⟩

/-- The hits' row when j are done. -/
def hitF (id : Nat → ByteArray) (key : Nat → Int) (j : Nat) (c : Nat) : Value :=
  if c / 2 < j then (if c % 2 = 0 then .string (id (c / 2)) else .int .i64 (key (c / 2))) else (if c % 2 = 0 then .string ⟨#[]⟩ else .int .i64 0)
/-- The positions' row when j are done. -/
def posF (pl : Nat) (ps : Nat → ByteArray) (j : Nat) (c : Nat) : Value := if c < j then .string (if c < pl then ps c else ⟨#[]⟩) else .string ⟨#[]⟩

theorem hitF_zero (id : Nat → ByteArray) (key : Nat → Int) (n i : Nat) (hi : i < n * 2) : (zero41 n)[i]? = some (hitF id key 0 i) := by
  have h2 : i % 2 = 0 ∨ i % 2 = 1 := by omega
  rcases h2 with h | h <;> simp [zero41, madeCells, hi, hitF, h]

theorem hitF_step {w : World} {g len j : Nat} {id : Nat → ByteArray} {key : Nat → Int} (h : w.rowIs g 28 (len * 2) (hitF id key j)) :
    ((w.setCell ⟨g, j * 2, none⟩ (.string (id j))).setCell ⟨g, j * 2 + 1, none⟩ (.int .i64 (key j))).rowIs g 28 (len * 2) (hitF id key (j + 1)) := by
  refine ((h.set (j * 2) _).set (j * 2 + 1) _).congr (fun c hc => ?_)
  show (if c = j * 2 + 1 then _ else if c = j * 2 then _ else hitF id key j c) = hitF id key (j + 1) c
  by_cases h1 : c = j * 2 + 1
  · subst h1
    have e1 : (j * 2 + 1) / 2 = j := by omega
    have e2 : (j * 2 + 1) % 2 = 1 := by omega
    simp [hitF, e1, e2]
  · by_cases h2 : c = j * 2
    · subst h2
      have e1 : (j * 2) / 2 = j := by omega
      have e2 : (j * 2) % 2 = 0 := by omega
      simp [hitF, e1, e2]
    · have e : c / 2 < j + 1 ↔ c / 2 < j := by omega
      simp [hitF, h1, h2, e]

theorem hits_of_row {w : World} {g len : Nat} {id : Nat → ByteArray} {key : Nat → Int} (h : w.rowIs g 28 (len * 2) (hitF id key len)) : HitsAt w g len id key := by
  intro j hj
  have e1 : (j * 2 + 1) / 2 = j := by omega
  have e2 : (j * 2 + 1) % 2 = 1 := by omega
  have e3 : (j * 2) / 2 = j := by omega
  have e4 : (j * 2) % 2 = 0 := by omega
  rw [h.cell (by omega), h.cell (by omega)]
  simp [hitF, e1, e2, e3, e4, hj]

theorem posF_step1 {w : World} {q len j pl : Nat} {ps : Nat → ByteArray} (h : w.rowIs q 9 len (posF pl ps j)) (hj : j < pl) : (w.setCell ⟨q, j, none⟩ (.string (ps j))).rowIs q 9 len (posF pl ps (j + 1)) := by
  refine (h.set j _).congr (fun c hc => ?_)
  show (if c = j then _ else posF pl ps j c) = posF pl ps (j + 1) c
  by_cases h1 : c = j
  · subst h1; simp [posF, hj]
  · have e : c < j + 1 ↔ c < j := by omega
    simp [posF, h1, e]

theorem posF_step2 {w : World} {q len j pl : Nat} {ps : Nat → ByteArray} (h : w.rowIs q 9 len (posF pl ps j)) (hj : ¬ j < pl) : w.rowIs q 9 len (posF pl ps (j + 1)) := by
  refine h.congr (fun c hc => ?_)
  by_cases h1 : c = j
  · subst h1; simp [posF, hj]
  · have e : c < j + 1 ↔ c < j := by omega
    simp [posF, e]

theorem pos_of_row {w : World} {q len pl : Nat} {ps : Nat → ByteArray} (h : w.rowIs q 9 len (posF pl ps len)) : PosAt w q len (fun j => if j < pl then ps j else ⟨#[]⟩) := by
  intro j hj
  rw [h.cell hj]
  simp [posF, hj]

/-- The eight stores of one run. -/
def put8 (w : World) (x o : Nat) (v0 v1 v2 v3 v4 v5 v6 v7 : Value) : World :=
  (((((((w.setCell ⟨x, o, none⟩ v0).setCell ⟨x, o + 1, none⟩ v1).setCell ⟨x, o + 2, none⟩ v2).setCell ⟨x, o + 3, none⟩ v3).setCell ⟨x, o + 4, none⟩ v4).setCell ⟨x, o + 5, none⟩ v5).setCell ⟨x, o + 6, none⟩ v6).setCell ⟨x, o + 7, none⟩ v7

theorem put8_size (w : World) (x o : Nat) (v0 v1 v2 v3 v4 v5 v6 v7 : Value) : (put8 w x o v0 v1 v2 v3 v4 v5 v6 v7).heap.size = w.heap.size := by simp [put8]

theorem put8_other (w : World) (x o k : Nat) (v0 v1 v2 v3 v4 v5 v6 v7 : Value) (h : x ≠ k) : (put8 w x o v0 v1 v2 v3 v4 v5 v6 v7).heap[k]? = w.heap[k]? := by
  unfold put8
  rw [heap_setCell_at, if_neg h, heap_setCell_at, if_neg h, heap_setCell_at, if_neg h, heap_setCell_at, if_neg h, heap_setCell_at, if_neg h, heap_setCell_at, if_neg h, heap_setCell_at, if_neg h, heap_setCell_at, if_neg h]

theorem put8_row {w : World} {x m : Nat} {f : Nat → Value} (h : w.rowIs x 48 m f) (o : Nat) (v0 v1 v2 v3 v4 v5 v6 v7 : Value) :
    (put8 w x o v0 v1 v2 v3 v4 v5 v6 v7).rowIs x 48 m (fun c => if c = o + 7 then v7 else if c = o + 6 then v6 else if c = o + 5 then v5 else if c = o + 4 then v4 else if c = o + 3 then v3 else if c = o + 2 then v2 else if c = o + 1 then v1 else if c = o then v0 else f c) :=
  (((((((h.set o v0).set (o + 1) v1).set (o + 2) v2).set (o + 3) v3).set (o + 4) v4).set (o + 5) v5).set (o + 6) v6).set (o + 7) v7

theorem os_setCell (w : World) (a : Addr) (v : Value) : (w.setCell a v).os = w.os := rfl
theorem output_setCell (w : World) (a : Addr) (v : Value) : (w.setCell a v).output = w.output := rfl
theorem tape_setCell' (w : World) (a : Addr) (v : Value) : (w.setCell a v).tape = w.tape := rfl
theorem put8_os (w : World) (x o : Nat) (v0 v1 v2 v3 v4 v5 v6 v7 : Value) : (put8 w x o v0 v1 v2 v3 v4 v5 v6 v7).os = w.os := by
  unfold put8; rw [os_setCell, os_setCell, os_setCell, os_setCell, os_setCell, os_setCell, os_setCell, os_setCell]
theorem put8_output (w : World) (x o : Nat) (v0 v1 v2 v3 v4 v5 v6 v7 : Value) : (put8 w x o v0 v1 v2 v3 v4 v5 v6 v7).output = w.output := by
  unfold put8; rw [output_setCell, output_setCell, output_setCell, output_setCell, output_setCell, output_setCell, output_setCell, output_setCell]
theorem put8_tape (w : World) (x o : Nat) (v0 v1 v2 v3 v4 v5 v6 v7 : Value) : (put8 w x o v0 v1 v2 v3 v4 v5 v6 v7).tape = w.tape := by
  unfold put8; rw [tape_setCell', tape_setCell', tape_setCell', tape_setCell', tape_setCell', tape_setCell', tape_setCell', tape_setCell']

theorem build_step {w wr wq : World} {pM pR x n : Nat} {D : Nat → RunData} {S0 : Nat → Nat} {desc : Bool} {count : Int} {lid : ByteArray} {lkey : Int} {k : Nat} (h : BuildInv w pM pR x n D S0 desc count lid lkey k wr) (hk : k < n) (hx : w.heap.size ≤ x) (hxR : x ≠ pR) (hxM : x ≠ pM)
    (hb : Below wr.heap.size wr wq) (g q : Nat) (hg : wr.heap.size ≤ g) (hq : wr.heap.size ≤ q) (hgl : g < wq.heap.size) (hql : q < wq.heap.size) (hh : HitsAt wq g (D k).len (D k).id (D k).key) (hp : (D k).up = true → PosAt wq q (D k).len (D k).ps) (v0 v7 : Value) :
    BuildInv w pM pR x n D S0 desc count lid lkey (k + 1) (put8 wq x (k * 8) v0 (.string (D k).pos) (.int .i64 (S0 k)) (.slice (some ⟨g, 0, none⟩) (D k).len (D k).len) (.string (D k).next) (.bool (D k).more) (posV (D k).up q (D k).len) v7) := by
  have hRlt := World.block_lt_of_cell? _ _ h.c5
  have hMlt := World.block_lt_of_cell? _ _ h.rd.hM
  simp only at hRlt hMlt
  obtain ⟨f, hf⟩ := h.row
  have hxl := hf.lt
  have hfq : wq.rowIs x 48 (n * 8) f := hf.of_block (hb.block _ hxl)
  have hsz := h.below.size
  have hszq := hb.size
  have hrow := put8_row hfq (k * 8) v0 (.string (D k).pos) (.int .i64 (S0 k)) (.slice (some ⟨g, 0, none⟩) (D k).len (D k).len) (.string (D k).next) (.bool (D k).more) (posV (D k).up q (D k).len) v7
  refine ⟨⟨by rw [put8_os, hb.os, h.below.os], by rw [put8_tape, hb.tape, h.below.tape], by rw [put8_output, hb.output, h.below.output], by rw [put8_size]; omega, fun i hi => ?_⟩, ?_, ?_, ⟨_, hrow⟩, fun i hi => ?_⟩
  · rw [put8_other _ _ _ _ _ _ _ _ _ _ _ _ (by omega), hb.block i (by omega)]; exact h.below.block i hi
  · exact h.rd.of (by rw [put8_other _ _ _ _ _ _ _ _ _ _ _ _ hxM]; exact hb.block _ hMlt) (by rw [put8_other _ _ _ _ _ _ _ _ _ _ _ _ hxR]; exact hb.block _ hRlt)
  · rw [World.cell?_of_block (w := wr) (by show _ = wr.heap[pR]?; rw [put8_other _ _ _ _ _ _ _ _ _ _ _ _ hxR]; exact hb.block _ hRlt)]; exact h.c5
  · rw [put8_size]
    by_cases hik : i = k
    · subst hik
      have e0 : ∀ d, d ≠ 7 → d ≠ 6 → d ≠ 5 → d ≠ 4 → d ≠ 3 → d ≠ 2 → True := fun _ _ _ _ _ _ _ => trivial
      refine ⟨g, q, ⟨?_, ?_, ?_, ?_, ?_, ?_⟩, hh.of (put8_other _ _ _ _ _ _ _ _ _ _ _ _ (by omega)), fun hu => (hp hu).of (put8_other _ _ _ _ _ _ _ _ _ _ _ _ (by omega)), by omega, by omega, hgl, hql⟩
      all_goals rw [hrow.cell (by omega)]; simp
    · have hlt : i < k := by omega
      obtain ⟨g', q', h1, h2, h3, h4, h5, h6, h7⟩ := (h.runs i hlt).below hb
      have e : ∀ c u, 1 ≤ c → c ≤ 6 → wq.cell? ⟨x, i * 8 + c, none⟩ = some u → (put8 wq x (k * 8) v0 (.string (D k).pos) (.int .i64 (S0 k)) (.slice (some ⟨g, 0, none⟩) (D k).len (D k).len) (.string (D k).next) (.bool (D k).more) (posV (D k).up q (D k).len) v7).cell? ⟨x, i * 8 + c, none⟩ = some u := fun c u hc1 hc2 hu => by
        rw [hrow.cell (by omega)]
        rw [hfq.cell (by omega)] at hu
        rw [if_neg (by omega), if_neg (by omega), if_neg (by omega), if_neg (by omega), if_neg (by omega), if_neg (by omega), if_neg (by omega), if_neg (by omega)]
        exact hu
      refine ⟨g', q', ⟨e 1 _ (by decide) (by decide) h1.c1, e 2 _ (by decide) (by decide) h1.c2, e 3 _ (by decide) (by decide) h1.c3, e 4 _ (by decide) (by decide) h1.c4, e 5 _ (by decide) (by decide) h1.c5, e 6 _ (by decide) (by decide) h1.c6⟩, h2.of (put8_other _ _ _ _ _ _ _ _ _ _ _ _ h4), fun hu => (h3 hu).of (put8_other _ _ _ _ _ _ _ _ _ _ _ _ h5), h4, h5, by omega, by omega⟩

theorem BuildInv.drew {w wr : World} {pM pR x n : Nat} {D : Nat → RunData} {S0 : Nat → Nat} {desc : Bool} {count : Int} {lid : ByteArray} {lkey : Int} {k : Nat} (h : BuildInv w pM pR x n D S0 desc count lid lkey k wr) : BuildInv w pM pR x n D S0 desc count lid lkey k wr.drew :=
  ⟨h.below.drew, h.rd.of rfl rfl, h.c5, h.row, fun i hi => (h.runs i hi).below (Below.refl _ _).drew⟩

def zero48 (n : Nat) : Array Value := madeCells #[.nilIface, .string ⟨#[]⟩, .int .i64 0, .slice none 0 0, .string ⟨#[]⟩, .bool false, .slice none 0 0, .bool false] (n * 8)
def zero9 (n : Nat) : Array Value := madeCells #[.string ⟨#[]⟩] n

theorem row48 (w : World) (n : Nat) : ∃ f, (w.alloc (.cells (zero48 n) 48)).rowIs w.heap.size 48 (n * 8) f := by
  refine ⟨fun i => (zero48 n).getD i .nilIface, row_new w _ 48 (n * 8) _ (size_madeCells _ _) (fun i hi => ?_)⟩
  have hs : i < (zero48 n).size := by rw [zero48, size_madeCells]; exact hi
  simp [hs]

theorem row9 (w : World) (n pl : Nat) (ps : Nat → ByteArray) : (w.alloc (.cells (zero9 n) 9)).rowIs w.heap.size 9 n (posF pl ps 0) := by
  refine row_new w _ 9 n _ (size_madeCells _ _) (fun i hi => ?_)
  simp [zero9, madeCells, hi, posF, Nat.mod_one]

theorem row28 (w : World) (n : Nat) (id : Nat → ByteArray) (key : Nat → Int) : (w.alloc (.cells (zero41 n) 28)).rowIs w.heap.size 28 (n * 2) (hitF id key 0) :=
  row_new w _ 28 (n * 2) _ (size_madeCells _ _) (fun i hi => hitF_zero id key n i hi)

theorem bel4d (w : World) (o1 o2 o3 o4 : Obj) : Below w.heap.size w ((((w.alloc o1).alloc o2).alloc o3).alloc o4).drew := (((((Below.refl _ _).alloc (Nat.le_refl _) _).alloc (by simp) _).alloc (by simp; omega) _).alloc (by simp; omega) _).drew

section
variable (w : World) (n : Nat) (D : Nat → RunData) (S0 : Nat → Nat) (desc : Bool) (count : Int) (lid : ByteArray) (lkey : Int)
theorem build_start1 : BuildInv w (w.heap.size + 1) (w.heap.size + 1 + 1 + 1) (w.heap.size + 1 + 1) n D S0 desc count lid lkey 0
    ((((w.alloc (.cells #[.string lid, .int .i64 lkey] 23)).alloc (.cells #[.slice none 0 0, .bool false, .int .i64 (ordI desc), .bool false, .bool false, .slice none 0 0, .slice none 0 0] 71)).alloc (.cells (zero48 n) 48)).alloc
      (.cells #[.pointer (some ⟨w.heap.size + 1, 0, none⟩), .int .i64 count, .string lid, .int .i64 lkey, .slice none 0 0, .slice (some ⟨w.heap.size + 1 + 1, 0, none⟩) n n] 52)).drew := by
  refine ⟨bel4d w _ _ _ _, ⟨by go_simp, by go_simp, by go_simp, by go_simp, by go_simp, by go_simp⟩, by go_simp, ?_, fun i hi => by omega⟩
  obtain ⟨f, hf⟩ := row48 ((w.alloc (.cells #[.string lid, .int .i64 lkey] 23)).alloc (.cells #[.slice none 0 0, .bool false, .int .i64 (ordI desc), .bool false, .bool false, .slice none 0 0, .slice none 0 0] 71)) n
  simp only [World.size_alloc] at hf
  exact ⟨f, (hf.alloc _).drew⟩
theorem build_start2 : BuildInv w (w.heap.size + 1 + 1) (w.heap.size + 1 + 1 + 1) (w.heap.size + 1) n D S0 desc count lid lkey 0
    ((((w.alloc (.cells #[.string lid, .int .i64 lkey] 23)).alloc (.cells (zero48 n) 48)).alloc (.cells #[.slice none 0 0, .bool false, .int .i64 (ordI desc), .bool false, .bool false, .slice none 0 0, .slice none 0 0] 71)).alloc
      (.cells #[.pointer (some ⟨w.heap.size + 1 + 1, 0, none⟩), .int .i64 count, .string lid, .int .i64 lkey, .slice none 0 0, .slice (some ⟨w.heap.size + 1, 0, none⟩) n n] 52)).drew := by
  refine ⟨bel4d w _ _ _ _, ⟨by go_simp, by go_simp, by go_simp, by go_simp, by go_simp, by go_simp⟩, by go_simp, ?_, fun i hi => by omega⟩
  obtain ⟨f, hf⟩ := row48 (w.alloc (.cells #[.string lid, .int .i64 lkey] 23)) n
  simp only [World.size_alloc] at hf
  exact ⟨f, ((hf.alloc _).alloc _).drew⟩
end
end Go.Proofs.Ybulkbboy
