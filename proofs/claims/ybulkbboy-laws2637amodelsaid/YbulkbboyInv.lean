/- WHAT THE READ's MEMORY HOLDS WHILE 'next' (9) GOES: no walk here. -/
import Derived.Test.YbulkbboyMore
import Derived.Deep.OwnRows
namespace Go.Proofs.Ybulkbboy
open Go.ChangeShapes Go.WideShapes Go.ChangeAt Go.RowKit
set_option linter.unusedVariables false
set_option linter.unusedSimpArgs false

/-- What a run was built of. -/
structure RunData where
  pos : ByteArray
  next : ByteArray
  len : Nat
  more : Bool
  up : Bool
  id : Nat → ByteArray
  key : Nat → Int
  ps : Nat → ByteArray

def PosAt (w : World) (q len : Nat) (ps : Nat → ByteArray) : Prop := ∀ j, j < len → w.cell? ⟨q, j, none⟩ = some (.string (ps j))

/-- Run i lies in block x, its skip is s, its rows lie below block B. -/
def RunOk (B : Nat) (w : World) (x i : Nat) (d : RunData) (s : Nat) : Prop :=
  ∃ g q, RunAt w x (i * 8) d.pos s g d.len d.next d.more (posV d.up q d.len) ∧ HitsAt w g d.len d.id d.key ∧ (d.up = true → PosAt w q d.len d.ps) ∧ x ≠ g ∧ x ≠ q ∧ g < B ∧ q < B

theorem PosAt.of {w w' : World} {q len : Nat} {ps : Nat → ByteArray} (h : PosAt w q len ps) (hq : w'.heap[q]? = w.heap[q]?) : PosAt w' q len ps := by
  intro j hj
  rw [World.cell?_of_block (w := w) (a := ⟨q, j, none⟩) hq]; exact h j hj

/-- What is told of a row of cells stands wherever the blocks below the heap's end stand. -/
theorem HitsAt.keep {w w' : World} {g len : Nat} {id : Nat → ByteArray} {key : Nat → Int} (h : HitsAt w g len id key) (hb : ∀ b, b < w.heap.size → b = g → w'.heap[b]? = w.heap[b]?) : HitsAt w' g len id key := by
  intro j hj
  have hg := h j hj
  have hlt := World.block_lt_of_cell? _ _ hg.1
  exact (h.of (hb g hlt rfl)) j hj

theorem PosAt.keep {w w' : World} {q len : Nat} {ps : Nat → ByteArray} (h : PosAt w q len ps) (hb : ∀ b, b < w.heap.size → b = q → w'.heap[b]? = w.heap[b]?) : PosAt w' q len ps := by
  intro j hj
  have hg := h j hj
  have hlt := World.block_lt_of_cell? _ _ hg
  exact (h.of (hb q hlt rfl)) j hj

/-- A run stands behind new blocks and writes to new blocks. -/
theorem RunOk.below {B : Nat} {w w' : World} {x i : Nat} {d : RunData} {s : Nat} (h : RunOk B w x i d s) (hb : Below w.heap.size w w') : RunOk B w' x i d s := by
  obtain ⟨g, q, h1, h2, h3, h4, h5, h6, h7⟩ := h
  have hlt := World.block_lt_of_cell? _ _ h1.c1
  exact ⟨g, q, h1.of (hb.block _ hlt), h2.keep (fun b hb1 _ => hb.block b hb1), fun hu => (h3 hu).keep (fun b hb1 _ => hb.block b hb1), h4, h5, h6, h7⟩

/-- .. behind a store to ANOTHER run's skip. -/
theorem RunOk.other {B : Nat} {w : World} {x i k : Nat} {d : RunData} {s : Nat} (h : RunOk B w x i d s) (hk : i ≠ k) (v : Value) : RunOk B (w.setCell ⟨x, k * 8 + 2, none⟩ v) x i d s := by
  obtain ⟨g, q, h1, h2, h3, h4, h5, h6, h7⟩ := h
  have e : ∀ c u, 1 ≤ c → c ≤ 6 → w.cell? ⟨x, i * 8 + c, none⟩ = some u → (w.setCell ⟨x, k * 8 + 2, none⟩ v).cell? ⟨x, i * 8 + c, none⟩ = some u := fun c u hc1 hc2 hv => by
    rw [World.cell?_setCell_other]; exact hv
    intro he; simp only [Addr.mk.injEq] at he; omega
  refine ⟨g, q, ⟨e 1 _ (by decide) (by decide) h1.c1, e 2 _ (by decide) (by decide) h1.c2, e 3 _ (by decide) (by decide) h1.c3, e 4 _ (by decide) (by decide) h1.c4, e 5 _ (by decide) (by decide) h1.c5, e 6 _ (by decide) (by decide) h1.c6⟩, ?_, ?_, h4, h5, h6, h7⟩
  · exact h2.of (by rw [heap_setCell_at, if_neg h4])
  · exact fun hu => (h3 hu).of (by rw [heap_setCell_at, if_neg h5])

/-- .. behind a store to its own skip. -/
theorem RunOk.put {B : Nat} {w : World} {x i : Nat} {d : RunData} {s : Nat} (h : RunOk B w x i d s) (r : Nat) : RunOk B (w.setCell ⟨x, i * 8 + 2, none⟩ (.int .i64 r)) x i d r := by
  obtain ⟨g, q, h1, h2, h3, h4, h5, h6, h7⟩ := h
  exact ⟨g, q, h1.put, h2.of (by rw [heap_setCell_at, if_neg h4]), fun hu => (h3 hu).of (by rw [heap_setCell_at, if_neg h5]), h4, h5, h6, h7⟩

/-- .. behind a store to a block that is none of its own. -/
theorem RunOk.far {B : Nat} {w : World} {x i b o : Nat} {d : RunData} {s : Nat} (h : RunOk B w x i d s) (hb : B ≤ b) (hx : x ≠ b) (v : Value) : RunOk B (w.setCell ⟨b, o, none⟩ v) x i d s := by
  obtain ⟨g, q, h1, h2, h3, h4, h5, h6, h7⟩ := h
  exact ⟨g, q, h1.of (by rw [heap_setCell_at, if_neg (by omega)]), h2.of (by rw [heap_setCell_at, if_neg (by omega)]), fun hu => (h3 hu).of (by rw [heap_setCell_at, if_neg (by omega)]), h4, h5, h6, h7⟩

/-- The spots that have been laid when k runs are done. -/
def spotF (D : Nat → RunData) (r : Nat → Nat) (k : Nat) (c : Nat) : Value :=
  if c / 2 < k then
    (if c % 2 = 0 then .string (aftP (D (c / 2)).len (D (c / 2)).next (D (c / 2)).up ((D (c / 2)).ps (r (c / 2) - 1)) (D (c / 2)).pos (r (c / 2))) else .int .i64 (aftS (D (c / 2)).len (D (c / 2)).up (r (c / 2))))
  else if c % 2 = 0 then .string ⟨#[]⟩ else .int .i64 0

/-- The keyset's four cells. -/
def ksF (count : Int) (lid : ByteArray) (lkey : Int) (sp n : Nat) (c : Nat) : Value :=
  if c = 0 then .int .i64 count else if c = 1 then .string lid else if c = 2 then .int .i64 lkey else .slice (some ⟨sp, 0, none⟩) n n
def ksZ (c : Nat) : Value := if c = 0 then .int .i64 0 else if c = 1 then .string ⟨#[]⟩ else if c = 2 then .int .i64 0 else .slice none 0 0

structure NextInv (w : World) (x sp pk rb n : Nat) (D : Nat → RunData) (S0 r : Nat → Nat) (count : Int) (lid : ByteArray) (lkey : Int) (a b : Nat) (wr : World) : Prop where
  grown : w.grownBy wr (some x)
  fz : ∀ j, wr.frozen? ⟨x, j, none⟩ = false
  runs : ∀ i, i < n → RunOk w.heap.size wr x i (D i) (if i < a then r i else S0 i)
  spots : wr.rowIs sp 41 (n * 2) (spotF D r b)
  ks : wr.rowIs pk 31 4 (ksF count lid lkey sp n)
  res : wr.rowIs rb 31 4 ksZ

section
variable {w : World} {x sp pk rb n : Nat} {D : Nat → RunData} {S0 r : Nat → Nat} {count : Int} {lid : ByteArray} {lkey : Int} {a b : Nat} {wr w' : World}

theorem NextInv.below (h : NextInv w x sp pk rb n D S0 r count lid lkey a b wr) (hx : x < w.heap.size) (hb : Below wr.heap.size wr w') : NextInv w x sp pk rb n D S0 r count lid lkey a b w' := by
  have hsz := h.grown.size
  refine ⟨⟨hb.os.trans h.grown.os, hb.tape.trans h.grown.tape, hb.output.trans h.grown.output, Nat.le_trans hsz hb.size, fun k hk hne => (hb.block k (by omega)).trans (h.grown.block k hk hne)⟩, fun j => ?_, fun i hi => (h.runs i hi).below hb, h.spots.of_block (hb.block _ h.spots.lt), h.ks.of_block (hb.block _ h.ks.lt), h.res.of_block (hb.block _ h.res.lt)⟩
  rw [hb.frozen (by show x < _; omega)]; exact h.fz j

/-- Behind 'more': run k has moved on. -/
theorem NextInv.skip (h : NextInv w x sp pk rb n D S0 r count lid lkey a b wr) (hx : x < w.heap.size) (hsp : x ≠ sp) (hpk : x ≠ pk) (hrb : x ≠ rb) (hb : Below wr.heap.size (wr.setCell ⟨x, a * 8 + 2, none⟩ (.int .i64 (r a))) w') :
    NextInv w x sp pk rb n D S0 r count lid lkey (a + 1) b w' := by
  have hsz := h.grown.size
  have hs2 : (wr.setCell ⟨x, a * 8 + 2, none⟩ (.int .i64 (r a))).heap.size = wr.heap.size := by simp
  have hblk : ∀ k, k < wr.heap.size → x ≠ k → w'.heap[k]? = wr.heap[k]? := fun k hk hne => by rw [hb.block k hk, heap_setCell_at, if_neg hne]
  refine ⟨⟨hb.os.trans h.grown.os, hb.tape.trans h.grown.tape, hb.output.trans h.grown.output, Nat.le_trans hsz (by have := hb.size; omega), fun k hk hne => ?_⟩, fun j => ?_, fun i hi => ?_, h.spots.of_block (hblk _ h.spots.lt hsp), h.ks.of_block (hblk _ h.ks.lt hpk), h.res.of_block (hblk _ h.res.lt hrb)⟩
  · rw [hblk k (by omega) (fun e => hne (by rw [e]))]; exact h.grown.block k hk hne
  · rw [hb.frozen (by show x < _; omega)]; simpa using h.fz j
  · have hb' : Below (wr.setCell ⟨x, a * 8 + 2, none⟩ (.int .i64 (r a))).heap.size (wr.setCell ⟨x, a * 8 + 2, none⟩ (.int .i64 (r a))) w' := by rw [hs2]; exact hb
    by_cases hia : i = a
    · subst hia
      rw [if_pos (by omega)]
      exact ((h.runs i hi).put (r i)).below hb'
    · have e : (if i < a + 1 then r i else S0 i) = (if i < a then r i else S0 i) := by
        by_cases hlt : i < a
        · rw [if_pos hlt, if_pos (by omega)]
        · rw [if_neg hlt, if_neg (by omega)]
      rw [e]
      exact ((h.runs i hi).other hia _).below hb'

/-- Behind the store of spot b. -/
theorem NextInv.store (h : NextInv w x sp pk rb n D S0 r count lid lkey a b wr) (hx : x < w.heap.size) (hwsp : w.heap.size ≤ sp) (hsp : x ≠ sp) (hpk : sp ≠ pk) (hrb : sp ≠ rb) :
    NextInv w x sp pk rb n D S0 r count lid lkey a (b + 1) ((wr.setCell ⟨sp, b * 2, none⟩ (.string (aftP (D b).len (D b).next (D b).up ((D b).ps (r b - 1)) (D b).pos (r b)))).setCell ⟨sp, b * 2 + 1, none⟩ (.int .i64 (aftS (D b).len (D b).up (r b)))) := by
  refine ⟨⟨h.grown.os, h.grown.tape, h.grown.output, by simpa using h.grown.size, fun k hk hne => ?_⟩, fun j => by simpa using h.fz j, fun i hi => ((h.runs i hi).far hwsp hsp _).far hwsp hsp _, ?_, (h.ks.setOther (fun e => hpk e.symm) _).setOther (fun e => hpk e.symm) _, (h.res.setOther (fun e => hrb e.symm) _).setOther (fun e => hrb e.symm) _⟩
  · rw [heap_setCell_at, if_neg (by omega), heap_setCell_at, if_neg (by omega)]; exact h.grown.block k hk hne
  · refine ((h.spots.set (b * 2) _).set (b * 2 + 1) _).congr (fun c hc => ?_)
    show (if c = b * 2 + 1 then _ else if c = b * 2 then _ else spotF D r b c) = spotF D r (b + 1) c
    by_cases h1 : c = b * 2 + 1
    · subst h1
      have e1 : (b * 2 + 1) / 2 = b := by omega
      have e2 : (b * 2 + 1) % 2 = 1 := by omega
      simp [spotF, e1, e2]
    · by_cases h2 : c = b * 2
      · subst h2
        have e1 : (b * 2) / 2 = b := by omega
        have e2 : (b * 2) % 2 = 0 := by omega
        simp [spotF, e1, e2]
      · have e : c / 2 < b + 1 ↔ c / 2 < b := by omega
        simp [spotF, h1, h2, e]
end

/-- n zero spots. -/
def zero41 (n : Nat) : Array Value := madeCells #[.string ⟨#[]⟩, .int .i64 0] (n * 2)

theorem zero41_row (n i : Nat) (hi : i < n * 2) (D : Nat → RunData) (r : Nat → Nat) : (zero41 n)[i]? = some (spotF D r 0 i) := by
  have h2 : i % 2 = 0 ∨ i % 2 = 1 := by omega
  rcases h2 with h | h <;> simp [zero41, madeCells, hi, spotF, h]

theorem zero41_size (n : Nat) : (zero41 n).size = n * 2 := size_madeCells _ _

theorem ks_row (count : Int) (lid : ByteArray) (lkey : Int) (sp n i : Nat) (hi : i < 4) : (#[.int .i64 count, .string lid, .int .i64 lkey, .slice (some ⟨sp, 0, none⟩) n n] : Array Value)[i]? = some (ksF count lid lkey sp n i) := by
  match i, hi with
  | 0, _ => rfl
  | 1, _ => rfl
  | 2, _ => rfl
  | 3, _ => rfl
theorem kz_row (i : Nat) (hi : i < 4) : (#[.int .i64 0, .string ⟨#[]⟩, .int .i64 0, .slice none 0 0] : Array Value)[i]? = some (ksZ i) := by
  match i, hi with
  | 0, _ => rfl
  | 1, _ => rfl
  | 2, _ => rfl
  | 3, _ => rfl

theorem row_new (w : World) (c : Array Value) (t : TypeId) (m : Nat) (f : Nat → Value) (hs : c.size = m) (hc : ∀ i, i < m → c[i]? = some (f i)) : (w.alloc (.cells c t)).rowIs w.heap.size t m f := by
  subst hs; exact World.rowIs_alloc w c t f hc

theorem bel3d (w : World) (o1 o2 o3 : Obj) : Below w.heap.size w (((w.alloc o1).alloc o2).alloc o3).drew := ((((Below.refl _ _).alloc (Nat.le_refl _) _).alloc (by simp) _).alloc (by simp; omega) _).drew
theorem bel2d (w : World) (o1 o2 : Obj) : Below w.heap.size w ((w.alloc o1).alloc o2).drew := (((Below.refl _ _).alloc (Nat.le_refl _) _).alloc (by simp) _).drew
theorem cell_b3 {w : World} {o1 o2 o3 : Obj} {a : Addr} {u : Value} (h : w.cell? a = some u) : (((w.alloc o1).alloc o2).alloc o3).drew.cell? a = some u := by
  rw [(bel3d w o1 o2 o3).cell (World.block_lt_of_cell? _ _ h)]; exact h
theorem cell_b2 {w : World} {o1 o2 : Obj} {a : Addr} {u : Value} (h : w.cell? a = some u) : ((w.alloc o1).alloc o2).drew.cell? a = some u := by
  rw [(bel2d w o1 o2).cell (World.block_lt_of_cell? _ _ h)]; exact h

theorem below_grownBy {w w' : World} {row : Option Nat} (h : Below w.heap.size w w') : w.grownBy w' row := ⟨h.os, h.tape, h.output, h.size, fun k hk _ => h.block k hk⟩

theorem next_start1 (w : World) (x n : Nat) (D : Nat → RunData) (S0 r : Nat → Nat) (count : Int) (lid : ByteArray) (lkey : Int) (hx : x < w.heap.size) (hfz : ∀ j, w.frozen? ⟨x, j, none⟩ = false) (hruns : ∀ i, i < n → RunOk w.heap.size w x i (D i) (S0 i)) :
    NextInv w x (w.heap.size + 1) (w.heap.size + 1 + 1) w.heap.size n D S0 r count lid lkey 0 0 (((w.alloc (.cells #[.int .i64 0, .string ⟨#[]⟩, .int .i64 0, .slice none 0 0] 31)).alloc (.cells (zero41 n) 41)).alloc (.cells #[.int .i64 count, .string lid, .int .i64 lkey, .slice (some ⟨w.heap.size + 1, 0, none⟩) n n] 31)).drew := by
  have hb := bel3d w (.cells #[.int .i64 0, .string ⟨#[]⟩, .int .i64 0, .slice none 0 0] 31) (.cells (zero41 n) 41) (.cells #[.int .i64 count, .string lid, .int .i64 lkey, .slice (some ⟨w.heap.size + 1, 0, none⟩) n n] 31)
  refine ⟨below_grownBy hb, fun j => by rw [hb.frozen (by exact hx)]; exact hfz j, fun i hi => by rw [if_neg (by omega)]; exact (hruns i hi).below hb, ?_, ?_, ?_⟩
  · have h := (row_new (w.alloc (.cells #[.int .i64 0, .string ⟨#[]⟩, .int .i64 0, .slice none 0 0] 31)) (zero41 n) 41 (n * 2) (spotF D r 0) (zero41_size n) (fun i hi => zero41_row n i hi D r))
    simp only [World.size_alloc] at h
    exact (h.alloc _).drew
  · have h := (row_new ((w.alloc (.cells #[.int .i64 0, .string ⟨#[]⟩, .int .i64 0, .slice none 0 0] 31)).alloc (.cells (zero41 n) 41)) #[.int .i64 count, .string lid, .int .i64 lkey, .slice (some ⟨w.heap.size + 1, 0, none⟩) n n] 31 4 _ rfl (fun i hi => ks_row count lid lkey (w.heap.size + 1) n i hi))
    simp only [World.size_alloc] at h
    exact h.drew
  · exact (((row_new w _ 31 4 _ rfl (fun i hi => kz_row i hi)).alloc _).alloc _).drew

theorem next_start2 (w : World) (x n : Nat) (D : Nat → RunData) (S0 r : Nat → Nat) (count : Int) (lid : ByteArray) (lkey : Int) (hx : x < w.heap.size) (hfz : ∀ j, w.frozen? ⟨x, j, none⟩ = false) (hruns : ∀ i, i < n → RunOk w.heap.size w x i (D i) (S0 i)) :
    NextInv w x (w.heap.size + 1 + 1) (w.heap.size + 1) w.heap.size n D S0 r count lid lkey 0 0 (((w.alloc (.cells #[.int .i64 0, .string ⟨#[]⟩, .int .i64 0, .slice none 0 0] 31)).alloc (.cells #[.int .i64 count, .string lid, .int .i64 lkey, .slice (some ⟨w.heap.size + 1 + 1, 0, none⟩) n n] 31)).alloc (.cells (zero41 n) 41)).drew := by
  have hb := bel3d w (.cells #[.int .i64 0, .string ⟨#[]⟩, .int .i64 0, .slice none 0 0] 31) (.cells #[.int .i64 count, .string lid, .int .i64 lkey, .slice (some ⟨w.heap.size + 1 + 1, 0, none⟩) n n] 31) (.cells (zero41 n) 41)
  refine ⟨below_grownBy hb, fun j => by rw [hb.frozen (by exact hx)]; exact hfz j, fun i hi => by rw [if_neg (by omega)]; exact (hruns i hi).below hb, ?_, ?_, ?_⟩
  · have h := (row_new ((w.alloc (.cells #[.int .i64 0, .string ⟨#[]⟩, .int .i64 0, .slice none 0 0] 31)).alloc (.cells #[.int .i64 count, .string lid, .int .i64 lkey, .slice (some ⟨w.heap.size + 1 + 1, 0, none⟩) n n] 31)) (zero41 n) 41 (n * 2) (spotF D r 0) (zero41_size n) (fun i hi => zero41_row n i hi D r))
    simp only [World.size_alloc] at h
    exact h.drew
  · have h := (row_new (w.alloc (.cells #[.int .i64 0, .string ⟨#[]⟩, .int .i64 0, .slice none 0 0] 31)) #[.int .i64 count, .string lid, .int .i64 lkey, .slice (some ⟨w.heap.size + 1 + 1, 0, none⟩) n n] 31 4 _ rfl (fun i hi => ks_row count lid lkey (w.heap.size + 1 + 1) n i hi))
    simp only [World.size_alloc] at h
    exact (h.alloc _).drew
  · exact (((row_new w _ 31 4 _ rfl (fun i hi => kz_row i hi)).alloc _).alloc _).drew
end Go.Proofs.Ybulkbboy
