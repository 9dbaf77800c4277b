/- The pipeline in memory: its block, its channel, its ledger; what its writes leave; what stays. -/
import Derived.Test.YbulkbbrcDoorLeaf
import Derived.Test.YbulkbbrcDoorWake
import Derived.Conc.MuLone
import Derived.Laws.AppendOwn
namespace Go.Proofs.YbulkbbrcDoor
open Go.RowKit Go.MuLone Go.Conc
set_option linter.unusedVariables false
set_option linter.unusedSimpArgs false

/-- The pipeline's twenty-two cells: the lock's word m, the count q, the queue uv. -/
def pcells (cb lb : Nat) (m q : Int) (uv : Value) : Array Value :=
  #[.pointer none, .nilIface, .int .i64 q, .chan (some cb), .int .i32 m, .int .u32 0, uv, .iface 65 (.pointer (some ⟨lb, 0, none⟩)), .int .u64 0, .int .i64 0, .int .u64 0, .int .i64 0, .pointer none, .int .u64 0, .int .i64 0, .pointer none, .int .u64 0, .int .i64 0, .pointer none, .bool false, .bool false, .nilIface]

/-- What lies in the channel once it was woken. -/
def kicked (full : Bool) : Obj := if full then .chan 1 #[.agg #[]] false 1 0 false else .chan 1 #[] false 0 0 false

structure Pipe (w : World) (pb cb lb : Nat) (m q : Int) (uv : Value) (full : Bool) : Prop where
  p : w.heap[pb]? = some (.cells (pcells cb lb m q uv) 50 (0, 0))
  c : w.heap[cb]? = some (kicked full)
  l : ∃ mv, w.heap[lb]? = some (.cells #[mv, .int .i64 0] 68 (0, 0))

/-- Whatever lies outside S stays. -/
structure Stay (S : Nat → Prop) (w w' : World) : Prop where
  os : w'.os = w.os
  tape : w'.tape = w.tape
  output : w'.output = w.output
  size : w.heap.size ≤ w'.heap.size
  block : ∀ k, k < w.heap.size → ¬ S k → w'.heap[k]? = w.heap[k]?

theorem Stay.refl (S : Nat → Prop) (w : World) : Stay S w w := ⟨rfl, rfl, rfl, Nat.le_refl _, fun _ _ _ => rfl⟩
theorem Stay.trans {S : Nat → Prop} {a b c : World} (h : Stay S a b) (h' : Stay S b c) : Stay S a c :=
  ⟨h'.os.trans h.os, h'.tape.trans h.tape, h'.output.trans h.output, Nat.le_trans h.size h'.size, fun k hk hs => (h'.block k (Nat.lt_of_lt_of_le hk h.size) hs).trans (h.block k hk hs)⟩
theorem Stay.mono {S T : Nat → Prop} {a b : World} (h : Stay S a b) (hs : ∀ k, S k → T k) : Stay T a b :=
  ⟨h.os, h.tape, h.output, h.size, fun k hk ht => h.block k hk (fun s => ht (hs k s))⟩
theorem Stay.setCell {S : Nat → Prop} (w : World) (a : Addr) (v : Value) (h : S a.block) : Stay S w (w.setCell a v) :=
  ⟨rfl, rfl, rfl, by simp [World.setCell], fun k hk hs => by
    have hne : a.block ≠ k := fun e => hs (e ▸ h)
    simp [World.setCell, Array.getElem?_modify, hne]⟩
theorem Stay.setChan {S : Nat → Prop} (w : World) (c cap : Nat) (buf : Array Value) (cl : Bool) (s r : Nat) (tm : Bool) (h : S c) : Stay S w (w.setChan c cap buf cl s r tm) :=
  ⟨rfl, rfl, rfl, by simp [World.setChan], fun k hk hs => by
    have hne : c ≠ k := fun e => hs (e ▸ h)
    simp only [World.setChan]; rw [Array.getElem?_setIfInBounds_ne hne]⟩
theorem Stay.alloc {S : Nat → Prop} (w : World) (o : Obj) : Stay S w (w.alloc o) := ⟨rfl, rfl, rfl, by simp, fun k hk _ => heap_alloc_old w o hk⟩
theorem Stay.grown {S : Nat → Prop} {w w' : World} {row : Option Nat} (h : w.grownBy w' row) (hr : ∀ k, row = some k → S k) : Stay S w w' :=
  ⟨h.os, h.tape, h.output, h.size, fun k hk hs => h.block k hk (fun e => hs (hr k e.symm))⟩
theorem Stay.below {S : Nat → Prop} {w w' : World} {B : Nat} (h : Stay S w w') (hB : B ≤ w.heap.size) (hs : ∀ k, S k → B ≤ k) : Below B w w' :=
  ⟨h.os, h.tape, h.output, h.size, fun k hk => h.block k (by omega) (fun s => by have := hs k s; omega)⟩

theorem heap_lt {w : World} {k : Nat} {o : Obj} (h : w.heap[k]? = some o) : k < w.heap.size := (Array.getElem?_eq_some_iff.1 h).1

section
variable {w : World} {pb cb lb : Nat} {m q : Int} {uv : Value} {full : Bool}

theorem Pipe.stay {S : Nat → Prop} {w' : World} (h : Pipe w pb cb lb m q uv full) (hs : Stay S w w') (h1 : ¬ S pb) (h2 : ¬ S cb) (h3 : ¬ S lb) : Pipe w' pb cb lb m q uv full :=
  ⟨(hs.block pb (heap_lt h.p) h1).trans h.p, (hs.block cb (heap_lt h.c) h2).trans h.c, by obtain ⟨mv, hl⟩ := h.l; exact ⟨mv, (hs.block lb (heap_lt hl) h3).trans hl⟩⟩

theorem heap_setCell {w : World} {b o : Nat} {v : Value} {cs : Array Value} {e : TypeId} {fz : Nat × Nat} (h : w.heap[b]? = some (.cells cs e fz)) : (w.setCell ⟨b, o, none⟩ v).heap[b]? = some (.cells (cs.setIfInBounds o v) e fz) := by
  simp [World.setCell, Array.getElem?_modify, h]

theorem Pipe.setMu (h : Pipe w pb cb lb m q uv full) (h1 : pb ≠ cb) (h2 : pb ≠ lb) (m' : Int) : Pipe (w.setCell ⟨pb, 4, none⟩ (.int .i32 m')) pb cb lb m' q uv full := by
  have hs : Stay (fun k => k = pb) w (w.setCell ⟨pb, 4, none⟩ (.int .i32 m')) := Stay.setCell w _ _ rfl
  obtain ⟨mv, hl⟩ := h.l
  exact ⟨by rw [heap_setCell h.p]; rfl, (hs.block cb (heap_lt h.c) (by simpa using h1.symm)).trans h.c, mv, (hs.block lb (heap_lt hl) (by simpa using h2.symm)).trans hl⟩
theorem Pipe.setQ (h : Pipe w pb cb lb m q uv full) (h1 : pb ≠ cb) (h2 : pb ≠ lb) (q' : Int) : Pipe (w.setCell ⟨pb, 2, none⟩ (.int .i64 q')) pb cb lb m q' uv full := by
  have hs : Stay (fun k => k = pb) w (w.setCell ⟨pb, 2, none⟩ (.int .i64 q')) := Stay.setCell w _ _ rfl
  obtain ⟨mv, hl⟩ := h.l
  exact ⟨by rw [heap_setCell h.p]; rfl, (hs.block cb (heap_lt h.c) (by simpa using h1.symm)).trans h.c, mv, (hs.block lb (heap_lt hl) (by simpa using h2.symm)).trans hl⟩
theorem Pipe.setU (h : Pipe w pb cb lb m q uv full) (h1 : pb ≠ cb) (h2 : pb ≠ lb) (uv' : Value) : Pipe (w.setCell ⟨pb, 6, none⟩ uv') pb cb lb m q uv' full := by
  have hs : Stay (fun k => k = pb) w (w.setCell ⟨pb, 6, none⟩ uv') := Stay.setCell w _ _ rfl
  obtain ⟨mv, hl⟩ := h.l
  exact ⟨by rw [heap_setCell h.p]; rfl, (hs.block cb (heap_lt h.c) (by simpa using h1.symm)).trans h.c, mv, (hs.block lb (heap_lt hl) (by simpa using h2.symm)).trans hl⟩
theorem Pipe.setKick (h : Pipe w pb cb lb m q uv false) (h1 : pb ≠ cb) (h2 : cb ≠ lb) : Pipe (w.setChan cb 1 #[.agg #[]] false 1 0 false) pb cb lb m q uv true := by
  have hs : Stay (fun k => k = cb) w (w.setChan cb 1 #[.agg #[]] false 1 0 false) := Stay.setChan w _ _ _ _ _ _ _ rfl
  obtain ⟨mv, hl⟩ := h.l
  exact ⟨(hs.block pb (heap_lt h.p) (by simpa using h1)).trans h.p, heap_setChan w cb 1 _ false 1 0 false (heap_lt h.c), mv, (hs.block lb (heap_lt hl) (by simpa using h2.symm)).trans hl⟩

theorem Pipe.cell (h : Pipe w pb cb lb m q uv full) (j : Nat) : w.cell? ⟨pb, j, none⟩ = (pcells cb lb m q uv)[j]? := by simp [World.cell?, h.p]
theorem Pipe.frozen (h : Pipe w pb cb lb m q uv full) (j : Nat) : w.frozen? ⟨pb, j, none⟩ = false := by simp [World.frozen?, h.p]
theorem Pipe.kept (h : Pipe w pb cb lb m q uv full) : w.cell? ⟨lb, 1, none⟩ = some (.int .i64 0) := by obtain ⟨mv, hl⟩ := h.l; simp [World.cell?, hl]
end
end Go.Proofs.YbulkbbrcDoor
