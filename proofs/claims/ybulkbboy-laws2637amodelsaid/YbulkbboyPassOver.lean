/- 17 (run.passOver), 14 (run.more). -/
import Derived.Test.YbulkbboySpot
import Derived.Deep.LoopGhost
import Derived.Deep.QuietTactic
import Derived.BigQuiet
namespace Go.Proofs.Ybulkbboy
open Go.ChangeShapes Go.WideShapes Go.ChangeAt Go.RowKit
set_option linter.unusedVariables false
set_option linter.unusedSimpArgs false

/-- From s on, past every hit that p tells as passed. -/
def stopF (p : Nat → Bool) (len : Nat) : Nat → Nat → Nat
  | 0, s => s
  | f + 1, s => if s < len then (if p s then stopF p len f (s + 1) else s) else s
def stopAt (p : Nat → Bool) (len s : Nat) : Nat := stopF p len (len - s) s

structure Stops (p : Nat → Bool) (len s r : Nat) : Prop where
  lo : s ≤ r
  hi : r ≤ len
  all : ∀ j, s ≤ j → j < r → p j = true
  stop : r < len → p r = false

theorem stops_F (p : Nat → Bool) (len : Nat) : ∀ f s, s ≤ len → len - s ≤ f → Stops p len s (stopF p len f s)
  | 0, s, h1, h2 => ⟨Nat.le_refl _, h1, fun j a b => by simp only [stopF] at b; omega, fun h => by simp only [stopF] at h; omega⟩
  | f + 1, s, h1, h2 => by
    unfold stopF
    by_cases hs : s < len
    · rw [if_pos hs]
      by_cases hp : p s = true
      · rw [if_pos hp]
        have ih := stops_F p len f (s + 1) (by omega) (by omega)
        refine ⟨by have := ih.lo; omega, ih.hi, fun j a b => ?_, ih.stop⟩
        by_cases hj : j = s
        · subst hj; exact hp
        · exact ih.all j (by omega) b
      · rw [if_neg hp]
        exact ⟨Nat.le_refl _, h1, fun j a b => by omega, fun _ => by simpa using hp⟩
    · rw [if_neg hs]
      exact ⟨Nat.le_refl _, h1, fun j a b => by omega, fun h => absurd h hs⟩

theorem Stops.unique {p : Nat → Bool} {len s r r' : Nat} (h : Stops p len s r) (h' : Stops p len s r') : r = r' := by
  rcases Nat.lt_trichotomy r r' with hlt | he | hlt
  · have a := h'.all r h.lo hlt
    have b := h.stop (by have := h'.hi; omega)
    rw [a] at b; cases b
  · exact he
  · have a := h.all r' h'.lo hlt
    have b := h'.stop (by have := h.hi; omega)
    rw [a] at b; cases b

theorem stops_at (p : Nat → Bool) (len s : Nat) (h : s ≤ len) : Stops p len s (stopAt p len s) := stops_F p len _ s h (Nat.le_refl _)

/-- The hits' cells. -/
def HitsAt (w : World) (g len : Nat) (id : Nat → ByteArray) (key : Nat → Int) : Prop :=
  ∀ j, j < len → w.cell? ⟨g, j * 2, none⟩ = some (.string (id j)) ∧ w.cell? ⟨g, j * 2 + 1, none⟩ = some (.int .i64 (key j))

/-- The read's own cells. -/
structure RdAt (w : World) (pM pR : Nat) (desc : Bool) (count : Int) (lid : ByteArray) (lkey : Int) (sa : Option Addr) (sn sc : Nat) : Prop where
  hM : w.cell? ⟨pM, 2, none⟩ = some (.int .i64 (ordI desc))
  h0 : w.cell? ⟨pR, 0, none⟩ = some (.pointer (some ⟨pM, 0, none⟩))
  h1 : w.cell? ⟨pR, 1, none⟩ = some (.int .i64 count)
  h2 : w.cell? ⟨pR, 2, none⟩ = some (.string lid)
  h3 : w.cell? ⟨pR, 3, none⟩ = some (.int .i64 lkey)
  h4 : w.cell? ⟨pR, 4, none⟩ = some (.slice sa sn sc)

theorem RdAt.of {w w' : World} {pM pR : Nat} {desc : Bool} {count : Int} {lid : ByteArray} {lkey : Int} {sa : Option Addr} {sn sc : Nat} (h : RdAt w pM pR desc count lid lkey sa sn sc)
    (hM : w'.heap[pM]? = w.heap[pM]?) (hR : w'.heap[pR]? = w.heap[pR]?) : RdAt w' pM pR desc count lid lkey sa sn sc := by
  have eM : ∀ o, w'.cell? ⟨pM, o, none⟩ = w.cell? ⟨pM, o, none⟩ := fun o => World.cell?_of_block hM
  have eR : ∀ o, w'.cell? ⟨pR, o, none⟩ = w.cell? ⟨pR, o, none⟩ := fun o => World.cell?_of_block hR
  exact ⟨by rw [eM]; exact h.hM, by rw [eR]; exact h.h0, by rw [eR]; exact h.h1, by rw [eR]; exact h.h2, by rw [eR]; exact h.h3, by rw [eR]; exact h.h4⟩

theorem HitsAt.of {w w' : World} {g len : Nat} {id : Nat → ByteArray} {key : Nat → Int} (h : HitsAt w g len id key) (hg : w'.heap[g]? = w.heap[g]?) : HitsAt w' g len id key := by
  intro j hj
  have e : ∀ o, w'.cell? ⟨g, o, none⟩ = w.cell? ⟨g, o, none⟩ := fun o => World.cell?_of_block hg
  rw [e, e]; exact h j hj

theorem passed_at {w : World} {pM pR : Nat} {desc : Bool} {count : Int} {lid : ByteArray} {lkey : Int} {sa : Option Addr} {sn sc : Nat} (h : RdAt w pM pR desc count lid lkey sa sn sc) (id : ByteArray) (key : Int) :
    Calls Yba.prog 15 #[.pointer (some ⟨pR, 0, none⟩), .agg #[.string id, .int .i64 key]] w fun e w' => e = .returned (.bool (pasB desc count lid lkey id key)) ∧ Below w.heap.size w w' :=
  passed_any desc pM pR count id key lid lkey _ ⟨_, _, _, rfl⟩ w h.hM h.h0 h.h1 h.h2 h.h3 h.h4

/-! ### The world below B, but for one cell -/
/-- What a store makes of a block. -/
def putObj (o : Nat) (v : Value) : Obj → Obj
  | .cells c elem frozen => .cells (c.setIfInBounds o v) elem frozen
  | x => x

theorem heap_setCell_at (w : World) (b o k : Nat) (v : Value) : (w.setCell ⟨b, o, none⟩ v).heap[k]? = if b = k then w.heap[k]?.map (putObj o v) else w.heap[k]? := by
  simp only [World.setCell, Array.getElem?_modify]
  by_cases h : b = k
  · simp only [h, if_true]
    cases w.heap[k]? with
    | none => rfl
    | some x => cases x <;> rfl
  · simp [h]

theorem putObj_putObj (o : Nat) (v u : Value) (x : Obj) : putObj o u (putObj o v x) = putObj o u x := by
  cases x with
  | cells c e f => simp [putObj]
  | _ => rfl

theorem setCell_self_block {w : World} {b o : Nat} {v : Value} (h : w.cell? ⟨b, o, none⟩ = some v) (k : Nat) : (w.setCell ⟨b, o, none⟩ v).heap[k]? = w.heap[k]? := by
  rw [heap_setCell_at]
  by_cases e : b = k
  · subst e
    simp only [if_true]
    unfold World.cell? at h
    cases hx : w.heap[b]? with
    | none => rfl
    | some x =>
      cases x with
      | cells c t f =>
        simp [hx] at h
        have hlt : o < c.size := (Array.getElem?_eq_some_iff.1 h).1
        have hv : c[o] = v := (Array.getElem?_eq_some_iff.1 h).2
        have : c.setIfInBounds o v = c := by
          apply Array.ext_getElem?
          intro j
          rw [Array.getElem?_setIfInBounds]
          by_cases hj : o = j
          · subst hj; simp [hlt, hv]
          · simp [hj]
        simp [putObj, this]
      | _ => rfl
  · simp [e]

theorem below_self {B : Nat} {w wr : World} {b o : Nat} {v : Value} (h : w.cell? ⟨b, o, none⟩ = some v) (hb : Below B w wr) : Below B (w.setCell ⟨b, o, none⟩ v) wr :=
  ⟨hb.os, hb.tape, hb.output, by simpa using hb.size, fun k hk => by rw [setCell_self_block h]; exact hb.block k hk⟩

theorem below_store {B : Nat} {w wr : World} {b o : Nat} {v : Value} (hb : Below B (w.setCell ⟨b, o, none⟩ v) wr) (u : Value) : Below B (w.setCell ⟨b, o, none⟩ u) (wr.setCell ⟨b, o, none⟩ u) := by
  refine ⟨hb.os, hb.tape, hb.output, by simpa using hb.size, fun k hk => ?_⟩
  have h := hb.block k hk
  rw [heap_setCell_at] at h
  rw [heap_setCell_at, heap_setCell_at, h]
  by_cases e : b = k
  · simp only [e, if_true]
    cases w.heap[k]? with
    | none => rfl
    | some x => simp [putObj_putObj]
  · simp [e]

theorem RunAt.put {w : World} {x o g len : Nat} {pos next : ByteArray} {sk sk' : Int} {more : Bool} {pv : Value} (h : RunAt w x o pos sk g len next more pv) : RunAt (w.setCell ⟨x, o + 2, none⟩ (.int .i64 sk')) x o pos sk' g len next more pv := by
  have e : ∀ d v, d ≠ 2 → w.cell? ⟨x, o + d, none⟩ = some v → (w.setCell ⟨x, o + 2, none⟩ (.int .i64 sk')).cell? ⟨x, o + d, none⟩ = some v := fun d v hd hv => by
    rw [World.cell?_setCell_other]; exact hv
    intro he; simp only [Addr.mk.injEq] at he; omega
  exact ⟨e 1 _ (by decide) h.c1, World.cell?_setCell_same _ _ _ h.c2, e 3 _ (by decide) h.c3, e 4 _ (by decide) h.c4, e 5 _ (by decide) h.c5, e 6 _ (by decide) h.c6⟩

theorem RunAt.of {w w' : World} {x o g len : Nat} {pos next : ByteArray} {sk : Int} {more : Bool} {pv : Value} (h : RunAt w x o pos sk g len next more pv) (hx : w'.heap[x]? = w.heap[x]?) : RunAt w' x o pos sk g len next more pv := by
  have e : ∀ o, w'.cell? ⟨x, o, none⟩ = w.cell? ⟨x, o, none⟩ := fun o => World.cell?_of_block hx
  exact ⟨by rw [e]; exact h.c1, by rw [e]; exact h.c2, by rw [e]; exact h.c3, by rw [e]; exact h.c4, by rw [e]; exact h.c5, by rw [e]; exact h.c6⟩

set_option maxHeartbeats 1000000 in
theorem passOver_any (x o g len s pM pR : Nat) (hs : s ≤ len) (hlen : len ≤ 1024) (id : Nat → ByteArray) (key : Nat → Int) (pos next : ByteArray) (more : Bool) (pv : Value) (desc : Bool) (count : Int) (lid : ByteArray) (lkey : Int) (sa : Option Addr) (sn sc : Nat) (w : World)
    (hr : RunAt w x o pos s g len next more pv) (hh : HitsAt w g len id key) (hd : RdAt w pM pR desc count lid lkey sa sn sc) (hf : w.frozen? ⟨x, o + 2, none⟩ = false) (hxR : x ≠ pR) (hxM : x ≠ pM) (hxg : x ≠ g) :
    Calls Yba.prog 17 #[.pointer (some ⟨x, o, none⟩), .func (.func 15) #[.pointer (some ⟨pR, 0, none⟩)] #[]] w fun e w' =>
      e = .returned (.tuple #[]) ∧ Below w.heap.size (w.setCell ⟨x, o + 2, none⟩ (.int .i64 (stopAt (fun j => pasB desc count lid lkey (id j) (key j)) len s))) w' := by
  have hst := stops_at (fun j => pasB desc count lid lkey (id j) (key j)) len s hs
  have hxlt := World.block_lt_of_cell? _ _ hr.c1
  have hRlt := World.block_lt_of_cell? _ _ hd.h0
  have hMlt := World.block_lt_of_cell? _ _ hd.hM
  simp only at hxlt hRlt hMlt
  go_enter Yba.func17, Yba.ntmps17
  go_wp2
  go_loopg [] (len - s) (fun k wr => ∃ s' : Nat, s ≤ s' ∧ s' ≤ len ∧ k = len - s' ∧ (∀ j, s ≤ j → j < s' → pasB desc count lid lkey (id j) (key j) = true) ∧ Below w.heap.size (w.setCell ⟨x, o + 2, none⟩ (.int .i64 s')) wr)
  case atStart => exact ⟨s, Nat.le_refl _, hs, rfl, fun j a b => by omega, below_self hr.c2 (Below.refl _ _)⟩
  case round => 
    obtain ⟨s', hs1, hs2, rfl, hall, hbel⟩ := hrel
    have hrr : RunAt wr x o pos s' g len next more pv := (hr.put).of (hbel.block x hxlt)
    have hdr : RdAt wr pM pR desc count lid lkey sa sn sc := hd.of (by rw [hbel.block _ hMlt, heap_setCell_at, if_neg hxM]) (by rw [hbel.block _ hRlt, heap_setCell_at, if_neg hxR])
    have hfr : wr.frozen? ⟨x, o + 2, none⟩ = false := by rw [hbel.frozen (by exact hxlt)]; simpa using hf
    have hsz : w.heap.size ≤ wr.heap.size := by simpa using hbel.size
    obtain ⟨c1, c2, c3, c4, c5, c6⟩ := hrr
    have HRD : Hid (RdAt wr pM pR desc count lid lkey sa sn sc) := hdr
    have HRD0 : Hid (RdAt w pM pR desc count lid lkey sa sn sc) := hd
    have HH : Hid (HitsAt w g len id key) := hh
    have HB : Hid (Below w.heap.size (w.setCell ⟨x, o + 2, none⟩ (.int .i64 s')) wr) := hbel
    have HA : Hid (∀ j, s ≤ j → j < s' → pasB desc count lid lkey (id j) (key j) = true) := hall
    have HST : Hid (Stops (fun j => pasB desc count lid lkey (id j) (key j)) len s (stopAt (fun j => pasB desc count lid lkey (id j) (key j)) len s)) := hst
    have HR0 : Hid (RunAt w x o pos s g len next more pv) := hr
    clear hdr hd hh hbel hall hst hr
    by_cases hlt : s' < len
    · have hg := HH.out s' hlt
      have hglt := World.block_lt_of_cell? _ _ hg.1
      simp only at hglt
      have hgr : wr.heap[g]? = w.heap[g]? := by rw [HB.out.block _ hglt, heap_setCell_at, if_neg hxg]
      have k1 : wr.cell? ⟨g, s' * 2, none⟩ = some (.string (id s')) := by rw [World.cell?_of_block (w := w) hgr]; exact hg.1
      have k2 : wr.cell? ⟨g, s' * 2 + 1, none⟩ = some (.int .i64 (key s')) := by rw [World.cell?_of_block (w := w) hgr]; exact hg.2
      clear hgr hg
      have hd1 : decide ((s' : Int) < (len : Int)) = true := by simpa using hlt
      have hd2 : (s' : Int) < (len : Int) := by omega
      have hd3 : (0 : Int) ≤ (s' : Int) := by omega
      obtain ⟨pb, hpb⟩ : ∃ pb, pasB desc count lid lkey (id s') (key s') = pb := ⟨_, rfl⟩
      cases pb
      · go_wp2
        go_region_held3 (fun w' => w'.cell? ⟨x, o + 2, none⟩ = some (.int .i64 s') ∧ w'.cell? ⟨x, o + 3, none⟩ = some (.slice (some ⟨g, 0, none⟩) len len) ∧ w'.cell? ⟨g, s' * 2, none⟩ = some (.string (id s')) ∧ w'.cell? ⟨g, s' * 2 + 1, none⟩ = some (.int .i64 (key s')))
          (first | go_keep | (go_split_ands; refine ⟨?_, ?_, ?_, ?_⟩ <;> (rw [hb.cell (by simp <;> omega)]; assumption)))
          (first | (go_at_call 15; refine (passed_at (w := wr.drew) (HRD.out.of rfl rfl) _ _).mono ?_; rintro e w1 ⟨rfl, hb⟩))
        go_wp2
        go_end0
        have he : stopAt (fun j => pasB desc count lid lkey (id j) (key j)) len s = s' := HST.out.unique ⟨hs1, hs2, HA.out, fun _ => hpb⟩
        rw [he]
        exact ⟨rfl, HB.out.trans ((Below.drew (Below.refl _ _)).trans (hb.mono (by simpa using hsz)))⟩
      · go_wp2
        go_region_held3 (fun w' => w'.cell? ⟨x, o + 2, none⟩ = some (.int .i64 s') ∧ w'.cell? ⟨x, o + 3, none⟩ = some (.slice (some ⟨g, 0, none⟩) len len) ∧ w'.cell? ⟨g, s' * 2, none⟩ = some (.string (id s')) ∧ w'.cell? ⟨g, s' * 2 + 1, none⟩ = some (.int .i64 (key s')))
          (first | go_keep | (go_split_ands; refine ⟨?_, ?_, ?_, ?_⟩ <;> (rw [hb.cell (by simp <;> omega)]; assumption)))
          (first | (go_at_call 15; refine (passed_at (w := wr.drew) (HRD.out.of rfl rfl) _ _).mono ?_; rintro e w1 ⟨rfl, hb⟩))
        have c2' : w1.cell? ⟨x, o + 2, none⟩ = some (.int .i64 s') := by rw [hb.cell (by simp <;> omega)]; exact c2
        have f2' : w1.frozen? ⟨x, o + 2, none⟩ = false := by rw [hb.frozen (by simp <;> omega)]; exact hfr
        go_wp2
        go_roundg (len - (s' + 1))
        case measure => omega
        case rel =>
          refine ⟨s' + 1, by omega, by omega, rfl, fun j a b => ?_, ?_⟩
          · by_cases hj : j = s'
            · subst hj; exact hpb
            · exact HA.out j a (by omega)
          · have h := below_store (HB.out.trans ((Below.drew (Below.refl _ _)).trans (hb.mono (by simpa using hsz)))) (.int .i64 ((s' : Int) + 1))
            simpa using h
    · have hd1 : decide ((s' : Int) < (len : Int)) = false := by simpa using hlt
      go_wp2
      go_quiet (fail)
      go_wp2
      go_end0
      have he : stopAt (fun j => pasB desc count lid lkey (id j) (key j)) len s = s' := HST.out.unique ⟨hs1, hs2, HA.out, fun h => by omega⟩
      rw [he]
      exact ⟨rfl, HB.out.trans ⟨rfl, rfl, rfl, Nat.le_refl _, fun _ _ => rfl⟩⟩
#print axioms passOver_any
end Go.Proofs.Ybulkbboy
