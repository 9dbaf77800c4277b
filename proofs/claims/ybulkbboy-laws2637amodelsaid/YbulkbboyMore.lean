/- 14 (run.more). -/
import Derived.Test.YbulkbboyPassOver
namespace Go.Proofs.Ybulkbboy
open Go.ChangeShapes Go.WideShapes Go.ChangeAt Go.RowKit
set_option linter.unusedVariables false
set_option linter.unusedSimpArgs false

set_option maxHeartbeats 1000000 in
theorem more_any (x o g len s pM pR : Nat) (hs : s ≤ len) (hlen : len ≤ 1024) (id : Nat → ByteArray) (key : Nat → Int) (pos next : ByteArray) (more : Bool) (pv : Value) (desc : Bool) (count : Int) (lid : ByteArray) (lkey : Int) (sa : Option Addr) (sn sc : Nat) (w : World)
    (hr : RunAt w x o pos s g len next more pv) (hh : HitsAt w g len id key) (hd : RdAt w pM pR desc count lid lkey sa sn sc) (hf : w.frozen? ⟨x, o + 2, none⟩ = false) (hxR : x ≠ pR) (hxM : x ≠ pM) (hxg : x ≠ g) :
    Calls Yba.prog 14 #[.pointer (some ⟨x, o, none⟩), .func (.func 15) #[.pointer (some ⟨pR, 0, none⟩)] #[]] w fun e w' =>
      e = .returned (.bool (decide (stopAt (fun j => pasB desc count lid lkey (id j) (key j)) len s < len) || more)) ∧ Below w.heap.size (w.setCell ⟨x, o + 2, none⟩ (.int .i64 (stopAt (fun j => pasB desc count lid lkey (id j) (key j)) len s))) w' := by
  have hxlt := World.block_lt_of_cell? _ _ hr.c1
  simp only at hxlt
  have HP : Hid (∀ (_ : Unit), Calls Yba.prog 17 #[.pointer (some ⟨x, o, none⟩), .func (.func 15) #[.pointer (some ⟨pR, 0, none⟩)] #[]] w fun e w' =>
      e = .returned (.tuple #[]) ∧ Below w.heap.size (w.setCell ⟨x, o + 2, none⟩ (.int .i64 (stopAt (fun j => pasB desc count lid lkey (id j) (key j)) len s))) w') := fun _ => passOver_any x o g len s pM pR hs hlen id key pos next more pv desc count lid lkey sa sn sc w hr hh hd hf hxR hxM hxg
  obtain ⟨r, hrr⟩ : ∃ r, r = stopAt (fun j => pasB desc count lid lkey (id j) (key j)) len s := ⟨_, rfl⟩
  have hle : r ≤ len := by rw [hrr]; exact (stops_at _ len s hs).hi
  rw [← hrr] at HP ⊢
  have HR : Hid (∀ w1, Below w.heap.size (w.setCell ⟨x, o + 2, none⟩ (.int .i64 r)) w1 → RunAt w1 x o pos r g len next more pv) := fun w1 hb => (hr.put).of (hb.block x hxlt)
  clear hrr hh hd hf hr
  by_cases hlt : r < len
  · have hd1 : decide ((r : Int) < (len : Int)) = true := by simpa using hlt
    have hd2 : decide (r < len) = true := by simpa using hlt
    rw [hd2]
    go_enter Yba.func14, Yba.ntmps14
    go_wp2_with (go_at_call 17; refine (HP.out ()).mono ?_; rintro e w1 ⟨rfl, hb⟩; obtain ⟨c1, c2, c3, c4, c5, c6⟩ := HR.out w1 hb)
    go_wp2
    go_quiet (fail)
    go_wp2
    go_ret
    exact ⟨rfl, hb.trans ⟨rfl, rfl, rfl, Nat.le_refl _, fun _ _ => rfl⟩⟩
  · have hd1 : decide ((r : Int) < (len : Int)) = false := by simpa using hlt
    have hd2 : decide (r < len) = false := by simpa using hlt
    rw [hd2]
    go_enter Yba.func14, Yba.ntmps14
    go_wp2_with (go_at_call 17; refine (HP.out ()).mono ?_; rintro e w1 ⟨rfl, hb⟩; obtain ⟨c1, c2, c3, c4, c5, c6⟩ := HR.out w1 hb)
    go_wp2
    go_quiet (fail)
    go_wp2
    go_ret
    exact ⟨rfl, hb.trans ⟨rfl, rfl, rfl, Nat.le_refl _, fun _ _ => rfl⟩⟩
#print axioms more_any
end Go.Proofs.Ybulkbboy
