/- enqueue (7). -/
import Derived.Test.YbulkbbrcDoorPipe
import Derived.Deep.AppendLies
namespace Go.Proofs.YbulkbbrcDoor
open Go.RowKit Go.MuLone Go.Conc
set_option linter.unusedVariables false
set_option linter.unusedSimpArgs false

/-- What an enqueue leaves: S: what may turn. -/
def Turns (pb cb : Nat) (uv : Value) (k : Nat) : Prop := k = pb ∨ k = cb ∨ uv.ownBlock = some k

/-- A probe while something is queued: refused. -/
theorem enq_refused (pb cb lb kb n c : Nat) (q : Int) (ua : Option Addr) (full : Bool) (gv : Value) (w : World) (hP : Pipe w pb cb lb 0 q (.slice ua n c) full) (h1 : pb ≠ cb) (h2 : pb ≠ lb) (h3 : cb ≠ lb) (hn : 0 < n)
    (hk : w.cell? ⟨kb, 8, none⟩ = some (.bool true)) (hkb : kb ≠ pb) (hg : w.cell? ⟨1, 0, none⟩ = some gv) (hgb : 1 ≠ pb) (t : TypeId) (u : Value) (hgv : gv = .iface t u) :
    Calls Ybad.prog 7 #[.pointer (some ⟨pb, 0, none⟩), .pointer (some ⟨kb, 0, none⟩)] w fun e w' => e = .returned gv ∧ Pipe w' pb cb lb 0 q (.slice ua n c) full ∧ Stay (fun k => k = pb) w w' := by
  subst hgv
  have HL : Hid (Calls Ybad.prog 9 #[.pointer (some ⟨pb, 4, none⟩)] w fun e w' => e = .returned (.tuple #[]) ∧ w' = w.setCell ⟨pb, 4, none⟩ (.int .i32 1)) := lock_free Ybad.muLib ⟨pb, 4, none⟩ w (by rw [hP.cell]; rfl) (hP.frozen 4)
  have HP : Hid (Pipe w pb cb lb 0 q (.slice ua n c) full) := hP
  have HK : Hid (w.cell? ⟨kb, 8, none⟩ = some (.bool true)) := hk
  have HG : Hid (w.cell? ⟨1, 0, none⟩ = some (.iface t u)) := hg
  clear hP hk hg
  go_enter Ybad.func7, Ybad.ntmps7
  go_wp2_with fail
  refine (HL.out).mono ?_
  rintro e w1 ⟨rfl, hw1⟩
  have HS1 : Hid (Stay (fun k => k = pb) w w1) := by rw [hw1]; exact Stay.setCell w _ _ rfl
  have HP1 : Hid (Pipe w1 pb cb lb 1 q (.slice ua n c) full) := by rw [hw1]; exact HP.out.setMu h1 h2 1
  have hk1 : w1.cell? ⟨kb, 8, none⟩ = some (.bool true) := by rw [World.cell?_of_block (HS1.out.block kb (World.block_lt_of_cell? _ _ HK.out) hkb)]; exact HK.out
  have hg1 : w1.cell? ⟨1, 0, none⟩ = some (.iface t u) := by rw [World.cell?_of_block (HS1.out.block 1 (World.block_lt_of_cell? _ _ HG.out) hgb)]; exact HG.out
  clear hw1 HL
  have c20 : w1.cell? ⟨pb, 20, none⟩ = some (.bool false) := by rw [HP1.out.cell]; rfl
  have c21 : w1.cell? ⟨pb, 21, none⟩ = some .nilIface := by rw [HP1.out.cell]; rfl
  have c6 : w1.cell? ⟨pb, 6, none⟩ = some (.slice ua n c) := by rw [HP1.out.cell]; rfl
  have HRF : Hid (Calls Ybad.prog 10 #[.pointer (some ⟨pb, 0, none⟩)] w1 fun e w' => e = .returned .nilIface ∧ w1 = w') := refusal_any pb w1 c20 c21
  have HID : Hid (Calls Ybad.prog 11 #[.pointer (some ⟨pb, 0, none⟩)] w1 fun e w' => e = .returned (.bool false) ∧ w1 = w') := idle_full pb n c ua w1 c20 c21 c6 hn
  have HUL : Hid (Calls Ybad.prog 12 #[.pointer (some ⟨pb, 4, none⟩)] w1 fun e w' => e = .returned (.tuple #[]) ∧ w' = w1.setCell ⟨pb, 4, none⟩ (.int .i32 0)) := unlock_held Ybad.muLib ⟨pb, 4, none⟩ w1 (by rw [HP1.out.cell]; rfl) (HP1.out.frozen 4)
  go_wp2_with (first | (go_at_call 10; refine (HRF.out).mono ?_; rintro e w' ⟨rfl, rfl⟩) | (go_at_call 11; refine (HID.out).mono ?_; rintro e w' ⟨rfl, rfl⟩) | (go_at_call 12; refine (HUL.out).mono ?_; rintro e w2 ⟨rfl, hw2⟩; have HP2 : Hid (Pipe w2 pb cb lb 0 q (.slice ua n c) full) := (by rw [hw2]; exact HP1.out.setMu h1 h2 0); have HS2 : Hid (Stay (fun k => k = pb) w1 w2) := (by rw [hw2]; exact Stay.setCell w1 _ _ rfl); clear hw2))
  go_ret
  exact ⟨rfl, HP2.out, HS1.out.trans HS2.out⟩

theorem info51 : (Ybad.prog.info? 51).map (fun i => (i.zero, i.size, i.bytes)) = some (some (.pointer none), 1, 8) := by kernel_rfl

theorem own_kept {w w' : World} {B e size n : Nat} {v : Value} {xs : List Value} (h : w.ownsRow B e size v n xs) (hb : ∀ k, v.ownBlock = some k → w'.heap[k]? = w.heap[k]?) : w'.ownsRow B e size v n xs := by
  refine ⟨h.1, ?_⟩
  rcases h.2 with hn | ⟨g, cap, cur, rfl, hg, hgg, rest⟩
  · exact .inl hn
  · exact .inr ⟨g, cap, cur, rfl, hg, (hb g rfl).trans hgg, rest⟩
theorem own_from {w : World} {B e size n : Nat} {v : Value} {xs : List Value} (h : w.ownsRow B e size v n xs) : ∀ k, v.ownBlock = some k → B ≤ k ∧ k < w.heap.size := by
  intro k hk
  rcases h.2 with ⟨rfl, _⟩ | ⟨g, cap, cur, rfl, hb, hg, _⟩
  · simp [Value.ownBlock] at hk
  · simp [Value.ownBlock] at hk; subst hk; exact ⟨hb, heap_lt hg⟩
theorem own_slice {w : World} {B e size n : Nat} {v : Value} {xs : List Value} (h : w.ownsRow B e size v n xs) : ∃ ua c, v = .slice ua n c := by
  rcases h.2 with ⟨rfl, h0⟩ | ⟨g, cap, cur, rfl, hb, hg, _⟩
  · subst h0; exact ⟨_, _, rfl⟩
  · exact ⟨_, _, rfl⟩

/-- What an accepted enqueue leaves. -/
def Took (B pb cb lb kb n : Nat) (uv : Value) (xs : List Value) (w : World) (e : Ending) (w' : World) : Prop :=
  e = .returned .nilIface ∧ ∃ uv', Pipe w' pb cb lb 0 ((n + 1 : Nat) : Int) uv' true ∧ w'.ownsRow B 51 1 uv' (n + 1) (xs ++ [.pointer (some ⟨kb, 0, none⟩)]) ∧ Stay (Turns pb cb uv) w w' ∧ (∀ k, uv'.ownBlock = some k → uv.ownBlock = some k ∨ w.heap.size ≤ k)

set_option maxRecDepth 100000 in
set_option maxHeartbeats 1000000 in
theorem enq_accepted (B pb cb lb kb n c : Nat) (ua : Option Addr) (xs : List Value) (probe : Bool) (w : World) (hP : Pipe w pb cb lb 0 n (.slice ua n c) (decide (0 < n))) (h1 : pb ≠ cb) (h2 : pb ≠ lb) (h3 : cb ≠ lb)
    (hB1 : pb < B) (hB2 : cb < B) (hB3 : lb < B) (hBw : B ≤ w.heap.size) (hn : n ≤ 1024) (hown : w.ownsRow B 51 1 (.slice ua n c) n xs)
    (hp : probe = true → n = 0) (hk : w.cell? ⟨kb, 8, none⟩ = some (.bool probe)) (hkb : kb ≠ pb) :
    Calls Ybad.prog 7 #[.pointer (some ⟨pb, 0, none⟩), .pointer (some ⟨kb, 0, none⟩)] w fun e w' => Took B pb cb lb kb n (.slice ua n c) xs w e w' := by
  have HL : Hid (Calls Ybad.prog 9 #[.pointer (some ⟨pb, 4, none⟩)] w fun e w' => e = .returned (.tuple #[]) ∧ w' = w.setCell ⟨pb, 4, none⟩ (.int .i32 1)) := lock_free Ybad.muLib ⟨pb, 4, none⟩ w (by rw [hP.cell]; rfl) (hP.frozen 4)
  have HP : Hid (Pipe w pb cb lb 0 n (.slice ua n c) (decide (0 < n))) := hP
  have HK : Hid (w.cell? ⟨kb, 8, none⟩ = some (.bool probe)) := hk
  have HO : Hid (w.ownsRow B 51 1 (.slice ua n c) n xs) := hown
  clear hP hk hown
  obtain ⟨i0, hi, hz⟩ := Option.map_eq_some_iff.1 info51
  simp only [Prod.mk.injEq] at hz
  obtain ⟨hz0, hz1, hz2⟩ := hz
  go_enter Ybad.func7, Ybad.ntmps7
  go_wp2_with fail
  refine (HL.out).mono ?_
  rintro e w1 ⟨rfl, hw1⟩
  have HS1 : Hid (Stay (fun k => k = pb) w w1) := by rw [hw1]; exact Stay.setCell w _ _ rfl
  have HP1 : Hid (Pipe w1 pb cb lb 1 n (.slice ua n c) (decide (0 < n))) := by rw [hw1]; exact HP.out.setMu h1 h2 1
  have HSZ1 : Hid (w1.heap.size = w.heap.size) := by rw [hw1]; simp [World.setCell, Hid]
  have hk1 : w1.cell? ⟨kb, 8, none⟩ = some (.bool probe) := by rw [World.cell?_of_block (HS1.out.block kb (World.block_lt_of_cell? _ _ HK.out) hkb)]; exact HK.out
  have HO1 : Hid (w1.ownsRow B 51 1 (.slice ua n c) n xs) := own_kept HO.out (fun k hk => HS1.out.block k (own_from HO.out k hk).2 (fun e => by have := (own_from HO.out k hk).1; omega))
  clear hw1 HL
  have c20 : w1.cell? ⟨pb, 20, none⟩ = some (.bool false) := by rw [HP1.out.cell]; rfl
  have c21 : w1.cell? ⟨pb, 21, none⟩ = some .nilIface := by rw [HP1.out.cell]; rfl
  have c6 : w1.cell? ⟨pb, 6, none⟩ = some (.slice ua n c) := by rw [HP1.out.cell]; rfl
  have c7 : w1.cell? ⟨pb, 7, none⟩ = some (.iface 65 (.pointer (some ⟨lb, 0, none⟩))) := by rw [HP1.out.cell]; rfl
  have HRF : Hid (Calls Ybad.prog 10 #[.pointer (some ⟨pb, 0, none⟩)] w1 fun e w' => e = .returned .nilIface ∧ w1 = w') := refusal_any pb w1 c20 c21
  have HID : Hid (probe = true → Calls Ybad.prog 11 #[.pointer (some ⟨pb, 0, none⟩)] w1 fun e w' => e = .returned (.bool true) ∧ w1 = w') := fun hpt => by
    have hn0 := hp hpt
    subst hn0
    exact idle_empty pb lb c ua w1 c20 c21 c6 c7 HP1.out.kept
  clear c20 c21 c7
  have hlen9 : n + 1 ≤ 9223372036854775807 := by omega
  clear hp
  cases probe
  all_goals
    go_wp2_with (first | (go_at_call 10; refine (HRF.out).mono ?_; rintro e w' ⟨rfl, rfl⟩) | (go_at_call 11; refine (HID.out (by trivial)).mono ?_; rintro e w' ⟨rfl, rfl⟩) | (at_builtin; refine wpList_append_lies _ rfl _ _ 42 rfl B 51 i0 (.pointer none) 1 8 Ybad.underlying42 hi hz0 hz1 hz2 rfl (by decide) _ _ _ rfl (HO1.out.alloc _) ⟨w1.heap.size, 0, none⟩ 1 1 [.pointer (some ⟨kb, 0, none⟩)] rfl rfl ?c1 ?c2 (by decide) ?c3 ?c4 ?c5 _ rfl ?_))
    case c1 => exact cell_one_new _ _ _
    case c2 => intro u hu; simp at hu; subst hu; rfl
    case c3 => unfold maxLen; omega
    case c4 => omega
    case c5 => have hsz1 := HSZ1.out; simp; omega
    intro g' c' w2 hown' hgrow hat hlt
    have hsz1 := HSZ1.out
    have HS2 : Hid (Stay (fun k => (Value.slice ua n c).ownBlock = some k) w1 w2) := (Stay.alloc w1 _).trans (Stay.grown hgrow (fun k hk => hk))
    have hne : ∀ k, (Value.slice ua n c).ownBlock = some k → B ≤ k ∧ k < w1.heap.size := own_from HO1.out
    have HP2 : Hid (Pipe w2 pb cb lb 1 n (.slice ua n c) (decide (0 < n))) := HP1.out.stay HS2.out (fun h => by have := hne _ h; omega) (fun h => by have := hne _ h; omega) (fun h => by have := hne _ h; omega)
    have hsz2 : w1.heap.size ≤ w2.heap.size := HS2.out.size
    have HNB : Hid ((Value.slice ua n c).ownBlock = some g' ∨ w.heap.size ≤ g') := by
      rcases hat with h | h
      · exact .inl h
      · exact .inr (by rw [h]; omega)
    have hBg : B ≤ g' := by
      rcases HNB.out with h | h
      · exact (hne _ h).1
      · omega
    have HO2 : Hid (w2.ownsRow B 51 1 (.slice (some ⟨g', 0, none⟩) (n + 1) c') (n + 1) (xs ++ [.pointer (some ⟨kb, 0, none⟩)])) := hown'
    have d6 : w2.cell? ⟨pb, 6, none⟩ = some (.slice ua n c) := by rw [HP2.out.cell]; rfl
    have z6 : w2.frozen? ⟨pb, 6, none⟩ = false := HP2.out.frozen 6
    clear hgrow hown' hat hsz1
    go_wp2_with fail
    obtain ⟨w3, hw3⟩ : ∃ w3, w3 = w2.setCell ⟨pb, 6, none⟩ (.slice (some ⟨g', 0, none⟩) (n + 1) c') := ⟨_, rfl⟩
    rw [← hw3]
    have HS3 : Hid (Stay (fun k => k = pb) w2 w3) := by rw [hw3]; exact Stay.setCell w2 _ _ rfl
    have HP3 : Hid (Pipe w3 pb cb lb 1 n (.slice (some ⟨g', 0, none⟩) (n + 1) c') (decide (0 < n))) := by rw [hw3]; exact HP2.out.setU h1 h2 _
    clear hw3
    have HAD : Hid (Calls Ybad.prog 13 #[.pointer (some ⟨pb, 2, none⟩), .int .i64 1] w3 fun e w' => e = .returned (.int .i64 ((n : Int) + 1)) ∧ w' = w3.setCell ⟨pb, 2, none⟩ (.int .i64 ((n : Int) + 1))) :=
      add_any pb 2 n w3 (by rw [HP3.out.cell]; rfl) (HP3.out.frozen 2) (wrap_small _ (by omega) (by omega))
    refine (HAD.out).mono ?_
    rintro e w4 ⟨rfl, hw4⟩
    have HS4 : Hid (Stay (fun k => k = pb) w3 w4) := by rw [hw4]; exact Stay.setCell w3 _ _ rfl
    have HP4 : Hid (Pipe w4 pb cb lb 1 ((n : Int) + 1) (.slice (some ⟨g', 0, none⟩) (n + 1) c') (decide (0 < n))) := by rw [hw4]; exact HP3.out.setQ h1 h2 _
    clear hw4 HAD
    have e6 : w4.cell? ⟨pb, 6, none⟩ = some (.slice (some ⟨g', 0, none⟩) (n + 1) c') := by rw [HP4.out.cell]; rfl
    have HUL : Hid (Calls Ybad.prog 12 #[.pointer (some ⟨pb, 4, none⟩)] w4 fun e w' => e = .returned (.tuple #[]) ∧ w' = w4.setCell ⟨pb, 4, none⟩ (.int .i32 0)) := unlock_held Ybad.muLib ⟨pb, 4, none⟩ w4 (by rw [HP4.out.cell]; rfl) (HP4.out.frozen 4)
    go_wp2_with fail
    refine (HUL.out).mono ?_
    rintro e w5 ⟨rfl, hw5⟩
    have HS5 : Hid (Stay (fun k => k = pb) w4 w5) := by rw [hw5]; exact Stay.setCell w4 _ _ rfl
    have HP5 : Hid (Pipe w5 pb cb lb 0 ((n : Int) + 1) (.slice (some ⟨g', 0, none⟩) (n + 1) c') (decide (0 < n))) := by rw [hw5]; exact HP4.out.setMu h1 h2 0
    clear hw5 HUL
    have HS05 : Hid (Stay (Turns pb cb (.slice ua n c)) w w5) := ((((HS1.out.mono (fun k h => .inl h)).trans (HS2.out.mono (fun k h => .inr (.inr h)))).trans (HS3.out.mono (fun k h => .inl h))).trans (HS4.out.mono (fun k h => .inl h))).trans (HS5.out.mono (fun k h => .inl h))
    have HO5 : Hid (w5.ownsRow B 51 1 (.slice (some ⟨g', 0, none⟩) (n + 1) c') (n + 1) (xs ++ [.pointer (some ⟨kb, 0, none⟩)])) :=
      own_kept HO2.out (fun k hk => ((HS3.out.trans HS4.out).trans HS5.out).block k (own_from HO2.out k hk).2 (fun e => by have := (own_from HO2.out k hk).1; omega))
    by_cases hn0 : n = 0
    · subst hn0
      have HC5 : Hid (w5.heap[cb]? = some (.chan 1 #[] false 0 0 false)) := HP5.out.c
      have HWK : Hid (Calls Ybad.prog 14 #[.pointer (some ⟨pb, 0, none⟩)] w5 fun e w' => e = .returned (.tuple #[]) ∧ w' = w5.setChan cb 1 #[.agg #[]] false 1 0 false) := wake_any pb cb 0 0 w5 (by rw [HP5.out.cell]; rfl) HC5.out
      go_wp2_with (go_at_call 14; refine (HWK.out).mono ?_; rintro e w6 ⟨rfl, hw6⟩; have HP6 : Hid (Pipe w6 pb cb lb 0 ((0 + 1 : Nat) : Int) (.slice (some ⟨g', 0, none⟩) (0 + 1) c') true) := (by rw [hw6]; exact HP5.out.setKick h1 h3); have HS6 : Hid (Stay (fun k => k = cb) w5 w6) := (by rw [hw6]; exact Stay.setChan w5 _ _ _ _ _ _ _ rfl); clear hw6)
      go_ret
      refine ⟨rfl, _, HP6.out, own_kept HO5.out (fun k hk => HS6.out.block k (own_from HO5.out k hk).2 (fun e => by have := (own_from HO5.out k hk).1; omega)), HS05.out.trans (HS6.out.mono (fun k h => .inr (.inl h))), ?_⟩
      intro k hk
      simp [Value.ownBlock] at hk
      subst hk
      exact HNB.out
    · have hd : decide (0 < n) = true := by simp; omega
      rw [hd] at HP5
      have hn1 : ¬ ((n : Int) + 1 = 1) := by omega
      have hn2 : ¬ (n + 1 = 1) := by omega
      go_wp2
      go_ret
      refine ⟨rfl, _, HP5.out, HO5.out, HS05.out, ?_⟩
      intro k hk
      simp [Value.ownBlock] at hk
      subst hk
      exact HNB.out
#print axioms enq_accepted
end Go.Proofs.YbulkbbrcDoor
