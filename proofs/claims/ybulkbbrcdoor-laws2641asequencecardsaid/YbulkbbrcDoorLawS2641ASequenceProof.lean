/- THE ROW AND THE TIED CARD OF 'wirepool.LawS2641ASequence'. -/
import Derived.Test.YbulkbbrcDoorLaw
import Derived.Test.YbulkbbrcDoorCards
import Derived.Test.YbulkbbrcDoorTie
import Derived.Deep.Grids
import Derived.OpenShut
import Derived.OpenVars
import Derived.ChangeOld
import Derived.ChangeSame
import Derived.ChangeVars
import Derived.JoinedOf
import Derived.Handed
import Derived.RowKitTokens
import Derived.LaidLaws
import Derived.SevenTiedAt
import Derived.Below
namespace Go.Proofs.YbulkbbrcDoor.lawS2641ASequence
open Go.ChangeShapes Go.WideShapes Go.ChangeAt Go.RowKit Go.Deep
set_option linter.unusedVariables false

theorem own : ownKnob Ybad.prog.godebug = none := by kernel_rfl
theorem laidOut : laidOutB Ybad.prog = true := by kernel_rfl
theorem cells64 : Ybad.prog.cellsOf 64 = 1 := by kernel_rfl
theorem cells9 : Ybad.prog.cellsOf 9 = 1 := by kernel_rfl

/-- The two variables' names, off the row's own list. -/
abbrev nU : String := Rows.lawS2641ASequenceSpec.vars.getD 0 "x"
abbrev nC : String := Rows.lawS2641ASequenceSpec.vars.getD 1 "x"
theorem gC : Ybad.prog.globalNamed nC = some 0 := by kernel_rfl
theorem gU : Ybad.prog.globalNamed nU = some 1 := by kernel_rfl
theorem tC : (Ybad.prog.globals[0]?).map (·.type) = some 23 := by kernel_rfl
theorem tU : (Ybad.prog.globals[1]?).map (·.type) = some 23 := by kernel_rfl

set_option maxRecDepth 100000 in
/-- WHAT 'laid' GIVES THE WALK: errInUse's one cell holds a pointer to an errors.errorString. -/
theorem inUse_of_laid {W : World} (h : laidMet Ybad.prog Rows.lawS2641ASequenceRow.laid W) : ∃ a : Addr, W.cell? ⟨1, 0, none⟩ = some (.iface 62 (.pointer (some a))) := by
  obtain ⟨ps, ⟨g0, t0, cs0, f0, p0, q0, hg0, ht0, hv0, hd0, ⟨g1, t1, cs1, f1, p1, q1, hg1, ht1, hv1, hd1, hq1, e1⟩, e0⟩, hnd, hrows⟩ := h
  obtain rfl := Option.some.inj (gU.symm.trans hg1)
  obtain rfl := Option.some.inj (tU.symm.trans ht1)
  have hq1' : q1 = [] := hq1
  subst hq1'
  subst e1
  subst e0
  obtain ⟨l1⟩ := cs1
  have ok1 : ∀ u v, l1 = [.iface u v] → Value.okWide Ybad.prog W .any 0 u v := fun u v e => by
    subst e
    exact (hrows 1 0 (by simp [MemPlace.row])).2 u v (by simpa using World.var?_cell hg1 hv1 0)
  obtain ⟨a1, s1, rfl, hc1, hs1, hz1, rfl⟩ := errorString_of_trod Ybad.underlying23 (fun u hu => typeName_ptr_named (nm := "errors.errorString") (by kernel_rfl) (by kernel_rfl) (by decide) u (hu.trans (congrArg some (by decide)))) Ybad.underlying62 Ybad.underlying64 rfl rfl Ybad.underlying9 cells64 cells9 hd1 ok1
  exact ⟨a1, by simpa using World.var?_cell hg1 hv1 0⟩

/-! ### One start that fits -/
abbrev closedS : ByteArray := { data := #[119, 105, 114, 101, 112, 111, 111, 108, 58, 32, 112, 111, 111, 108, 32, 105, 115, 32, 99, 108, 111, 115, 101, 100] }
abbrev inUseS : ByteArray := { data := #[119, 105, 114, 101, 112, 111, 111, 108, 58, 32, 116, 104, 101, 32, 99, 111, 110, 110, 101, 99, 116, 105, 111, 110, 32, 105, 115, 32, 105, 110, 32, 117, 115, 101] }
def low (P : Program) : Nat := (World.holding P default ⟨#[], #[], []⟩).heap.size
def laidWorld (P : Program) (os : Os) : World :=
  let w0 := World.holding P os ⟨#[.cells #[.string closedS] 64, .cells #[.string inUseS] 64], #[], []⟩
  { w0 with heap := (w0.heap.modify 0 fun
      | .cells _ t frozen => .cells #[.iface 62 (.pointer (some ⟨low P, 0, none⟩))] t frozen
      | o => o).modify 1 fun
      | .cells _ t frozen => .cells #[.iface 62 (.pointer (some ⟨low P + 1, 0, none⟩))] t frozen
      | o => o }
theorem laidWorld_met (os : Os) (args : Array Value) : laidMet Ybad.prog Rows.lawS2641ASequenceRow.laid ((laidWorld Ybad.prog os).forCall (fun _ _ => 0) ⟨#[], args, []⟩).memory :=
  laidMet_of_run (ps := [.cell 0 0, .cell (low Ybad.prog) 0, .cell 1 0, .cell (low Ybad.prog + 1) 0]) 8 (by kernel_rfl) (by kernel_rfl) (by kernel_rfl)

theorem open_arg {H : Type} {enc : TypeId × Value → H} {W : World} {a : Option Addr} {len cap : Nat} {d : DataW H} {p : List MemPlace}
    (h : DataW.Trod enc Ybad.prog W 0 (fun _ => true) true 60 (.slice a len cap) d p) : len ≤ maxLen ∧ ∃ bs, BoolsAt W a len bs := by
  obtain ⟨fuel, hf⟩ := h
  rcases open_bools Ybad.underlying60 Ybad.underlying4 (by kernel_rfl) hf with ⟨hcs, _⟩ | ⟨x, l, c, B, hcs, _, hl, hm, _, hcell⟩
  · simp [Value.cells] at hcs
    obtain ⟨rfl, rfl, rfl⟩ := hcs
    exact ⟨by unfold maxLen; omega, [], rfl, fun h => by omega⟩
  · simp [Value.cells] at hcs
    obtain ⟨rfl, rfl, rfl⟩ := hcs
    refine ⟨by omega, (List.range len).map B, by simp, fun h0 => ?_⟩
    obtain ⟨g, o, spot⟩ := x
    have hspot : spot = none := by simpa [Addr.add] using World.cell?_spot (hcell 0 (by omega))
    subst hspot
    have hc : ∀ j, j < cap → W.cell? ⟨g, o + j, none⟩ = some (.bool (B j)) := fun j hj => by rw [← add_plain]; exact hcell j hj
    exact ⟨g, o, rfl, World.block_lt_of_cell? _ _ (hc 0 (by omega)), fun j hj => by simp at hj; rw [hc j (by omega)]; simp⟩

set_option maxRecDepth 100000 in
theorem lifted (os : Os) (started : os.Started) (H : Type) (enc : TypeId × Value → H) :
    ReturnsInHanded {} Ybad.checked os 4 .any (fun w args => (Rows.lawS2641ASequenceSpec.pre enc Ybad.prog Ybad.f4 [] false w args ∧ laidMet Ybad.prog Rows.lawS2641ASequenceRow.laid w) ∧ sizedMet enc Ybad.prog Ybad.f4 (OpenSpec.ofChange Rows.lawS2641ASequenceSpec) false w args)
      (Rows.lawS2641ASequenceSpec.post enc Ybad.prog Ybad.f4 false true false false) := by
  refine returnsInHanded_of_change_and (C := Ybad.checked) (X := fun w _ => laidMet Ybad.prog Rows.lawS2641ASequenceRow.laid w) (fun _ _ _ hh h => h.of_heap hh) own started (by kernel_rfl) Ybad.func4
    (ChangeSpec.witness_at (enc := enc) (C := Ybad.checked) (os := os) (X := fun w _ => laidMet Ybad.prog Rows.lawS2641ASequenceRow.laid w) false (laidWorld Ybad.prog os) #[.slice none 0 0] 8 rfl (by kernel_rfl) (by kernel_rfl) (by kernel_rfl) (by kernel_rfl) (by kernel_rfl) (laidWorld_met os _)) ?_
  intro W base args ds gs before hval0 hW _ _ hL _
  have hval : ∀ (j : Nat) t v, Ybad.f4.params[j]? = some t → args[j]? = some v → Value.okWide Ybad.prog W .any base t v := hval0
  have hW' := hW
  obtain ⟨p, q, hA0, hV0, rfl, hfz, hnd⟩ := hW
  have hA : DataW.TrodAll enc Ybad.prog W 0 (fun _ => true) true Ybad.f4.params.toList args.toList ds p := hA0
  have hV : DataW.TrodVars enc Ybad.prog W (fun _ => true) Rows.lawS2641ASequenceSpec.vars gs q := hV0
  rw [Ybad.params4] at hA hval
  obtain ⟨v0, d0, rfl, rfl, h0⟩ := trodAll_one hA
  obtain ⟨a0, len0, cap0, rfl⟩ := okWide_slice Ybad.underlying60 (hval 0 60 v0 rfl rfl)
  have lt0 : ∀ x ∈ p, x.block < W.heap.size := by obtain ⟨m, hm⟩ := h0; exact DataW.trod_lt m _ _ _ hm
  obtain ⟨hm, bs, hb⟩ := open_arg h0
  obtain ⟨pu, hgu⟩ := inUse_of_laid hL
  obtain ⟨g1, g2, rfl⟩ : ∃ g1 g2, gs = [g1, g2] := by
    rcases gs with _ | ⟨g1, _ | ⟨g2, _ | ⟨g3, r⟩⟩⟩
    · exact absurd hV (fun h => h)
    · obtain ⟨_, _, _, _, _, _, _, _, _, _, h, _⟩ := hV; exact absurd h (fun h => h)
    · exact ⟨g1, g2, rfl⟩
    · obtain ⟨_, _, _, _, _, _, _, _, _, _, h, _⟩ := hV
      obtain ⟨_, _, _, _, _, _, _, _, _, _, h, _⟩ := h
      exact absurd h (fun h => h)
  clear hA0 hV0 hval0
  refine (law_walk a0 len0 cap0 bs W hb hm pu hgu (World.block_lt_of_cell? _ _ hgu)).mono fun e W' ⟨he, bel⟩ => ?_
  subst he
  exact ⟨_, rfl, _, _, _, [], _, _, hW', trodAll_mk1 (shut_bool Ybad.underlying4 _), trodAll_mk1 (Below.trod laidOut (by kernel_rfl) (of_decide_eq_true (by kernel_rfl)) h0 bel lt0), Below.trodVars laidOut bel (by kernel_rfl) hV, bel.frame _, fun h => by cases h⟩

theorem over : Rows.LawS2641ASequenceSaid :=
  OpenClaim.holds_of_wide 4 Ybad.f4 rfl rfl rfl rfl rfl rfl rfl ⟨rfl, rfl, rfl, rfl, rfl⟩ rfl rfl rfl rfl rfl (by kernel_rfl) Ybad.func4 (by kernel_rfl)
    (of_decide_eq_true (by kernel_rfl)) (by unfold Func.isWrapper; first | (rw [if_pos (by decide +kernel)]; kernel_rfl) | (rw [if_neg (by decide +kernel)]; exact ⟨rfl, rfl⟩))
    (fun os started H enc _ => lifted os started H enc)

theorem params4u (j : Nat) (t : TypeId) (h : (#[60] : Array TypeId)[j]? = some t) : t = 60 := by
  rcases j with _ | j
  · simpa using h.symm
  · simp at h

/-- THE STATEMENT -/
theorem proved : Rows.LawS2641ASequenceCardSaid :=
  Claim7.holds_tied_plain_at .later [] [.sentinel, .sentinel] true _ true
    over (fun _ h => by cases h) (by kernel_rfl) (fun _ h => by cases h) lawS2641ASequence_row_tie rfl ⟨rfl, rfl⟩ (by kernel_rfl) rfl
    (fun f fn hf hfn => by
      obtain rfl : f = 4 := Option.some.inj ((show Ybad.prog.funcNamed Rows.lawS2641ASequenceRow.func = some 4 by kernel_rfl).symm.trans hf) |>.symm
      obtain rfl : fn = Ybad.f4 := (Option.some.inj (Ybad.func4.symm.trans hfn)).symm
      exact ⟨by kernel_rfl, fun j t ht => by
        rw [Ybad.params4] at ht
        obtain rfl := params4u j t ht
        exact (show Ybad.prog.wantsStandIn 60 = false by kernel_rfl)⟩)
    (by kernel_rfl)
#print axioms proved
end Go.Proofs.YbulkbbrcDoor.lawS2641ASequence
