/- What comes in: a []byte and a []uint64, read as data, as the walks want them. And the facts that both cards ask of the program. -/
import Derived.Test.YbulkbbqaFmtLawB
import Derived.OpenShut
import Derived.ChangeOld
import Derived.ChangeSlices
namespace Go.Proofs.YbulkbbqaFmt
open Go.ChangeShapes Go.WideShapes Go.ChangeAt Go.RowKit
set_option linter.unusedVariables false

theorem own : ownKnob Ybaf.prog.godebug = none := by kernel_rfl
theorem laidOut : laidOutB Ybaf.prog = true := by kernel_rfl
theorem laidOutP : laidOutB Ybaf.pinned.checked.prog = true := by kernel_rfl
theorem stops : Ybaf.pinned.checked.prog.stops = ["fmt.errorf", "fmt.Sprintf"] := by kernel_rfl
theorem stopKnobs : Ybaf.pinned.checked.prog.stopKnobs = [] := by kernel_rfl
theorem quiet (os : Os) : Stop.quiet Ybaf.pinned.checked.prog os := by
  intro k hk
  rw [stopKnobs] at hk
  cases hk

theorem bounds_u8 {z : Int} (h : (Lit.int .u8 z).wf = true) : 0 ≤ z ∧ z ≤ 255 := by
  simpa [Lit.wf, IntKind.min, IntKind.max, IntKind.signed, IntKind.bits] using h
theorem bounds_u64 {z : Int} (h : (Lit.int .u64 z).wf = true) : 0 ≤ z ∧ z ≤ 18446744073709551615 := by
  simpa [Lit.wf, IntKind.min, IntKind.max, IntKind.signed, IntKind.bits] using h

section
variable {H : Type} {enc : TypeId × Value → H}

theorem open_u8 {W : World} {a : Option Addr} {len cap : Nat} {d : DataW H} {p : List MemPlace}
    (h : DataW.Trod enc Ybaf.prog W 0 (fun _ => true) true 22 (.slice a len cap) d p) : ∃ g o l, U8At W a len cap g o l := by
  obtain ⟨fuel, hf⟩ := h
  rcases open_ints Ybaf.underlying22 Ybaf.underlying5 (by kernel_rfl) hf with ⟨hcs, _⟩ | ⟨x, l, c, zs, hcs, _, hl, hm, hz, _, hcell, hwz⟩
  · simp [Value.cells] at hcs
    obtain ⟨rfl, rfl, rfl⟩ := hcs
    exact ⟨0, 0, [], rfl, Nat.le_refl _, by unfold maxLen; omega, fun h => by omega, fun j hj => by simp at hj, fun h => by omega⟩
  · simp [Value.cells] at hcs
    obtain ⟨rfl, rfl, rfl⟩ := hcs
    simp only [if_true] at hz
    have hb : ∀ i (hi : i < zs.length), 0 ≤ zs[i] ∧ zs[i] ≤ 255 := fun i hi => bounds_u8 (hwz _ (List.getElem_mem hi))
    by_cases h0 : 0 < len
    · obtain ⟨b, off, rfl, hc⟩ := ints_at hcell (by omega)
      refine ⟨b, off, (zs.take len).map fun z => z.toNat.toUInt8, by simp; omega, hl, hm, fun _ => rfl, ?_, fun _ => World.block_lt_of_cell? _ _ (hc 0 (by omega))⟩
      intro j hj
      have hj' : j < zs.length := by simp at hj; omega
      rw [hc j hj']
      have h1 := hb j hj'
      have e : zs.getD j 0 = zs[j] := by simp [List.getD, hj']
      rw [e]
      have e2 : (((zs.take len).map fun (z : Int) => z.toNat.toUInt8)[j]).toNat = zs[j].toNat := by
        simp only [List.getElem_map, List.getElem_take, UInt8.toNat_ofNat']
        exact Nat.mod_eq_of_lt (by omega)
      rw [e2]
      have e3 : ((zs[j].toNat : Nat) : Int) = zs[j] := by omega
      rw [e3]
    · obtain rfl : len = 0 := by omega
      exact ⟨0, 0, [], rfl, hl, hm, fun h => by omega, fun j hj => by simp at hj, fun h => by omega⟩

theorem open_u64 {W : World} {a : Option Addr} {len cap : Nat} {d : DataW H} {p : List MemPlace}
    (h : DataW.Trod enc Ybaf.prog W 0 (fun _ => true) true 23 (.slice a len cap) d p) : len ≤ maxLen ∧ ∃ ds, U64At W a len ds ∧ ∀ x ∈ ds, x < 18446744073709551616 := by
  obtain ⟨fuel, hf⟩ := h
  rcases open_ints Ybaf.underlying23 Ybaf.underlying25 (by kernel_rfl) hf with ⟨hcs, _⟩ | ⟨x, l, c, zs, hcs, _, hl, hm, hz, _, hcell, hwz⟩
  · simp [Value.cells] at hcs
    obtain ⟨rfl, rfl, rfl⟩ := hcs
    exact ⟨by unfold maxLen; omega, [], ⟨rfl, fun _ => rfl, fun ad h => by cases h⟩, fun x hx => by cases hx⟩
  · simp [Value.cells] at hcs
    obtain ⟨rfl, rfl, rfl⟩ := hcs
    simp only [if_true] at hz
    have hb : ∀ i (hi : i < zs.length), 0 ≤ zs[i] ∧ zs[i] ≤ 18446744073709551615 := fun i hi => bounds_u64 (hwz _ (List.getElem_mem hi))
    refine ⟨by omega, (zs.take len).map Int.toNat, ⟨by simp; omega, (fun h => by cases h), ?_⟩, ?_⟩
    · intro ad hxa j u hu
      cases hxa
      have hj : j < zs.length ∧ j < len := by
        by_cases hx : j < zs.length ∧ j < len
        · exact hx
        · rw [List.getElem?_eq_none (by simp [u64s]; omega)] at hu; cases hu
      have h1 := hb j hj.1
      rw [hcell j hj.1]
      have e : zs.getD j 0 = zs[j] := by simp [List.getD, hj.1]
      rw [e]
      have e2 : (u64s ((zs.take len).map Int.toNat))[j]? = some (.int .u64 ((zs[j].toNat : Nat) : Int)) := by
        simp [u64s, hj.1, hj.2]
      rw [e2] at hu
      have e3 : ((zs[j].toNat : Nat) : Int) = zs[j] := by omega
      rw [← hu, e3]
    · intro y hy
      obtain ⟨z, hz', rfl⟩ := List.mem_map.1 hy
      have := bounds_u64 (hwz z (List.mem_of_mem_take hz'))
      omega
end
end Go.Proofs.YbulkbbqaFmt
