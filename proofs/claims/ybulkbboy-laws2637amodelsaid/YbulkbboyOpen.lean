/- 'rs []ZzS2637ARun', OPENED: from its reading as data to 'InAt' (YbulkbboyIn). -/
import Derived.Test.YbulkbboyIn
import Derived.OpenShut
import Derived.Deep.SlicePairs
import Derived.Deep.Strs
namespace Go.Proofs.Ybulkbboy
open Go.ChangeShapes Go.WideShapes Go.ChangeAt Go.RowKit Go.Deep
set_option linter.unusedVariables false
set_option linter.unusedSimpArgs false

theorem Yba.cells2 : Yba.prog.cellsOf 2 = 1 := by kernel_rfl
theorem Yba.cells4 : Yba.prog.cellsOf 4 = 1 := by kernel_rfl
theorem Yba.cells9 : Yba.prog.cellsOf 9 = 1 := by kernel_rfl
theorem Yba.cells23 : Yba.prog.cellsOf 23 = 2 := by kernel_rfl
theorem Yba.cells34 : Yba.prog.cellsOf 34 = 1 := by kernel_rfl
theorem Yba.cells35 : Yba.prog.cellsOf 35 = 1 := by kernel_rfl
theorem Yba.cells36 : Yba.prog.cellsOf 36 = 1 := by kernel_rfl
theorem Yba.cells38 : Yba.prog.cellsOf 38 = 7 := by kernel_rfl

section
variable {H : Type} {enc : TypeId × Value → H} {w : World}

/-- A []ZzS2637AHit. -/
theorem open_hits {fuel : Nat} {cs : List Value} {x : DataW H × List MemPlace} (h : DataW.trod enc Yba.prog w 0 (fun _ => true) true fuel 34 cs = some x) :
    ∃ (a : Option Addr) (len cap : Nat) (id : Nat → ByteArray) (key : Nat → Int), cs = [.slice a len cap] ∧ len ≤ maxLen ∧
      (0 < len → ∃ hb ho, a = some ⟨hb, ho, none⟩ ∧ ∀ j, j < len → w.cell? ⟨hb, ho + j * 2, none⟩ = some (.string (id j)) ∧ w.cell? ⟨hb, ho + j * 2 + 1, none⟩ = some (.int .i64 (key j))) := by
  rcases open_slice_pairs Yba.underlying34 Yba.underlying23 Yba.cells23 rfl rfl Yba.cells9 Yba.cells2 h with ⟨rfl, _⟩ | ⟨a, len, cap, m, n, V0, V1, D0, D1, P0, P1, rfl, _, hl, hm, hmm, _, hx⟩
  · exact ⟨none, 0, 0, fun _ => ⟨#[]⟩, fun _ => 0, rfl, by unfold maxLen; omega, fun h => by omega⟩
  · simp only [if_true] at hmm
    subst hmm
    have e0 : ∀ j, j < len → ∃ s : ByteArray, V0 j = .string s := fun j hj => by
      obtain ⟨s, h1, _, _⟩ := DataW.trod_string Yba.underlying9 (hx j (by omega)).2.2.1
      exact ⟨s, by simpa using h1⟩
    have e1 : ∀ j, j < len → ∃ z : Int, V1 j = .int .i64 z := fun j hj => by
      obtain ⟨s, h1, _, _⟩ := DataW.trod_int Yba.underlying2 (hx j (by omega)).2.2.2
      exact ⟨s, by simpa using h1⟩
    obtain ⟨id, hid⟩ := choose_lt e0
    obtain ⟨key, hkey⟩ := choose_lt e1
    refine ⟨some a, len, m, id, key, rfl, by omega, fun h0 => ?_⟩
    obtain ⟨b, o, spot⟩ := a
    have hspot : spot = none := by simpa [Addr.add] using World.cell?_spot (hx 0 (by omega)).1
    subst hspot
    refine ⟨b, o, rfl, fun j hj => ?_⟩
    have h1 := (hx j (by omega)).1
    have h2 := (hx j (by omega)).2.1
    rw [add_plain, hid j hj] at h1
    rw [add_plain, hkey j hj] at h2
    exact ⟨h1, by rw [Nat.add_assoc]; exact h2⟩

/-- A []string. -/
theorem open_poss {fuel : Nat} {cs : List Value} {x : DataW H × List MemPlace} (h : DataW.trod enc Yba.prog w 0 (fun _ => true) true fuel 36 cs = some x) :
    ∃ (a : Option Addr) (len cap : Nat) (ps : Nat → ByteArray), cs = [.slice a len cap] ∧ len ≤ maxLen ∧
      (0 < len → ∃ hb ho, a = some ⟨hb, ho, none⟩ ∧ ∀ j, j < len → w.cell? ⟨hb, ho + j, none⟩ = some (.string (ps j))) := by
  rcases open_strs Yba.underlying36 Yba.underlying9 Yba.cells9 h with ⟨rfl, _⟩ | ⟨a, len, cap, m, Sx, rfl, _, hl, hm, hmm, _, hx⟩
  · exact ⟨none, 0, 0, fun _ => ⟨#[]⟩, rfl, by unfold maxLen; omega, fun h => by omega⟩
  · simp only [if_true] at hmm
    subst hmm
    refine ⟨some a, len, m, Sx, rfl, by omega, fun h0 => ?_⟩
    obtain ⟨b, o, spot⟩ := a
    have hspot : spot = none := by simpa [Addr.add] using World.cell?_spot (hx 0 (by omega)).1
    subst hspot
    refine ⟨b, o, rfl, fun j hj => ?_⟩
    have h1 := (hx j (by omega)).1
    rwa [add_plain] at h1

set_option maxRecDepth 100000 in
/-- One element. -/
theorem open_el {fuel b o : Nat} {cs : List Value} {x : DataW H × List MemPlace} (i : Nat) (h : DataW.trod enc Yba.prog w 0 (fun _ => true) true fuel 38 cs = some x) (hcell : ∀ j, j < 7 → w.cell? ⟨b, o + j, none⟩ = cs[j]?) :
    ∃ J : Inp, ElAt J w b o i := by
  obtain ⟨xs, k, _, _, hlen, hxl, hf⟩ := DataW.trod_struct Yba.underlying38 h
  rw [Yba.cells38] at hlen
  match xs, hxl, cs, hlen with
  | [y0, y1, y2, y3, y4, y5, y6], _, [v0, v1, v2, v3, v4, v5, v6], _ =>
    have g0 : DataW.trod enc Yba.prog w 0 (fun _ => true) true k 34 [v0] = some y0 := by have h : DataW.trod enc Yba.prog w 0 (fun _ => true) true k 34 (([v0, v1, v2, v3, v4, v5, v6].drop 0).take (Yba.prog.cellsOf 34)) = some y0 := hf 0 _ rfl; rw [Yba.cells34] at h; exact h
    have g1 : DataW.trod enc Yba.prog w 0 (fun _ => true) true k 35 [v1] = some y1 := by have h : DataW.trod enc Yba.prog w 0 (fun _ => true) true k 35 (([v0, v1, v2, v3, v4, v5, v6].drop 1).take (Yba.prog.cellsOf 35)) = some y1 := hf 1 _ rfl; rw [Yba.cells35] at h; exact h
    have g2 : DataW.trod enc Yba.prog w 0 (fun _ => true) true k 4 [v2] = some y2 := by have h : DataW.trod enc Yba.prog w 0 (fun _ => true) true k 4 (([v0, v1, v2, v3, v4, v5, v6].drop 2).take (Yba.prog.cellsOf 4)) = some y2 := hf 2 _ rfl; rw [Yba.cells4] at h; exact h
    have g3 : DataW.trod enc Yba.prog w 0 (fun _ => true) true k 9 [v3] = some y3 := by have h : DataW.trod enc Yba.prog w 0 (fun _ => true) true k 9 (([v0, v1, v2, v3, v4, v5, v6].drop 3).take (Yba.prog.cellsOf 9)) = some y3 := hf 3 _ rfl; rw [Yba.cells9] at h; exact h
    have g4 : DataW.trod enc Yba.prog w 0 (fun _ => true) true k 9 [v4] = some y4 := by have h : DataW.trod enc Yba.prog w 0 (fun _ => true) true k 9 (([v0, v1, v2, v3, v4, v5, v6].drop 4).take (Yba.prog.cellsOf 9)) = some y4 := hf 4 _ rfl; rw [Yba.cells9] at h; exact h
    have g5 : DataW.trod enc Yba.prog w 0 (fun _ => true) true k 4 [v5] = some y5 := by have h : DataW.trod enc Yba.prog w 0 (fun _ => true) true k 4 (([v0, v1, v2, v3, v4, v5, v6].drop 5).take (Yba.prog.cellsOf 4)) = some y5 := hf 5 _ rfl; rw [Yba.cells4] at h; exact h
    have g6 : DataW.trod enc Yba.prog w 0 (fun _ => true) true k 36 [v6] = some y6 := by have h : DataW.trod enc Yba.prog w 0 (fun _ => true) true k 36 (([v0, v1, v2, v3, v4, v5, v6].drop 6).take (Yba.prog.cellsOf 36)) = some y6 := hf 6 _ rfl; rw [Yba.cells36] at h; exact h
    obtain ⟨ha, hl, hc, id, key, e0, hlm, hits⟩ := open_hits g0
    obtain ⟨sk, e1, _, wsk⟩ := DataW.trod_int Yba.underlying35 g1
    obtain ⟨mo, e2, _⟩ := DataW.trod_bool Yba.underlying4 g2
    obtain ⟨po, e3, _, _⟩ := DataW.trod_string Yba.underlying9 g3
    obtain ⟨ne, e4, _, _⟩ := DataW.trod_string Yba.underlying9 g4
    obtain ⟨up, e5, _⟩ := DataW.trod_bool Yba.underlying4 g5
    obtain ⟨pa, pl, pc, ps, e6, plm, poss⟩ := open_poss g6
    simp at e0 e1 e2 e3 e4 e5 e6
    subst e0 e1 e2 e3 e4 e5 e6
    refine ⟨{ ha := fun _ => ha, hl := fun _ => hl, hc := fun _ => hc, sk := fun _ => sk, mo := fun _ => mo, po := fun _ => po, ne := fun _ => ne, up := fun _ => up, pa := fun _ => pa, pl := fun _ => pl, pc := fun _ => pc, id := fun _ => id, key := fun _ => key, ps := fun _ => ps }, ?_⟩
    exact ⟨hcell 0 (by decide), hcell 1 (by decide), hcell 2 (by decide), hcell 3 (by decide), hcell 4 (by decide), hcell 5 (by decide), hcell 6 (by decide), bounds_u16 wsk, hits, poss, hlm, plm⟩

theorem open_runs {fuel : Nat} {cs : List Value} {x : DataW H × List MemPlace} (h : DataW.trod enc Yba.prog w 0 (fun _ => true) true fuel 24 cs = some x) :
    ∃ (I : Inp) (a : Option Addr) (n c b off : Nat), cs = [.slice a n c] ∧ InAt I w a n c b off := by
  have inh : Inp := { ha := fun _ => none, hl := fun _ => 0, hc := fun _ => 0, sk := fun _ => 0, mo := fun _ => false, po := fun _ => ⟨#[]⟩, ne := fun _ => ⟨#[]⟩, up := fun _ => false, pa := fun _ => none, pl := fun _ => 0, pc := fun _ => 0, id := fun _ _ => ⟨#[]⟩, key := fun _ _ => 0, ps := fun _ _ => ⟨#[]⟩ }
  rcases open_slice Yba.underlying24 h with ⟨rfl, _⟩ | ⟨a, len, cap, m, n, D, Pl, rfl, _, hl, hm, hmm, _, hx⟩
  · exact ⟨inh, none, 0, 0, 0, 0, rfl, fun h => by omega, fun i hi => by omega, by unfold maxLen; omega⟩
  · simp only [if_true] at hmm
    subst hmm
    by_cases h0 : 0 < len
    · rw [Yba.cells38] at hx
      obtain ⟨b, o, spot⟩ := a
      have hspot : spot = none := by
        obtain ⟨cs', h1, _⟩ := hx 0 (by omega)
        obtain ⟨_, hlen, hcell⟩ := World.cells?_some h1
        have h2 := hcell 0 (by decide)
        rw [List.getElem?_eq_getElem (by omega)] at h2
        simpa [Addr.add] using World.cell?_spot h2
      subst hspot
      have each : ∀ i, i < len → ∃ J : Inp, ElAt J w b (o + i * 7) i := fun i hi => by
        obtain ⟨cs', h1, h2⟩ := hx i (by omega)
        obtain ⟨_, hlen, hcell⟩ := World.cells?_some h1
        refine open_el i h2 (fun j hj => ?_)
        have h3 := hcell j hj
        rw [add_plain, add_plain] at h3
        exact h3
      obtain ⟨J, hJ⟩ := @choose_lt Inp ⟨inh⟩ len _ each
      refine ⟨{ ha := fun i => (J i).ha i, hl := fun i => (J i).hl i, hc := fun i => (J i).hc i, sk := fun i => (J i).sk i, mo := fun i => (J i).mo i, po := fun i => (J i).po i, ne := fun i => (J i).ne i, up := fun i => (J i).up i, pa := fun i => (J i).pa i, pl := fun i => (J i).pl i, pc := fun i => (J i).pc i, id := fun i => (J i).id i, key := fun i => (J i).key i, ps := fun i => (J i).ps i }, some ⟨b, o, none⟩, len, m, b, o, rfl, fun _ => rfl, fun i hi => ?_, by omega⟩
      obtain ⟨c0, c1, c2, c3, c4, c5, c6, sk0, hits, poss, hlm, plm⟩ := hJ i hi
      exact ⟨c0, c1, c2, c3, c4, c5, c6, sk0, hits, poss, hlm, plm⟩
    · exact ⟨inh, some a, len, m, 0, 0, rfl, fun h => absurd h h0, fun i hi => by omega, by omega⟩
end
end Go.Proofs.Ybulkbboy
