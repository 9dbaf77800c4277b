/- LawS2641ASequence (4): the walk. -/
import Derived.Test.YbulkbbrcDoorNew
import Derived.Conc.LoneSelectN
import Derived.LaidEql
import Derived.Deep.QuietTactic
import Derived.ProofKit
import Derived.BigQuiet
namespace Go.Proofs.YbulkbbrcDoor
open Go.RowKit Go.MuLone Go.Conc
set_option linter.unusedVariables false
set_option linter.unusedSimpArgs false

/-- A []bool that came in. -/
structure BoolsAt (w : World) (a : Option Addr) (n : Nat) (bs : List Bool) : Prop where
  len : bs.length = n
  cell : 0 < n → ∃ g o, a = some ⟨g, o, none⟩ ∧ g < w.heap.size ∧ ∀ j (hj : j < bs.length), w.cell? ⟨g, o + j, none⟩ = some (.bool bs[j])

def ptrs (ks : List Addr) : List Value := ks.map fun a => Value.pointer (some a)
theorem ptrs_snoc (ks : List Addr) (a : Addr) : ptrs (ks ++ [a]) = ptrs ks ++ [.pointer (some a)] := by simp [ptrs]

/-- p's queue uv holds us, acc holds ks, in rows of their own. -/
structure St (w : World) (us ks : List Addr) (uv acc : Value) (wr : World) : Prop where
  pipe : Pipe wr (w.heap.size + 3) (w.heap.size + 2) (w.heap.size + 1) 0 us.length uv (decide (0 < us.length))
  ownU : wr.ownsRow (w.heap.size + 4) 51 1 uv us.length (ptrs us)
  ownA : wr.ownsRow (w.heap.size + 4) 51 1 acc ks.length (ptrs ks)
  dis : ∀ g, uv.ownBlock = some g → acc.ownBlock ≠ some g
  bel : Below w.heap.size w wr
  siz : w.heap.size + 4 ≤ wr.heap.size

theorem St.alloc {w wr : World} {us ks : List Addr} {uv acc : Value} (h : St w us ks uv acc wr) (o : Obj) : St w us ks uv acc (wr.alloc o) :=
  ⟨h.pipe.stay (Stay.alloc (S := fun _ => False) wr o) id id id, h.ownU.alloc o, h.ownA.alloc o, h.dis, h.bel.alloc (by have := h.siz; omega) o, by have := h.siz; simp; omega⟩

/-- One more call, accepted. -/
theorem St.takes {w wr : World} {ks : List Addr} {uv acc : Value} (h : St w ks ks uv acc wr) (hk : ks.length ≤ 1024) (b : Bool) (hb : b = true → ks.length = 0) (cs : Array Value) (h8 : cs[8]? = some (.bool b)) :
    Calls Ybad.prog 7 #[.pointer (some ⟨w.heap.size + 3, 0, none⟩), .pointer (some ⟨wr.heap.size, 0, none⟩)] (wr.alloc (.cells cs 56)) fun e w' => e = .returned .nilIface ∧ ∃ uv', St w (ks ++ [⟨wr.heap.size, 0, none⟩]) ks uv' acc w' := by
  have h' := h.alloc (.cells cs 56)
  have hz := h.siz
  obtain ⟨ua, c, rfl⟩ := own_slice h.ownU
  have hc : (wr.alloc (.cells cs 56)).cell? ⟨wr.heap.size, 8, none⟩ = some (.bool b) := by
    have hn := heap_alloc_new wr (.cells cs 56)
    simp only [World.cell?, hn]
    simpa using h8
  have hA := own_from h.ownA
  have hU := own_from h.ownU
  refine (enq_accepted (w.heap.size + 4) (w.heap.size + 3) (w.heap.size + 2) (w.heap.size + 1) wr.heap.size ks.length c ua (ptrs ks) b (wr.alloc (.cells cs 56)) h'.pipe (by omega) (by omega) (by omega) (by omega) (by omega) (by omega) h'.siz hk h'.ownU hb hc (by omega)).mono ?_
  rintro e w' ⟨rfl, uv', hp, ho, hs, hn⟩
  have hT : ∀ k, Turns (w.heap.size + 3) (w.heap.size + 2) (.slice ua ks.length c) k → w.heap.size ≤ k := by
    rintro k (h | h | h)
    · omega
    · omega
    · have := hU k h; omega
  have hsz : wr.heap.size + 1 ≤ w'.heap.size := by have := hs.size; simpa using this
  refine ⟨rfl, uv', ⟨?_, ?_, own_kept h'.ownA (fun k hk => hs.block k (by have := hA k hk; simp; omega) ?_), ?_, h'.bel.trans (hs.below (by simp; omega) hT), by omega⟩⟩
  · have e1 : (ks ++ [(⟨wr.heap.size, 0, none⟩ : Addr)]).length = ks.length + 1 := by simp
    rw [e1, show decide (0 < ks.length + 1) = true by simp]
    exact hp
  · have e1 : (ks ++ [(⟨wr.heap.size, 0, none⟩ : Addr)]).length = ks.length + 1 := by simp
    rw [e1, ptrs_snoc]; exact ho
  · rintro (h0 | h0 | h0)
    · have := hA k hk; omega
    · have := hA k hk; omega
    · exact h.dis k h0 hk
  · intro g hg ha
    rcases hn g hg with h0 | h0
    · exact h.dis g h0 ha
    · have := hA g ha; simp at h0; omega

/-- A probe while something is queued: refused; nothing has turned. -/
theorem St.refuses {w wr : World} {ks : List Addr} {uv acc : Value} (h : St w ks ks uv acc wr) (hk : 0 < ks.length) (cs : Array Value) (h8 : cs[8]? = some (.bool true)) (t : TypeId) (u : Value) (hg : w.cell? ⟨1, 0, none⟩ = some (.iface t u)) (h1 : 1 < w.heap.size) :
    Calls Ybad.prog 7 #[.pointer (some ⟨w.heap.size + 3, 0, none⟩), .pointer (some ⟨wr.heap.size, 0, none⟩)] (wr.alloc (.cells cs 56)) fun e w' => e = .returned (.iface t u) ∧ St w ks ks uv acc w' := by
  have h' := h.alloc (.cells cs 56)
  have hz := h.siz
  obtain ⟨ua, c, rfl⟩ := own_slice h.ownU
  have hc : (wr.alloc (.cells cs 56)).cell? ⟨wr.heap.size, 8, none⟩ = some (.bool true) := by
    have hn := heap_alloc_new wr (.cells cs 56)
    simp only [World.cell?, hn]
    simpa using h8
  have hA := own_from h.ownA
  have hU := own_from h.ownU
  refine (enq_refused (w.heap.size + 3) (w.heap.size + 2) (w.heap.size + 1) wr.heap.size ks.length c _ ua _ (.iface t u) (wr.alloc (.cells cs 56)) h'.pipe (by omega) (by omega) (by omega) hk hc (by omega) (by rw [h'.bel.cell (by exact h1)]; exact hg) (by omega) t u rfl).mono ?_
  rintro e w' ⟨rfl, hp, hs⟩
  have hsz : wr.heap.size + 1 ≤ w'.heap.size := by have := hs.size; simpa using this
  exact ⟨rfl, hp, own_kept h'.ownU (fun k hk => hs.block k (by have := hU k hk; simp; omega) (fun e => by have := hU k hk; omega)), own_kept h'.ownA (fun k hk => hs.block k (by have := hA k hk; simp; omega) (fun e => by have := hA k hk; omega)), h.dis, h'.bel.trans (hs.below (by simp; omega) (fun k e => by omega)), by omega⟩

/-- acc = append(acc, c). -/
theorem St.appended {w w2 w3 : World} {ks : List Addr} {kb : Addr} {uv acc : Value} {g c : Nat} (h : St w (ks ++ [kb]) ks uv acc w2) (o : Obj) (hown : w3.ownsRow (w.heap.size + 4) 51 1 (.slice (some ⟨g, 0, none⟩) (ks.length + 1) c) (ks.length + 1) (ptrs ks ++ [.pointer (some kb)]))
    (hgrow : (w2.alloc o).grownBy w3 acc.ownBlock) (hat : acc.ownBlock = some g ∨ g = w2.heap.size + 1) : St w (ks ++ [kb]) (ks ++ [kb]) uv (.slice (some ⟨g, 0, none⟩) (ks.length + 1) c) w3 := by
  have h' := h.alloc o
  have hA := own_from h.ownA
  have hU := own_from h.ownU
  have hz := h.siz
  have e1 : (ks ++ [kb]).length = ks.length + 1 := by simp
  have hs : Stay (fun k => acc.ownBlock = some k) (w2.alloc o) w3 := Stay.grown hgrow (fun k hk => hk)
  have hsz : w2.heap.size + 1 ≤ w3.heap.size := by have := hs.size; simpa using this
  refine ⟨h'.pipe.stay hs (fun e => by have := hA _ e; omega) (fun e => by have := hA _ e; omega) (fun e => by have := hA _ e; omega), own_kept h'.ownU (fun k hk => hs.block k (by have := hU k hk; simp; omega) (h.dis k hk)), by rw [e1, ptrs_snoc]; exact hown, ?_, h'.bel.trans (hs.below (by simp; omega) (fun k e => by have := hA k e; omega)), by omega⟩
  intro k hk ha
  simp [Value.ownBlock] at ha
  subst ha
  rcases hat with h0 | h0
  · exact h.dis _ hk h0
  · have := hU _ hk; omega

theorem neq62 (q : Addr) (w : World) : (binOp .neq 23 (.iface 62 (.pointer (some q))) (.iface 62 (.pointer (some q)))).run Ybad.prog w = .ok (.bool false) w := by
  have hc : (Ybad.prog.info? 62).map (fun i => i.comparable) = some true := by kernel_rfl
  obtain ⟨i, hi, hi'⟩ := Option.map_eq_some_iff.1 hc
  have hj : (Ybad.prog.info? 64).isSome = true := by kernel_rfl
  obtain ⟨j, hj'⟩ := Option.isSome_iff_exists.1 hj
  have h := run_equalIn_iface_ptr_same (P := Ybad.prog) w 9998 q Ybad.underlying23 Ybad.underlying62 hi hi' hj'
  simp only [binOp]
  simp [Op.equal, Op.maxDepth, h]

theorem neq51 (q : Addr) (w : World) : (binOp .neq 51 (.pointer (some q)) (.pointer (some q))).run Ybad.prog w = .ok (.bool false) w := by
  have hj : (Ybad.prog.info? 56).isSome = true := by kernel_rfl
  obtain ⟨j, hj'⟩ := Option.isSome_iff_exists.1 hj
  have h : ∀ d : Nat, (Op.equalIn (d + 1) 51 (.pointer (some q)) (.pointer (some q))).run Ybad.prog w = .ok true w := fun d => by
    simp [Op.equalIn, run_underlying Ybad.underlying51, typeInfo, sizeOf, run_sameAddr_same, hj']
  simp only [binOp]
  simp [Op.equal, Op.maxDepth, h 9999]

/-- The cells of a row of calls. -/
theorem own_ptrs {w : World} {B n c : Nat} {a : Option Addr} {ks : List Addr} (h : w.ownsRow B 51 1 (.slice a n c) n (ptrs ks)) (hn : ks.length = n) : 0 < n → ∃ g, a = some ⟨g, 0, none⟩ ∧ ∀ j (hj : j < ks.length), w.cell? ⟨g, j, none⟩ = some (.pointer (some ks[j])) := by
  intro h0
  rcases h.2 with ⟨_, h1⟩ | ⟨g, cap, cur, hv, _⟩
  · omega
  · simp only [Value.slice.injEq] at hv
    obtain ⟨rfl, _, rfl⟩ := hv
    exact ⟨g, rfl, fun j hj => by rw [h.cellAt j (by omega)]; simp [ptrs, hj]⟩

theorem below_draw {B : Nat} {w w' : World} (h : Below B w w') (n : Nat) : Below B w (w'.drewN n) := h.trans ⟨rfl, rfl, rfl, Nat.le_refl _, fun _ _ => rfl⟩

/-- The first loop's relation. -/
def SL (w : World) (n : Nat) (acc i : Value) (wr : World) : Prop :=
  ∃ (k : Nat) (ks : List Addr) (uv : Value), k ≤ n ∧ ks.length ≤ k ∧ i = .int .i64 k ∧ St w ks ks uv acc wr

set_option maxRecDepth 100000 in
set_option maxHeartbeats 1000000 in
theorem law_walk (a0 : Option Addr) (n c0 : Nat) (bs : List Bool) (w : World) (hb : BoolsAt w a0 n bs) (hn : n ≤ maxLen) (p : Addr) (hg : w.cell? ⟨1, 0, none⟩ = some (.iface 62 (.pointer (some p)))) (h1 : 1 < w.heap.size) :
    Calls Ybad.prog 4 #[.slice a0 n c0] w fun e w' => e = .returned (.bool true) ∧ Below w.heap.size w w' := by
  unfold maxLen at hn
  by_cases hbig : 1024 < n
  · have hbig' : (1024 : Int) < (n : Int) := by omega
    clear hb hg
    go_enter Ybad.func4, Ybad.ntmps4
    go_wp2
    go_ret
    exact ⟨rfl, Below.refl _ _⟩
  have hbig' : ¬ (1024 : Int) < (n : Int) := by omega
  have HB : Hid (BoolsAt w a0 n bs) := hb
  have HG : Hid (w.cell? ⟨1, 0, none⟩ = some (.iface 62 (.pointer (some p)))) := hg
  have HN : Hid (Calls Ybad.prog 6 #[.bool false, .int .i64 0] w fun e w' => e = .returned (.pointer (some ⟨w.heap.size + 3, 0, none⟩)) ∧ Pipe w' (w.heap.size + 3) (w.heap.size + 2) (w.heap.size + 1) 0 0 (.slice none 0 0) false ∧ Below w.heap.size w w' ∧ w'.heap.size = w.heap.size + 4) := anew_any w
  clear hb hg
  go_enter Ybad.func4, Ybad.ntmps4
  go_wp2_with fail
  refine (HN.out).mono ?_
  rintro e w1 ⟨rfl, hP1, hB1, hs1⟩
  have HP1 : Hid (Pipe w1 (w.heap.size + 3) (w.heap.size + 2) (w.heap.size + 1) 0 0 (.slice none 0 0) false) := hP1
  have HB1 : Hid (Below w.heap.size w w1) := hB1
  have HS1 : Hid (w1.heap.size = w.heap.size + 4) := hs1
  clear hP1 hB1 hs1 HN
  go_wp2
  go_loopw [4, 5] (fun acc i wr => SL w n acc i wr) (fun acc i _ => n - (intOf i).toNat)
  case atStart => exact ⟨0, [], .slice none 0 0, Nat.zero_le _, Nat.le_refl _, rfl, HP1.out, World.ownsRow_nil _ _ _ _, World.ownsRow_nil _ _ _ _, (fun g h => by simp [Value.ownBlock] at h), HB1.out, by rw [HS1.out]; exact Nat.le_refl _⟩
  case round =>
    obtain ⟨k, ks, uv, hk, hks, rfl, hst⟩ := hrel
    have HST : Hid (St w ks ks uv u4 wr) := hst
    clear hst
    obtain ⟨i0, hi, hz⟩ := Option.map_eq_some_iff.1 info51
    simp only [Prod.mk.injEq] at hz
    obtain ⟨hz0, hz1, hz2⟩ := hz
    obtain ⟨aa, ca, rfl⟩ := own_slice HST.out.ownA
    by_cases hkn : k < n
    · obtain ⟨g0, o0, rfl, hg0, hc0⟩ := HB.out.cell (by omega)
      have hlb := HB.out.len
      obtain ⟨b, hbk⟩ : ∃ b, bs[k]'(by omega) = b := ⟨_, rfl⟩
      have f0 : ∀ w', Below w.heap.size w w' → w'.cell? ⟨g0, o0 + k, none⟩ = some (.bool b) := fun w' hb' => by rw [hb'.cell (by exact hg0), ← hbk]; exact hc0 k (by omega)
      have f1 : wr.cell? ⟨g0, o0 + k, none⟩ = some (.bool b) := f0 wr HST.out.bel
      have HF0 : Hid (∀ w', Below w.heap.size w w' → w'.cell? ⟨g0, o0 + k, none⟩ = some (.bool b)) := f0
      have i1 : (k : Int) < (n : Int) := by omega
      clear hc0 f0 hbk
      cases b with
      | false =>
        have HTK : Hid (∀ cs : Array Value, cs[8]? = some (.bool false) → Calls Ybad.prog 7 #[.pointer (some ⟨w.heap.size + 3, 0, none⟩), .pointer (some ⟨wr.heap.size, 0, none⟩)] (wr.alloc (.cells cs 56)) fun e w' => e = .returned .nilIface ∧ ∃ uv', St w (ks ++ [⟨wr.heap.size, 0, none⟩]) ks uv' (.slice aa ks.length ca) w') :=
          fun cs h8 => HST.out.takes (by first | omega | (simp <;> omega)) false (fun hb => by simp at hb ⊢) cs h8
        go_wp2_with fail
        refine (HTK.out _ rfl).mono ?_
        rintro e w2 ⟨rfl, uv', hst2⟩
        have HST2 : Hid (St w (ks ++ [⟨wr.heap.size, 0, none⟩]) ks uv' (.slice aa ks.length ca) w2) := hst2
        have f2 : w2.cell? ⟨g0, o0 + k, none⟩ = some (.bool false) := HF0.out w2 hst2.bel
        have hsz2 := hst2.siz
        clear hst2 HTK
        go_wp2_with (at_builtin; refine wpList_append_lies _ rfl _ _ 42 rfl (w.heap.size + 4) 51 i0 (.pointer none) 1 8 Ybad.underlying42 hi hz0 hz1 hz2 rfl (by decide) _ ks.length (ptrs ks) rfl (HST2.out.ownA.alloc _) ⟨w2.heap.size, 0, none⟩ 1 1 [.pointer (some ⟨wr.heap.size, 0, none⟩)] rfl rfl ?c1 ?c2 (by decide) ?c3 ?c4 ?c5 _ rfl ?_)
        case c1 => exact cell_one_new _ _ _
        case c2 => intro u hu; simp at hu; subst hu; rfl
        case c3 => unfold maxLen; first | omega | (simp <;> omega)
        case c4 => first | omega | (simp <;> omega)
        case c5 => simp; omega
        intro g' c' w3 hown' hgrow hat hlt
        have HST3 : Hid (St w (ks ++ [⟨wr.heap.size, 0, none⟩]) (ks ++ [⟨wr.heap.size, 0, none⟩]) uv' (.slice (some ⟨g', 0, none⟩) (ks.length + 1) c') w3) := HST2.out.appended _ hown' hgrow hat
        clear hown' hgrow hat hlt HST2 f2
        go_wp2
        go_roundw
        case rel => exact ⟨k + 1, ks ++ [⟨wr.heap.size, 0, none⟩], uv', by omega, by (first | omega | (simp <;> omega)), by go_num, HST3.out⟩
        case measure => simp [intOf]; omega
      | true =>
        by_cases hkl : ks.length = 0
        · obtain rfl : ks = [] := List.eq_nil_of_length_eq_zero hkl
          clear hkl
          have HTK : Hid (∀ cs : Array Value, cs[8]? = some (.bool true) → Calls Ybad.prog 7 #[.pointer (some ⟨w.heap.size + 3, 0, none⟩), .pointer (some ⟨wr.heap.size, 0, none⟩)] (wr.alloc (.cells cs 56)) fun e w' => e = .returned .nilIface ∧ ∃ uv', St w (([] : List Addr) ++ [⟨wr.heap.size, 0, none⟩]) ([] : List Addr) uv' (.slice aa 0 ca) w') :=
            fun cs h8 => HST.out.takes (by first | omega | (simp <;> omega)) true (fun hb => by simp at hb ⊢) cs h8
          go_wp2_with fail
          refine (HTK.out _ rfl).mono ?_
          rintro e w2 ⟨rfl, uv', hst2⟩
          have HST2 : Hid (St w (([] : List Addr) ++ [⟨wr.heap.size, 0, none⟩]) ([] : List Addr) uv' (.slice aa 0 ca) w2) := hst2
          have f2 : w2.cell? ⟨g0, o0 + k, none⟩ = some (.bool true) := HF0.out w2 hst2.bel
          have hsz2 := hst2.siz
          clear hst2 HTK
          go_wp2_with (at_builtin; refine wpList_append_lies _ rfl _ _ 42 rfl (w.heap.size + 4) 51 i0 (.pointer none) 1 8 Ybad.underlying42 hi hz0 hz1 hz2 rfl (by decide) _ 0 (ptrs ([] : List Addr)) rfl (HST2.out.ownA.alloc _) ⟨w2.heap.size, 0, none⟩ 1 1 [.pointer (some ⟨wr.heap.size, 0, none⟩)] rfl rfl ?c1 ?c2 (by decide) ?c3 ?c4 ?c5 _ rfl ?_)
          case c1 => exact cell_one_new _ _ _
          case c2 => intro u hu; simp at hu; subst hu; rfl
          case c3 => unfold maxLen; first | omega | (simp <;> omega)
          case c4 => first | omega | (simp <;> omega)
          case c5 => simp; omega
          intro g' c' w3 hown' hgrow hat hlt
          have HST3 : Hid (St w (([] : List Addr) ++ [⟨wr.heap.size, 0, none⟩]) (([] : List Addr) ++ [⟨wr.heap.size, 0, none⟩]) uv' (.slice (some ⟨g', 0, none⟩) (0 + 1) c') w3) := HST2.out.appended _ hown' hgrow hat
          clear hown' hgrow hat hlt HST2 f2
          go_wp2
          go_roundw
          case rel => exact ⟨k + 1, ([] : List Addr) ++ [⟨wr.heap.size, 0, none⟩], uv', by omega, by (first | omega | (simp <;> omega)), by go_num, HST3.out⟩
          case measure => simp [intOf]; omega
        · have hkl' : ¬ (ks.length : Int) = 0 := by omega
          have HRE : Hid (∀ cs : Array Value, cs[8]? = some (.bool true) → Calls Ybad.prog 7 #[.pointer (some ⟨w.heap.size + 3, 0, none⟩), .pointer (some ⟨wr.heap.size, 0, none⟩)] (wr.alloc (.cells cs 56)) fun e w' => e = .returned (.iface 62 (.pointer (some p))) ∧ St w ks ks uv (.slice aa ks.length ca) w') :=
            fun cs h8 => HST.out.refuses (by omega) cs h8 62 (.pointer (some p)) HG.out h1
          go_wp2_with fail
          refine (HRE.out _ rfl).mono ?_
          rintro e w2 ⟨rfl, hst2⟩
          have HST2 : Hid (St w ks ks uv (.slice aa ks.length ca) w2) := hst2
          have f2 : w2.cell? ⟨g0, o0 + k, none⟩ = some (.bool true) := HF0.out w2 hst2.bel
          have g2 : w2.cell? ⟨1, 0, none⟩ = some (.iface 62 (.pointer (some p))) := by rw [hst2.bel.cell (by exact h1)]; exact HG.out
          clear hst2 HRE
          have hneq := neq62 p
          go_wp2
          go_roundw
          case rel => exact ⟨k + 1, ks, uv, by omega, by omega, by go_num, HST2.out⟩
          case measure => simp [intOf]; omega
    · obtain rfl : k = n := by omega
      obtain ⟨wC, rfl⟩ : ∃ w0, w0 = wr := ⟨_, rfl⟩
      obtain ⟨ub, cu, rfl⟩ := own_slice HST.out.ownU
      have d6 : wC.cell? ⟨w.heap.size + 3, 6, none⟩ = some (.slice ub ks.length cu) := by rw [HST.out.pipe.cell]; rfl
      have d3 : wC.cell? ⟨w.heap.size + 3, 3, none⟩ = some (.chan (some (w.heap.size + 2))) := by rw [HST.out.pipe.cell]; rfl
      have d2 : wC.cell? ⟨w.heap.size + 3, 2, none⟩ = some (.int .i64 ks.length) := by rw [HST.out.pipe.cell]; rfl
      have HU : Hid (0 < ks.length → ∃ g, ub = some ⟨g, 0, none⟩ ∧ ∀ j (hj : j < ks.length), wC.cell? ⟨g, j, none⟩ = some (.pointer (some ks[j]))) := own_ptrs HST.out.ownU rfl
      have HA : Hid (0 < ks.length → ∃ g, aa = some ⟨g, 0, none⟩ ∧ ∀ j (hj : j < ks.length), wC.cell? ⟨g, j, none⟩ = some (.pointer (some ks[j]))) := own_ptrs HST.out.ownA rfl
      have HLD : Hid (∀ q, Calls Ybad.prog 8 #[.pointer (some ⟨w.heap.size + 3, 2, none⟩)] (wC.drewN q) fun e w' => e = .returned (.int .i64 ks.length) ∧ w' = wC.drewN q) := fun q => load_any (w.heap.size + 3) 2 ks.length (wC.drewN q) d2
      have HCH : Hid (∀ q, (wC.drewN q).heap[w.heap.size + 2]? = some (kicked (decide (0 < ks.length)))) := fun q => HST.out.pipe.c
      go_wp2
      go_loopw [9] (fun i wr => ∃ j q : Nat, j ≤ ks.length ∧ i = .int .i64 j ∧ wr = wC.drewN q) (fun i _ => ks.length - (intOf i).toNat)
      case atStart => exact ⟨0, 0, Nat.zero_le _, rfl, rfl⟩
      case round =>
        obtain ⟨j, q, hj, rfl, rfl⟩ := hrel
        by_cases hjl : j < ks.length
        · obtain ⟨gu, rfl, hcu⟩ := HU.out (by omega)
          obtain ⟨ga, rfl, hca⟩ := HA.out (by omega)
          have f1 := hcu j hjl
          have f2 := hca j hjl
          obtain ⟨X, hX⟩ : ∃ X : Addr, ks[j] = X := ⟨_, rfl⟩
          rw [hX] at f1 f2
          have i1 : (j : Int) < (ks.length : Int) := by omega
          clear hcu hca hX
          have hneq := neq51 X
          go_wp2
          go_quiet (fail)
          go_wp2
          go_roundw
          case rel => exact ⟨j + 1, q + nq, by omega, by go_num, by simp⟩
          case measure => simp [intOf]; omega
        · have hje : j = ks.length := by omega
          subst hje
          clear d2 d6
          go_wp2_with fail
          refine (HLD.out q).mono ?_
          rintro e w' ⟨rfl, rfl⟩
          by_cases hk0 : ks.length = 0
          · have hch := HCH.out q
            rw [hk0] at hch
            have hlc := fun ty => run_len_chan (P := Ybad.prog) 35 ty Ybad.underlying35 (show (wC.drewN q).heap[w.heap.size + 2]? = some (.chan 1 #[] false 0 0 false) from hch)
            clear hch
            go_wp2
            go_ret
            exact ⟨by simp [hk0], below_draw HST.out.bel _⟩
          · have hch := HCH.out q
            rw [show decide (0 < ks.length) = true by simp; omega] at hch
            have hlc := fun ty => run_len_chan (P := Ybad.prog) 35 ty Ybad.underlying35 (show (wC.drewN q).heap[w.heap.size + 2]? = some (.chan 1 #[.agg #[]] false 1 0 false) from hch)
            have hk1 : (0 : Int) < (ks.length : Int) := by omega
            clear hch
            go_wp2
            go_ret
            exact ⟨by simp [hk1]; omega, below_draw HST.out.bel _⟩
#print axioms law_walk
end Go.Proofs.YbulkbbrcDoor
