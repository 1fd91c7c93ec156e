/- The proof of FnWithinMatchesSearchModelSaid: the kit's frame for this function, its walk filled. -/
import Derived.Test.Qxb6603958aRows
import Derived.Test.Qxb6603958aWiE
import Derived.Deep.Matrix
import Derived.WalkKit
import Derived.ProofKit
import Derived.OpenShut
import Derived.ShutString
import Derived.ChangeOld
import Derived.Below
namespace Go.Proofs.Qxb6603958a.fnWithinMatchesSearchModel
open Go.ChangeShapes Go.WideShapes Go.ChangeAt Go.RowKit
open Go.ChangeMaps (open_string shut_string)
set_option linter.unusedVariables false

theorem own : ownKnob Try.prog.godebug = none := by kernel_rfl
theorem laidOut : laidOutB Try.prog = true := by kernel_rfl

/-- What the walk is told of a slice of integers that came in. -/
def IsRow (w : World) (a : Option Addr) (len : Nat) (zs : List Int) : Prop :=
  zs.length = len ∧ len ≤ 9223372036854775807 ∧ Reads w a zs ∧ ∀ n ∈ zs, (Lit.int .i64 n).wf = true

/-- What the walk is told of a slice of such slices. -/
def IsRows (w : World) (a : Option Addr) (len : Nat) (ss : List (List Int)) : Prop :=
  ss.length = len ∧ len ≤ 9223372036854775807 ∧ within.RowsRead w a ss ∧ ∀ i, ∀ n ∈ ss.getD i [], (Lit.int .i64 n).wf = true

theorem reads_at {w : World} {x : Addr} {len cap : Nat} {zs : List Int} (hl : len ≤ cap) (hz : zs.length = cap) (hc : ∀ i, i < zs.length → w.cell? (x.add i) = some (.int .i64 (zs.getD i 0))) : Reads w (some x) (zs.take len) := by
  have hlen : (zs.take len).length = len := by simp; omega
  intro hp
  rw [hlen] at hp
  obtain ⟨b, off, rfl, hc2⟩ := ints_at hc (by omega)
  refine ⟨b, off, rfl, ?_, fun i hi => ?_⟩
  · have h0 := hc2 0 (by omega)
    by_cases hlt : b < w.heap.size
    · exact hlt
    · simp [World.cell?, Array.getElem?_eq_none (Nat.le_of_not_lt hlt)] at h0
  · rw [hlen] at hi
    rw [hc2 i (by omega)]
    simp [List.getD_eq_getElem?_getD, hi]

theorem isRow_nil (w : World) : IsRow w none 0 [] := ⟨rfl, by omega, fun h => absurd h (by simp), by simp⟩

theorem isRow_at {w : World} {x : Addr} {len cap : Nat} {zs : List Int} (hl : len ≤ cap) (hm : cap ≤ maxLen) (hz : zs.length = cap) (hc : ∀ i, i < zs.length → w.cell? (x.add i) = some (.int .i64 (zs.getD i 0))) (hw : ∀ n ∈ zs, (Lit.int .i64 n).wf = true) :
    IsRow w (some x) len (zs.take len) := by
  unfold maxLen at hm
  exact ⟨by simp; omega, by omega, reads_at hl hz hc, fun n hn => hw n (List.mem_of_mem_take hn)⟩

theorem isRows_nil (w : World) : IsRows w none 0 [] := ⟨rfl, by omega, fun h => absurd h (by simp), by simp⟩

theorem isRows_at {w : World} {x : Addr} {len cap : Nat} {A : Nat → Option Addr} {L C : Nat → Nat} {Z : Nat → List Int} (hl : len ≤ cap) (hm : cap ≤ maxLen)
    (h : ∀ r, r < cap → w.cell? (x.add r) = some (.slice (A r) (L r) (C r)) ∧ L r ≤ C r ∧ C r ≤ maxLen ∧ (Z r).length = C r ∧ (∀ n ∈ Z r, (Lit.int .i64 n).wf = true) ∧ (A r = none → C r = 0) ∧
        ∀ a', A r = some a' → 0 ≤ a'.block ∧ ∀ c, c < C r → w.cell? (a'.add c) = some (.int .i64 ((Z r).getD c 0))) :
    IsRows w (some x) len ((List.range len).map fun r => (Z r).take (L r)) := by
  have hg : ∀ i, i < len → ((List.range len).map fun r => (Z r).take (L r)).getD i [] = (Z i).take (L i) := by
    intro i hi
    simp [List.getD_eq_getElem?_getD, hi]
  refine ⟨by simp, by unfold maxLen at hm; omega, ?_, fun i n hn => ?_⟩
  · intro hp
    simp only [List.length_map, List.length_range] at hp
    obtain ⟨b, off, spot⟩ := x
    have hspot : spot = none := by simpa [Addr.add] using World.cell?_spot (h 0 (by omega)).1
    subst hspot
    refine ⟨b, off, rfl, ?_, fun i hi => ?_⟩
    · have h0 := (h 0 (by omega)).1
      by_cases hlt : b < w.heap.size
      · exact hlt
      · simp [World.cell?, Addr.add, Array.getElem?_eq_none (Nat.le_of_not_lt hlt)] at h0
    · simp only [List.length_map, List.length_range] at hi
      obtain ⟨h1, h2, h3, h4, h5, h6, h7⟩ := h i (by omega)
      rw [hg i hi]
      have hlen : ((Z i).take (L i)).length = L i := by simp; omega
      rw [hlen]
      refine ⟨A i, C i, by rw [← add_plain]; exact h1, ?_, by unfold maxLen at h3; omega⟩
      rcases hA : A i with _ | a'
      · have := h6 hA
        intro hp
        rw [hlen] at hp
        omega
      · exact reads_at h2 h4 (fun c hc => (h7 a' hA).2 c (by omega))
  · by_cases hi : i < len
    · rw [hg i hi] at hn
      exact (h i (by omega)).2.2.2.2.1 n (List.mem_of_mem_take hn)
    · rw [List.getD_eq_getElem?_getD, List.getElem?_eq_none (by simp; omega)] at hn
      simp at hn

/-! ### THE ROW's STEP: WRITTEN OUT: LEAVE IT -/
set_option maxRecDepth 100000 in
theorem lifted (os : Os) (started : os.Started) (H : Type) (enc : TypeId × Value → H) :
    ReturnsInHanded {} Try.checked os 3 .any (Rows.fnWithinMatchesSearchModelSpec.pre6 enc Try.prog Try.f3 Rows.fnWithinMatchesSearchModelRow.domain false) (Rows.fnWithinMatchesSearchModelSpec.post enc Try.prog Try.f3 false true false false) := by
  refine returnsInHanded_of_change (C := Try.checked) own started (by kernel_rfl) Try.func3
    (ChangeSpec.witness6 (enc := enc) (C := Try.checked) false ⟨#[], #[.slice none 0 0, .slice none 0 0], []⟩ 8 (by kernel_rfl) (by kernel_rfl) (by kernel_rfl) (by kernel_rfl)) ?_
  intro W base args ds gs before hval0 hW hcnd _
  have hval : ∀ (j : Nat) t v, Try.f3.params[j]? = some t → args[j]? = some v → Value.okWide Try.prog W .any base t v := hval0
  have hW' := hW
  obtain ⟨p, q, hA0, hV, rfl, hfz, hnd⟩ := hW
  have hA : DataW.TrodAll enc Try.prog W 0 (fun _ => true) true Try.f3.params.toList args.toList ds p := hA0
  rw [Try.params3] at hA hval
  obtain ⟨v0, vs0, d0, ds0, p0, q0, hargs, rfl, rfl, h0, r0⟩ := trodAll_cons hA
  obtain ⟨v1, vs1, d1, ds1, p1, q1, rfl, rfl, rfl, h1, r1⟩ := trodAll_cons r0
  obtain ⟨rfl, rfl, rfl⟩ := trodAll_nil r1
  obtain rfl : args = #[v0, v1] := by cases args; simp_all
  obtain ⟨rfl, rfl⟩ := trodVars_none hV
  obtain ⟨a0, len0, cap0, rfl⟩ := okWide_slice Try.underlying22 (hval 0 22 v0 rfl rfl)
  have k0 := h0
  have lt0 : ∀ x ∈ p0, x.block < W.heap.size := by obtain ⟨m, hm⟩ := k0; exact DataW.trod_lt m _ _ _ hm
  obtain ⟨z0, w0⟩ : ∃ zs, IsRow W a0 len0 zs := by
    obtain ⟨fuel, hf⟩ := h0
    rcases open_ints Try.underlying22 Try.underlying3 (by kernel_rfl) hf with ⟨hcs, _⟩ | ⟨x, l, c, zs, hcs, _, hl, hm, hz, _, hcell, hwz⟩
    · simp [Value.cells] at hcs
      obtain ⟨rfl, rfl, rfl⟩ := hcs
      exact ⟨[], isRow_nil _⟩
    · simp [Value.cells] at hcs
      obtain ⟨rfl, rfl, rfl⟩ := hcs
      exact ⟨_, isRow_at hl hm (by simpa using hz) hcell hwz⟩
  obtain ⟨a1, len1, cap1, rfl⟩ := okWide_slice Try.underlying23 (hval 1 23 v1 rfl rfl)
  have k1 := h1
  have lt1 : ∀ x ∈ p1, x.block < W.heap.size := by obtain ⟨m, hm⟩ := k1; exact DataW.trod_lt m _ _ _ hm
  obtain ⟨z1, w1⟩ : ∃ ss, IsRows W a1 len1 ss := by
    obtain ⟨fuel, hf⟩ := h1
    rcases Deep.open_int_rows Try.underlying23 Try.underlying22 Try.underlying3 (by kernel_rfl) (by kernel_rfl) hf with ⟨hcs, _⟩ | ⟨x, l, c, A, L, C, Z, hcs, _, hl, hm, _, hr⟩
    · simp [Value.cells] at hcs
      obtain ⟨rfl, rfl, rfl⟩ := hcs
      exact ⟨[], isRows_nil _⟩
    · simp [Value.cells] at hcs
      obtain ⟨rfl, rfl, rfl⟩ := hcs
      exact ⟨_, isRows_at hl hm hr⟩
  clear hA0 hval0
  refine (within.law_walk a0 a1 cap0 cap1 len0 len1 z0 z1 W w0.1.symm w1.1.symm w0.2.2.1 w1.2.2.1 w0.2.2.2 w1.2.2.2 w0.2.1 w1.2.1).mono fun e W' ⟨he, bel⟩ => ?_
  subst he
  exact ⟨_, rfl, _, _, _, [], _, [], hW', trodAll_mk1 (shut_bool Try.underlying4 _), (trodAll_cons_mk (Below.trod laidOut (by kernel_rfl) (of_decide_eq_true (by kernel_rfl)) k0 bel lt0) (trodAll_cons_mk (Below.trod laidOut (by kernel_rfl) (of_decide_eq_true (by kernel_rfl)) k1 bel lt1) trodAll_mk0)), rfl, bel.frame _, fun h => by cases h⟩

theorem over : Rows.fnWithinMatchesSearchModelRow.holds Try.pinned (OpenSpec.ofChange Rows.fnWithinMatchesSearchModelSpec) :=
  OpenClaim.holds_of_wide 3 Try.f3 rfl rfl rfl rfl rfl rfl rfl ⟨rfl, rfl, rfl, rfl, rfl⟩ rfl rfl rfl rfl rfl (by kernel_rfl) Try.func3 (by kernel_rfl)
    (of_decide_eq_true (by kernel_rfl)) (by unfold Func.isWrapper; first | (rw [if_pos (by decide +kernel)]; kernel_rfl) | (rw [if_neg (by decide +kernel)]; exact ⟨rfl, rfl⟩))
    (fun os started H enc _ => lifted os started H enc)

/-- ████ THE STATEMENT ████ -/
theorem proved : Rows.FnWithinMatchesSearchModelSaid := over
end Go.Proofs.Qxb6603958a.fnWithinMatchesSearchModel
