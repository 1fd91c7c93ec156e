/- The proof of FnWholeMatchesRunModelSaid: the kit's frame for this function, its walk filled. -/
import Derived.Test.Qxb6604122aRows
import Derived.Test.Qxb6604122aWhE
import Derived.Deep.Grids
import Derived.WalkKit
import Derived.ProofKit
import Derived.OpenShut
import Derived.ShutString
import Derived.ChangeOld
import Derived.Below
namespace Go.Proofs.Qxb6604122a.fnWholeMatchesRunModel
open Go.ChangeShapes Go.WideShapes Go.ChangeAt Go.RowKit
open Go.ChangeMaps (open_string shut_string)
set_option linter.unusedVariables false

theorem own : ownKnob Try.prog.godebug = none := by kernel_rfl
theorem laidOut : laidOutB Try.prog = true := by kernel_rfl

/-- What the walk is told of a slice that came in. -/
def IsRow {α : Type} (f : α → Value) (d : α) (w : World) (a : Option Addr) (len : Nat) (zs : List α) : Prop :=
  len = zs.length ∧ len ≤ 9223372036854775807 ∧ Reads f d w a zs ∧ (a = none → len = 0)

theorem isRow_nil {α : Type} (f : α → Value) (d : α) (w : World) : IsRow f d w none 0 [] := ⟨rfl, by omega, fun h => absurd h (by simp), fun _ => rfl⟩

theorem isRow_at {α : Type} {f : α → Value} {d : α} {w : World} {x : Addr} {len cap : Nat} {zs : List α} (hl : len ≤ cap) (hm : cap ≤ maxLen) (hz : len = zs.length) (hc : ∀ i, i < len → w.cell? (x.add i) = some (f (zs.getD i d))) : IsRow f d w (some x) len zs := by
  refine ⟨hz, by unfold maxLen at hm; omega, fun hp => ?_, by simp⟩
  obtain ⟨b, off, spot⟩ := x
  have hspot : spot = none := by simpa [Addr.add] using World.cell?_spot (hc 0 (by omega))
  subst hspot
  refine ⟨b, off, rfl, ?_, fun i hi => ?_⟩
  · have h0 := hc 0 (by omega)
    by_cases hlt : b < w.heap.size
    · exact hlt
    · simp [World.cell?, Addr.add, Array.getElem?_eq_none (Nat.le_of_not_lt hlt)] at h0
  · rw [← add_plain]; exact hc i (by omega)

theorem u32_of {zs : List Int} (h : ∀ n ∈ zs, (Lit.int .u32 n).wf = true) : whole.U32 zs := by
  intro i
  by_cases hi : i < zs.length
  · rw [getD_of_lt _ _ _ hi]
    have := bounds_u32 (h _ (List.getElem_mem hi))
    omega
  · rw [List.getD_eq_getElem?_getD, List.getElem?_eq_none (by omega)]
    simp

/-! ### THE ROW's STEP: WRITTEN OUT: LEAVE IT -/
set_option maxRecDepth 100000 in
theorem lifted (os : Os) (started : os.Started) (H : Type) (enc : TypeId × Value → H) :
    ReturnsInHanded {} Try.checked os 4 .any (Rows.fnWholeMatchesRunModelSpec.pre6 enc Try.prog Try.f4 Rows.fnWholeMatchesRunModelRow.domain false) (Rows.fnWholeMatchesRunModelSpec.post enc Try.prog Try.f4 false true false false) := by
  refine returnsInHanded_of_change (C := Try.checked) own started (by kernel_rfl) Try.func4
    (ChangeSpec.witness6 (enc := enc) (C := Try.checked) false ⟨#[], #[.slice none 0 0, .slice none 0 0, .slice none 0 0], []⟩ 8 (by kernel_rfl) (by kernel_rfl) (by kernel_rfl) (by kernel_rfl)) ?_
  intro W base args ds gs before hval0 hW hcnd _
  have hval : ∀ (j : Nat) t v, Try.f4.params[j]? = some t → args[j]? = some v → Value.okWide Try.prog W .any base t v := hval0
  have hW' := hW
  obtain ⟨p, q, hA0, hV, rfl, hfz, hnd⟩ := hW
  have hA : DataW.TrodAll enc Try.prog W 0 (fun _ => true) true Try.f4.params.toList args.toList ds p := hA0
  rw [Try.params4] at hA hval
  obtain ⟨v0, vs0, d0, ds0, p0, q0, hargs, rfl, rfl, h0, r0⟩ := trodAll_cons hA
  obtain ⟨v1, vs1, d1, ds1, p1, q1, rfl, rfl, rfl, h1, r1⟩ := trodAll_cons r0
  obtain ⟨v2, vs2, d2, ds2, p2, q2, rfl, rfl, rfl, h2, r2⟩ := trodAll_cons r1
  obtain ⟨rfl, rfl, rfl⟩ := trodAll_nil r2
  obtain rfl : args = #[v0, v1, v2] := by cases args; simp_all
  obtain ⟨rfl, rfl⟩ := trodVars_none hV
  obtain ⟨a0, len0, cap0, rfl⟩ := okWide_slice Try.underlying28 (hval 0 28 v0 rfl rfl)
  have k0 := h0
  have lt0 : ∀ x ∈ p0, x.block < W.heap.size := by obtain ⟨m, hm⟩ := k0; exact DataW.trod_lt m _ _ _ hm
  obtain ⟨z0, w0, u0⟩ : ∃ zs, IsRow (Value.int .u32) 0 W a0 len0 zs ∧ whole.U32 zs := by
    obtain ⟨fuel, hf⟩ := h0
    rcases open_ints Try.underlying28 Try.underlying40 (by kernel_rfl) hf with ⟨hcs, _⟩ | ⟨x, l, c, zs, hcs, _, hl, hm, hz, _, hcell, hwz⟩
    · simp [Value.cells] at hcs
      obtain ⟨rfl, rfl, rfl⟩ := hcs
      exact ⟨[], isRow_nil _ _ _, u32_of (by simp)⟩
    · simp [Value.cells] at hcs
      obtain ⟨rfl, rfl, rfl⟩ := hcs
      simp only [if_true] at hz
      refine ⟨zs.take len0, isRow_at hl hm (by simp; omega) (fun i hi => ?_), u32_of fun n hn => hwz n (List.mem_of_mem_take hn)⟩
      rw [hcell i (by omega)]
      simp [List.getD_eq_getElem?_getD, hi]
  obtain ⟨a1, len1, cap1, rfl⟩ := okWide_slice Try.underlying29 (hval 1 29 v1 rfl rfl)
  have k1 := h1
  have lt1 : ∀ x ∈ p1, x.block < W.heap.size := by obtain ⟨m, hm⟩ := k1; exact DataW.trod_lt m _ _ _ hm
  obtain ⟨z1, w1⟩ : ∃ zs, IsRow Value.bool false W a1 len1 zs := by
    obtain ⟨fuel, hf⟩ := h1
    rcases Deep.open_bools Try.underlying29 Try.underlying4 (by kernel_rfl) hf with ⟨hcs, _⟩ | ⟨x, l, c, B, hcs, _, hl, hm, _, hcell⟩
    · simp [Value.cells] at hcs
      obtain ⟨rfl, rfl, rfl⟩ := hcs
      exact ⟨[], isRow_nil _ _ _⟩
    · simp [Value.cells] at hcs
      obtain ⟨rfl, rfl, rfl⟩ := hcs
      refine ⟨(List.range len1).map B, isRow_at hl hm (by simp) (fun i hi => ?_)⟩
      rw [hcell i (by omega)]
      simp [List.getD_eq_getElem?_getD, hi]
  obtain ⟨a2, len2, cap2, rfl⟩ := okWide_slice Try.underlying29 (hval 2 29 v2 rfl rfl)
  have k2 := h2
  have lt2 : ∀ x ∈ p2, x.block < W.heap.size := by obtain ⟨m, hm⟩ := k2; exact DataW.trod_lt m _ _ _ hm
  obtain ⟨z2, w2⟩ : ∃ zs, IsRow Value.bool false W a2 len2 zs := by
    obtain ⟨fuel, hf⟩ := h2
    rcases Deep.open_bools Try.underlying29 Try.underlying4 (by kernel_rfl) hf with ⟨hcs, _⟩ | ⟨x, l, c, B, hcs, _, hl, hm, _, hcell⟩
    · simp [Value.cells] at hcs
      obtain ⟨rfl, rfl, rfl⟩ := hcs
      exact ⟨[], isRow_nil _ _ _⟩
    · simp [Value.cells] at hcs
      obtain ⟨rfl, rfl, rfl⟩ := hcs
      refine ⟨(List.range len2).map B, isRow_at hl hm (by simp) (fun i hi => ?_)⟩
      rw [hcell i (by omega)]
      simp [List.getD_eq_getElem?_getD, hi]
  clear hA0 hval0
  refine (whole.law_walk a0 a1 a2 cap0 cap1 cap2 len0 len1 len2 z0 z1 z2 W ⟨w0.1, w1.1, w2.1⟩ u0 w0.2.2.2 w1.2.2.2 w2.2.2.2 w0.2.2.1 w1.2.2.1 w2.2.2.1 w0.2.1 w1.2.1 w2.2.1).mono fun e W' ⟨he, bel⟩ => ?_
  subst he
  exact ⟨_, rfl, _, _, _, [], _, [], hW', trodAll_mk1 (shut_bool Try.underlying4 _), (trodAll_cons_mk (Below.trod laidOut (by kernel_rfl) (of_decide_eq_true (by kernel_rfl)) k0 bel lt0) (trodAll_cons_mk (Below.trod laidOut (by kernel_rfl) (of_decide_eq_true (by kernel_rfl)) k1 bel lt1) (trodAll_cons_mk (Below.trod laidOut (by kernel_rfl) (of_decide_eq_true (by kernel_rfl)) k2 bel lt2) trodAll_mk0))), rfl, bel.frame _, fun h => by cases h⟩

theorem over : Rows.fnWholeMatchesRunModelRow.holds Try.pinned (OpenSpec.ofChange Rows.fnWholeMatchesRunModelSpec) :=
  OpenClaim.holds_of_wide 4 Try.f4 rfl rfl rfl rfl rfl rfl rfl ⟨rfl, rfl, rfl, rfl, rfl⟩ rfl rfl rfl rfl rfl (by kernel_rfl) Try.func4 (by kernel_rfl)
    (of_decide_eq_true (by kernel_rfl)) (by unfold Func.isWrapper; first | (rw [if_pos (by decide +kernel)]; kernel_rfl) | (rw [if_neg (by decide +kernel)]; exact ⟨rfl, rfl⟩))
    (fun os started H enc _ => lifted os started H enc)

/-- ████ THE STATEMENT ████ -/
theorem proved : Rows.FnWholeMatchesRunModelSaid := over
end Go.Proofs.Qxb6604122a.fnWholeMatchesRunModel
