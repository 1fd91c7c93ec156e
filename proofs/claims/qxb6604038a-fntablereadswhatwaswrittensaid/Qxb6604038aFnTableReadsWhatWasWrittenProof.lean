/- The proof of FnTableReadsWhatWasWrittenSaid: the kit's frame turned to this function. -/
import Derived.Test.Qxb6604038aRows
import Derived.Test.Qxb6604038aTaG
import Derived.Test.Qxb6604038aTaH
import Derived.Deep.Slices
import Derived.Lib.SmallJoins
namespace Go.Proofs.Qxb6604038a.fnTableReadsWhatWasWritten
open Go.ChangeShapes Go.WideShapes Go.ChangeAt Go.RowKit
open Go.ChangeMaps (open_string shut_string)
set_option linter.unusedVariables false

theorem own : ownKnob Try.prog.godebug = none := by kernel_rfl
theorem laidOut : laidOutB Try.prog = true := by kernel_rfl
theorem cells34 : Try.prog.cellsOf 34 = 4 := by kernel_rfl
theorem cells9 : Try.prog.cellsOf 9 = 1 := by kernel_rfl
theorem cells3 : Try.prog.cellsOf 3 = 1 := by kernel_rfl

/-- One token of the lead, opened. -/
theorem tok_open {H : Type} {enc : TypeId × Value → H} {w : World} {base : Nat} {spare : Nat → Bool} {held : Bool} {m : Nat} {x : Addr} {cs : List Value} {y : DataW H × List MemPlace} (hc : w.cells? base x 4 = some cs) (ht : DataW.trod enc Try.prog w base spare held m 34 cs = some y) :
    ∃ tk : Tk, w.cell? (x.add 0) = some (.string tk.k) ∧ w.cell? (x.add 1) = some (.string tk.t) ∧ w.cell? (x.add 2) = some (.int .i64 tk.s) ∧ w.cell? (x.add 3) = some (.int .i64 tk.e) ∧ tk.k.size ≤ maxLen ∧ tk.t.size ≤ maxLen := by
  obtain ⟨_, hlen, hcell⟩ := World.cells?_some hc
  obtain ⟨y0, y1, y2, y3, q, _, _, h0, h1, h2, h3⟩ := Joins.trod_struct4 Try.underlying34 ht
  match cs, hlen with
  | [c0, c1, c2, c3], _ =>
    simp only [cells9, cells3, List.drop_zero, List.drop_succ_cons, List.take_succ_cons, List.take_zero] at h0 h1 h2 h3
    obtain ⟨s0, e0, _, m0⟩ := DataW.trod_string Try.underlying9 h0
    obtain ⟨s1, e1, _, m1⟩ := DataW.trod_string Try.underlying9 h1
    obtain ⟨n2, e2, _, _⟩ := DataW.trod_int Try.underlying3 h2
    obtain ⟨n3, e3, _, _⟩ := DataW.trod_int Try.underlying3 h3
    simp only [List.cons.injEq, and_true] at e0 e1 e2 e3
    subst e0 e1 e2 e3
    exact ⟨⟨s0, s1, n2, n3⟩, hcell 0 (by omega), hcell 1 (by omega), hcell 2 (by omega), hcell 3 (by omega), m0, m1⟩

/-- What the walk is told of the lead. -/
def IsLead (w : World) (a : Option Addr) (len : Nat) (L : List Tk) : Prop := len = L.length ∧ len ≤ 9223372036854775807 ∧ Lead w a L

theorem isLead_nil (w : World) : IsLead w none 0 [] := ⟨rfl, by omega, fun h => absurd h (by simp)⟩

theorem isLead_at {w : World} {x : Addr} {len cap : Nat} (hl : len ≤ cap) (hm : cap ≤ maxLen)
    (h : ∀ i, i < len → ∃ tk : Tk, w.cell? ((x.add (i * 4)).add 0) = some (.string tk.k) ∧ w.cell? ((x.add (i * 4)).add 1) = some (.string tk.t) ∧ w.cell? ((x.add (i * 4)).add 2) = some (.int .i64 tk.s) ∧ w.cell? ((x.add (i * 4)).add 3) = some (.int .i64 tk.e) ∧ tk.k.size ≤ maxLen ∧ tk.t.size ≤ maxLen) :
    ∃ L, IsLead w (some x) len L := by
  obtain ⟨f, hf⟩ : ∃ f : Nat → Tk, ∀ i, i < len → w.cell? ((x.add (i * 4)).add 0) = some (.string (f i).k) ∧ w.cell? ((x.add (i * 4)).add 1) = some (.string (f i).t) ∧ w.cell? ((x.add (i * 4)).add 2) = some (.int .i64 (f i).s) ∧ w.cell? ((x.add (i * 4)).add 3) = some (.int .i64 (f i).e) ∧ (f i).k.size ≤ maxLen ∧ (f i).t.size ≤ maxLen := by
    refine ⟨fun i => if hi : i < len then Classical.choose (h i hi) else tk0, fun i hi => ?_⟩
    simp only [hi, dif_pos]
    exact Classical.choose_spec (h i hi)
  refine ⟨(List.range len).map f, by simp, by unfold maxLen at hm; omega, ?_⟩
  have hg : ∀ i, i < len → ((List.range len).map f).getD i tk0 = f i := fun i hi => by simp [List.getD_eq_getElem?_getD, hi]
  intro hp
  simp only [List.length_map, List.length_range] at hp
  obtain ⟨b, off, spot⟩ := x
  have hspot : spot = none := by simpa [Addr.add] using World.cell?_spot (hf 0 hp).1
  subst hspot
  refine ⟨b, off, rfl, ?_, fun i hi => ?_⟩
  · have h0 := (hf 0 hp).1
    by_cases hlt : b < w.heap.size
    · exact hlt
    · simp [World.cell?, Addr.add, Array.getElem?_eq_none (Nat.le_of_not_lt hlt)] at h0
  · simp only [List.length_map, List.length_range] at hi
    rw [hg i hi]
    obtain ⟨h1, h2, h3, h4, h5, h6⟩ := hf i hi
    unfold maxLen at h5 h6
    rw [add_plain, add_plain] at h1 h2 h3 h4
    exact ⟨h1, h2, h3, h4, h5, h6⟩

theorem walk (a : Option Addr) (c n : Nat) (L : List Tk) (db nm : ByteArray) (q dq nq : Bool) (w : World) (h : IsLead w a n L) (hd : db.size ≤ maxLen) (hm : nm.size ≤ maxLen) :
    Calls Try.prog 4 #[.slice a n c, .string db, .string nm, .bool q, .bool dq, .bool nq] w fun e w' => e = .returned (.bool true) ∧ Below w.heap.size w w' := by
  unfold maxLen at hd hm
  cases q
  · exact law_one a c n L db nm dq nq w h.1 h.2.2 h.2.1 hd hm
  · exact law_two a c n L db nm dq nq w h.1 h.2.2 h.2.1 hd hm

set_option maxRecDepth 100000 in
theorem lifted (os : Os) (started : os.Started) (H : Type) (enc : TypeId × Value → H) :
    ReturnsInHanded {} Try.checked os 4 .any (Rows.fnTableReadsWhatWasWrittenSpec.pre6 enc Try.prog Try.f4 Rows.fnTableReadsWhatWasWrittenRow.domain false) (Rows.fnTableReadsWhatWasWrittenSpec.post enc Try.prog Try.f4 false true false false) := by
  refine returnsInHanded_of_change (C := Try.checked) own started (by kernel_rfl) Try.func4
    (ChangeSpec.witness6 (enc := enc) (C := Try.checked) false ⟨#[], #[.slice none 0 0, .string ⟨#[]⟩, .string ⟨#[]⟩, .bool false, .bool false, .bool false], []⟩ 8 (by kernel_rfl) (by kernel_rfl) (by kernel_rfl) (by kernel_rfl)) ?_
  intro W base args ds gs before hval0 hW hcnd _
  have hval : ∀ (j : Nat) t v, Try.f4.params[j]? = some t → args[j]? = some v → Value.okWide Try.prog W .any base t v := hval0
  have hW' := hW
  obtain ⟨p, q, hA0, hV, rfl, hfz, hnd⟩ := hW
  have hA : DataW.TrodAll enc Try.prog W 0 (fun _ => true) true Try.f4.params.toList args.toList ds p := hA0
  rw [Try.params4] at hA hval
  obtain ⟨v0, vs0, d0, ds0, p0, q0, hargs, rfl, rfl, h0, r0⟩ := trodAll_cons hA
  obtain ⟨v1, vs1, d1, ds1, p1, q1, rfl, rfl, rfl, h1, r1⟩ := trodAll_cons r0
  obtain ⟨v2, vs2, d2, ds2, p2, q2, rfl, rfl, rfl, h2, r2⟩ := trodAll_cons r1
  obtain ⟨v3, vs3, d3, ds3, p3, q3, rfl, rfl, rfl, h3, r3⟩ := trodAll_cons r2
  obtain ⟨v4, vs4, d4, ds4, p4, q4, rfl, rfl, rfl, h4, r4⟩ := trodAll_cons r3
  obtain ⟨v5, vs5, d5, ds5, p5, q5, rfl, rfl, rfl, h5, r5⟩ := trodAll_cons r4
  obtain ⟨rfl, rfl, rfl⟩ := trodAll_nil r5
  obtain rfl : args = #[v0, v1, v2, v3, v4, v5] := by cases args; simp_all
  obtain ⟨rfl, rfl⟩ := trodVars_none hV
  obtain ⟨a0, len0, cap0, rfl⟩ := okWide_slice Try.underlying25 (hval 0 25 v0 rfl rfl)
  have k0 := h0
  have lt0 : ∀ x ∈ p0, x.block < W.heap.size := by obtain ⟨m, hm⟩ := k0; exact DataW.trod_lt m _ _ _ hm
  obtain ⟨L, w0⟩ : ∃ L, IsLead W a0 len0 L := by
    obtain ⟨fuel, hf⟩ := h0
    rcases Deep.open_slice Try.underlying25 hf with ⟨hcs, _⟩ | ⟨x, l, c, m, n, D, Pl, hcs, _, hl, hm, hmm, _, hx⟩
    · simp [Value.cells] at hcs
      obtain ⟨rfl, rfl, rfl⟩ := hcs
      exact ⟨[], isLead_nil _⟩
    · simp [Value.cells] at hcs
      obtain ⟨rfl, rfl, rfl⟩ := hcs
      simp only [if_true] at hmm
      rw [cells34] at hx
      exact isLead_at hl hm fun i hi => by
        obtain ⟨cs', e1, e2⟩ := hx i (by omega)
        exact tok_open e1 e2
  obtain ⟨s1, rfl, rfl, rfl, w1⟩ := open_string Try.underlying9 (hval 1 9 v1 rfl rfl) h1
  obtain ⟨s2, rfl, rfl, rfl, w2⟩ := open_string Try.underlying9 (hval 2 9 v2 rfl rfl) h2
  obtain ⟨b3, rfl, rfl, rfl⟩ := open_bool Try.underlying4 (hval 3 4 v3 rfl rfl) h3
  obtain ⟨b4, rfl, rfl, rfl⟩ := open_bool Try.underlying4 (hval 4 4 v4 rfl rfl) h4
  obtain ⟨b5, rfl, rfl, rfl⟩ := open_bool Try.underlying4 (hval 5 4 v5 rfl rfl) h5
  clear hA0 hval0
  refine (walk a0 cap0 len0 L s1 s2 b3 b4 b5 W w0 w1 w2).mono fun e W' ⟨he, bel⟩ => ?_
  subst he
  exact ⟨_, rfl, _, _, _, [], _, [], hW', trodAll_mk1 (shut_bool Try.underlying4 _), (trodAll_cons_mk (Below.trod laidOut (by kernel_rfl) (of_decide_eq_true (by kernel_rfl)) k0 bel lt0) (trodAll_cons_mk (shut_string Try.underlying9 w1) (trodAll_cons_mk (shut_string Try.underlying9 w2) (trodAll_cons_mk (shut_bool Try.underlying4 _) (trodAll_cons_mk (shut_bool Try.underlying4 _) (trodAll_cons_mk (shut_bool Try.underlying4 _) trodAll_mk0)))))), rfl, bel.frame _, fun h => by cases h⟩

theorem over : Rows.fnTableReadsWhatWasWrittenRow.holds Try.pinned (OpenSpec.ofChange Rows.fnTableReadsWhatWasWrittenSpec) :=
  OpenClaim.holds_of_wide 4 Try.f4 rfl rfl rfl rfl rfl rfl rfl ⟨rfl, rfl, rfl, rfl, rfl⟩ rfl rfl rfl rfl rfl (by kernel_rfl) Try.func4 (by kernel_rfl)
    (of_decide_eq_true (by kernel_rfl)) (by unfold Func.isWrapper; first | (rw [if_pos (by decide +kernel)]; kernel_rfl) | (rw [if_neg (by decide +kernel)]; exact ⟨rfl, rfl⟩))
    (fun os started H enc _ => lifted os started H enc)

theorem proved : Rows.FnTableReadsWhatWasWrittenSaid := over
end Go.Proofs.Qxb6604038a.fnTableReadsWhatWasWritten
