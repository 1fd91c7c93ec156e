/- (*reader).table, walked, on a qualified name. -/
import Derived.Test.Qxb6604038aTaB
namespace Go.Proofs.Qxb6604038a
open Go.ChangeShapes Go.WideShapes Go.ChangeAt Go.RowKit
attribute [local go_sem] field_0 field_1

/-- Every old block but rb reads as it did. -/
def Kept (rb : Nat) (w w' : World) : Prop :=
  w.heap.size ≤ w'.heap.size ∧ ∀ b o, b < w.heap.size → b ≠ rb → w'.cell? ⟨b, o, none⟩ = w.cell? ⟨b, o, none⟩ ∧ w'.frozen? ⟨b, o, none⟩ = w.frozen? ⟨b, o, none⟩
theorem Kept.refl (rb : Nat) (w : World) : Kept rb w w := ⟨Nat.le_refl _, fun _ _ _ _ => ⟨rfl, rfl⟩⟩
theorem Kept.drew {rb : Nat} {w w' : World} (h : Kept rb w w') : Kept rb w w'.drew := h
theorem Kept.alloc {rb : Nat} {w w' : World} {ob : Obj} (h : Kept rb w w') : Kept rb w (w'.alloc ob) := by
  refine ⟨by have := h.1; simp; omega, fun b o hb hn => ?_⟩
  obtain ⟨h1, h2⟩ := h.2 b o hb hn
  have hlt : b < w'.heap.size := Nat.lt_of_lt_of_le hb h.1
  exact ⟨by rw [cell_alloc _ hlt, h1], by rw [((Below.refl w'.heap.size w').alloc (Nat.le_refl _) ob).frozen (p := ⟨b, o, none⟩) hlt, h2]⟩
theorem Kept.set {rb : Nat} {w w' : World} {v : Value} (h : Kept rb w w') : Kept rb w (w'.setCell ⟨rb, 1, none⟩ v) := by
  refine ⟨by have := h.1; simpa using this, fun b o hb hn => ?_⟩
  obtain ⟨h1, h2⟩ := h.2 b o hb hn
  exact ⟨by rw [World.cell?_setCell_other _ _ _ _ (by intro h; injection h; omega), h1], by rw [World.frozen?_setCell, h2]⟩

set_option maxRecDepth 4000 in
set_option maxHeartbeats 4000000 in
theorem table_two (rb T n c i : Nat) (k1 k2 db nm : ByteArray) (e1 e2 p e : Int) (w : World) (hk1 : k1 = kWord ∨ k1 = kName) (hk2 : k2 = kWord ∨ k2 = kName) (hi : i + 3 < n) (hn : n ≤ 1048576) (hR : Rdr w rb T n c (i : Int))
    (t0 : TokAt w T i k1 db 0 e1) (t1 : TokAt w T (i + 1) kSym ⟨#[46]⟩ e1 e2) (t2 : TokAt w T (i + 2) k2 nm p e) :
    Calls Try.prog 13 #[.pointer (some ⟨rb, 0, none⟩)] w fun r w' => r = .returned (.tuple #[.agg #[.string db, .string nm, .bool false, .int .i64 0, .int .i64 0, .int .i64 e], .bool true]) ∧ Rdr w' rb T n c ((i : Int) + 1 + 1 + 1) ∧ Below rb w w' := by
  have hne : rb ≠ T := by have := hR.1; omega
  have hrb := hR.2.1
  go_enter Try.func13, Try.ntmps13
  go_wp2_with fail
  refine (peek_b (k := k1) (t := db) (s := 0) (e := e1) (i := i) (by repeat (first | with_reducible exact hR | with_reducible apply Rdr.drew | with_reducible apply Rdr.alloc | with_reducible apply Rdr.set)) rfl (by omega) (by repeat (first | with_reducible exact t0 | with_reducible apply TokAt.drew | with_reducible apply TokAt.alloc | with_reducible refine TokAt.set ?_ hne))).mono ?_
  rintro r w' ⟨rfl, hw⟩
  subst hw
  go_wp2_with fail
  refine (isName_any k1 db 0 e1 _ hk1).mono ?_
  rintro r w' ⟨rfl, hw⟩
  subst hw
  go_wp2_with fail
  refine (next_b (k := k1) (t := db) (s := 0) (e := e1) (i := i) (or3 hk1) (by repeat (first | with_reducible exact hR | with_reducible apply Rdr.drew | with_reducible apply Rdr.alloc | with_reducible apply Rdr.set)) rfl (by omega) hn (by repeat (first | with_reducible exact t0 | with_reducible apply TokAt.drew | with_reducible apply TokAt.alloc | with_reducible refine TokAt.set ?_ hne))).mono ?_
  rintro r w' ⟨rfl, hw⟩
  subst hw
  go_upto_region 6 with fail
  refine wp_gen fun W hW => ?_
  have hRW : Rdr W rb T n c ((i : Int) + 1) := by rw [hW]; exact (by repeat (first | with_reducible exact hR | with_reducible apply Rdr.drew | with_reducible apply Rdr.alloc | with_reducible apply Rdr.set))
  have tW1 : TokAt W T (i + 1) kSym ⟨#[46]⟩ e1 e2 := by rw [hW]; exact (by repeat (first | with_reducible exact t1 | with_reducible apply TokAt.drew | with_reducible apply TokAt.alloc | with_reducible refine TokAt.set ?_ hne))
  have tW2 : TokAt W T (i + 2) k2 nm p e := by rw [hW]; exact (by repeat (first | with_reducible exact t2 | with_reducible apply TokAt.drew | with_reducible apply TokAt.alloc | with_reducible refine TokAt.set ?_ hne))
  have hbW : Below rb w W := by rw [hW]; exact (by repeat (first | with_reducible exact Below.refl _ _ | with_reducible apply Below.drew | with_reducible refine Below.setCell ?_ (by exact Nat.le_refl _) _ | with_reducible refine Below.alloc ?_ (by first | omega | (simp; omega)) _))
  have hs2 : W.heap.size = w.heap.size + 6 := by rw [hW]; simp
  refine wp_region_quiet (C := fun w' => ∃ x : More, w' = x.on W) (by kernel_rfl) (by kernel_rfl) ⟨⟨[], 1⟩, rfl⟩ ?_
  have HW : Hid (Rdr W rb T n c ((i : Int) + 1) ∧ TokAt W T (i + 1) kSym ⟨#[46]⟩ e1 e2 ∧ TokAt W T (i + 2) k2 nm p e) := ⟨hRW, tW1, tW2⟩
  have HWE := show Hid _ from hW
  have hmore := More.some
  have c0 := hRW.2.2.1
  have c1 := hRW.2.2.2.1
  have hrbW := hRW.2.1
  have hTW := tW2.1
  obtain ⟨_, q0, q1, q2, q3⟩ := tW2
  have on0 : ∀ x : More, (x.on W).cell? ⟨rb, 0, none⟩ = some (.slice (some ⟨T, 0, none⟩) n c) := fun x => by rw [cell_on _ _ _ _ hrbW]; exact c0
  have on1 : ∀ x : More, (x.on W).cell? ⟨rb, 1, none⟩ = some (.int .i64 ((i : Int) + 1)) := fun x => by rw [cell_on _ _ _ _ hrbW]; exact c1
  have ot0 : ∀ x : More, (x.on W).cell? ⟨T, (i + 1 + 1) * 4, none⟩ = some (.string k2) := fun x => by rw [cell_on _ _ _ _ hTW]; exact q0
  have ot1 : ∀ x : More, (x.on W).cell? ⟨T, (i + 1 + 1) * 4 + 1, none⟩ = some (.string nm) := fun x => by rw [cell_on _ _ _ _ hTW]; exact q1
  have ot2 : ∀ x : More, (x.on W).cell? ⟨T, (i + 1 + 1) * 4 + 2, none⟩ = some (.int .i64 p) := fun x => by rw [cell_on _ _ _ _ hTW]; exact q2
  have ot3 : ∀ x : More, (x.on W).cell? ⟨T, (i + 1 + 1) * 4 + 3, none⟩ = some (.int .i64 e) := fun x => by rw [cell_on _ _ _ _ hTW]; exact q3
  have HS2 : Hid (W.heap.size = w.heap.size + 6) := hs2
  have hi2 : (i : Int) + 1 + 1 < (n : Int) := by omega
  clear hRW tW1 hW q0 q1 q2 q3 c0 c1 hs2
  repeat (first | go_big_quiet_step (first | (go_at_call 18; exact peek_ext HW.out.1 (i := i + 1) (by omega) (by omega) HW.out.2.1 _) | (go_at_call 19; exact isName_ext hk2 _)) | quiet_step (first | (go_at_call 18; exact peek_ext HW.out.1 (i := i + 1) (by omega) (by omega) HW.out.2.1 _) | (go_at_call 19; exact isName_ext hk2 _)))
  refine wpQuiet_nil ?_
  rintro w' ⟨x, rfl⟩
  have hs2 := HS2.out
  clear on0 on1 ot0 ot1 ot2 ot3
  obtain ⟨W1, hW1⟩ : ∃ W1, W1 = x.on W := ⟨_, rfl⟩
  rw [← hW1]
  have hsW1 : w.heap.size + 6 ≤ W1.heap.size := by rw [hW1, ← hs2]; exact (below_on x W).size
  have b1 : W1.cell? ⟨w.heap.size + 1 + 1, 1, none⟩ = some (.string db) := by rw [hW1, cell_on _ _ _ _ (by omega), HWE.out]; go_simp
  have d0 : W1.cell? ⟨w.heap.size + 1 + 1 + 1 + 1 + 1, 0, none⟩ = some (.string ⟨#[]⟩) := by rw [hW1, cell_on _ _ _ _ (by omega), HWE.out]; go_simp
  have d1 : W1.cell? ⟨w.heap.size + 1 + 1 + 1 + 1 + 1, 1, none⟩ = some (.string db) := by rw [hW1, cell_on _ _ _ _ (by omega), HWE.out]; go_simp
  have d2 : W1.cell? ⟨w.heap.size + 1 + 1 + 1 + 1 + 1, 2, none⟩ = some (.bool false) := by rw [hW1, cell_on _ _ _ _ (by omega), HWE.out]; go_simp
  have d3 : W1.cell? ⟨w.heap.size + 1 + 1 + 1 + 1 + 1, 3, none⟩ = some (.int .i64 0) := by rw [hW1, cell_on _ _ _ _ (by omega), HWE.out]; go_simp
  have d4 : W1.cell? ⟨w.heap.size + 1 + 1 + 1 + 1 + 1, 4, none⟩ = some (.int .i64 0) := by rw [hW1, cell_on _ _ _ _ (by omega), HWE.out]; go_simp
  have d5 : W1.cell? ⟨w.heap.size + 1 + 1 + 1 + 1 + 1, 5, none⟩ = some (.int .i64 e1) := by rw [hW1, cell_on _ _ _ _ (by omega), HWE.out]; go_simp
  have df0 : W1.frozen? ⟨w.heap.size + 1 + 1 + 1 + 1 + 1, 0, none⟩ = false := by rw [hW1, frozen_on _ _ _ _ (by omega), HWE.out]; go_simp
  have df1 : W1.frozen? ⟨w.heap.size + 1 + 1 + 1 + 1 + 1, 1, none⟩ = false := by rw [hW1, frozen_on _ _ _ _ (by omega), HWE.out]; go_simp
  have df5 : W1.frozen? ⟨w.heap.size + 1 + 1 + 1 + 1 + 1, 5, none⟩ = false := by rw [hW1, frozen_on _ _ _ _ (by omega), HWE.out]; go_simp
  have r0 : W1.cell? ⟨w.heap.size, 0, none⟩ = some (.string ⟨#[]⟩) := by rw [hW1, cell_on _ _ _ _ (by omega), HWE.out]; go_simp
  have r1 : W1.cell? ⟨w.heap.size, 1, none⟩ = some (.string ⟨#[]⟩) := by rw [hW1, cell_on _ _ _ _ (by omega), HWE.out]; go_simp
  have r2 : W1.cell? ⟨w.heap.size, 2, none⟩ = some (.bool false) := by rw [hW1, cell_on _ _ _ _ (by omega), HWE.out]; go_simp
  have r3 : W1.cell? ⟨w.heap.size, 3, none⟩ = some (.int .i64 0) := by rw [hW1, cell_on _ _ _ _ (by omega), HWE.out]; go_simp
  have r4 : W1.cell? ⟨w.heap.size, 4, none⟩ = some (.int .i64 0) := by rw [hW1, cell_on _ _ _ _ (by omega), HWE.out]; go_simp
  have r5 : W1.cell? ⟨w.heap.size, 5, none⟩ = some (.int .i64 0) := by rw [hW1, cell_on _ _ _ _ (by omega), HWE.out]; go_simp
  have f0 : W1.frozen? ⟨w.heap.size, 0, none⟩ = false := by rw [hW1, frozen_on _ _ _ _ (by omega), HWE.out]; go_simp
  have f1 : W1.frozen? ⟨w.heap.size, 1, none⟩ = false := by rw [hW1, frozen_on _ _ _ _ (by omega), HWE.out]; go_simp
  have f2 : W1.frozen? ⟨w.heap.size, 2, none⟩ = false := by rw [hW1, frozen_on _ _ _ _ (by omega), HWE.out]; go_simp
  have f3 : W1.frozen? ⟨w.heap.size, 3, none⟩ = false := by rw [hW1, frozen_on _ _ _ _ (by omega), HWE.out]; go_simp
  have f4 : W1.frozen? ⟨w.heap.size, 4, none⟩ = false := by rw [hW1, frozen_on _ _ _ _ (by omega), HWE.out]; go_simp
  have f5 : W1.frozen? ⟨w.heap.size, 5, none⟩ = false := by rw [hW1, frozen_on _ _ _ _ (by omega), HWE.out]; go_simp
  have hR1 : Rdr W1 rb T n c ((i : Int) + 1) := by rw [hW1]; exact HW.out.1.on x
  have u1 : TokAt W1 T (i + 1) kSym ⟨#[46]⟩ e1 e2 := by rw [hW1]; exact HW.out.2.1.on x
  have u2 : TokAt W1 T (i + 2) k2 nm p e := by rw [hW1]; exact HW.out.2.2.on x
  have hb1 : Below rb w W1 := by rw [hW1]; exact hbW.trans ((below_on x W).mono (by omega))
  clear HWE HW hW1 hs2 HS2 hbW hrbW hTW
  have s5 : w.heap.size + 1 + 1 + 1 + 1 + 1 < W1.heap.size := by omega
  have s4 : w.heap.size + 1 + 1 < W1.heap.size := by omega
  have s2 : w.heap.size < W1.heap.size := by omega
  have n5 : ¬ rb = w.heap.size + 1 + 1 + 1 + 1 + 1 := by omega
  have n4 : ¬ rb = w.heap.size + 1 + 1 := by omega
  have n2 : ¬ rb = w.heap.size := by omega
  have HU : Hid (TokAt W1 T (i + 1) kSym ⟨#[46]⟩ e1 e2 ∧ TokAt W1 T (i + 2) k2 nm p e ∧ Rdr W1 rb T n c ((i : Int) + 1)) := ⟨u1, u2, hR1⟩
  go_wp2_with fail
  refine (next_b (k := kSym) (t := ⟨#[46]⟩) (s := e1) (e := e2) (i := i + 1) (.inr (.inr rfl)) (by repeat (first | with_reducible exact hR1 | with_reducible apply Rdr.drew | with_reducible apply Rdr.alloc | with_reducible apply Rdr.set)) (by omega) (by omega) hn (by repeat (first | with_reducible exact u1 | with_reducible apply TokAt.drew | with_reducible apply TokAt.alloc | with_reducible refine TokAt.set ?_ hne))).mono ?_
  rintro r w' ⟨rfl, hw⟩
  subst hw
  go_wp2_with fail
  refine (peek_b (k := k2) (t := nm) (s := p) (e := e) (i := i + 2) (by repeat (first | with_reducible exact hR1 | with_reducible apply Rdr.drew | with_reducible apply Rdr.alloc | with_reducible apply Rdr.set)) (by omega) (by omega) (by repeat (first | with_reducible exact u2 | with_reducible apply TokAt.drew | with_reducible apply TokAt.alloc | with_reducible refine TokAt.set ?_ hne))).mono ?_
  rintro r w' ⟨rfl, hw⟩
  subst hw
  go_wp2_with fail
  refine (next_b (k := k2) (t := nm) (s := p) (e := e) (i := i + 2) (or3 hk2) (by repeat (first | with_reducible exact hR1 | with_reducible apply Rdr.drew | with_reducible apply Rdr.alloc | with_reducible apply Rdr.set)) (by omega) (by omega) hn (by repeat (first | with_reducible exact u2 | with_reducible apply TokAt.drew | with_reducible apply TokAt.alloc | with_reducible refine TokAt.set ?_ hne))).mono ?_
  rintro r w' ⟨rfl, hw⟩
  subst hw
  go_upto_region 10 with fail
  refine wp_gen fun W2 hW2 => ?_
  have hR2 : Rdr W2 rb T n c ((i : Int) + 1 + 1 + 1) := by rw [hW2]; exact (by repeat (first | with_reducible exact hR1 | with_reducible apply Rdr.drew | with_reducible apply Rdr.alloc | with_reducible apply Rdr.set))
  have hb2 : Below rb W1 W2 := by rw [hW2]; exact (by repeat (first | with_reducible exact Below.refl _ _ | with_reducible apply Below.drew | with_reducible refine Below.setCell ?_ (by exact Nat.le_refl _) _ | with_reducible refine Below.alloc ?_ (by first | omega | (simp; omega)) _))
  have hkp : Kept rb W1 W2 := by rw [hW2]; exact (by repeat (first | with_reducible exact Kept.refl _ _ | with_reducible apply Kept.drew | with_reducible apply Kept.alloc | with_reducible apply Kept.set))
  have hsz2 := hkp.1
  have b1' : W2.cell? ⟨w.heap.size + 1 + 1, 1, none⟩ = some (.string db) := ((hkp.2 _ _ (by omega) (by omega)).1).trans b1
  have c1' : W2.cell? ⟨W1.heap.size + 1 + 1, 1, none⟩ = some (.string nm) := by rw [hW2]; go_simp
  have c3' : W2.cell? ⟨W1.heap.size + 1 + 1, 3, none⟩ = some (.int .i64 e) := by rw [hW2]; go_simp
  have d0' : W2.cell? ⟨w.heap.size + 1 + 1 + 1 + 1 + 1, 0, none⟩ = some (.string ⟨#[]⟩) := ((hkp.2 _ _ (by omega) (by omega)).1).trans d0
  have d1' : W2.cell? ⟨w.heap.size + 1 + 1 + 1 + 1 + 1, 1, none⟩ = some (.string db) := ((hkp.2 _ _ (by omega) (by omega)).1).trans d1
  have d2' : W2.cell? ⟨w.heap.size + 1 + 1 + 1 + 1 + 1, 2, none⟩ = some (.bool false) := ((hkp.2 _ _ (by omega) (by omega)).1).trans d2
  have d3' : W2.cell? ⟨w.heap.size + 1 + 1 + 1 + 1 + 1, 3, none⟩ = some (.int .i64 0) := ((hkp.2 _ _ (by omega) (by omega)).1).trans d3
  have d4' : W2.cell? ⟨w.heap.size + 1 + 1 + 1 + 1 + 1, 4, none⟩ = some (.int .i64 0) := ((hkp.2 _ _ (by omega) (by omega)).1).trans d4
  have d5' : W2.cell? ⟨w.heap.size + 1 + 1 + 1 + 1 + 1, 5, none⟩ = some (.int .i64 e1) := ((hkp.2 _ _ (by omega) (by omega)).1).trans d5
  have df0' : W2.frozen? ⟨w.heap.size + 1 + 1 + 1 + 1 + 1, 0, none⟩ = false := ((hkp.2 _ _ (by omega) (by omega)).2).trans df0
  have df1' : W2.frozen? ⟨w.heap.size + 1 + 1 + 1 + 1 + 1, 1, none⟩ = false := ((hkp.2 _ _ (by omega) (by omega)).2).trans df1
  have df5' : W2.frozen? ⟨w.heap.size + 1 + 1 + 1 + 1 + 1, 5, none⟩ = false := ((hkp.2 _ _ (by omega) (by omega)).2).trans df5
  have r0' : W2.cell? ⟨w.heap.size, 0, none⟩ = some (.string ⟨#[]⟩) := ((hkp.2 _ _ (by omega) (by omega)).1).trans r0
  have r1' : W2.cell? ⟨w.heap.size, 1, none⟩ = some (.string ⟨#[]⟩) := ((hkp.2 _ _ (by omega) (by omega)).1).trans r1
  have r2' : W2.cell? ⟨w.heap.size, 2, none⟩ = some (.bool false) := ((hkp.2 _ _ (by omega) (by omega)).1).trans r2
  have r3' : W2.cell? ⟨w.heap.size, 3, none⟩ = some (.int .i64 0) := ((hkp.2 _ _ (by omega) (by omega)).1).trans r3
  have r4' : W2.cell? ⟨w.heap.size, 4, none⟩ = some (.int .i64 0) := ((hkp.2 _ _ (by omega) (by omega)).1).trans r4
  have r5' : W2.cell? ⟨w.heap.size, 5, none⟩ = some (.int .i64 0) := ((hkp.2 _ _ (by omega) (by omega)).1).trans r5
  have f0' : W2.frozen? ⟨w.heap.size, 0, none⟩ = false := ((hkp.2 _ _ (by omega) (by omega)).2).trans f0
  have f1' : W2.frozen? ⟨w.heap.size, 1, none⟩ = false := ((hkp.2 _ _ (by omega) (by omega)).2).trans f1
  have f2' : W2.frozen? ⟨w.heap.size, 2, none⟩ = false := ((hkp.2 _ _ (by omega) (by omega)).2).trans f2
  have f3' : W2.frozen? ⟨w.heap.size, 3, none⟩ = false := ((hkp.2 _ _ (by omega) (by omega)).2).trans f3
  have f4' : W2.frozen? ⟨w.heap.size, 4, none⟩ = false := ((hkp.2 _ _ (by omega) (by omega)).2).trans f4
  have f5' : W2.frozen? ⟨w.heap.size, 5, none⟩ = false := ((hkp.2 _ _ (by omega) (by omega)).2).trans f5
  clear hW2 u1 u2 hR1 HU b1 d0 d1 d2 d3 d4 d5 df0 df1 df5 r0 r1 r2 r3 r4 r5 f0 f1 f2 f3 f4 f5
  have HR2 : Hid (Rdr W2 rb T n c ((i : Int) + 1 + 1 + 1)) := hR2
  have hbx : Below rb w W2 := hb1.trans hb2
  clear hR2 hb2 hkp hb1
  have hrw : rb ≠ w.heap.size := n2
  have hrw5 : rb ≠ w.heap.size + 1 + 1 + 1 + 1 + 1 := n5
  have hle2 : rb ≤ w.heap.size := by omega
  have hle5 : rb ≤ w.heap.size + 1 + 1 + 1 + 1 + 1 := by omega
  go_region
  go_wp2
  refine bodyPost_ret (v := .tuple #[.agg #[.string db, .string nm, .bool false, .int .i64 0, .int .i64 0, .int .i64 e], .bool true]) (by simp [results, Try.results13, go_sem, r0', r1', r2', r3', r4', r5']) rfl ⟨rfl, ?_, ?_⟩
  · repeat (first | with_reducible exact HR2.out | with_reducible apply Rdr.drew | with_reducible refine Rdr.other ?_ hrw | with_reducible refine Rdr.other ?_ hrw5)
  · repeat (first | with_reducible exact hbx | with_reducible apply Below.drew | with_reducible refine Below.setCell ?_ (by first | exact hle2 | exact hle5) _)
end Go.Proofs.Qxb6604038a
