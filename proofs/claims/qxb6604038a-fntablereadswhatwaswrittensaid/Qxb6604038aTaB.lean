/- (*reader).table, walked. -/
import Derived.Test.Qxb6604038aTaA
namespace Go.Proofs.Qxb6604038a
open Go.ChangeShapes Go.WideShapes Go.ChangeAt Go.RowKit
attribute [local go_sem] field_0 field_1

/-- The token at index j of the row at block T. -/
def TokAt (w : World) (T j : Nat) (k t : ByteArray) (s e : Int) : Prop :=
  T < w.heap.size ∧ w.cell? ⟨T, j * 4, none⟩ = some (.string k) ∧ w.cell? ⟨T, j * 4 + 1, none⟩ = some (.string t) ∧ w.cell? ⟨T, j * 4 + 2, none⟩ = some (.int .i64 s) ∧ w.cell? ⟨T, j * 4 + 3, none⟩ = some (.int .i64 e)

/-- The reader at block rb: its tokens lie at block T, it stands at z. -/
def Rdr (w : World) (rb T n c : Nat) (z : Int) : Prop :=
  T < rb ∧ rb < w.heap.size ∧ w.cell? ⟨rb, 0, none⟩ = some (.slice (some ⟨T, 0, none⟩) n c) ∧ w.cell? ⟨rb, 1, none⟩ = some (.int .i64 z) ∧ w.frozen? ⟨rb, 1, none⟩ = false

theorem cell_alloc {w : World} {b o : Nat} (ob : Obj) (h : b < w.heap.size) : (w.alloc ob).cell? ⟨b, o, none⟩ = w.cell? ⟨b, o, none⟩ := World.cell?_alloc_past _ _ _ h
theorem TokAt.alloc {w : World} {T j : Nat} {k t : ByteArray} {s e : Int} {ob : Obj} (h : TokAt w T j k t s e) : TokAt (w.alloc ob) T j k t s e := by
  obtain ⟨h0, h1, h2, h3, h4⟩ := h
  exact ⟨by simp; omega, by rw [cell_alloc _ h0]; exact h1, by rw [cell_alloc _ h0]; exact h2, by rw [cell_alloc _ h0]; exact h3, by rw [cell_alloc _ h0]; exact h4⟩
theorem TokAt.drew {w : World} {T j : Nat} {k t : ByteArray} {s e : Int} (h : TokAt w T j k t s e) : TokAt w.drew T j k t s e := h
theorem TokAt.set {w : World} {T j rb : Nat} {k t : ByteArray} {s e : Int} {v : Value} (h : TokAt w T j k t s e) (hne : rb ≠ T) : TokAt (w.setCell ⟨rb, 1, none⟩ v) T j k t s e := by
  obtain ⟨h0, h1, h2, h3, h4⟩ := h
  have ho : ∀ o, (w.setCell ⟨rb, 1, none⟩ v).cell? ⟨T, o, none⟩ = w.cell? ⟨T, o, none⟩ := fun o => World.cell?_setCell_other _ _ _ _ (by intro h; injection h; omega)
  exact ⟨by simpa using h0, by rw [ho]; exact h1, by rw [ho]; exact h2, by rw [ho]; exact h3, by rw [ho]; exact h4⟩
theorem Rdr.alloc {w : World} {rb T n c : Nat} {z : Int} {ob : Obj} (h : Rdr w rb T n c z) : Rdr (w.alloc ob) rb T n c z := by
  obtain ⟨h0, h1, h2, h3, h4⟩ := h
  exact ⟨h0, by simp; omega, by rw [cell_alloc _ h1]; exact h2, by rw [cell_alloc _ h1]; exact h3, by rw [((Below.refl w.heap.size w).alloc (Nat.le_refl _) ob).frozen (p := ⟨rb, 1, none⟩) h1]; exact h4⟩
theorem Rdr.drew {w : World} {rb T n c : Nat} {z : Int} (h : Rdr w rb T n c z) : Rdr w.drew rb T n c z := h
theorem Rdr.set {w : World} {rb T n c : Nat} {z z' : Int} (h : Rdr w rb T n c z) : Rdr (w.setCell ⟨rb, 1, none⟩ (.int .i64 z')) rb T n c z' := by
  obtain ⟨h0, h1, h2, h3, h4⟩ := h
  exact ⟨h0, by simpa using h1, by rw [World.cell?_setCell_other _ _ _ _ (by intro h; injection h; omega)]; exact h2, World.cell?_setCell_same' _ _ _ (by rw [h3]; rfl), by rw [World.frozen?_setCell]; exact h4⟩

theorem peek_b {rb T n c i : Nat} {z : Int} {k t : ByteArray} {s e : Int} {w : World} (hR : Rdr w rb T n c z) (hz : z = (i : Int)) (hi : i < n) (ht : TokAt w T i k t s e) :
    Calls Try.prog 18 #[.pointer (some ⟨rb, 0, none⟩)] w fun r w' => r = .returned (.agg #[.string k, .string t, .int .i64 s, .int .i64 e]) ∧ w' = (w.alloc (tokObj 31 k t s e)).drew := by
  subst hz
  exact peek_any rb T n c i k t s e w hR.2.1 ht.1 hi hR.2.2.1 hR.2.2.2.1 ht.2.1 ht.2.2.1 ht.2.2.2.1 ht.2.2.2.2

theorem next_b {rb T n c i : Nat} {z : Int} {k t : ByteArray} {s e : Int} {w : World} (hk : k = kWord ∨ k = kName ∨ k = kSym) (hR : Rdr w rb T n c z) (hz : z = (i : Int)) (hi : i < n) (hn : n ≤ 1048576) (ht : TokAt w T i k t s e) :
    Calls Try.prog 20 #[.pointer (some ⟨rb, 0, none⟩)] w fun r w' => r = .returned (.tuple #[]) ∧ w' = ((w.setCell ⟨rb, 1, none⟩ (.int .i64 (z + 1))).alloc (tokObj 31 k t s e)).drew := by
  subst hz
  exact next_any rb T n c i k t s e w hk hR.2.1 ht.1 hi hn hR.2.2.1 hR.2.2.2.1 hR.2.2.2.2 ht.2.1 ht.2.2.1 ht.2.2.2.1 ht.2.2.2.2

/-- New blocks laid. -/
def allocs (w : World) : List Obj → World
  | [] => w
  | o :: l => (allocs w l).alloc o
theorem TokAt.allocs {w : World} {T j : Nat} {k t : ByteArray} {s e : Int} (h : TokAt w T j k t s e) : ∀ l, TokAt (allocs w l) T j k t s e
  | [] => h
  | _ :: l => (h.allocs l).alloc
theorem Rdr.allocs {w : World} {rb T n c : Nat} {z : Int} (h : Rdr w rb T n c z) : ∀ l, Rdr (allocs w l) rb T n c z
  | [] => h
  | _ :: l => (h.allocs l).alloc
theorem TokAt.drewN {w : World} {T j : Nat} {k t : ByteArray} {s e : Int} (h : TokAt w T j k t s e) (q : Nat) : TokAt (w.drewN q) T j k t s e := h
theorem Rdr.drewN {w : World} {rb T n c : Nat} {z : Int} (h : Rdr w rb T n c z) (q : Nat) : Rdr (w.drewN q) rb T n c z := h
/-- New blocks and draws: nothing else. -/
structure More where
  l : List Obj
  q : Nat
def More.on (x : More) (w : World) : World := (allocs w x.l).drewN x.q
theorem More.some : Nonempty More := ⟨⟨[], 0⟩⟩
theorem cell_allocs {w : World} {b o : Nat} (h : b < w.heap.size) : ∀ l, w.heap.size ≤ (allocs w l).heap.size ∧ (allocs w l).cell? ⟨b, o, none⟩ = w.cell? ⟨b, o, none⟩
  | [] => ⟨Nat.le_refl _, rfl⟩
  | ob :: l => by
    obtain ⟨h1, h2⟩ := cell_allocs (o := o) h l
    exact ⟨by simp [allocs]; omega, by rw [allocs, cell_alloc _ (by omega), h2]⟩
theorem cell_on (x : More) (w : World) (b o : Nat) (h : b < w.heap.size) : (x.on w).cell? ⟨b, o, none⟩ = w.cell? ⟨b, o, none⟩ := (cell_allocs h x.l).2
theorem frozen_allocs {w : World} {b o : Nat} (h : b < w.heap.size) : ∀ l, w.heap.size ≤ (allocs w l).heap.size ∧ (allocs w l).frozen? ⟨b, o, none⟩ = w.frozen? ⟨b, o, none⟩
  | [] => ⟨Nat.le_refl _, rfl⟩
  | ob :: l => by
    obtain ⟨h1, h2⟩ := frozen_allocs (o := o) h l
    exact ⟨by simp [allocs]; omega, by rw [allocs, ((Below.refl (allocs w l).heap.size (allocs w l)).alloc (Nat.le_refl _) ob).frozen (p := ⟨b, o, none⟩) (by exact Nat.lt_of_lt_of_le h h1), h2]⟩
theorem frozen_on (x : More) (w : World) (b o : Nat) (h : b < w.heap.size) : (x.on w).frozen? ⟨b, o, none⟩ = w.frozen? ⟨b, o, none⟩ := (frozen_allocs h x.l).2
theorem below_allocs (w : World) : ∀ l, Below w.heap.size w (allocs w l)
  | [] => Below.refl _ _
  | ob :: l => (below_allocs w l).alloc (below_allocs w l).size ob
theorem below_on (x : More) (w : World) : Below w.heap.size w (x.on w) := below_drewN (below_allocs w x.l) _
attribute [local go_sem] cell_on frozen_on

theorem peek_ext {W : World} {rb T n c i : Nat} {z : Int} {k t : ByteArray} {s e : Int} (hR : Rdr W rb T n c z) (hz : z = (i : Int)) (hi : i < n) (ht : TokAt W T i k t s e) (x : More) :
    Calls Try.prog 18 #[.pointer (some ⟨rb, 0, none⟩)] (x.on W) fun r w' => r = .returned (.agg #[.string k, .string t, .int .i64 s, .int .i64 e]) ∧ ∃ y : More, w' = y.on W :=
  (peek_b ((hR.allocs x.l).drewN x.q) hz hi ((ht.allocs x.l).drewN x.q)).mono fun _ _ ⟨h1, h2⟩ => ⟨h1, ⟨tokObj 31 k t s e :: x.l, x.q + 1⟩, by rw [h2]; rfl⟩

theorem isName_ext {W : World} {k t : ByteArray} {s e : Int} (hk : k = kWord ∨ k = kName) (x : More) :
    Calls Try.prog 19 #[.agg #[.string k, .string t, .int .i64 s, .int .i64 e]] (x.on W) fun r w' => r = .returned (.bool true) ∧ ∃ y : More, w' = y.on W :=
  (isName_any k t s e _ hk).mono fun _ _ ⟨h1, h2⟩ => ⟨h1, ⟨tokObj 31 k t s e :: x.l, x.q⟩, by rw [h2]; rfl⟩

theorem Rdr.on {w : World} {rb T n c : Nat} {z : Int} (h : Rdr w rb T n c z) (x : More) : Rdr (x.on w) rb T n c z := (h.allocs x.l).drewN x.q
theorem TokAt.on {w : World} {T j : Nat} {k t : ByteArray} {s e : Int} (h : TokAt w T j k t s e) (x : More) : TokAt (x.on w) T j k t s e := (h.allocs x.l).drewN x.q
theorem Rdr.other {w : World} {rb T n c b o : Nat} {z : Int} {v : Value} (h : Rdr w rb T n c z) (hb : rb ≠ b) : Rdr (w.setCell ⟨b, o, none⟩ v) rb T n c z := by
  obtain ⟨h0, h1, h2, h3, h4⟩ := h
  have ho : ∀ j, (w.setCell ⟨b, o, none⟩ v).cell? ⟨rb, j, none⟩ = w.cell? ⟨rb, j, none⟩ := fun j => World.cell?_setCell_other _ _ _ _ (by intro h; injection h; omega)
  exact ⟨h0, by simpa using h1, by rw [ho]; exact h2, by rw [ho]; exact h3, by rw [World.frozen?_setCell]; exact h4⟩

theorem wp_gen {P : Program} {s : Code} {Q : Exit → Act → World → Prop} {a : Act} {w : World} (h : ∀ W, W = w → s.wp P Q a W) : s.wp P Q a w := h w rfl

theorem or3 {k : ByteArray} (h : k = kWord ∨ k = kName) : k = kWord ∨ k = kName ∨ k = kSym := by
  rcases h with h | h
  · exact .inl h
  · exact .inr (.inl h)

set_option maxRecDepth 4000 in
set_option maxHeartbeats 2000000 in
theorem table_one (rb T n c i : Nat) (k nm : ByteArray) (e : Int) (w : World) (hk : k = kWord ∨ k = kName) (hi : i + 1 < n) (hn : n ≤ 1048576) (hR : Rdr w rb T n c (i : Int))
    (t0 : TokAt w T i k nm 0 e) (t1 : TokAt w T (i + 1) kEnd ⟨#[]⟩ e e) :
    Calls Try.prog 13 #[.pointer (some ⟨rb, 0, none⟩)] w fun r w' => r = .returned (.tuple #[.agg #[.string ⟨#[]⟩, .string nm, .bool false, .int .i64 0, .int .i64 0, .int .i64 e], .bool true]) ∧ Rdr w' rb T n c ((i : Int) + 1) ∧ Below rb w w' := by
  have hne : rb ≠ T := by have := hR.1; omega
  have hrb := hR.2.1
  go_enter Try.func13, Try.ntmps13
  go_wp2_with fail
  refine (peek_b (k := k) (t := nm) (s := 0) (e := e) (i := i) (by repeat (first | with_reducible exact hR | with_reducible apply Rdr.drew | with_reducible apply Rdr.alloc | with_reducible apply Rdr.set)) rfl (by omega) (by repeat (first | with_reducible exact t0 | with_reducible apply TokAt.drew | with_reducible apply TokAt.alloc | with_reducible refine TokAt.set ?_ hne))).mono ?_
  rintro r w' ⟨rfl, hw⟩
  subst hw
  go_wp2_with fail
  refine (isName_any k nm 0 e _ hk).mono ?_
  rintro r w' ⟨rfl, hw⟩
  subst hw
  go_wp2_with fail
  refine (next_b (k := k) (t := nm) (s := 0) (e := e) (i := i) (or3 hk) (by repeat (first | with_reducible exact hR | with_reducible apply Rdr.drew | with_reducible apply Rdr.alloc | with_reducible apply Rdr.set)) rfl (by omega) hn (by repeat (first | with_reducible exact t0 | with_reducible apply TokAt.drew | with_reducible apply TokAt.alloc | with_reducible refine TokAt.set ?_ hne))).mono ?_
  rintro r w' ⟨rfl, hw⟩
  subst hw
  go_upto_region 6 with fail
  refine wp_gen fun W hW => ?_
  have hRW : Rdr W rb T n c ((i : Int) + 1) := by rw [hW]; exact (by repeat (first | with_reducible exact hR | with_reducible apply Rdr.drew | with_reducible apply Rdr.alloc | with_reducible apply Rdr.set))
  have tW : TokAt W T (i + 1) kEnd ⟨#[]⟩ e e := by rw [hW]; exact (by repeat (first | with_reducible exact t1 | with_reducible apply TokAt.drew | with_reducible apply TokAt.alloc | with_reducible refine TokAt.set ?_ hne))
  have hbW : Below rb w W := by rw [hW]; exact (by repeat (first | with_reducible exact Below.refl _ _ | with_reducible apply Below.drew | with_reducible refine Below.setCell ?_ (by exact Nat.le_refl _) _ | with_reducible refine Below.alloc ?_ (by first | omega | (simp; omega)) _))
  have hs2 : W.heap.size = w.heap.size + 6 := by rw [hW]; simp
  refine wp_region_quiet (C := fun w' => ∃ x : More, w' = x.on W) (by kernel_rfl) (by kernel_rfl) ⟨⟨[], 1⟩, rfl⟩ ?_
  have HW : Hid (Rdr W rb T n c ((i : Int) + 1) ∧ TokAt W T (i + 1) kEnd ⟨#[]⟩ e e) := ⟨hRW, tW⟩
  have HWE := show Hid _ from hW
  have hmore := More.some
  clear hRW tW hW
  repeat (first | go_big_quiet_step (exact peek_ext HW.out.1 (i := i + 1) (by omega) (by omega) HW.out.2 _) | quiet_step (exact peek_ext HW.out.1 (i := i + 1) (by omega) (by omega) HW.out.2 _))
  refine wpQuiet_nil ?_
  rintro w' ⟨x, rfl⟩
  have d0 : W.cell? ⟨w.heap.size + 1 + 1 + 1 + 1 + 1, 0, none⟩ = some (.string ⟨#[]⟩) := by rw [HWE.out]; go_simp
  have d1 : W.cell? ⟨w.heap.size + 1 + 1 + 1 + 1 + 1, 1, none⟩ = some (.string nm) := by rw [HWE.out]; go_simp
  have d2 : W.cell? ⟨w.heap.size + 1 + 1 + 1 + 1 + 1, 2, none⟩ = some (.bool false) := by rw [HWE.out]; go_simp
  have d3 : W.cell? ⟨w.heap.size + 1 + 1 + 1 + 1 + 1, 3, none⟩ = some (.int .i64 0) := by rw [HWE.out]; go_simp
  have d4 : W.cell? ⟨w.heap.size + 1 + 1 + 1 + 1 + 1, 4, none⟩ = some (.int .i64 0) := by rw [HWE.out]; go_simp
  have d5 : W.cell? ⟨w.heap.size + 1 + 1 + 1 + 1 + 1, 5, none⟩ = some (.int .i64 e) := by rw [HWE.out]; go_simp
  have r0 : W.cell? ⟨w.heap.size, 0, none⟩ = some (.string ⟨#[]⟩) := by rw [HWE.out]; go_simp
  have r1 : W.cell? ⟨w.heap.size, 1, none⟩ = some (.string ⟨#[]⟩) := by rw [HWE.out]; go_simp
  have r2 : W.cell? ⟨w.heap.size, 2, none⟩ = some (.bool false) := by rw [HWE.out]; go_simp
  have r3 : W.cell? ⟨w.heap.size, 3, none⟩ = some (.int .i64 0) := by rw [HWE.out]; go_simp
  have r4 : W.cell? ⟨w.heap.size, 4, none⟩ = some (.int .i64 0) := by rw [HWE.out]; go_simp
  have r5 : W.cell? ⟨w.heap.size, 5, none⟩ = some (.int .i64 0) := by rw [HWE.out]; go_simp
  have f0 : W.frozen? ⟨w.heap.size, 0, none⟩ = false := by rw [HWE.out]; go_simp
  have f1 : W.frozen? ⟨w.heap.size, 1, none⟩ = false := by rw [HWE.out]; go_simp
  have f2 : W.frozen? ⟨w.heap.size, 2, none⟩ = false := by rw [HWE.out]; go_simp
  have f3 : W.frozen? ⟨w.heap.size, 3, none⟩ = false := by rw [HWE.out]; go_simp
  have f4 : W.frozen? ⟨w.heap.size, 4, none⟩ = false := by rw [HWE.out]; go_simp
  have f5 : W.frozen? ⟨w.heap.size, 5, none⟩ = false := by rw [HWE.out]; go_simp
  have hsz : w.heap.size + 1 + 1 + 1 + 1 + 1 < W.heap.size := by omega
  have hsz0 : w.heap.size < W.heap.size := by omega
  clear HWE hs2
  have HRx : Hid (Rdr (x.on W) rb T n c ((i : Int) + 1)) := HW.out.1.on x
  have hbx : Below rb w (x.on W) := hbW.trans ((below_on x W).mono (by omega))
  have hrw : rb ≠ w.heap.size := by omega
  go_wp2
  exact bodyPost_ret (v := .tuple #[.agg #[.string ⟨#[]⟩, .string nm, .bool false, .int .i64 0, .int .i64 0, .int .i64 e], .bool true]) (by simp [results, Try.results13, go_sem, r0, r1, r2, r3, r4, r5, hsz0]) rfl
    ⟨rfl, (by repeat (first | with_reducible exact HRx.out | with_reducible refine Rdr.other ?_ hrw)), (by repeat (first | with_reducible exact hbx | with_reducible refine Below.setCell ?_ (by exact Nat.le_of_lt hrb) _))⟩
end Go.Proofs.Qxb6604038a
