/- ZZReaderTable, walked. -/
import Derived.Test.Qxb6604038aTaC
namespace Go.Proofs.Qxb6604038a
open Go.ChangeShapes Go.WideShapes Go.ChangeAt Go.RowKit

/-- A table's value. -/
abbrev tabV (db nm : ByteArray) (e : Int) : Value := .agg #[.string db, .string nm, .bool false, .int .i64 0, .int .i64 0, .int .i64 e]

theorem rdr_new (w : World) (T n c i : Nat) (hT : T < w.heap.size) :
    Rdr ((w.alloc (.cells #[.string ⟨#[]⟩, .string ⟨#[]⟩, .bool false, .int .i64 0, .int .i64 0, .int .i64 0] 37)).alloc (.cells #[.slice (some ⟨T, 0, none⟩) n c, .int .i64 (i : Int)] 42)) (w.heap.size + 1) T n c (i : Int) := by
  refine ⟨by omega, by simp, ?_, ?_, ?_⟩
  · go_simp
  · go_simp
  · go_simp

set_option maxRecDepth 4000 in
set_option maxHeartbeats 1000000 in
theorem zzread_any (T n c i : Nat) (db nm : ByteArray) (e z : Int) (w : World) (hT : T < w.heap.size)
    (H : Hid (∀ W rb, Rdr W rb T n c (i : Int) → w.heap.size ≤ rb → Below w.heap.size w W → Calls Try.prog 13 #[.pointer (some ⟨rb, 0, none⟩)] W fun r w' => r = .returned (.tuple #[.agg #[.string db, .string nm, .bool false, .int .i64 0, .int .i64 0, .int .i64 e], .bool true]) ∧ Rdr w' rb T n c z ∧ Below rb W w')) :
    Calls Try.prog 11 #[.slice (some ⟨T, 0, none⟩) n c, .int .i64 (i : Int)] w fun r w' => r = .returned (.tuple #[.agg #[.string db, .string nm, .bool false, .int .i64 0, .int .i64 0, .int .i64 e], .bool true, .int .i64 z]) ∧ Below w.heap.size w w' := by
  go_enter Try.func11, Try.ntmps11
  go_wp2_with fail
  refine (H.out _ (w.heap.size + 1) (rdr_new w T n c i hT) (by omega) (((Below.refl _ _).alloc (Nat.le_refl _) _).alloc (by simp) _)).mono ?_
  rintro r w1 ⟨rfl, hR1, hb1⟩
  have r0 : w1.cell? ⟨w.heap.size, 0, none⟩ = some (.string ⟨#[]⟩) := by rw [hb1.cell (p := ⟨w.heap.size, 0, none⟩) (by exact Nat.lt_succ_self _)]; go_simp
  have r1 : w1.cell? ⟨w.heap.size, 1, none⟩ = some (.string ⟨#[]⟩) := by rw [hb1.cell (p := ⟨w.heap.size, 1, none⟩) (by exact Nat.lt_succ_self _)]; go_simp
  have r2 : w1.cell? ⟨w.heap.size, 2, none⟩ = some (.bool false) := by rw [hb1.cell (p := ⟨w.heap.size, 2, none⟩) (by exact Nat.lt_succ_self _)]; go_simp
  have r3 : w1.cell? ⟨w.heap.size, 3, none⟩ = some (.int .i64 0) := by rw [hb1.cell (p := ⟨w.heap.size, 3, none⟩) (by exact Nat.lt_succ_self _)]; go_simp
  have r4 : w1.cell? ⟨w.heap.size, 4, none⟩ = some (.int .i64 0) := by rw [hb1.cell (p := ⟨w.heap.size, 4, none⟩) (by exact Nat.lt_succ_self _)]; go_simp
  have r5 : w1.cell? ⟨w.heap.size, 5, none⟩ = some (.int .i64 0) := by rw [hb1.cell (p := ⟨w.heap.size, 5, none⟩) (by exact Nat.lt_succ_self _)]; go_simp
  have f0 : w1.frozen? ⟨w.heap.size, 0, none⟩ = false := by rw [hb1.frozen (p := ⟨w.heap.size, 0, none⟩) (by exact Nat.lt_succ_self _)]; go_simp
  have f1 : w1.frozen? ⟨w.heap.size, 1, none⟩ = false := by rw [hb1.frozen (p := ⟨w.heap.size, 1, none⟩) (by exact Nat.lt_succ_self _)]; go_simp
  have f2 : w1.frozen? ⟨w.heap.size, 2, none⟩ = false := by rw [hb1.frozen (p := ⟨w.heap.size, 2, none⟩) (by exact Nat.lt_succ_self _)]; go_simp
  have f3 : w1.frozen? ⟨w.heap.size, 3, none⟩ = false := by rw [hb1.frozen (p := ⟨w.heap.size, 3, none⟩) (by exact Nat.lt_succ_self _)]; go_simp
  have f4 : w1.frozen? ⟨w.heap.size, 4, none⟩ = false := by rw [hb1.frozen (p := ⟨w.heap.size, 4, none⟩) (by exact Nat.lt_succ_self _)]; go_simp
  have f5 : w1.frozen? ⟨w.heap.size, 5, none⟩ = false := by rw [hb1.frozen (p := ⟨w.heap.size, 5, none⟩) (by exact Nat.lt_succ_self _)]; go_simp
  have c1 := hR1.2.2.2.1
  have hsz : w.heap.size + 1 < w1.heap.size := hR1.2.1
  have hsz0 : w.heap.size < w1.heap.size := by omega
  have hbw : Below w.heap.size w w1 := (((Below.refl w.heap.size w).alloc (Nat.le_refl _) _).alloc (by simp) _).trans (hb1.mono (by omega))
  clear hb1 hR1 H
  go_wp2_with fail
  go_region
  go_wp2
  refine bodyPost_ret (v := .tuple #[.agg #[.string db, .string nm, .bool false, .int .i64 0, .int .i64 0, .int .i64 e], .bool true, .int .i64 z]) (by simp [results, Try.results11, go_sem, r0, r1, r2, r3, r4, r5, hsz0]) rfl ⟨rfl, ?_⟩
  repeat (first | with_reducible exact hbw | with_reducible apply Below.drew | with_reducible refine Below.setCell ?_ (by exact Nat.le_refl _) _ | with_reducible refine Below.alloc ?_ (by first | omega | (simp; omega)) _)
end Go.Proofs.Qxb6604038a
