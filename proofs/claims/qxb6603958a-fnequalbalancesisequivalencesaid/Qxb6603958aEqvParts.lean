/- FnEqualBalancesIsEquivalence, walked. -/
import Derived.Test.Qxb6603958aKit
import Derived.WalkSmall
namespace Go.Proofs.Qxb6603958a.fnEqualBalancesIsEquivalence
open Go.ChangeShapes Go.WideShapes Go.ChangeAt Go.RowKit

theorem info2 : (Try.prog.info? 2).map (fun i => (i.zero, i.size, i.bytes)) = some (some (.int .i64 0), 1, 8) := by kernel_rfl
theorem size2 : (Try.prog.info? 2).map (·.size) = some 1 := by kernel_rfl

/-- The row at block T, n cells long, of which the first k hold za's numbers. -/
def Twin (w : World) (T n : Nat) (za : List Int) (k : Nat) : Prop :=
  T < w.heap.size ∧ (∀ j, j < n → (w.cell? ⟨T, j, none⟩).isSome = true) ∧ (∀ j, j < k → w.cell? ⟨T, j, none⟩ = some (.int .i64 (za.getD j 0))) ∧ ∀ j, w.frozen? ⟨T, j, none⟩ = false

theorem Twin.start {w : World} {T n : Nat} {za : List Int} {cur : Array Value} {t : TypeId} (h : w.heap[T]? = some (.cells cur t (0, 0))) (hs : cur.size = n) : Twin w T n za 0 := by
  refine ⟨?_, fun j hj => ?_, fun j hj => absurd hj (by omega), fun j => ?_⟩
  · by_cases hlt : T < w.heap.size
    · exact hlt
    · rw [Array.getElem?_eq_none (by omega)] at h; cases h
  · simp [World.cell?, h]; omega
  · simp [World.frozen?, h]

theorem Twin.step {w : World} {T n : Nat} {za : List Int} {k : Nat} (h : Twin w T n za k) (hk : k < n) : Twin (w.setCell ⟨T, k, none⟩ (.int .i64 (za.getD k 0))) T n za (k + 1) := by
  obtain ⟨h1, h2, h3, h4⟩ := h
  have hsame := World.cell?_setCell_same' w ⟨T, k, none⟩ (.int .i64 (za.getD k 0)) (h2 k hk)
  have hother : ∀ j, ¬ j = k → (w.setCell ⟨T, k, none⟩ (.int .i64 (za.getD k 0))).cell? ⟨T, j, none⟩ = w.cell? ⟨T, j, none⟩ := by
    intro j e
    refine World.cell?_setCell_other _ _ _ _ ?_
    intro h; injection h; omega
  refine ⟨by simpa using h1, fun j hj => ?_, fun j hj => ?_, fun j => ?_⟩
  · by_cases e : j = k
    · subst e; rw [hsame]; rfl
    · rw [hother j e]; exact h2 j hj
  · by_cases e : j = k
    · subst e; exact hsame
    · rw [hother j e]; exact h3 j (by omega)
  · rw [World.frozen?_setCell]; exact h4 j

theorem Twin.reads {w : World} {T n : Nat} {za : List Int} (h : Twin w T n za n) (hn : n = za.length) : Reads w (some ⟨T, 0, none⟩) za := by
  intro _
  exact ⟨T, 0, rfl, h.1, fun i hi => by rw [Nat.zero_add]; exact h.2.2.1 i (by omega)⟩

theorem beq_t {a b : List Int} (h : a = b) : (a == b) = true := by simpa using h
theorem beq_f {a b : List Int} (h : ¬ a = b) : (a == b) = false := by simpa using h

theorem zb_equiv (a b c : Option Addr) (la lb lc ca cb cc : Nat) (w : World) (h1 : la ≤ 9223372036854775807) (h2 : lb ≤ 9223372036854775807) (h3 : lc ≤ 9223372036854775807) :
    Calls Try.prog 12 #[.slice a la ca, .slice b lb cb, .slice c lc cc] w fun e w' => e = .returned (.bool (decide (la + lb + lc ≤ 1048576))) ∧ w' = w := by
  by_cases h : la + lb + lc ≤ 1048576
  · have e : decide (la + lb + lc ≤ 1048576) = true := decide_eq_true h
    rw [e]
    clear e
    go_enter Try.func12, Try.ntmps12
    go_wp2
    go_ret
    exact ⟨rfl, rfl⟩
  · have e : decide (la + lb + lc ≤ 1048576) = false := decide_eq_false h
    rw [e]
    clear e
    by_cases g1 : la ≤ 1048576
    · by_cases g2 : la + lb ≤ 1048576
      · by_cases g3 : lc ≤ 1048576
        · go_enter Try.func12, Try.ntmps12
          go_wp2
          go_ret
          exact ⟨rfl, rfl⟩
        · go_enter Try.func12, Try.ntmps12
          go_wp2
          go_ret
          exact ⟨rfl, rfl⟩
      · by_cases g3 : lb ≤ 1048576
        · go_enter Try.func12, Try.ntmps12
          go_wp2
          go_ret
          exact ⟨rfl, rfl⟩
        · go_enter Try.func12, Try.ntmps12
          go_wp2
          go_ret
          exact ⟨rfl, rfl⟩
    · go_enter Try.func12, Try.ntmps12
      go_wp2
      go_ret
      exact ⟨rfl, rfl⟩
end Go.Proofs.Qxb6603958a.fnEqualBalancesIsEquivalence
