/- The callees' contracts. -/
import Derived.Test.Qxb6603882aRows
import Derived.WalkKit
import Derived.ProofKit
import Derived.OpenShut
namespace Go.Proofs.Qxb6603882a
open Go.ChangeShapes Go.WideShapes Go.ChangeAt Go.RowKit

def prec (n : Int) : Int := if n = 1 then 4 else if n = 3 then 3 else if n = 4 then 2 else if n = 0 then 1 else 0
def rankedB (n : Int) : Bool := decide (n = 1 ∨ n = 3 ∨ n = 4 ∨ n = 0)

set_option maxHeartbeats 400000 in
theorem precedence_any (n : Int) (w : World) :
    Calls Try.prog 7 #[.int .u8 n] w fun e w' => e = .returned (.int .i64 (prec n)) ∧ w' = w := by
  by_cases h1 : n = 1
  · subst h1
    go_enter Try.func7, Try.ntmps7
    go_wp2
    go_ret
    exact ⟨rfl, rfl⟩
  by_cases h3 : n = 3
  · subst h3
    go_enter Try.func7, Try.ntmps7
    go_wp2
    go_ret
    exact ⟨rfl, rfl⟩
  by_cases h4 : n = 4
  · subst h4
    go_enter Try.func7, Try.ntmps7
    go_wp2
    go_ret
    exact ⟨rfl, rfl⟩
  by_cases h0 : n = 0
  · subst h0
    go_enter Try.func7, Try.ntmps7
    go_wp2
    go_ret
    exact ⟨rfl, rfl⟩
  have hp : prec n = 0 := by unfold prec; simp [h1, h3, h4, h0]
  have g1 : (n == 1) = false := by simpa using h1
  have g3 : (n == 3) = false := by simpa using h3
  have g4 : (n == 4) = false := by simpa using h4
  have g0 : (n == 0) = false := by simpa using h0
  rw [hp]
  clear hp h1 h3 h4 h0
  go_enter Try.func7, Try.ntmps7
  go_wp2
  go_ret
  exact ⟨rfl, rfl⟩

theorem zzprec_any (n : Int) (w : World) :
    Calls Try.prog 5 #[.int .u8 n] w fun e w' => e = .returned (.int .i64 (prec n)) ∧ w' = w := by
  go_enter Try.func5, Try.ntmps5
  go_wp2_with (go_at_call 7; refine (precedence_any _ _).mono ?_; rintro e w' ⟨rfl, rfl⟩)
  go_ret
  exact ⟨rfl, rfl⟩

set_option maxHeartbeats 400000 in
theorem ranked_any (n : Int) (w : World) :
    Calls Try.prog 6 #[.int .u8 n] w fun e w' => e = .returned (.bool (rankedB n)) ∧ w' = w := by
  by_cases h1 : n = 1
  · subst h1
    go_enter Try.func6, Try.ntmps6
    go_wp2
    go_ret
    exact ⟨rfl, rfl⟩
  by_cases h3 : n = 3
  · subst h3
    go_enter Try.func6, Try.ntmps6
    go_wp2
    go_ret
    exact ⟨rfl, rfl⟩
  by_cases h4 : n = 4
  · subst h4
    go_enter Try.func6, Try.ntmps6
    go_wp2
    go_ret
    exact ⟨rfl, rfl⟩
  by_cases h0 : n = 0
  · subst h0
    go_enter Try.func6, Try.ntmps6
    go_wp2
    go_ret
    exact ⟨rfl, rfl⟩
  have hp : rankedB n = false := by unfold rankedB; simp [h1, h3, h4, h0]
  have g1 : (n == 1) = false := by simpa using h1
  have g3 : (n == 3) = false := by simpa using h3
  have g4 : (n == 4) = false := by simpa using h4
  have g0 : (n == 0) = false := by simpa using h0
  rw [hp]
  clear hp h1 h3 h4 h0
  go_enter Try.func6, Try.ntmps6
  go_wp2
  go_ret
  exact ⟨rfl, rfl⟩

theorem prec_1 : prec 1 = 4 := rfl
theorem prec_3 : prec 3 = 3 := rfl
theorem prec_4 : prec 4 = 2 := rfl
theorem prec_0 : prec 0 = 1 := rfl
theorem prec_2 : prec 2 = 0 := rfl
theorem prec_5 : prec 5 = 0 := rfl
theorem prec_range (n : Int) : 0 ≤ prec n ∧ prec n ≤ 4 := by unfold prec; omega
theorem ranked_prec {n : Int} (h : rankedB n = true) : 1 ≤ prec n := by
  unfold rankedB at h; unfold prec; simp only [decide_eq_true_eq] at h; omega
theorem unranked_prec {n : Int} (h : rankedB n = false) : prec n = 0 := by
  unfold rankedB at h; unfold prec; simp only [decide_eq_false_iff_not] at h; omega
theorem top_prec {n : Int} (h : n ≠ 1) : prec n < 4 := by unfold prec; omega
theorem tie_iff {a b : Int} (ha : rankedB a = true ∨ rankedB b = true) : (prec a = prec b) ↔ a = b := by
  unfold rankedB at ha; unfold prec; simp only [decide_eq_true_eq] at ha; omega
end Go.Proofs.Qxb6603882a
