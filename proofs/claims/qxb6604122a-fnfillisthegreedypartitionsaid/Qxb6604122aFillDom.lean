/- fillDomain and the guard on size, walked. -/
import Derived.Test.Qxb6604122aKit
import Derived.Test.Qxb6604122aFillPlain
namespace Go.Proofs.Qxb6604122a.fill
open Go.ChangeShapes Go.WideShapes Go.ChangeAt Go.RowKit

theorem zbytes_any (a : Option Addr) (c n : Nat) (room most : Int) (w : World) (hl : n ≤ 9223372036854775807) :
    Calls Try.prog 8 #[.slice a n c, .int .i64 room, .int .i64 most] w fun e w' => e = .returned (.bool (decide (n ≤ 1048576))) ∧ w' = w := by
  by_cases h : n ≤ 1048576
  · have e : decide (n ≤ 1048576) = true := decide_eq_true h
    rw [e]
    clear e
    go_enter Try.func8, Try.ntmps8
    go_wp2
    go_ret
    exact ⟨rfl, rfl⟩
  · have e : decide (n ≤ 1048576) = false := decide_eq_false h
    rw [e]
    clear e
    go_enter Try.func8, Try.ntmps8
    go_wp2
    go_ret
    exact ⟨rfl, rfl⟩

def DomEnd (ws : List Int) (room : Int) (n : Nat) (e : Ending) : Prop := ∃ r, e = .returned (.bool r) ∧ (r = true → Dom ws room n)

set_option maxHeartbeats 1000000 in
theorem domain_any (a : Option Addr) (c n : Nat) (ws : List Int) (room : Int) (w : World) (hn : Hid (n = ws.length)) (ha : Reads (Value.int .i64) 0 w a ws) (hw : ∀ n ∈ ws, (Lit.int .i64 n).wf = true) (hl : n ≤ 1048576) :
    Calls Try.prog 9 #[.slice a n c, .int .i64 room] w fun e w' => DomEnd ws room n e ∧ w' = w := by
  have HW : Hid (∀ n ∈ ws, (Lit.int .i64 n).wf = true) := hw
  clear hw
  go_enter Try.func9, Try.ntmps9
  go_wp2
  go_loop [5, 6] (fun t i => ∃ (k : Nat) (T : Int), k ≤ n ∧ i = .int .i64 k ∧ t = .int .i64 T ∧ 0 ≤ T ∧ T ≤ 9223372036854775807 ∧ Hid (T = asum ws k) ∧ ∀ j, j < k → ws.getD j 0 ≤ room ∧ -9223372036854775807 ≤ ws.getD j 0) (fun _ i => n - (intOf i).toNat)
  case atStart => exact ⟨0, 0, Nat.zero_le _, rfl, rfl, by omega, by omega, show _ = _ from rfl, fun j hj => absurd hj (by omega)⟩
  case round =>
    obtain ⟨k, T, hk, rfl, rfl, hT0, hT1, HT, hall⟩ := hrel
    have HA : Hid (∀ j, j < k → ws.getD j 0 ≤ room ∧ -9223372036854775807 ≤ ws.getD j 0) := hall
    clear hall
    by_cases hlt : k < n
    · obtain ⟨b, off, rfl, _, hc⟩ := ha (by have := hn.out; omega)
      have c1 := hc k (by have := hn.out; omega)
      have hb := bounds_i64 (HW.out (ws.getD k 0) (by rw [getD_of_lt _ _ _ (by have := hn.out; omega)]; exact List.getElem_mem _))
      obtain ⟨x, hx⟩ : ∃ x, x = ws.getD k 0 := ⟨_, rfl⟩
      rw [← hx] at c1 hb
      have HX : Hid (x = ws.getD k 0) := hx
      clear hx hc ha
      obtain ⟨hb1, hb2⟩ := hb
      by_cases g1 : room < x
      · go_wp2
        go_ret
        exact ⟨⟨_, rfl, fun h => by cases h⟩, rfl⟩
      · by_cases g2 : x < -9223372036854775807
        · go_wp2
          go_ret
          exact ⟨⟨_, rfl, fun h => by cases h⟩, rfl⟩
        · by_cases g3 : x < 0
          · by_cases g4 : 9223372036854775807 - (-x) < T
            · go_wp2
              go_ret
              exact ⟨⟨_, rfl, fun h => by cases h⟩, rfl⟩
            · go_wp2
              go_round
              case rel =>
                refine ⟨k + 1, T + -x, by omega, by go_num, by go_num, by omega, by omega, ?_, fun j hj => ?_⟩
                · show _ = _
                  simp only [asum]
                  rw [← HX.out, ← HT.out, if_pos g3]
                · by_cases e : j = k
                  · subst e; rw [← HX.out]; omega
                  · exact HA.out j (by omega)
              case measure => simp [intOf]; omega
          · by_cases g4 : 9223372036854775807 - x < T
            · go_wp2
              go_ret
              exact ⟨⟨_, rfl, fun h => by cases h⟩, rfl⟩
            · go_wp2
              go_round
              case rel =>
                refine ⟨k + 1, T + x, by omega, by go_num, by go_num, by omega, by omega, ?_, fun j hj => ?_⟩
                · show _ = _
                  simp only [asum]
                  rw [← HX.out, ← HT.out, if_neg g3]
                · by_cases e : j = k
                  · subst e; rw [← HX.out]; omega
                  · exact HA.out j (by omega)
              case measure => simp [intOf]; omega
    · obtain rfl : k = n := by omega
      clear ha
      go_wp2
      go_ret
      exact ⟨⟨_, rfl, fun _ => ⟨HA.out, by rw [← HT.out]; exact hT1⟩⟩, rfl⟩
end Go.Proofs.Qxb6604122a.fill
