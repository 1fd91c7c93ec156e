/- The two guards on size of FnWithinMatchesSearchModel. -/
import Derived.Test.Qxb6603958aWiA
namespace Go.Proofs.Qxb6603958a.within
open Go.ChangeShapes Go.WideShapes Go.ChangeAt Go.RowKit

/-- It has returned some bool. -/
def SomeBool (e : Ending) : Prop := ∃ r, e = .returned (.bool r)

set_option maxHeartbeats 400000 in
theorem zbytes_any (a s : Option Addr) (ca cs n m : Nat) (ss : List (List Int)) (w : World) (hm : Hid (m = ss.length)) (hs : RowsRead w s ss) (hl : n ≤ 9223372036854775807) (hlm : m ≤ 9223372036854775807) :
    Calls Try.prog 6 #[.slice a n ca, .slice s m cs] w fun e w' => SomeBool e ∧ w' = w := by
  by_cases h1 : n ≤ 1048576
  · by_cases h2 : m ≤ 1048576
    · by_cases h3 : n + m ≤ 1048576
      · go_enter Try.func6, Try.ntmps6
        go_wp2
        go_loop [5, 6] (fun z i => ∃ k q : Nat, k ≤ m ∧ i = .int .i64 k ∧ q ≤ 1048576 ∧ z = .int .i64 q) (fun _ i => m - (intOf i).toNat)
        case atStart => exact ⟨0, n + m, Nat.zero_le _, rfl, h3, by go_num⟩
        case round =>
          obtain ⟨k, q, hk, rfl, hq, rfl⟩ := hrel
          by_cases hlt : k < m
          · obtain ⟨b, off, rfl, _, hc⟩ := hs (by have := hm.out; omega)
            obtain ⟨sa, sc, c1, _, hL⟩ := hc k (by have := hm.out; omega)
            obtain ⟨L, hL'⟩ : ∃ L, L = (ss.getD k []).length := ⟨_, rfl⟩
            rw [← hL'] at c1 hL
            clear hc hs hL'
            by_cases h4 : L ≤ 1048576
            · by_cases h5 : q + L ≤ 1048576
              · go_wp2
                go_round
                case rel => exact ⟨k + 1, q + L, by omega, by go_num, h5, by go_num⟩
                case measure => simp [intOf]; omega
              · go_wp2
                go_ret
                exact ⟨⟨_, rfl⟩, rfl⟩
            · go_wp2
              go_ret
              exact ⟨⟨_, rfl⟩, rfl⟩
          · clear hs
            go_wp2
            go_ret
            exact ⟨⟨_, rfl⟩, rfl⟩
      · clear hs
        go_enter Try.func6, Try.ntmps6
        go_wp2
        go_ret
        exact ⟨⟨_, rfl⟩, rfl⟩
    · clear hs
      go_enter Try.func6, Try.ntmps6
      go_wp2
      go_ret
      exact ⟨⟨_, rfl⟩, rfl⟩
  · clear hs
    go_enter Try.func6, Try.ntmps6
    go_wp2
    go_ret
    exact ⟨⟨_, rfl⟩, rfl⟩

/-- What the guard b1WithinBytes lets through. -/
def Small (n m : Nat) (ss : List (List Int)) : Prop := n ≤ 4096 ∧ m ≤ 4096 ∧ ∀ i, i < m → (ss.getD i []).length ≤ 4096

set_option maxHeartbeats 400000 in
theorem wbytes_any (a s : Option Addr) (ca cs n m : Nat) (ss : List (List Int)) (w : World) (hm : Hid (m = ss.length)) (hs : RowsRead w s ss) (hl : n ≤ 9223372036854775807) (hlm : m ≤ 9223372036854775807) :
    Calls Try.prog 7 #[.slice a n ca, .slice s m cs] w fun e w' => (∃ r, e = .returned (.int .i64 r) ∧ (r = -1 ∨ (0 ≤ r ∧ Small n m ss))) ∧ w' = w := by
  by_cases h1 : n ≤ 4096
  · by_cases h2 : m ≤ 4096
    · go_enter Try.func7, Try.ntmps7
      go_wp2
      go_loop [5, 6] (fun z i => ∃ k q : Nat, k ≤ m ∧ i = .int .i64 k ∧ q ≤ 4096 ∧ z = .int .i64 q ∧ ∀ j, j < k → (ss.getD j []).length ≤ 4096) (fun _ i => m - (intOf i).toNat)
      case atStart => exact ⟨0, 0, Nat.zero_le _, rfl, by omega, rfl, fun j hj => absurd hj (by omega)⟩
      case round =>
        obtain ⟨k, q, hk, rfl, hq, rfl, hall⟩ := hrel
        have HA : Hid (∀ j, j < k → (ss.getD j []).length ≤ 4096) := hall
        clear hall
        by_cases hlt : k < m
        · obtain ⟨b, off, rfl, _, hc⟩ := hs (by have := hm.out; omega)
          obtain ⟨sa, sc, c1, _, hL⟩ := hc k (by have := hm.out; omega)
          obtain ⟨L, hL'⟩ : ∃ L, L = (ss.getD k []).length := ⟨_, rfl⟩
          rw [← hL'] at c1 hL
          have HL : Hid (L = (ss.getD k []).length) := hL'
          clear hc hs hL'
          by_cases h4 : L ≤ 4096
          · by_cases h5 : q + L ≤ 4096
            · go_wp2
              go_round
              case rel =>
                refine ⟨k + 1, q + L, by omega, by go_num, h5, by go_num, fun j hj => ?_⟩
                by_cases e : j = k
                · subst e; rw [← HL.out]; exact h4
                · exact HA.out j (by omega)
              case measure => simp [intOf]; omega
            · go_wp2
              go_ret
              exact ⟨⟨_, rfl, .inl rfl⟩, rfl⟩
          · go_wp2
            go_ret
            exact ⟨⟨_, rfl, .inl rfl⟩, rfl⟩
        · clear hs
          go_wp2
          go_ret
          exact ⟨⟨_, rfl, .inr ⟨by omega, h1, h2, fun j hj => HA.out j (by omega)⟩⟩, rfl⟩
    · clear hs
      go_enter Try.func7, Try.ntmps7
      go_wp2
      go_ret
      exact ⟨⟨_, rfl, .inl rfl⟩, rfl⟩
  · clear hs
    go_enter Try.func7, Try.ntmps7
    go_wp2
    go_ret
    exact ⟨⟨_, rfl, .inl rfl⟩, rfl⟩
end Go.Proofs.Qxb6603958a.within
