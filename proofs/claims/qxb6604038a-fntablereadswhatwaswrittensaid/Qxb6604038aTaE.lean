/- The two guards on size, walked. -/
import Derived.Test.Qxb6604038aTaA
namespace Go.Proofs.Qxb6604038a
open Go.ChangeShapes Go.WideShapes Go.ChangeAt Go.RowKit

/-- A token of the lead: kind, text, start, end. -/
structure Tk where
  k : ByteArray
  t : ByteArray
  s : Int
  e : Int
def tk0 : Tk := ⟨⟨#[]⟩, ⟨#[]⟩, 0, 0⟩

/-- The lead at 'a' can be read in w. -/
def Lead (w : World) (a : Option Addr) (L : List Tk) : Prop :=
  0 < L.length → ∃ b o, a = some ⟨b, o, none⟩ ∧ b < w.heap.size ∧ ∀ i, i < L.length → w.cell? ⟨b, o + i * 4, none⟩ = some (.string (L.getD i tk0).k) ∧ w.cell? ⟨b, o + i * 4 + 1, none⟩ = some (.string (L.getD i tk0).t) ∧
    w.cell? ⟨b, o + i * 4 + 2, none⟩ = some (.int .i64 (L.getD i tk0).s) ∧ w.cell? ⟨b, o + i * 4 + 3, none⟩ = some (.int .i64 (L.getD i tk0).e) ∧ (L.getD i tk0).k.size ≤ 9223372036854775807 ∧ (L.getD i tk0).t.size ≤ 9223372036854775807

theorem Lead.below {w w' : World} {a : Option Addr} {L : List Tk} (h : Lead w a L) (hb : Below w.heap.size w w') : Lead w' a L := by
  intro hp
  obtain ⟨b, o, rfl, hlt, hc⟩ := h hp
  refine ⟨b, o, rfl, Nat.lt_of_lt_of_le hlt hb.size, fun i hi => ?_⟩
  obtain ⟨h1, h2, h3, h4, h5, h6⟩ := hc i hi
  exact ⟨by rw [hb.cell (p := ⟨b, o + i * 4, none⟩) hlt]; exact h1, by rw [hb.cell (p := ⟨b, o + i * 4 + 1, none⟩) hlt]; exact h2, by rw [hb.cell (p := ⟨b, o + i * 4 + 2, none⟩) hlt]; exact h3,
    by rw [hb.cell (p := ⟨b, o + i * 4 + 3, none⟩) hlt]; exact h4, h5, h6⟩

/-- What the first guard lets through. -/
def Fits (n : Nat) (L : List Tk) : Prop := n ≤ 1048576 ∧ ∀ i, i < n → (L.getD i tk0).k.size ≤ 1048576 ∧ (L.getD i tk0).t.size ≤ 1048576

def GuardEnd (n : Nat) (L : List Tk) (db nm : ByteArray) (e : Ending) : Prop := ∃ r, e = .returned (.bool r) ∧ (r = true → Fits n L ∧ db.size ≤ 1048576 ∧ nm.size ≤ 1048576)

set_option maxRecDepth 4000 in
set_option maxHeartbeats 2000000 in
theorem zbytes_any (a : Option Addr) (c n : Nat) (L : List Tk) (db nm : ByteArray) (x y z : Bool) (w : World) (hn : Hid (n = L.length)) (ha : Lead w a L) (hl : n ≤ 9223372036854775807) (hd : db.size ≤ 9223372036854775807) (hm : nm.size ≤ 9223372036854775807) :
    Calls Try.prog 7 #[.slice a n c, .string db, .string nm, .bool x, .bool y, .bool z] w fun e w' => GuardEnd n L db nm e ∧ w' = w := by
  by_cases h1 : n ≤ 1048576
  · go_enter Try.func7, Try.ntmps7
    go_wp2
    go_loop [13, 14] (fun s i => ∃ k q : Nat, k ≤ n ∧ i = .int .i64 k ∧ q ≤ 1048576 ∧ s = .int .i64 q ∧ ∀ j, j < k → (L.getD j tk0).k.size ≤ 1048576 ∧ (L.getD j tk0).t.size ≤ 1048576) (fun _ i => n - (intOf i).toNat)
    case atStart => exact ⟨0, n, Nat.zero_le _, rfl, h1, rfl, fun j hj => absurd hj (by omega)⟩
    case round =>
      obtain ⟨k, q, hk, rfl, hq, rfl, hall⟩ := hrel
      have HA : Hid (∀ j, j < k → (L.getD j tk0).k.size ≤ 1048576 ∧ (L.getD j tk0).t.size ≤ 1048576) := hall
      clear hall
      by_cases hlt : k < n
      · obtain ⟨b, o, rfl, _, hc⟩ := ha (by have := hn.out; omega)
        obtain ⟨c1, c2, _, _, m1, m2⟩ := hc k (by have := hn.out; omega)
        obtain ⟨K, hK⟩ : ∃ K, K = (L.getD k tk0).k := ⟨_, rfl⟩
        obtain ⟨X, hX⟩ : ∃ X, X = (L.getD k tk0).t := ⟨_, rfl⟩
        rw [← hK] at c1 m1
        rw [← hX] at c2 m2
        have HK : Hid (K = (L.getD k tk0).k ∧ X = (L.getD k tk0).t) := ⟨hK, hX⟩
        clear hc ha hK hX
        by_cases g1 : K.size ≤ 1048576
        · by_cases g2 : q + K.size ≤ 1048576
          · by_cases g3 : X.size ≤ 1048576
            · by_cases g4 : q + K.size + X.size ≤ 1048576
              · go_wp2
                go_round
                case rel =>
                  refine ⟨k + 1, q + K.size + X.size, by omega, by go_num, g4, by go_num, fun j hj => ?_⟩
                  by_cases e : j = k
                  · subst e; rw [← HK.out.1, ← HK.out.2]; exact ⟨g1, g3⟩
                  · exact HA.out j (by omega)
                case measure => simp [intOf]; omega
              · go_wp2
                go_ret
                exact ⟨⟨_, rfl, fun h => by cases h⟩, rfl⟩
            · go_wp2
              go_ret
              exact ⟨⟨_, rfl, fun h => by cases h⟩, rfl⟩
          · go_wp2
            go_ret
            exact ⟨⟨_, rfl, fun h => by cases h⟩, rfl⟩
        · go_wp2
          go_ret
          exact ⟨⟨_, rfl, fun h => by cases h⟩, rfl⟩
      · obtain rfl : k = n := by omega
        clear ha
        by_cases g1 : db.size ≤ 1048576
        · by_cases g2 : q + db.size ≤ 1048576
          · by_cases g3 : nm.size ≤ 1048576
            · by_cases g4 : q + db.size + nm.size ≤ 1048576
              · go_wp2
                go_ret
                exact ⟨⟨_, rfl, fun _ => ⟨⟨h1, HA.out⟩, g1, g3⟩⟩, rfl⟩
              · go_wp2
                go_ret
                exact ⟨⟨_, rfl, fun h => by cases h⟩, rfl⟩
            · go_wp2
              go_ret
              exact ⟨⟨_, rfl, fun h => by cases h⟩, rfl⟩
          · go_wp2
            go_ret
            exact ⟨⟨_, rfl, fun h => by cases h⟩, rfl⟩
        · go_wp2
          go_ret
          exact ⟨⟨_, rfl, fun h => by cases h⟩, rfl⟩
  · clear ha
    go_enter Try.func7, Try.ntmps7
    go_wp2
    go_ret
    exact ⟨⟨_, rfl, fun h => by cases h⟩, rfl⟩

def SomeBool (e : Ending) : Prop := ∃ r, e = .returned (.bool r)

set_option maxRecDepth 20000 in
set_option maxHeartbeats 1000000 in
theorem fit_any (a : Option Addr) (c n : Nat) (x : Nat) (L : List Tk) (w : World) (hn : Hid (n = L.length)) (ha : Lead w a L) (hf : Fits n L) (hx : x ≤ 1048576) :
    Calls Try.prog 8 #[.slice a n c, .int .i64 (x : Int)] w fun e w' => SomeBool e ∧ ∃ q, w' = w.drewN q := by
  have HF : Hid (Fits n L) := hf
  have hl := hf.1
  clear hf
  go_enter Try.func8, Try.ntmps8
  go_wp2
  go_loopw [5, 6] (fun s i wr => ∃ k q : Nat, k ≤ n ∧ i = .int .i64 k ∧ q ≤ 1048576 ∧ s = .int .i64 q ∧ ∃ d, wr = w.drewN d) (fun _ i _ => n - (intOf i).toNat)
  case atStart => exact ⟨0, x, Nat.zero_le _, rfl, hx, rfl, 0, rfl⟩
  case round =>
    obtain ⟨k, q, hk, rfl, hq, rfl, d, rfl⟩ := hrel
    by_cases hlt : k < n
    · obtain ⟨b, o, rfl, _, hc⟩ := ha (by have := hn.out; omega)
      obtain ⟨c1, c2, _, _, _, _⟩ := hc k (by have := hn.out; omega)
      obtain ⟨m1, m2⟩ := HF.out.2 k hlt
      obtain ⟨K, hK⟩ : ∃ K, K = (L.getD k tk0).k := ⟨_, rfl⟩
      obtain ⟨X, hX⟩ : ∃ X, X = (L.getD k tk0).t := ⟨_, rfl⟩
      rw [← hK] at c1 m1
      rw [← hX] at c2 m2
      clear hc ha hK hX
      have hlt' : (k : Int) < (n : Int) := by omega
      have hlt0 : (0 : Int) ≤ (k : Int) := by omega
      clear HF hn
      by_cases g : (q : Int) + ((K.size : Int) + (X.size : Int) + 16) ≤ 1048576
      · have HG : Hid ((q : Int) + ((K.size : Int) + (X.size : Int) + 16) ≤ 1048576) := g
        have g' : decide ((1048576 : Int) < (q : Int) + ((K.size : Int) + (X.size : Int) + 16)) = false := decide_eq_false (by omega)
        clear g
        go_wp2
        go_quiet (fail)
        go_wp2
        go_roundw
        case rel => exact ⟨k + 1, q + (K.size + X.size + 16), by omega, by go_num, by have := HG.out; omega, by go_num, _, by first | rfl | rw [World.drewN_drewN]⟩
        case measure => simp [intOf]; omega
      · go_wp2
        go_quiet (fail)
        go_wp2
        go_ret
        exact ⟨⟨_, rfl⟩, _, by first | rfl | rw [World.drewN_drewN]⟩
    · clear ha
      go_wp2
      go_ret
      exact ⟨⟨_, rfl⟩, _, rfl⟩
end Go.Proofs.Qxb6604038a
