/- The contracts of equalBalances and its neighbours. -/
import Derived.Test.Qxb6603958aRows
import Derived.WalkKit
import Derived.ProofKit
import Derived.OpenShut
import Derived.ShutString
import Derived.ChangeOld
import Derived.Below
import Derived.Deep.QuietTactic
import Derived.BigQuiet
import Derived.RegionTactic
namespace Go.Proofs.Qxb6603958a
open Go.ChangeShapes Go.WideShapes Go.ChangeAt Go.RowKit

/-- A slice at 'a' whose elements are 'zs' (int64 or int) can be read in w. -/
def Reads (w : World) (a : Option Addr) (zs : List Int) : Prop :=
  0 < zs.length → ∃ b off, a = some ⟨b, off, none⟩ ∧ b < w.heap.size ∧ ∀ i, i < zs.length → w.cell? ⟨b, off + i, none⟩ = some (.int .i64 (zs.getD i 0))

theorem take_succ_getD (l : List Int) (k : Nat) (h : k < l.length) : l.take (k + 1) = l.take k ++ [l.getD k 0] := by
  rw [List.take_succ_eq_append_getElem h, List.getD_eq_getElem?_getD, List.getElem?_eq_getElem h]; rfl

theorem take_step {za zb : List Int} {k : Nat} (ha : k < za.length) (hb : k < zb.length) (h : za.take k = zb.take k) (he : za.getD k 0 = zb.getD k 0) : za.take (k + 1) = zb.take (k + 1) := by
  rw [take_succ_getD _ _ ha, take_succ_getD _ _ hb, h, he]

theorem ne_of_getD {za zb : List Int} {k : Nat} (he : ¬ za.getD k 0 = zb.getD k 0) : (za == zb) = false := by
  have : za ≠ zb := fun h => he (by rw [h])
  simpa using this

set_option maxHeartbeats 400000 in
theorem eqb_any (a b : Option Addr) (ca cb : Nat) (za zb : List Int) (w : World) (ha : Reads w a za) (hb : Reads w b zb) (hl : za.length ≤ 1048576) :
    Calls Try.prog 15 #[.slice a za.length ca, .slice b zb.length cb] w fun e w' => e = .returned (.bool (za == zb)) ∧ ∃ n, w' = w.drewN n := by
  by_cases hne : za.length = zb.length
  · by_cases hpos : 0 < za.length
    · obtain ⟨ba, oa, rfl, _, hca⟩ := ha hpos
      obtain ⟨bb, ob, rfl, _, hcb⟩ := hb (by omega)
      obtain ⟨n, hn⟩ : ∃ n, n = za.length := ⟨_, rfl⟩
      have hnb : n = zb.length := by omega
      rw [← hn, ← hnb]
      rw [← hn] at hl hca
      rw [← hnb] at hcb
      have HN : Hid (n = za.length ∧ n = zb.length) := ⟨hn, hnb⟩
      clear hn hnb hne hpos ha hb
      go_enter Try.func15, Try.ntmps15
      go_wp2
      go_loopw [13] (fun i wr => ∃ k : Nat, k ≤ n ∧ i = .int .i64 k ∧ za.take k = zb.take k ∧ ∃ q, wr = w.drewN q) (fun i _ => n - (intOf i).toNat)
      case atStart => exact ⟨0, Nat.zero_le _, rfl, rfl, 0, rfl⟩
      case round =>
        obtain ⟨k, hk, rfl, ht, q, rfl⟩ := hrel
        have HT : Hid (za.take k = zb.take k) := ht
        clear ht
        by_cases hlt : k < n
        · have h1 := hca k hlt
          have h2 := hcb k hlt
          obtain ⟨x, hx⟩ : ∃ x, x = za.getD k 0 := ⟨_, rfl⟩
          obtain ⟨y, hy⟩ : ∃ y, y = zb.getD k 0 := ⟨_, rfl⟩
          rw [← hx] at h1
          rw [← hy] at h2
          have HX : Hid (x = za.getD k 0 ∧ y = zb.getD k 0) := ⟨hx, hy⟩
          clear hx hy hca hcb
          have hlt' : (k : Int) < (n : Int) := by omega
          by_cases hxy : x = y
          · go_wp2
            go_quiet (fail)
            go_wp2
            go_roundw
            case rel => exact ⟨k + 1, by omega, by go_num, take_step (by have := HN.out; omega) (by have := HN.out; omega) HT.out (by rw [← HX.out.1, ← HX.out.2]; exact hxy), _, rfl⟩
            case measure => simp [intOf]; omega
          · have hzz : (za == zb) = false := ne_of_getD (k := k) (by rw [← HX.out.1, ← HX.out.2]; exact hxy)
            have HZ : Hid ((za == zb) = false) := hzz
            clear hzz
            go_wp2
            go_quiet (fail)
            go_wp2
            go_ret
            exact ⟨by rw [HZ.out]; rfl, _, by first | rfl | rw [World.drewN_drewN]⟩
        · have hzz : (za == zb) = true := by
            have h3 := HT.out
            have h4 := HN.out
            rw [List.take_of_length_le (by omega), List.take_of_length_le (by omega)] at h3
            simpa using h3
          have HZ : Hid ((za == zb) = true) := hzz
          clear hca hcb hzz
          go_wp2
          go_ret
          exact ⟨by rw [HZ.out]; rfl, _, by first | rfl | rw [World.drewN_drewN]⟩
    · obtain rfl : za = [] := List.eq_nil_of_length_eq_zero (by omega)
      obtain rfl : zb = [] := List.eq_nil_of_length_eq_zero (by simpa using hne.symm)
      clear ha hb hne hpos hl
      go_enter Try.func15, Try.ntmps15
      go_wp2
      refine wp_loop_rounds 1 ?_
      rw [rounds_succ]
      go_wp2
      go_ret
      exact ⟨rfl, 0, rfl⟩
  · have hzz : (za == zb) = false := by
      have : za ≠ zb := fun h => hne (by rw [h])
      simpa using this
    have hb1 : ((za.length : Int) == (zb.length : Int)) = false := by simpa using (by omega : ¬ (za.length : Int) = (zb.length : Int))
    rw [hzz]
    clear ha hb hzz
    go_enter Try.func15, Try.ntmps15
    go_wp2
    go_ret
    exact ⟨rfl, 0, rfl⟩

theorem zeqb_any (a b : Option Addr) (ca cb : Nat) (za zb : List Int) (w : World) (ha : Reads w a za) (hb : Reads w b zb) (hl : za.length ≤ 1048576) :
    Calls Try.prog 11 #[.slice a za.length ca, .slice b zb.length cb] w fun e w' => e = .returned (.bool (za == zb)) ∧ ∃ n, w' = w.drewN n := by
  go_enter Try.func11, Try.ntmps11
  go_wp2_with (go_at_call 15; refine (eqb_any _ _ _ _ _ _ _ ha hb hl).mono ?_; rintro e w' ⟨rfl, n, rfl⟩)
  go_ret
  exact ⟨rfl, _, rfl⟩

theorem zeqb_n (a b : Option Addr) (ca cb n m : Nat) (za zb : List Int) (g : Bool) (w : World) (ha : Reads w a za) (hb : Reads w b zb) (hl : n ≤ 1048576) (hn : n = za.length) (hm : m = zb.length) (hg : g = (za == zb)) :
    Calls Try.prog 11 #[.slice a n ca, .slice b m cb] w fun e w' => e = .returned (.bool g) ∧ ∃ n, w' = w.drewN n := by
  subst hn
  subst hm
  subst hg
  exact zeqb_any a b ca cb za zb w ha hb hl

theorem zb_xor (a b : Option Addr) (la lb ca cb : Nat) (w : World) (h1 : la ≤ 9223372036854775807) (h2 : lb ≤ 9223372036854775807) :
    Calls Try.prog 10 #[.slice a la ca, .slice b lb cb] w fun e w' => e = .returned (.bool (decide (la + lb ≤ 1048576))) ∧ w' = w := by
  by_cases h : la + lb ≤ 1048576
  · have e : decide (la + lb ≤ 1048576) = true := decide_eq_true h
    rw [e]
    clear e
    go_enter Try.func10, Try.ntmps10
    go_wp2
    go_ret
    exact ⟨rfl, rfl⟩
  · have e : decide (la + lb ≤ 1048576) = false := decide_eq_false h
    rw [e]
    clear e
    by_cases g1 : la ≤ 1048576
    · by_cases g2 : lb ≤ 1048576
      · go_enter Try.func10, Try.ntmps10
        go_wp2
        go_ret
        exact ⟨rfl, rfl⟩
      · go_enter Try.func10, Try.ntmps10
        go_wp2
        go_ret
        exact ⟨rfl, rfl⟩
    · go_enter Try.func10, Try.ntmps10
      go_wp2
      go_ret
      exact ⟨rfl, rfl⟩
end Go.Proofs.Qxb6603958a
