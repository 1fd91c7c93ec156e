/- The clones, the guard on size and 'standing', walked. -/
import Derived.Test.Qxb6604122aKit
import Derived.Test.Qxb6604122aWholePlain
namespace Go.Proofs.Qxb6604122a.whole
open Go.ChangeShapes Go.WideShapes Go.ChangeAt Go.RowKit
attribute [local go_sem] eql_nil

set_option maxHeartbeats 400000 in
theorem cloneU32_any (a : Option Addr) (c n : Nat) (za : List Int) (w : World) (hn : Hid (n = za.length)) (hnil : a = none → n = 0) (ha : Reads (Value.int .u32) 0 w a za) (hl : n ≤ 1048576) :
    Calls Try.prog 13 #[.slice a n c] w fun e w' => Cloned (Value.int .u32) 0 w n za e w' := by
  obtain ⟨i0, hi, hz0, hz1, hz2⟩ := info_parts info40
  rcases a with _ | ad
  · obtain rfl := hnil rfl
    go_enter Try.func13, Try.ntmps13
    go_wp2
    go_ret
    exact ⟨_, _, rfl, fun h => absurd h (by have := hn.out; omega), Below.refl _ _⟩
  · clear hnil
    go_enter Try.func13, Try.ntmps13
    go_wp2_with (at_make; refine wpList_make_full _ rfl _ _ 28 rfl w.heap.size 40 i0 (.int .u32 0) 1 Try.underlying28 hi hz0 hz1 .i64 .i64 _ _ n rfl rfl (by omega) (by omega) (by rw [hz2]; omega) (by unfold maxLen; omega) (Nat.le_refl _) ?_; intro w1 hown1 hgrow1)
    obtain ⟨cur, hg1, hc1⟩ := made_block hown1
    have hb1 := grown_below hgrow1
    have HT : Hid (Twin (Value.int .u32) 0 w1 w.heap.size n za 0) := Twin.start hg1 hc1
    clear hg1 hown1 hgrow1 hc1
    go_loopw [4] (fun i wr => ∃ k : Nat, k ≤ n ∧ i = .int .i64 k ∧ Twin (Value.int .u32) 0 wr w.heap.size n za k ∧ Below w.heap.size w wr) (fun i _ => n - (intOf i).toNat)
    case atStart => exact ⟨0, Nat.zero_le _, rfl, HT.out, hb1⟩
    case round =>
      obtain ⟨k, hk, rfl, htw, hbw⟩ := hrel
      have HTW : Hid (Twin (Value.int .u32) 0 wr w.heap.size n za k) := htw
      by_cases hlt : k < n
      · obtain ⟨ba, oa, had, hbl, hca⟩ := ha (by have := hn.out; omega)
        obtain rfl : ad = ⟨ba, oa, none⟩ := by simpa using had
        have c1 := (hbw.cell (p := ⟨ba, oa + k, none⟩) hbl).trans (hca k (by have := hn.out; omega))
        obtain ⟨x, hx⟩ : ∃ x, x = za.getD k 0 := ⟨_, rfl⟩
        rw [← hx] at c1
        have HX : Hid (x = za.getD k 0) := hx
        obtain ⟨v, hv⟩ := Option.isSome_iff_exists.mp (htw.2.1 k hlt)
        have hf := htw.2.2.2 k
        clear hx hca htw had ha
        have hlt' : (k : Int) < (n : Int) := by omega
        go_wp2
        go_roundw
        case rel =>
          refine ⟨k + 1, by omega, by go_num, ?_, hbw.setCell (Nat.le_refl _) _⟩
          rw [HX.out]
          exact HTW.out.step hlt
        case measure => simp [intOf]; omega
      · obtain rfl : k = n := by omega
        clear htw ha
        go_wp2
        go_ret
        exact ⟨_, _, rfl, HTW.out.reads hn.out, hbw⟩

set_option maxHeartbeats 400000 in
theorem cloneBools_any (a : Option Addr) (c n : Nat) (za : List Bool) (w : World) (hn : Hid (n = za.length)) (hnil : a = none → n = 0) (ha : Reads Value.bool false w a za) (hl : n ≤ 1048576) :
    Calls Try.prog 14 #[.slice a n c] w fun e w' => Cloned Value.bool false w n za e w' := by
  obtain ⟨i0, hi, hz0, hz1, hz2⟩ := info_parts info4
  rcases a with _ | ad
  · obtain rfl := hnil rfl
    go_enter Try.func14, Try.ntmps14
    go_wp2
    go_ret
    exact ⟨_, _, rfl, fun h => absurd h (by have := hn.out; omega), Below.refl _ _⟩
  · clear hnil
    go_enter Try.func14, Try.ntmps14
    go_wp2_with (at_make; refine wpList_make_full _ rfl _ _ 29 rfl w.heap.size 4 i0 (.bool false) 1 Try.underlying29 hi hz0 hz1 .i64 .i64 _ _ n rfl rfl (by omega) (by omega) (by rw [hz2]; omega) (by unfold maxLen; omega) (Nat.le_refl _) ?_; intro w1 hown1 hgrow1)
    obtain ⟨cur, hg1, hc1⟩ := made_block hown1
    have hb1 := grown_below hgrow1
    have HT : Hid (Twin Value.bool false w1 w.heap.size n za 0) := Twin.start hg1 hc1
    clear hg1 hown1 hgrow1 hc1
    go_loopw [4] (fun i wr => ∃ k : Nat, k ≤ n ∧ i = .int .i64 k ∧ Twin Value.bool false wr w.heap.size n za k ∧ Below w.heap.size w wr) (fun i _ => n - (intOf i).toNat)
    case atStart => exact ⟨0, Nat.zero_le _, rfl, HT.out, hb1⟩
    case round =>
      obtain ⟨k, hk, rfl, htw, hbw⟩ := hrel
      have HTW : Hid (Twin Value.bool false wr w.heap.size n za k) := htw
      by_cases hlt : k < n
      · obtain ⟨ba, oa, had, hbl, hca⟩ := ha (by have := hn.out; omega)
        obtain rfl : ad = ⟨ba, oa, none⟩ := by simpa using had
        have c1 := (hbw.cell (p := ⟨ba, oa + k, none⟩) hbl).trans (hca k (by have := hn.out; omega))
        obtain ⟨x, hx⟩ : ∃ x, x = za.getD k false := ⟨_, rfl⟩
        rw [← hx] at c1
        have HX : Hid (x = za.getD k false) := hx
        obtain ⟨v, hv⟩ := Option.isSome_iff_exists.mp (htw.2.1 k hlt)
        have hf := htw.2.2.2 k
        clear hx hca htw had ha
        have hlt' : (k : Int) < (n : Int) := by omega
        go_wp2
        go_roundw
        case rel =>
          refine ⟨k + 1, by omega, by go_num, ?_, hbw.setCell (Nat.le_refl _) _⟩
          rw [HX.out]
          exact HTW.out.step hlt
        case measure => simp [intOf]; omega
      · obtain rfl : k = n := by omega
        clear htw ha
        go_wp2
        go_ret
        exact ⟨_, _, rfl, HTW.out.reads hn.out, hbw⟩

theorem zbytes_any (a b c : Option Addr) (la lb lc ca cb cc : Nat) (w : World) (h1 : la ≤ 9223372036854775807) (h2 : lb ≤ 9223372036854775807) (h3 : lc ≤ 9223372036854775807) :
    Calls Try.prog 12 #[.slice a la ca, .slice b lb cb, .slice c lc cc] w fun e w' => e = .returned (.bool (decide (la + lb + lc ≤ 1048576))) ∧ w' = w := by
  by_cases h : la + lb + lc ≤ 1048576
  · have e : decide (la + lb + lc ≤ 1048576) = true := decide_eq_true h
    rw [e]
    clear e
    go_enter Try.func12, Try.ntmps12
    go_wp2
    go_ret
    exact ⟨rfl, rfl⟩
  · have e : decide (la + lb + lc ≤ 1048576) = false := decide_eq_false h
    rw [e]
    clear e
    by_cases g1 : la ≤ 1048576
    · by_cases g2 : la + lb ≤ 1048576
      · by_cases g3 : lc ≤ 1048576
        · go_enter Try.func12, Try.ntmps12
          go_wp2
          go_ret
          exact ⟨rfl, rfl⟩
        · go_enter Try.func12, Try.ntmps12
          go_wp2
          go_ret
          exact ⟨rfl, rfl⟩
      · by_cases g3 : lb ≤ 1048576
        · go_enter Try.func12, Try.ntmps12
          go_wp2
          go_ret
          exact ⟨rfl, rfl⟩
        · go_enter Try.func12, Try.ntmps12
          go_wp2
          go_ret
          exact ⟨rfl, rfl⟩
    · go_enter Try.func12, Try.ntmps12
      go_wp2
      go_ret
      exact ⟨rfl, rfl⟩

theorem stand_true {a : List Int} {n i : Nat} (h : ix a n (a.getD i 0) = some i) : stand a n i = true := by unfold stand; exact decide_eq_true h
theorem stand_false {a : List Int} {n i : Nat} (h : ix a n (a.getD i 0) ≠ some i) : stand a n i = false := by unfold stand; exact decide_eq_false h

set_option maxHeartbeats 400000 in
theorem standing_any (p : Option Addr) (c n i : Nat) (a : List Int) (w : World) (hn : Hid (n = a.length)) (ha : Reads (Value.int .u32) 0 w p a) (hi : i < n) (hl : n ≤ 1048576) :
    Calls Try.prog 26 #[.slice p n c, .int .i64 (i : Int)] w fun e w' => e = .returned (.bool (stand a n i)) ∧ ∃ q, w' = w.drewN q := by
  obtain ⟨b, o, rfl, hbl, hc⟩ := ha (by have := hn.out; omega)
  have ci := hc i (by have := hn.out; omega)
  obtain ⟨x, hx⟩ : ∃ x, x = a.getD i 0 := ⟨_, rfl⟩
  rw [← hx] at ci
  have HX : Hid (x = a.getD i 0) := hx
  clear hx ha
  go_enter Try.func26, Try.ntmps26
  go_wp2
  go_loopw [5] (fun jj wr => ∃ j : Nat, i < j ∧ j ≤ n ∧ jj = .int .i64 j ∧ ix a j x = some i ∧ ∃ q, wr = w.drewN q) (fun jj _ => n - (intOf jj).toNat)
  case atStart => exact ⟨i + 1, by omega, by omega, by go_num, by simp only [ix]; rw [if_pos HX.out.symm], 0, rfl⟩
  case round =>
    obtain ⟨j, hj1, hj2, rfl, hix, q, rfl⟩ := hrel
    have HI : Hid (ix a j x = some i) := hix
    clear hix
    by_cases hlt : j < n
    · have cj := hc j (by have := hn.out; omega)
      obtain ⟨y, hy⟩ : ∃ y, y = a.getD j 0 := ⟨_, rfl⟩
      rw [← hy] at cj
      have HY : Hid (y = a.getD j 0) := hy
      clear hy hc
      have hlt' : (j : Int) < (n : Int) := by omega
      have hi' : (i : Int) < (n : Int) := by omega
      by_cases hxy : y = x
      · have hxb : (y == x) = true := by simpa using hxy
        go_wp2
        go_quiet (fail)
        go_wp2
        go_ret
        exact ⟨by rw [stand_false (by rw [← HX.out]; exact ix_hit hlt hj1 (by rw [← HY.out]; exact hxy))]; rfl, _, by first | rfl | rw [World.drewN_drewN]⟩
      · have hxb : (y == x) = false := by simpa using hxy
        go_wp2
        go_quiet (fail)
        go_wp2
        go_roundw
        case rel => exact ⟨j + 1, by omega, by omega, by go_num, by simp only [ix]; rw [if_neg (by rw [← HY.out]; exact hxy)]; exact HI.out, _, by first | rfl | rw [World.drewN_drewN]⟩
        case measure => simp [intOf]; omega
    · obtain rfl : j = n := by omega
      clear hc
      go_wp2
      go_ret
      exact ⟨by rw [stand_true (by rw [← HX.out]; exact HI.out)]; rfl, _, rfl⟩
end Go.Proofs.Qxb6604122a.whole
