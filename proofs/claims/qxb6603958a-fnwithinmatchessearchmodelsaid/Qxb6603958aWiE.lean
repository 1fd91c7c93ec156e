/- FnWithinMatchesSearchModel, walked. -/
import Derived.Test.Qxb6603958aWiB
import Derived.Test.Qxb6603958aWiD
namespace Go.Proofs.Qxb6603958a.within
open Go.ChangeShapes Go.WideShapes Go.ChangeAt Go.RowKit Go.Maps

theorem info3 : (Try.prog.info? 3).map (fun i => (i.zero, i.size, i.bytes)) = some (some (.int .i64 0), 1, 8) := by kernel_rfl
theorem size3 : (Try.prog.info? 3).map (·.size) = some 1 := by kernel_rfl

theorem zzwithin_any (a s : Option Addr) (ca cs n m : Nat) (ps : List Int) (ss : List (List Int)) (g : Bool) (w : World) (hg : Hid (g = someIn ps ss)) (hn : Hid (n = ps.length)) (hm : Hid (m = ss.length)) (ha : Reads w a ps) (hs : RowsRead w s ss)
    (wa : ∀ n ∈ ps, (Lit.int .i64 n).wf = true) (ws : ∀ i, ∀ n ∈ ss.getD i [], (Lit.int .i64 n).wf = true) (hl : n ≤ 4096) (hlm : m ≤ 4096) (hL : ∀ i, i < m → (ss.getD i []).length ≤ 4096) :
    Calls Try.prog 8 #[.slice a n ca, .slice s m cs] w fun e w' => e = .returned (.bool g) ∧ Below w.heap.size w w' := by
  have H := within_any a s ca cs n m ps ss w hn hm ha hs wa ws hl hlm hL
  rw [← hg.out] at H
  have H' : Hid (Calls Try.prog 13 #[.slice a n ca, .slice s m cs] w fun e w' => e = .returned (.bool g) ∧ Below w.heap.size w w') := H
  clear H ha hs wa ws hL
  go_enter Try.func8, Try.ntmps8
  go_wp2_with fail
  refine H'.out.mono ?_
  rintro e w' ⟨rfl, hb⟩
  go_wp2
  go_ret
  exact ⟨rfl, hb⟩

set_option maxRecDepth 4000 in
set_option maxHeartbeats 1000000 in
theorem law_walk (a s : Option Addr) (ca cs n m : Nat) (ps : List Int) (ss : List (List Int)) (w : World) (hn : Hid (n = ps.length)) (hm : Hid (m = ss.length)) (ha : Reads w a ps) (hs : RowsRead w s ss)
    (wa : ∀ n ∈ ps, (Lit.int .i64 n).wf = true) (ws : ∀ i, ∀ n ∈ ss.getD i [], (Lit.int .i64 n).wf = true) (hl : n ≤ 9223372036854775807) (hlm : m ≤ 9223372036854775807) :
    Calls Try.prog 3 #[.slice a n ca, .slice s m cs] w fun e w' => e = .returned (.bool true) ∧ Below w.heap.size w w' := by
  have HWA : Hid (∀ n ∈ ps, (Lit.int .i64 n).wf = true) := wa
  have HWS : Hid (∀ i, ∀ n ∈ ss.getD i [], (Lit.int .i64 n).wf = true) := ws
  clear wa ws
  obtain ⟨i0, hi, hz0, hz1, hz2⟩ := info_parts info3
  go_enter Try.func3, Try.ntmps3
  go_wp2_with fail
  refine (zbytes_any _ _ _ _ _ _ ss _ hm hs hl hlm).mono ?_
  rintro e w' ⟨⟨r, rfl⟩, hw⟩
  obtain rfl := hw.symm
  cases r
  · go_wp2_with fail
    go_ret
    exact ⟨rfl, Below.refl _ _⟩
  go_wp2_with fail
  refine (wbytes_any _ _ _ _ _ _ ss _ hm hs hl hlm).mono ?_
  rintro e w' ⟨⟨r, rfl, hr⟩, hw⟩
  obtain rfl := hw.symm
  rcases hr with rfl | ⟨hr, hn1, hm1, hL⟩
  · go_wp2_with fail
    go_ret
    exact ⟨rfl, Below.refl _ _⟩
  have HL : Hid (∀ i, i < m → (ss.getD i []).length ≤ 4096) := hL
  clear hL
  go_upto_if 18 with fail
  go_cut [0] (fun s0 wx => ∃ a' c', s0 = .slice a' n c' ∧ Reads wx a' ps ∧ Below w.heap.size w wx)
  case first =>
    rcases a with _ | ad
    · go_wp2
      go_meet
      case rel => exact ⟨_, _, rfl, ha, Below.refl _ _⟩
    · go_wp2_with (at_make; refine wpList_make_full _ rfl _ _ 22 rfl w.heap.size 3 i0 (.int .i64 0) 1 Try.underlying22 hi hz0 hz1 .i64 .i64 _ _ n rfl rfl (by omega) (by omega) (by rw [hz2]; omega) (by unfold maxLen; omega) (Nat.le_refl _) ?_; intro w1 hown1 hgrow1)
      obtain ⟨cur, hg1, hc1⟩ := made_block hown1
      have hb1 := grown_below hgrow1
      have hzl : (ps.map (Value.int .i64)).length = n := by have := hn.out; simp; omega
      obtain ⟨w2, hrun, hg2, hb2⟩ := copy_run (P := Try.prog) w1 22 22 3 3 Try.underlying22 size3 w.heap.size n n ca (some ad) cur 3 hg1 (ps.map (Value.int .i64)) hzl hc1 (by have := hn.out; rw [this]; exact src_of (ha.below hb1)) (ints_oneCell _ _)
      have HG2 : Hid (w2.heap[w.heap.size]? = some (.cells (ps.map (Value.int .i64)).toArray 3 (0, 0))) := hg2
      clear hg2 hg1 hown1 hgrow1 hzl
      rw [hrun]
      clear hrun
      go_wp2
      go_meet
      case rel => exact ⟨_, _, rfl, Reads.made HG2.out, hb1.trans hb2⟩
  case rest =>
    obtain ⟨a', ca', rfl, hra, hba⟩ := hcut
    have hrs : RowsRead wc s ss := hs.below hba
    obtain ⟨g, hg⟩ : ∃ g, g = someIn ps ss := ⟨_, rfl⟩
    have HG : Hid (g = someIn ps ss) := hg
    clear hg ha hs
    go_wp2_with fail
    refine (zzwithin_any _ _ _ _ _ _ ps ss g _ HG hn hm hra hrs HWA.out HWS.out hn1 hm1 HL.out).mono ?_
    rintro e w2 ⟨rfl, hb2⟩
    have hra2 := hra.below hb2
    have hrs2 := hrs.below hb2
    have hbe : Below w.heap.size w w2 := hba.trans (hb2.mono hba.size)
    clear hra hrs hba hb2
    go_wp2
    go_loop [7, 8] (fun wv i => ∃ k : Nat, k ≤ m ∧ i = .int .i64 k ∧ wv = .bool false ∧ someIn ps (ss.take k) = false) (fun _ i => m - (intOf i).toNat)
    case atStart => exact ⟨0, Nat.zero_le _, rfl, rfl, rfl⟩
    case round =>
      obtain ⟨k, hk, rfl, rfl, hno⟩ := hrel
      have HNO : Hid (someIn ps (ss.take k) = false) := hno
      clear hno
      by_cases hlt : k < m
      · obtain ⟨b, off, rfl, hbl, hc⟩ := hrs2 (by have := hm.out; omega)
        obtain ⟨sa, sc, c1, hrs3, hL3⟩ := hc k (by have := hm.out; omega)
        obtain ⟨zs, hzs⟩ : ∃ zs, zs = ss.getD k [] := ⟨_, rfl⟩
        rw [← hzs] at c1 hrs3 hL3
        obtain ⟨L, hLL⟩ : ∃ L, L = zs.length := ⟨_, rfl⟩
        rw [← hLL] at c1 hL3
        have HZ : Hid (zs = ss.getD k []) := hzs
        have HLL : Hid (L = zs.length) := hLL
        obtain ⟨al, hal⟩ : ∃ al, al = allIn ps zs := ⟨_, rfl⟩
        have HAL : Hid (al = allIn ps zs) := hal
        have hcall := allin_any a' sa ca' sc n L ps zs w2 hn HLL hra2 hrs3 hl hL3
        rw [← hal] at hcall
        have HC : Hid (Calls Try.prog 9 #[.slice a' n ca', .slice sa L sc] w2 fun e w' => e = .returned (.bool al) ∧ w' = w2) := hcall
        clear hc hzs hLL hal hcall
        cases al
        · go_wp2_with fail
          refine HC.out.mono ?_
          rintro e w3 ⟨rfl, hw⟩
          obtain rfl := hw.symm
          go_wp2_with fail
          go_round
          case rel => exact ⟨k + 1, by omega, by go_num, rfl, by rw [someIn_step (by have := hm.out; omega), HNO.out, ← HZ.out, ← HAL.out]; rfl⟩
          case measure => simp [intOf]; omega
        · have hgt : g = true := by rw [HG.out]; exact someIn_yes (k := k) (by have := hm.out; omega) (by rw [← HZ.out, ← HAL.out])
          subst hgt
          go_wp2_with fail
          refine HC.out.mono ?_
          rintro e w3 ⟨rfl, hw⟩
          obtain rfl := hw.symm
          go_wp2_with fail
          go_ret
          exact ⟨rfl, hbe⟩
      · have hgf : g = false := by
          have h1 := HNO.out
          rw [List.take_of_length_le (by have := hm.out; omega)] at h1
          rw [HG.out, h1]
        subst hgf
        clear hrs2 hra2
        go_wp2
        go_ret
        exact ⟨rfl, hbe⟩
end Go.Proofs.Qxb6603958a.within
