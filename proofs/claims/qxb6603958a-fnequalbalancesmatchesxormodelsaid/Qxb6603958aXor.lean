/- FnEqualBalancesMatchesXorModel, walked. -/
import Derived.Test.Qxb6603958aKit
import Derived.Test.Qxb6603958aPlain
import Derived.WalkSmall
namespace Go.Proofs.Qxb6603958a
open Go.ChangeShapes Go.WideShapes Go.ChangeAt Go.RowKit

theorem Try.info2 : (Try.prog.info? 2).map (fun i => (i.zero, i.size, i.bytes)) = some (some (.int .i64 0), 1, 8) := by kernel_rfl
theorem Try.size2 : (Try.prog.info? 2).map (·.size) = some 1 := by kernel_rfl

theorem step_iff {za zb : List Int} {k : Nat} {X x y : Int} (ha : k < za.length) (hb : k < zb.length) (hx : x = za.getD k 0) (hy : y = zb.getD k 0) (w1 : (Lit.int .i64 X).wf = true)
    (wa : ∀ n ∈ za, (Lit.int .i64 n).wf = true) (wb : ∀ n ∈ zb, (Lit.int .i64 n).wf = true) (h : X = 0 ↔ za.take k = zb.take k) :
    bits .or .i64 X (bits .xor .i64 x y) = 0 ↔ za.take (k + 1) = zb.take (k + 1) := by
  have m1 : x ∈ za := by rw [hx, List.getD_eq_getElem?_getD, List.getElem?_eq_getElem ha]; simp
  have m2 : y ∈ zb := by rw [hy, List.getD_eq_getElem?_getD, List.getElem?_eq_getElem hb]; simp
  rw [orxor X x y w1 (wa x m1) (wb y m2), take_succ_getD _ _ ha, take_succ_getD _ _ hb, h, ← hx, ← hy]
  constructor
  · rintro ⟨h1, rfl⟩; rw [h1]
  · intro h1
    obtain ⟨h2, h3⟩ := List.append_inj h1 (by simp; omega)
    exact ⟨h2, by simpa using h3⟩

theorem fin_eq {za zb : List Int} {g : Bool} {X : Int} (hg : g = (za == zb)) (h : X = 0 ↔ za = zb) : (g == (X == 0)) = true := by
  subst hg
  by_cases hz : za = zb
  · have hX := h.mpr hz
    subst hX
    simp [hz]
  · have hX : ¬ X = 0 := fun e => hz (h.mp e)
    have e1 : (za == zb) = false := by simpa using hz
    have e2 : (X == 0) = false := by simpa using hX
    rw [e1, e2]; rfl

set_option maxHeartbeats 1000000 in
theorem xor_walk (a b : Option Addr) (ca cb : Nat) (za zb : List Int) (w : World) (ha : Reads w a za) (hb : Reads w b zb) (hna : a = none → za = []) (hnb : b = none → zb = [])
    (wa : ∀ n ∈ za, (Lit.int .i64 n).wf = true) (wb : ∀ n ∈ zb, (Lit.int .i64 n).wf = true) (la : za.length ≤ 9223372036854775807) (lb : zb.length ≤ 9223372036854775807) :
    Calls Try.prog 4 #[.slice a za.length ca, .slice b zb.length cb] w fun e w' => e = .returned (.bool true) ∧ Below w.heap.size w w' := by
  by_cases hs : za.length + zb.length ≤ 1048576
  · have hd : decide (za.length + zb.length ≤ 1048576) = true := decide_eq_true hs
    by_cases h1 : za.length ≤ 65536
    · by_cases h2 : zb.length ≤ 65536
      · obtain ⟨n, hn⟩ : ∃ n, n = za.length := ⟨_, rfl⟩
        obtain ⟨m, hm⟩ : ∃ m, m = zb.length := ⟨_, rfl⟩
        obtain ⟨i0, hi, hz0, hz1, hz2⟩ := info_parts Try.info2
        have HN : Hid (n = za.length ∧ m = zb.length) := ⟨hn, hm⟩
        rw [← hn] at hs hd h1 la
        rw [← hm] at hs hd h2 lb
        rw [← hn, ← hm]
        clear hn hm
        go_enter Try.func4, Try.ntmps4
        go_upto_if 24 with (go_at_call 10; refine (zb_xor _ _ _ _ _ _ _ (by omega) (by omega)).mono ?_; rintro e w' ⟨rfl, hw⟩; obtain rfl := hw.symm)
        go_cut [0] (fun s0 wx => ∃ a' c', s0 = .slice a' n c' ∧ Reads wx a' za ∧ Below w.heap.size w wx)
        case first =>
          rcases a with _ | ad
          · go_wp2
            go_meet
            case rel => exact ⟨_, _, rfl, ha, Below.refl _ _⟩
          · go_wp2_with (at_make; refine wpList_make_full _ rfl _ _ 27 rfl w.heap.size 2 i0 (.int .i64 0) 1 Try.underlying27 hi hz0 hz1 .i64 .i64 _ _ n rfl rfl (by omega) (by omega) (by rw [hz2]; omega) (by unfold maxLen; omega) (Nat.le_refl _) ?_; intro w1 hown1 hgrow1)
            obtain ⟨cur, hg1, hc1⟩ := made_block hown1
            have hb1 := grown_below hgrow1
            have hzl : (za.map (Value.int .i64)).length = n := by have := HN.out; simp; omega
            obtain ⟨w2, hrun, hg2, hb2⟩ := copy_run (P := Try.prog) w1 27 27 3 2 Try.underlying27 Try.size2 w.heap.size n n ca (some ad) cur 2 hg1 (za.map (Value.int .i64)) hzl hc1 (by have := HN.out; rw [this.1]; exact src_of (ha.below hb1)) (ints_oneCell _ _)
            have HG2 : Hid (w2.heap[w.heap.size]? = some (.cells (za.map (Value.int .i64)).toArray 2 (0, 0))) := hg2
            clear hg2 hg1 hown1 hgrow1 hzl
            rw [hrun]
            clear hrun
            go_wp2
            go_meet
            case rel => exact ⟨_, _, rfl, Reads.made HG2.out, hb1.trans hb2⟩
        case rest =>
          obtain ⟨a', ca', rfl, hra, hba⟩ := hcut
          have hrb : Reads wc b zb := hb.below hba
          go_upto_if 33 with fail
          go_cut [1] (fun s1 wx => ∃ b' c', s1 = .slice b' m c' ∧ Reads wx a' za ∧ Reads wx b' zb ∧ Below w.heap.size w wx)
          case first =>
            rcases b with _ | ad
            · go_wp2
              go_meet
              case rel => exact ⟨_, _, rfl, hra, hrb, hba⟩
            · go_wp2_with (at_make; refine wpList_make_full _ rfl _ _ 27 rfl wc.heap.size 2 i0 (.int .i64 0) 1 Try.underlying27 hi hz0 hz1 .i64 .i64 _ _ m rfl rfl (by omega) (by omega) (by rw [hz2]; omega) (by unfold maxLen; omega) (Nat.le_refl _) ?_; intro w1 hown1 hgrow1)
              obtain ⟨cur, hg1, hc1⟩ := made_block hown1
              have hb1 := grown_below hgrow1
              have hzl : (zb.map (Value.int .i64)).length = m := by have := HN.out; simp; omega
              obtain ⟨w2, hrun, hg2, hb2⟩ := copy_run (P := Try.prog) w1 27 27 3 2 Try.underlying27 Try.size2 wc.heap.size m m cb (some ad) cur 2 hg1 (zb.map (Value.int .i64)) hzl hc1 (by have := HN.out; rw [this.2]; exact src_of (hrb.below hb1)) (ints_oneCell _ _)
              have HG2 : Hid (w2.heap[wc.heap.size]? = some (.cells (zb.map (Value.int .i64)).toArray 2 (0, 0))) := hg2
              clear hg2 hg1 hown1 hgrow1 hzl
              rw [hrun]
              clear hrun
              go_wp2
              go_meet
              case rel => exact ⟨_, _, rfl, hra.below (hb1.trans hb2), Reads.made HG2.out, hba.trans ((hb1.trans hb2).mono hba.size)⟩
          case rest =>
            obtain ⟨b', cb', rfl, hra2, hrb2, hba2⟩ := hcut
            clear hra hrb hba ha hb hna hnb
            obtain ⟨g, hg⟩ : ∃ g, g = (za == zb) := ⟨_, rfl⟩
            have HG : Hid (g = (za == zb)) := hg
            clear hg
            by_cases hnm : n = m
            · subst hnm
              by_cases hpos : 0 < n
              · have e1 := HN.out.1
                obtain ⟨ba, oa, rfl, _, hca⟩ := hra2 (by omega)
                obtain ⟨bb, ob, rfl, _, hcb⟩ := hrb2 (by have := HN.out.2; omega)
                have HA : Hid (Reads wc (some ⟨ba, oa, none⟩) za ∧ Reads wc (some ⟨bb, ob, none⟩) zb) := ⟨hra2, hrb2⟩
                rw [← e1] at hca
                rw [← HN.out.2] at hcb
                clear hra2 hrb2 e1
                go_wp2_with (go_at_call 11; refine (zeqb_n _ _ _ _ _ _ za zb g _ HA.out.1 HA.out.2 (by omega) HN.out.1 HN.out.2 HG.out).mono ?_; rintro e w' ⟨rfl, q, rfl⟩)
                go_loopw [9, 10] (fun x i wr => ∃ k : Nat, ∃ X : Int, k ≤ n ∧ i = .int .i64 k ∧ x = .int .i64 X ∧ (Lit.int .i64 X).wf = true ∧ (X = 0 ↔ za.take k = zb.take k) ∧ ∃ q, wr = wc.drewN q) (fun _ i _ => n - (intOf i).toNat)
                case atStart => exact ⟨0, 0, Nat.zero_le _, rfl, rfl, by decide, by simp, _, rfl⟩
                case round =>
                  obtain ⟨k, X, hk, rfl, rfl, hwf, hX, q, rfl⟩ := hrel
                  have HX : Hid ((Lit.int .i64 X).wf = true ∧ (X = 0 ↔ za.take k = zb.take k)) := ⟨hwf, hX⟩
                  clear hwf hX
                  by_cases hlt : k < n
                  · have c1 := hca k hlt
                    have c2 := hcb k hlt
                    obtain ⟨x, hx⟩ : ∃ x, x = za.getD k 0 := ⟨_, rfl⟩
                    obtain ⟨y, hy⟩ : ∃ y, y = zb.getD k 0 := ⟨_, rfl⟩
                    rw [← hx] at c1
                    rw [← hy] at c2
                    have HY : Hid (x = za.getD k 0 ∧ y = zb.getD k 0) := ⟨hx, hy⟩
                    clear hx hy hca hcb
                    have hlt' : (k : Int) < (n : Int) := by omega
                    go_wp2
                    go_quiet (fail)
                    go_wp2
                    go_roundw
                    case rel =>
                      exact ⟨k + 1, _, by omega, by go_num, rfl, wf_bits _ _ _ _, step_iff (by have := HN.out; omega) (by have := HN.out; omega) HY.out.1 HY.out.2 HX.out.1 wa wb HX.out.2, _, rfl⟩
                    case measure => simp [intOf]; omega
                  · clear hca hcb
                    have hfin : (g == (X == 0)) = true := by
                      refine fin_eq HG.out ?_
                      have h3 := HX.out.2
                      have h4 := HN.out
                      rwa [List.take_of_length_le (by omega), List.take_of_length_le (by omega)] at h3
                    go_wp2
                    go_ret
                    exact ⟨rfl, below_drewN hba2 _⟩
              · obtain rfl : n = 0 := by omega
                have hg : g = true := by
                  have h1 := HN.out
                  obtain rfl : za = [] := List.eq_nil_of_length_eq_zero h1.1.symm
                  obtain rfl : zb = [] := List.eq_nil_of_length_eq_zero h1.2.symm
                  rw [HG.out]; rfl
                subst hg
                go_wp2_with (go_at_call 11; refine (zeqb_n _ _ _ _ _ _ za zb true _ hra2 hrb2 (by omega) HN.out.1 HN.out.2 HG.out).mono ?_; rintro e w' ⟨rfl, q, rfl⟩)
                refine wp_loop_rounds 1 ?_
                rw [rounds_succ]
                go_wp2
                go_ret
                exact ⟨rfl, below_drewN hba2 _⟩
            · have hg : g = false := by
                rw [HG.out]
                have : za ≠ zb := fun h => hnm (by have := HN.out; rw [this.1, this.2, h])
                simpa using this
              subst hg
              have hnm' : ((n : Int) == (m : Int)) = false := by simpa using (by omega : ¬ (n : Int) = (m : Int))
              go_wp2_with (go_at_call 11; refine (zeqb_n _ _ _ _ _ _ za zb false _ hra2 hrb2 (by omega) HN.out.1 HN.out.2 HG.out).mono ?_; rintro e w' ⟨rfl, q, rfl⟩)
              go_ret
              exact ⟨rfl, below_drewN hba2 _⟩
      · obtain ⟨n, hn⟩ : ∃ n, n = za.length := ⟨_, rfl⟩
        obtain ⟨m, hm⟩ : ∃ m, m = zb.length := ⟨_, rfl⟩
        rw [← hn] at hs hd h1 la
        rw [← hm] at hs hd h2 lb
        rw [← hn, ← hm]
        clear hn hm ha hb hna hnb wa wb
        go_enter Try.func4, Try.ntmps4
        go_wp2_with (go_at_call 10; refine (zb_xor _ _ _ _ _ _ _ (by omega) (by omega)).mono ?_; rintro e w' ⟨rfl, hw⟩; obtain rfl := hw.symm)
        go_ret
        exact ⟨rfl, Below.refl _ _⟩
    · obtain ⟨n, hn⟩ : ∃ n, n = za.length := ⟨_, rfl⟩
      obtain ⟨m, hm⟩ : ∃ m, m = zb.length := ⟨_, rfl⟩
      rw [← hn] at hs hd h1 la
      rw [← hm] at hs hd lb
      rw [← hn, ← hm]
      clear hn hm ha hb hna hnb wa wb
      go_enter Try.func4, Try.ntmps4
      go_wp2_with (go_at_call 10; refine (zb_xor _ _ _ _ _ _ _ (by omega) (by omega)).mono ?_; rintro e w' ⟨rfl, hw⟩; obtain rfl := hw.symm)
      go_ret
      exact ⟨rfl, Below.refl _ _⟩
  · have hd : decide (za.length + zb.length ≤ 1048576) = false := decide_eq_false hs
    obtain ⟨n, hn⟩ : ∃ n, n = za.length := ⟨_, rfl⟩
    obtain ⟨m, hm⟩ : ∃ m, m = zb.length := ⟨_, rfl⟩
    rw [← hn] at hd la
    rw [← hm] at hd lb
    rw [← hn, ← hm]
    clear hn hm hs ha hb hna hnb wa wb
    go_enter Try.func4, Try.ntmps4
    go_wp2_with (go_at_call 10; refine (zb_xor _ _ _ _ _ _ _ (by omega) (by omega)).mono ?_; rintro e w' ⟨rfl, rfl⟩)
    go_ret
    exact ⟨rfl, Below.refl _ _⟩
end Go.Proofs.Qxb6603958a
