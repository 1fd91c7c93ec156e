/- FnEqualBalancesIsEquivalence, walked. -/
import Derived.Test.Qxb6603958aEqvParts
namespace Go.Proofs.Qxb6603958a.fnEqualBalancesIsEquivalence
open Go.ChangeShapes Go.WideShapes Go.ChangeAt Go.RowKit

set_option maxRecDepth 4000 in
set_option maxHeartbeats 2000000 in
theorem equiv_walk (a b c : Option Addr) (ca cb cc n m l : Nat) (za zb zc : List Int) (w : World) (hn : Hid (n = za.length ∧ m = zb.length ∧ l = zc.length)) (ha : Reads w a za) (hb : Reads w b zb) (hc : Reads w c zc)
    (la : n ≤ 9223372036854775807) (lb : m ≤ 9223372036854775807) (lc : l ≤ 9223372036854775807) :
    Calls Try.prog 5 #[.slice a n ca, .slice b m cb, .slice c l cc] w fun e w' => e = .returned (.bool true) ∧ Below w.heap.size w w' := by
  by_cases hs : n + m + l ≤ 1048576
  · have hd : decide (n + m + l ≤ 1048576) = true := decide_eq_true hs
    by_cases h1 : n ≤ 32768
    · by_cases h2 : m ≤ 32768
      · by_cases h3 : l ≤ 32768
        · obtain ⟨i0, hi, hz0, hz1, hz2⟩ := info_parts info2
          go_enter Try.func5, Try.ntmps5
          go_upto_if 32 with (go_at_call 12; refine (zb_equiv _ _ _ _ _ _ _ _ _ _ (by omega) (by omega) (by omega)).mono ?_; rintro e w' ⟨rfl, hw⟩; obtain rfl := hw.symm)
          go_cut [0] (fun s wx => ∃ a' c', s = .slice a' n c' ∧ Reads wx a' za ∧ Below w.heap.size w wx)
          case first =>
            rcases a with _ | ad
            · go_wp2
              go_meet
              case rel => exact ⟨_, _, rfl, ha, Below.refl _ _⟩
            · go_wp2_with (at_make; refine wpList_make_full _ rfl _ _ 27 rfl w.heap.size 2 i0 (.int .i64 0) 1 Try.underlying27 hi hz0 hz1 .i64 .i64 _ _ n rfl rfl (by omega) (by omega) (by rw [hz2]; omega) (by unfold maxLen; omega) (Nat.le_refl _) ?_; intro w1 hown1 hgrow1)
              obtain ⟨cur, hg1, hc1⟩ := made_block hown1
              have hb1 := grown_below hgrow1
              have hzl : (za.map (Value.int .i64)).length = n := by have := hn.out; simp; omega
              obtain ⟨w2, hrun, hg2, hb2⟩ := copy_run (P := Try.prog) w1 27 27 3 2 Try.underlying27 size2 w.heap.size n n ca (some ad) cur 2 hg1 (za.map (Value.int .i64)) hzl hc1 (by have := hn.out; rw [this.1]; exact src_of (ha.below hb1)) (ints_oneCell _ _)
              have HG2 : Hid (w2.heap[w.heap.size]? = some (.cells (za.map (Value.int .i64)).toArray 2 (0, 0))) := hg2
              clear hg2 hg1 hown1 hgrow1 hzl
              rw [hrun]
              clear hrun
              go_wp2
              go_meet
              case rel => exact ⟨_, _, rfl, Reads.made HG2.out, hb1.trans hb2⟩
          case rest =>
            obtain ⟨a2, ca2, rfl, hra, hba⟩ := hcut
            have hrb : Reads wc b zb := hb.below hba
            have hrc : Reads wc c zc := hc.below hba
            obtain ⟨wa, hwa⟩ : ∃ wa, wa = wc := ⟨_, rfl⟩
            subst hwa
            go_upto_if 41 with fail
            go_cut [1] (fun s wx => ∃ a' c', s = .slice a' m c' ∧ Reads wx a2 za ∧ Reads wx a' zb ∧ Reads wx c zc ∧ Below w.heap.size w wx)
            case first =>
              rcases b with _ | ad
              · go_wp2
                go_meet
                case rel => exact ⟨_, _, rfl, hra, hrb, hrc, hba⟩
              · go_wp2_with (at_make; refine wpList_make_full _ rfl _ _ 27 rfl wa.heap.size 2 i0 (.int .i64 0) 1 Try.underlying27 hi hz0 hz1 .i64 .i64 _ _ m rfl rfl (by omega) (by omega) (by rw [hz2]; omega) (by unfold maxLen; omega) (Nat.le_refl _) ?_; intro w1 hown1 hgrow1)
                obtain ⟨cur, hg1, hc1⟩ := made_block hown1
                have hb1 := grown_below hgrow1
                have hzl : (zb.map (Value.int .i64)).length = m := by have := hn.out; simp; omega
                obtain ⟨w2, hrun, hg2, hb2⟩ := copy_run (P := Try.prog) w1 27 27 3 2 Try.underlying27 size2 wa.heap.size m m cb (some ad) cur 2 hg1 (zb.map (Value.int .i64)) hzl hc1 (by have := hn.out; rw [this.2.1]; exact src_of (hrb.below hb1)) (ints_oneCell _ _)
                have HG2 : Hid (w2.heap[wa.heap.size]? = some (.cells (zb.map (Value.int .i64)).toArray 2 (0, 0))) := hg2
                clear hg2 hg1 hown1 hgrow1 hzl
                rw [hrun]
                clear hrun
                go_wp2
                go_meet
                case rel => exact ⟨_, _, rfl, hra.below (hb1.trans hb2), Reads.made HG2.out, hrc.below (hb1.trans hb2), hba.trans ((hb1.trans hb2).mono hba.size)⟩
            case rest =>
              obtain ⟨b2, cb2, rfl, hra2, hrb2, hrc2, hba2⟩ := hcut
              obtain ⟨wb, hwb⟩ : ∃ wb, wb = wc := ⟨_, rfl⟩
              subst hwb
              go_upto_if 50 with fail
              go_cut [2] (fun s wx => ∃ a' c', s = .slice a' l c' ∧ Reads wx a2 za ∧ Reads wx b2 zb ∧ Reads wx a' zc ∧ Below w.heap.size w wx)
              case first =>
                rcases c with _ | ad
                · go_wp2
                  go_meet
                  case rel => exact ⟨_, _, rfl, hra2, hrb2, hrc2, hba2⟩
                · go_wp2_with (at_make; refine wpList_make_full _ rfl _ _ 27 rfl wb.heap.size 2 i0 (.int .i64 0) 1 Try.underlying27 hi hz0 hz1 .i64 .i64 _ _ l rfl rfl (by omega) (by omega) (by rw [hz2]; omega) (by unfold maxLen; omega) (Nat.le_refl _) ?_; intro w1 hown1 hgrow1)
                  obtain ⟨cur, hg1, hc1⟩ := made_block hown1
                  have hb1 := grown_below hgrow1
                  have hzl : (zc.map (Value.int .i64)).length = l := by have := hn.out; simp; omega
                  obtain ⟨w2, hrun, hg2, hb2⟩ := copy_run (P := Try.prog) w1 27 27 3 2 Try.underlying27 size2 wb.heap.size l l cc (some ad) cur 2 hg1 (zc.map (Value.int .i64)) hzl hc1 (by have := hn.out; rw [this.2.2]; exact src_of (hrc2.below hb1)) (ints_oneCell _ _)
                  have HG2 : Hid (w2.heap[wb.heap.size]? = some (.cells (zc.map (Value.int .i64)).toArray 2 (0, 0))) := hg2
                  clear hg2 hg1 hown1 hgrow1 hzl
                  rw [hrun]
                  clear hrun
                  go_wp2
                  go_meet
                  case rel => exact ⟨_, _, rfl, hra2.below (hb1.trans hb2), hrb2.below (hb1.trans hb2), Reads.made HG2.out, hba2.trans ((hb1.trans hb2).mono hba2.size)⟩
              case rest =>
                obtain ⟨c2, cc2, rfl, hra3, hrb3, hrc3, hba3⟩ := hcut
                obtain ⟨wd, hwd⟩ : ∃ wd, wd = wc := ⟨_, rfl⟩
                subst hwd
                clear hra hrb hrc hba hra2 hrb2 hrc2 hba2 ha hb hc
                go_wp2_with (at_make; refine wpList_make_full _ rfl _ _ 27 rfl wd.heap.size 2 i0 (.int .i64 0) 1 Try.underlying27 hi hz0 hz1 .i64 .i64 _ _ n rfl rfl (by omega) (by omega) (by rw [hz2]; omega) (by unfold maxLen; omega) (Nat.le_refl _) ?_; intro w1 hown1 hgrow1)
                obtain ⟨cur, hg1, hc1⟩ := made_block hown1
                have hb1 := grown_below hgrow1
                have HT : Hid (Twin w1 wd.heap.size n za 0) := Twin.start hg1 hc1
                clear hg1 hown1 hgrow1 hc1
                go_loopw [11] (fun i wr => ∃ k : Nat, k ≤ n ∧ i = .int .i64 k ∧ Twin wr wd.heap.size n za k ∧ Below wd.heap.size wd wr) (fun i _ => n - (intOf i).toNat)
                case atStart => exact ⟨0, Nat.zero_le _, rfl, HT.out, hb1⟩
                case round =>
                  obtain ⟨k, hk, rfl, htw, hbw⟩ := hrel
                  have HTW : Hid (Twin wr wd.heap.size n za k) := htw
                  by_cases hlt : k < n
                  · obtain ⟨ba, oa, rfl, hbl, hca⟩ := hra3 (by have := hn.out; omega)
                    have c1 := (hbw.cell (p := ⟨ba, oa + k, none⟩) hbl).trans (hca k (by have := hn.out; omega))
                    obtain ⟨x, hx⟩ : ∃ x, x = za.getD k 0 := ⟨_, rfl⟩
                    rw [← hx] at c1
                    have HX : Hid (x = za.getD k 0) := hx
                    obtain ⟨v, hv⟩ := Option.isSome_iff_exists.mp (htw.2.1 k hlt)
                    have hf := htw.2.2.2 k
                    clear hx hca htw
                    have hlt' : (k : Int) < (n : Int) := by omega
                    go_wp2
                    go_roundw
                    case rel =>
                      refine ⟨k + 1, by omega, by go_num, ?_, hbw.setCell (Nat.le_refl _) _⟩
                      rw [HX.out]
                      exact HTW.out.step hlt
                    case measure => simp [intOf]; omega
                  · obtain rfl : k = n := by omega
                    have r1 : Reads wr a2 za := hra3.below hbw
                    have r2 : Reads wr b2 zb := hrb3.below hbw
                    have r3 : Reads wr c2 zc := hrc3.below hbw
                    have r4 : Reads wr (some ⟨wd.heap.size, 0, none⟩) za := htw.reads hn.out.1
                    have hbe : Below w.heap.size w wr := hba3.trans (hbw.mono hba3.size)
                    clear htw HTW hbw hra3 hrb3 hrc3 hba3 HT hb1
                    by_cases hab0 : za = zb
                    · have hab : Hid (za = zb) := hab0
                      clear hab0
                      by_cases hbc0 : zb = zc
                      · have hbc : Hid (zb = zc) := hbc0
                        clear hbc0
                        go_wp2_with fail
                        refine (zeqb_n _ _ _ _ _ _ za za true _ (by exact r1) (by exact r1) (by omega) hn.out.1 hn.out.1 (by simp)).mono ?_
                        rintro e w' ⟨rfl, q1, rfl⟩
                        go_wp2_with fail
                        refine (zeqb_n _ _ _ _ _ _ za za true _ (by exact r1) (by exact r4) (by omega) hn.out.1 hn.out.1 (by simp)).mono ?_
                        rintro e w' ⟨rfl, q2, rfl⟩
                        go_wp2_with fail
                        refine (zeqb_n _ _ _ _ _ _ za zb true _ (by exact r1) (by exact r2) (by omega) hn.out.1 hn.out.2.1 (beq_t hab).symm).mono ?_
                        rintro e w' ⟨rfl, q3, rfl⟩
                        go_wp2_with fail
                        refine (zeqb_n _ _ _ _ _ _ zb za true _ (by exact r2) (by exact r1) (by omega) hn.out.2.1 hn.out.1 (beq_t hab.out.symm).symm).mono ?_
                        rintro e w' ⟨rfl, q4, rfl⟩
                        go_wp2_with fail
                        refine (zeqb_n _ _ _ _ _ _ zb zc true _ (by exact r2) (by exact r3) (by omega) hn.out.2.1 hn.out.2.2 (beq_t hbc).symm).mono ?_
                        rintro e w' ⟨rfl, q5, rfl⟩
                        go_wp2_with fail
                        refine (zeqb_n _ _ _ _ _ _ za zc true _ (by exact r1) (by exact r3) (by omega) hn.out.1 hn.out.2.2 (beq_t (hab.out.trans hbc.out)).symm).mono ?_
                        rintro e w' ⟨rfl, q6, rfl⟩
                        go_wp2_with fail
                        go_ret
                        exact ⟨rfl, below_drewN (by exact hbe) _⟩
                      · have hbc : Hid (¬ zb = zc) := hbc0
                        clear hbc0
                        go_wp2_with fail
                        refine (zeqb_n _ _ _ _ _ _ za za true _ (by exact r1) (by exact r1) (by omega) hn.out.1 hn.out.1 (by simp)).mono ?_
                        rintro e w' ⟨rfl, q1, rfl⟩
                        go_wp2_with fail
                        refine (zeqb_n _ _ _ _ _ _ za za true _ (by exact r1) (by exact r4) (by omega) hn.out.1 hn.out.1 (by simp)).mono ?_
                        rintro e w' ⟨rfl, q2, rfl⟩
                        go_wp2_with fail
                        refine (zeqb_n _ _ _ _ _ _ za zb true _ (by exact r1) (by exact r2) (by omega) hn.out.1 hn.out.2.1 (beq_t hab).symm).mono ?_
                        rintro e w' ⟨rfl, q3, rfl⟩
                        go_wp2_with fail
                        refine (zeqb_n _ _ _ _ _ _ zb za true _ (by exact r2) (by exact r1) (by omega) hn.out.2.1 hn.out.1 (beq_t hab.out.symm).symm).mono ?_
                        rintro e w' ⟨rfl, q4, rfl⟩
                        go_wp2_with fail
                        refine (zeqb_n _ _ _ _ _ _ zb zc false _ (by exact r2) (by exact r3) (by omega) hn.out.2.1 hn.out.2.2 (beq_f hbc).symm).mono ?_
                        rintro e w' ⟨rfl, q5, rfl⟩
                        go_wp2_with fail
                        go_ret
                        exact ⟨rfl, below_drewN (by exact hbe) _⟩
                    · have hab : Hid (¬ za = zb) := hab0
                      clear hab0
                      go_wp2_with fail
                      refine (zeqb_n _ _ _ _ _ _ za za true _ (by exact r1) (by exact r1) (by omega) hn.out.1 hn.out.1 (by simp)).mono ?_
                      rintro e w' ⟨rfl, q1, rfl⟩
                      go_wp2_with fail
                      refine (zeqb_n _ _ _ _ _ _ za za true _ (by exact r1) (by exact r4) (by omega) hn.out.1 hn.out.1 (by simp)).mono ?_
                      rintro e w' ⟨rfl, q2, rfl⟩
                      go_wp2_with fail
                      refine (zeqb_n _ _ _ _ _ _ za zb false _ (by exact r1) (by exact r2) (by omega) hn.out.1 hn.out.2.1 (beq_f hab).symm).mono ?_
                      rintro e w' ⟨rfl, q3, rfl⟩
                      go_wp2_with fail
                      refine (zeqb_n _ _ _ _ _ _ zb za false _ (by exact r2) (by exact r1) (by omega) hn.out.2.1 hn.out.1 (beq_f (fun h => hab.out h.symm)).symm).mono ?_
                      rintro e w' ⟨rfl, q4, rfl⟩
                      go_wp2_with fail
                      go_ret
                      exact ⟨rfl, below_drewN (by exact hbe) _⟩
        · go_enter Try.func5, Try.ntmps5
          go_wp2_with (go_at_call 12; refine (zb_equiv _ _ _ _ _ _ _ _ _ _ (by omega) (by omega) (by omega)).mono ?_; rintro e w' ⟨rfl, hw⟩; obtain rfl := hw.symm)
          go_ret
          exact ⟨rfl, Below.refl _ _⟩
      · go_enter Try.func5, Try.ntmps5
        go_wp2_with (go_at_call 12; refine (zb_equiv _ _ _ _ _ _ _ _ _ _ (by omega) (by omega) (by omega)).mono ?_; rintro e w' ⟨rfl, hw⟩; obtain rfl := hw.symm)
        go_ret
        exact ⟨rfl, Below.refl _ _⟩
    · go_enter Try.func5, Try.ntmps5
      go_wp2_with (go_at_call 12; refine (zb_equiv _ _ _ _ _ _ _ _ _ _ (by omega) (by omega) (by omega)).mono ?_; rintro e w' ⟨rfl, hw⟩; obtain rfl := hw.symm)
      go_ret
      exact ⟨rfl, Below.refl _ _⟩
  · have hd : decide (n + m + l ≤ 1048576) = false := decide_eq_false hs
    go_enter Try.func5, Try.ntmps5
    go_wp2_with (go_at_call 12; refine (zb_equiv _ _ _ _ _ _ _ _ _ _ (by omega) (by omega) (by omega)).mono ?_; rintro e w' ⟨rfl, hw⟩; obtain rfl := hw.symm)
    go_ret
    exact ⟨rfl, Below.refl _ _⟩
end Go.Proofs.Qxb6603958a.fnEqualBalancesIsEquivalence
