/- FnTableReadsWhatWasWritten, walked. -/
import Derived.Test.Qxb6604038aTaF
namespace Go.Proofs.Qxb6604038a
open Go.ChangeShapes Go.WideShapes Go.ChangeAt Go.RowKit
attribute [local go_sem] guard37 eq37

set_option maxRecDepth 8000 in
set_option maxHeartbeats 2000000 in
theorem law_one (a : Option Addr) (c n : Nat) (L : List Tk) (db nm : ByteArray) (dq nq : Bool) (w : World) (hn : Hid (n = L.length)) (ha : Lead w a L) (hl : n ≤ 9223372036854775807) (hd : db.size ≤ 9223372036854775807) (hm : nm.size ≤ 9223372036854775807) :
    Calls Try.prog 4 #[.slice a n c, .string db, .string nm, .bool false, .bool dq, .bool nq] w fun e w' => e = .returned (.bool true) ∧ Below w.heap.size w w' := by
  obtain ⟨i0, hi, hz0, hz1, hz2⟩ := info_parts info31
  go_enter Try.func4, Try.ntmps4
  go_wp2_with fail
  refine (zbytes_any _ _ _ L _ _ _ _ _ _ hn ha hl hd hm).mono ?_
  rintro e w' ⟨⟨r, rfl, hr⟩, hw⟩
  obtain rfl := hw.symm
  cases r
  · clear hr ha
    go_wp2_with fail
    go_ret
    exact ⟨rfl, Below.refl _ _⟩
  obtain ⟨hfit, hd1, hm1⟩ := hr rfl
  have HF : Hid (Fits n L) := hfit
  have hn1 := hfit.1
  clear hr hfit
  by_cases g1 : n ≤ 65536
  · by_cases g2 : db.size ≤ 65536
    · by_cases g3 : nm.size ≤ 65536
      · go_wp2_with fail
        refine (fit_any _ _ _ (db.size + nm.size) L _ hn ha HF.out (by omega)).mono ?_
        rintro e w' ⟨⟨r, rfl⟩, d, rfl⟩
        cases r
        · clear ha
          go_wp2_with fail
          go_ret
          exact ⟨rfl, below_drewN (Below.refl _ _) _⟩
        obtain ⟨w0, hw0⟩ : ∃ w0, w0 = w.drewN d := ⟨_, rfl⟩
        rw [← hw0]
        have ha0 : Lead w0 a L := by rw [hw0]; exact ha
        have hb0 : Below w.heap.size w w0 := by rw [hw0]; exact below_drewN (Below.refl _ _) _
        have hs0 : w0.heap.size = w.heap.size := by rw [hw0]; rfl
        have HS0 : Hid (w0.heap.size = w.heap.size) := hs0
        clear hw0 ha hs0
        go_wp2_with (at_make; refine wpList_make_full _ rfl _ _ 28 rfl w0.heap.size 31 i0 (.agg #[.string ⟨#[]⟩, .string ⟨#[]⟩, .int .i64 0, .int .i64 0]) 4 Try.underlying28 hi hz0 hz1 .i64 .i64 _ _ (n + 2) rfl rfl (by omega) (by omega) (by rw [hz2]; omega) (by unfold maxLen; omega) (Nat.le_refl _) ?_; intro w1 hown1 hgrow1)
        obtain ⟨cur, hg1, hc1⟩ := made_block4 hown1
        have hb1 := grown_below hgrow1
        have HT : Hid (Row w1 w0.heap.size (n + 2)) := Row.start hg1 hc1
        clear hg1 hown1 hgrow1 hc1
        go_loopw [15] (fun i wr => ∃ k : Nat, k ≤ n ∧ i = .int .i64 k ∧ Row wr w0.heap.size (n + 2) ∧ Below w0.heap.size w0 wr) (fun i _ => n - (intOf i).toNat)
        case atStart => exact ⟨0, Nat.zero_le _, rfl, HT.out, hb1⟩
        case round =>
          obtain ⟨k, hk, rfl, hrow, hbw⟩ := hrel
          by_cases hlt : k < n
          · obtain ⟨b, o, rfl, hbl, hc⟩ := ha0 (by have := hn.out; omega)
            obtain ⟨x0, x1, x2, x3, _, _⟩ := hc k (by have := hn.out; omega)
            have c0 := (hbw.cell (p := ⟨b, o + k * 4, none⟩) hbl).trans x0
            have c1 := (hbw.cell (p := ⟨b, o + k * 4 + 1, none⟩) hbl).trans x1
            have c2 := (hbw.cell (p := ⟨b, o + k * 4 + 2, none⟩) hbl).trans x2
            have c3 := (hbw.cell (p := ⟨b, o + k * 4 + 3, none⟩) hbl).trans x3
            obtain ⟨K, hK⟩ : ∃ K, K = (L.getD k tk0).k := ⟨_, rfl⟩
            obtain ⟨X, hX⟩ : ∃ X, X = (L.getD k tk0).t := ⟨_, rfl⟩
            obtain ⟨S, hS⟩ : ∃ S, S = (L.getD k tk0).s := ⟨_, rfl⟩
            obtain ⟨E, hE⟩ : ∃ E, E = (L.getD k tk0).e := ⟨_, rfl⟩
            rw [← hK] at c0
            rw [← hX] at c1
            rw [← hS] at c2
            rw [← hE] at c3
            obtain ⟨v0, hv0⟩ := Option.isSome_iff_exists.mp (hrow.2.1 (k * 4) (by omega))
            obtain ⟨v1, hv1⟩ := Option.isSome_iff_exists.mp (hrow.2.1 (k * 4 + 1) (by omega))
            obtain ⟨v2, hv2⟩ := Option.isSome_iff_exists.mp (hrow.2.1 (k * 4 + 2) (by omega))
            obtain ⟨v3, hv3⟩ := Option.isSome_iff_exists.mp (hrow.2.1 (k * 4 + 3) (by omega))
            have f0 := hrow.2.2 (k * 4)
            have f1 := hrow.2.2 (k * 4 + 1)
            have f2 := hrow.2.2 (k * 4 + 2)
            have f3 := hrow.2.2 (k * 4 + 3)
            have hT := hrow.1
            have hrow' : Hid (Row wr w0.heap.size (n + 2)) := hrow
            clear x0 x1 x2 x3 hc hK hX hS hE ha0 hrow
            have hlt' : (k : Int) < (n : Int) := by omega
            go_wp2_with fail
            refine (toToken_any K X S E _).mono ?_
            rintro r w' ⟨rfl, hw'⟩
            subst hw'
            go_wp2_with fail
            go_roundw
            case rel =>
              have hrow := hrow'.out
              refine ⟨k + 1, by omega, by go_num, (by repeat (first | with_reducible exact hrow | with_reducible apply Row.drew | with_reducible apply Row.alloc | with_reducible apply Row.set)), ?_⟩
              repeat (first | with_reducible exact hbw | with_reducible apply Below.drew | with_reducible refine Below.setCell ?_ (by exact Nat.le_refl _) _ | with_reducible refine Below.alloc ?_ (by first | omega | (simp; omega)) _)
            case measure => simp [intOf]; omega
          · obtain rfl : k = n := by omega
            clear ha0
            have HR0 : Hid (Row wr w0.heap.size (k + 2)) := hrow
            have hT := hrow.1
            obtain ⟨va0, hva0⟩ := Option.isSome_iff_exists.mp (hrow.2.1 ((k) * 4) (by omega))
            have fa0 := hrow.2.2 ((k) * 4)
            obtain ⟨va1, hva1⟩ := Option.isSome_iff_exists.mp (hrow.2.1 ((k) * 4 + 1) (by omega))
            have fa1 := hrow.2.2 ((k) * 4 + 1)
            obtain ⟨va2, hva2⟩ := Option.isSome_iff_exists.mp (hrow.2.1 ((k) * 4 + 2) (by omega))
            have fa2 := hrow.2.2 ((k) * 4 + 2)
            obtain ⟨va3, hva3⟩ := Option.isSome_iff_exists.mp (hrow.2.1 ((k) * 4 + 3) (by omega))
            have fa3 := hrow.2.2 ((k) * 4 + 3)
            obtain ⟨vb0, hvb0⟩ := Option.isSome_iff_exists.mp (hrow.2.1 ((k + 1) * 4) (by omega))
            have fb0 := hrow.2.2 ((k + 1) * 4)
            obtain ⟨vb1, hvb1⟩ := Option.isSome_iff_exists.mp (hrow.2.1 ((k + 1) * 4 + 1) (by omega))
            have fb1 := hrow.2.2 ((k + 1) * 4 + 1)
            obtain ⟨vb2, hvb2⟩ := Option.isSome_iff_exists.mp (hrow.2.1 ((k + 1) * 4 + 2) (by omega))
            have fb2 := hrow.2.2 ((k + 1) * 4 + 2)
            obtain ⟨vb3, hvb3⟩ := Option.isSome_iff_exists.mp (hrow.2.1 ((k + 1) * 4 + 3) (by omega))
            have fb3 := hrow.2.2 ((k + 1) * 4 + 3)
            obtain ⟨KN, hkn, hKN⟩ := kindOf_b nq
            have HKN : Hid (∀ w, Calls Try.prog 10 #[.bool nq] w fun e w' => e = .returned (.string KN) ∧ w' = w) := hKN
            clear hKN hrow
            go_wp2_with fail
            refine (HKN.out _).mono ?_
            rintro r w' ⟨rfl, hw'⟩
            obtain rfl := hw'.symm
            go_wp2_with fail
            refine calls_gen fun W hW => ?_
            have hrow := HR0.out
            have t0 : TokAt W w0.heap.size k KN nm 0 nm.size := by rw [hW]; exact ((((TokAt.store hrow (by omega)).past (by omega)).past (by omega)).past (by omega)).past (by omega)
            have t1 : TokAt W w0.heap.size (k + 1) kEnd ⟨#[]⟩ nm.size nm.size := by rw [hW]; exact TokAt.store (hrow.set.set.set.set) (by omega)
            have hbW : Below w0.heap.size w0 W := by
              rw [hW]
              repeat (first | with_reducible exact hbw | with_reducible apply Below.drew | with_reducible refine Below.setCell ?_ (by exact Nat.le_refl _) _)
            clear hW hrow HR0
            refine (zzread_any w0.heap.size (k + 2) (k + 2) k ⟨#[]⟩ nm nm.size ((k : Int) + 1) W t0.1 (fun W' rb hR _ hb => table_one rb _ _ _ _ KN nm nm.size W' hkn (by omega) (by omega) hR (t0.below hb) (t1.below hb))).mono ?_
            rintro r w3 ⟨rfl, hb3⟩
            have hbe : Below w.heap.size w w3 := by
              have h1 := HS0.out
              have h2 : Below w.heap.size w0 W := by rw [← h1]; exact hbW
              exact (hb0.trans h2).trans (hb3.mono (by have := (hb0.trans h2).size; omega))
            clear t0 t1 hbW hb3 hbw
            go_wp2
            go_ret
            refine ⟨rfl, ?_⟩
            have hsz := hbe.size
            repeat (first | with_reducible exact hbe | with_reducible apply Below.drew | with_reducible refine Below.alloc ?_ (by first | omega | (simp; omega)) _)
      · clear ha
        go_wp2_with fail
        go_ret
        exact ⟨rfl, Below.refl _ _⟩
    · clear ha
      go_wp2_with fail
      go_ret
      exact ⟨rfl, Below.refl _ _⟩
  · clear ha
    go_wp2_with fail
    go_ret
    exact ⟨rfl, Below.refl _ _⟩
end Go.Proofs.Qxb6604038a
