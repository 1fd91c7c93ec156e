/- FnFillIsTheGreedyPartition, walked. -/
import Derived.Test.Qxb6604122aFillDom
import Derived.Test.Qxb6604122aFillWalk
namespace Go.Proofs.Qxb6604122a.fill
open Go.ChangeShapes Go.WideShapes Go.ChangeAt Go.RowKit
attribute [local go_sem] eql_nil

/-- What the checker meets at group g. -/
def AtGroup (w' : World) (ws : List Int) (room most : Int) (n : Nat) (ga : Option Addr) (gl : Nat) (G : List (Nat × Nat)) (g gb b cap s e : Nat) : Prop :=
  ga = some ⟨gb, 0, none⟩ ∧ w'.cell? ⟨gb, g, none⟩ = some (.slice (some ⟨b, 0, none⟩) (e - s) cap) ∧ (∀ j, j < e - s → w'.cell? ⟨b, j, none⟩ = some (.int .i64 ((s + j : Nat) : Int))) ∧
  startAt G n g = s ∧ startAt G n (g + 1) = e ∧ Grp ws room most s e ∧ e ≤ n ∧ (g + 1 < gl → Shut ws room most s e ∧ e < n)

theorem Filled.group {w0 w' : World} {ws : List Int} {room most : Int} {n : Nat} {ga : Option Addr} {gl gc : Nat} {G : List (Nat × Nat)} {vs : List Value} (h : Filled w0 w' ws room most n ga gl gc G vs) (hn : 0 < n) {g : Nat} (hg : g < gl) :
    ∃ gb b cap s e, AtGroup w' ws room most n ga gl G g gb b cap s e := by
  obtain ⟨rfl, _, hf, ho, hd, _⟩ := h
  obtain ⟨f1, f2, f3, f4⟩ := (hf hn).2 g hg
  obtain ⟨gb, gcap, hsh⟩ := shape ho (by omega)
  simp only [Value.slice.injEq] at hsh
  obtain ⟨rfl, _, _⟩ := hsh
  have hv := hd g hg
  obtain ⟨b, cap, hb⟩ := shape hv (by have := f2.1; omega)
  rw [hb] at hv
  have hlen : vs.length = G.length := by have := ho.1; omega
  refine ⟨gb, b, cap, (G.getD g (0, 0)).1, (G.getD g (0, 0)).2, rfl, ?_, fun j hj => ?_, ?_, f1.symm, f2, f3, f4⟩
  · rw [ho.cellAt g (by omega), ← hb, List.getD_eq_getElem?_getD, List.getElem?_eq_getElem (by omega)]; rfl
  · rw [hv.cellAt j (by omega), seg_at _ _ _ hj]
  · unfold startAt; rw [if_pos hg]

theorem own_le {w : World} {B e n : Nat} {v : Value} {xs : List Value} (h : w.ownsRow B e 1 v n xs) : n ≤ 9223372036854775807 := by
  rcases h.2 with ⟨_, h2⟩ | ⟨g, cap, cur, _, _, _, h3, h4, _⟩
  · omega
  · unfold maxLen at h4; omega

theorem startAt_last (G : List (Nat × Nat)) (n gl : Nat) (h : gl = G.length) : startAt G n gl = n := by
  unfold startAt; rw [if_neg (by omega)]

set_option maxRecDepth 6000 in
set_option maxHeartbeats 2000000 in
theorem law_walk (a : Option Addr) (c n : Nat) (ws : List Int) (room most : Int) (w : World) (hn : Hid (n = ws.length)) (hnil : a = none → n = 0) (ha : Reads (Value.int .i64) 0 w a ws) (hw : ∀ n ∈ ws, (Lit.int .i64 n).wf = true)
    (hl : n ≤ 9223372036854775807) (hr : room ≤ 9223372036854775807) :
    Calls Try.prog 3 #[.slice a n c, .int .i64 room, .int .i64 most] w fun e w' => e = .returned (.bool true) ∧ Below w.heap.size w w' := by
  by_cases h1 : n ≤ 1048576
  · have hd : decide (n ≤ 1048576) = true := decide_eq_true h1
    by_cases h2 : n ≤ 131072
    · have HW : Hid (∀ n ∈ ws, (Lit.int .i64 n).wf = true) := hw
      have HNIL : Hid (a = none → n = 0) := hnil
      clear hw hnil
      go_enter Try.func3, Try.ntmps3
      go_wp2_with fail
      refine (zbytes_any _ _ _ _ _ _ hl).mono ?_
      rintro e w' ⟨rfl, hww⟩
      obtain rfl := hww.symm
      rw [hd]
      go_wp2_with fail
      refine (domain_any _ _ _ ws _ _ hn ha HW.out h1).mono ?_
      rintro e w' ⟨⟨r, rfl, hdom⟩, hww⟩
      obtain rfl := hww.symm
      cases r
      · clear hdom
        go_wp2_with fail
        go_ret
        exact ⟨rfl, Below.refl _ _⟩
      have HD : Hid (Dom ws room n) := hdom rfl
      clear hdom
      go_wp2_with fail
      refine (cloneInts_any _ _ _ ws _ hn HNIL.out ha h1).mono ?_
      rintro e w1 ⟨a1, c1, rfl, hra1, hb1⟩
      go_wp2_with fail
      refine (zzfill_any _ _ _ ws _ _ _ hn hra1 HD.out h2 hr).mono ?_
      rintro e w2 ⟨ga, gl, gc, G, vs, rfl, hfil⟩
      have hb2 := hfil.2.2.2.2.2
      have hbe : Below w.heap.size w w2 := hb1.trans (hb2.mono hb1.size)
      have hra2 := hra1.below hb2
      have HF : Hid (Filled w1 w2 ws room most n ga gl gc G vs) := hfil
      clear ha hra1 hb1 hb2
      by_cases hz : n = 0
      · subst hz
        have hga := hfil.2.1 rfl
        subst hga
        clear hfil
        go_wp2
        go_ret
        exact ⟨rfl, hbe⟩
      · have hnb : ((n : Int) == 0) = false := by simpa using (by omega : ¬ (n : Int) = 0)
        have HGL : Hid (gl = G.length) := hfil.1
        have hglb : gl ≤ 9223372036854775807 := own_le hfil.2.2.2.1
        have HS0 : Hid (startAt G n 0 = 0) := (hfil.2.2.1 (by omega)).1
        clear hfil
        go_wp2
        go_loopg [8, 9] gl (fun gk nx g wr => ∃ i p : Nat, i ≤ gl ∧ gk = gl - i ∧ g = .int .i64 i ∧ nx = .int .i64 p ∧ Hid (p = startAt G n i) ∧ wr = w2)
        case atStart => exact ⟨0, 0, Nat.zero_le _, rfl, rfl, rfl, HS0.out.symm, rfl⟩
        case round =>
          obtain ⟨i, p, hi, hgk, rfl, rfl, HP, rfl⟩ := hrel
          have HGK : Hid (gk = gl - i) := hgk
          clear hgk
          by_cases hlt : i < gl
          · obtain ⟨gb, b, cap, s, e, rfl, k1, k2, k3, k4, k5, k6, k7⟩ := HF.out.group (by omega) hlt
            have HG : Hid (Grp ws room most s e) := k5
            have HE : Hid (startAt G n (i + 1) = e) := k4
            have HSH : Hid (i + 1 < gl → Shut ws room most s e ∧ e < n) := k7
            have HC : Hid (∀ j, j < e - s → wr.cell? ⟨b, j, none⟩ = some (.int .i64 ((s + j : Nat) : Int))) := k2
            obtain rfl : p = s := by rw [HP.out, k3]
            have hse : p < e := k5.1
            obtain ⟨q, hq⟩ : ∃ q, q = e - p := ⟨_, rfl⟩
            rw [← hq] at k1
            have hq1 : 0 < q := by omega
            have hqe : p + q = e := by omega
            have HQE : Hid (p + q = e) := hqe
            have hqe1 : p + q ≤ e := by omega
            have hmost : 0 < most → (q : Int) ≤ most := by rw [hq]; exact k5.2.2
            clear k2 k3 k4 k5 k7 hq hqe
            have hqz : ((q : Int) == 0) = false := by simpa using (by omega : ¬ (q : Int) = 0)
            have hm0 : ¬ (0 < most ∧ most < (q : Int)) := fun h => by have := hmost h.1; omega
            by_cases hm : 0 < most
            · have hm1 : ¬ most < (q : Int) := fun h => hm0 ⟨hm, h⟩
              clear hm0 hmost
              go_wp2
              go_loop [8, 11, 12] (fun nx us jj => ∃ (t r : Nat) (U : Int), t ≤ q ∧ jj = .int .i64 t ∧ nx = .int .i64 r ∧ us = .int .i64 U ∧ Hid (r = p + t ∧ U = psum ws r - psum ws p)) (fun _ _ jj => q - (intOf jj).toNat)
              case atStart => exact ⟨0, p, 0, Nat.zero_le _, rfl, rfl, rfl, by omega, by omega⟩
              case round =>
                obtain ⟨t, r, U, ht, rfl, rfl, rfl, HR⟩ := hrel
                by_cases htq : t < q
                · have hrn : r < n := by have := HR.out; omega
                  have c1 : wr.cell? ⟨b, t, none⟩ = some (.int .i64 (r : Int)) := by rw [HC.out t (by have := HQE.out; omega), HR.out.1]
                  obtain ⟨bw, ow, rfl, _, hcw⟩ := hra2 (by have := hn.out; omega)
                  have c2 := hcw r (by have := hn.out; omega)
                  have hrg := HD.out.range (s := p) (e := r + 1) (by have := HR.out; omega) (by omega)
                  have hro := HG.out.2.1 (r + 1) (by have := HR.out; omega) (by have := HR.out; have := HQE.out; omega)
                  simp only [psum] at hrg hro
                  obtain ⟨x, hx⟩ : ∃ x, x = ws.getD r 0 := ⟨_, rfl⟩
                  rw [← hx] at c2 hrg hro
                  have hr1 : -9223372036854775807 ≤ U + x := by have := HR.out.2; omega
                  have hr2 : U + x ≤ 9223372036854775807 := by have := HR.out.2; omega
                  have hr3 : U + x ≤ room := by have := HR.out.2; omega
                  have HX : Hid (x = ws.getD r 0) := hx
                  clear hx hcw hra2 hrg hro
                  have htq' : (t : Int) < (q : Int) := by omega
                  have hrn' : (r : Int) < (n : Int) := by omega
                  go_wp2
                  go_round
                  case rel => exact ⟨t + 1, r + 1, U + x, by omega, by go_num, by go_num, rfl, by have := HR.out.1; omega, by have h5 := HR.out.2; have h6 := HX.out; simp only [psum]; omega⟩
                  case measure => simp [intOf]; omega
                · obtain rfl : t = q := by omega
                  obtain rfl : r = e := by have := HR.out; have := HQE.out; omega
                  by_cases hlast : i + 1 < gl
                  · obtain ⟨hsh, hen⟩ := HSH.out hlast
                    obtain ⟨bw, ow, rfl, _, hcw⟩ := hra2 (by have := hn.out; omega)
                    have c2 := hcw r (by have := hn.out; omega)
                    have hrg := HD.out.range (s := p) (e := r + 1) (by omega) (by omega)
                    simp only [psum] at hrg
                    obtain ⟨x, hx⟩ : ∃ x, x = ws.getD r 0 := ⟨_, rfl⟩
                    rw [← hx] at c2 hrg
                    have hr1 : -9223372036854775807 ≤ U + x := by have := HR.out.2; omega
                    have hr2 : U + x ≤ 9223372036854775807 := by have := HR.out.2; omega
                    have hsh2 : (0 < most ∧ (t : Int) = most) ∨ room < U + x := by
                      have h5 := HR.out.2
                      have h6 : r - p = t := by have := HQE.out; omega
                      unfold Shut at hsh
                      rw [← hx, h6] at hsh
                      rcases hsh with h | h
                      · exact .inl h
                      · exact .inr (by omega)
                    clear hx hcw hra2 hrg hsh
                    have hrn' : (r : Int) < (n : Int) := by omega
                    by_cases hfull : 0 < most ∧ (t : Int) = most
                    · obtain ⟨hf1, hf2⟩ := hfull
                      clear hsh2
                      go_wp2
                      all_goals
                        go_roundg (gl - (i + 1))
                        case measure => have := HGK.out; omega
                        case rel => exact ⟨i + 1, r, by omega, rfl, by go_num, rfl, HE.out.symm, rfl⟩
                    · have hr3 : room < U + x := hsh2.resolve_left hfull
                      clear hsh2
                      by_cases hf1 : 0 < most
                      · have hf2 : ((t : Int) == most) = false := by simpa using fun h => hfull ⟨hf1, h⟩
                        clear hfull
                        go_wp2
                        all_goals
                          go_roundg (gl - (i + 1))
                          case measure => have := HGK.out; omega
                          case rel => exact ⟨i + 1, r, by omega, rfl, by go_num, rfl, HE.out.symm, rfl⟩
                      · clear hfull
                        go_wp2
                        all_goals
                          go_roundg (gl - (i + 1))
                          case measure => have := HGK.out; omega
                          case rel => exact ⟨i + 1, r, by omega, rfl, by go_num, rfl, HE.out.symm, rfl⟩
                  · clear hra2
                    go_wp2
                    all_goals
                      go_roundg (gl - (i + 1))
                      case measure => have := HGK.out; omega
                      case rel => exact ⟨i + 1, r, by omega, rfl, by go_num, rfl, HE.out.symm, rfl⟩
            · clear hm0 hmost
              go_wp2
              go_loop [8, 11, 12] (fun nx us jj => ∃ (t r : Nat) (U : Int), t ≤ q ∧ jj = .int .i64 t ∧ nx = .int .i64 r ∧ us = .int .i64 U ∧ Hid (r = p + t ∧ U = psum ws r - psum ws p)) (fun _ _ jj => q - (intOf jj).toNat)
              case atStart => exact ⟨0, p, 0, Nat.zero_le _, rfl, rfl, rfl, by omega, by omega⟩
              case round =>
                obtain ⟨t, r, U, ht, rfl, rfl, rfl, HR⟩ := hrel
                by_cases htq : t < q
                · have hrn : r < n := by have := HR.out; omega
                  have c1 : wr.cell? ⟨b, t, none⟩ = some (.int .i64 (r : Int)) := by rw [HC.out t (by have := HQE.out; omega), HR.out.1]
                  obtain ⟨bw, ow, rfl, _, hcw⟩ := hra2 (by have := hn.out; omega)
                  have c2 := hcw r (by have := hn.out; omega)
                  have hrg := HD.out.range (s := p) (e := r + 1) (by have := HR.out; omega) (by omega)
                  have hro := HG.out.2.1 (r + 1) (by have := HR.out; omega) (by have := HR.out; have := HQE.out; omega)
                  simp only [psum] at hrg hro
                  obtain ⟨x, hx⟩ : ∃ x, x = ws.getD r 0 := ⟨_, rfl⟩
                  rw [← hx] at c2 hrg hro
                  have hr1 : -9223372036854775807 ≤ U + x := by have := HR.out.2; omega
                  have hr2 : U + x ≤ 9223372036854775807 := by have := HR.out.2; omega
                  have hr3 : U + x ≤ room := by have := HR.out.2; omega
                  have HX : Hid (x = ws.getD r 0) := hx
                  clear hx hcw hra2 hrg hro
                  have htq' : (t : Int) < (q : Int) := by omega
                  have hrn' : (r : Int) < (n : Int) := by omega
                  go_wp2
                  go_round
                  case rel => exact ⟨t + 1, r + 1, U + x, by omega, by go_num, by go_num, rfl, by have := HR.out.1; omega, by have h5 := HR.out.2; have h6 := HX.out; simp only [psum]; omega⟩
                  case measure => simp [intOf]; omega
                · obtain rfl : t = q := by omega
                  obtain rfl : r = e := by have := HR.out; have := HQE.out; omega
                  by_cases hlast : i + 1 < gl
                  · obtain ⟨hsh, hen⟩ := HSH.out hlast
                    obtain ⟨bw, ow, rfl, _, hcw⟩ := hra2 (by have := hn.out; omega)
                    have c2 := hcw r (by have := hn.out; omega)
                    have hrg := HD.out.range (s := p) (e := r + 1) (by omega) (by omega)
                    simp only [psum] at hrg
                    obtain ⟨x, hx⟩ : ∃ x, x = ws.getD r 0 := ⟨_, rfl⟩
                    rw [← hx] at c2 hrg
                    have hr1 : -9223372036854775807 ≤ U + x := by have := HR.out.2; omega
                    have hr2 : U + x ≤ 9223372036854775807 := by have := HR.out.2; omega
                    have hsh2 : (0 < most ∧ (t : Int) = most) ∨ room < U + x := by
                      have h5 := HR.out.2
                      have h6 : r - p = t := by have := HQE.out; omega
                      unfold Shut at hsh
                      rw [← hx, h6] at hsh
                      rcases hsh with h | h
                      · exact .inl h
                      · exact .inr (by omega)
                    clear hx hcw hra2 hrg hsh
                    have hrn' : (r : Int) < (n : Int) := by omega
                    by_cases hfull : 0 < most ∧ (t : Int) = most
                    · obtain ⟨hf1, hf2⟩ := hfull
                      clear hsh2
                      go_wp2
                      all_goals
                        go_roundg (gl - (i + 1))
                        case measure => have := HGK.out; omega
                        case rel => exact ⟨i + 1, r, by omega, rfl, by go_num, rfl, HE.out.symm, rfl⟩
                    · have hr3 : room < U + x := hsh2.resolve_left hfull
                      clear hsh2
                      by_cases hf1 : 0 < most
                      · have hf2 : ((t : Int) == most) = false := by simpa using fun h => hfull ⟨hf1, h⟩
                        clear hfull
                        go_wp2
                        all_goals
                          go_roundg (gl - (i + 1))
                          case measure => have := HGK.out; omega
                          case rel => exact ⟨i + 1, r, by omega, rfl, by go_num, rfl, HE.out.symm, rfl⟩
                      · clear hfull
                        go_wp2
                        all_goals
                          go_roundg (gl - (i + 1))
                          case measure => have := HGK.out; omega
                          case rel => exact ⟨i + 1, r, by omega, rfl, by go_num, rfl, HE.out.symm, rfl⟩
                  · clear hra2
                    go_wp2
                    all_goals
                      go_roundg (gl - (i + 1))
                      case measure => have := HGK.out; omega
                      case rel => exact ⟨i + 1, r, by omega, rfl, by go_num, rfl, HE.out.symm, rfl⟩
          · have hpn : p = n := by rw [HP.out]; have : i = gl := by omega
                                   rw [this]; exact startAt_last _ _ _ HGL.out
            subst hpn
            clear hra2
            go_wp2
            go_ret
            exact ⟨rfl, hbe⟩
    · clear hnil ha hw
      go_enter Try.func3, Try.ntmps3
      go_wp2_with fail
      refine (zbytes_any _ _ _ _ _ _ hl).mono ?_
      rintro e w' ⟨rfl, hww⟩
      obtain rfl := hww.symm
      rw [hd]
      go_wp2_with fail
      go_ret
      exact ⟨rfl, Below.refl _ _⟩
  · have hd : decide (n ≤ 1048576) = false := decide_eq_false h1
    clear hnil ha hw
    go_enter Try.func3, Try.ntmps3
    go_wp2_with fail
    refine (zbytes_any _ _ _ _ _ _ hl).mono ?_
    rintro e w' ⟨rfl, hww⟩
    obtain rfl := hww.symm
    rw [hd]
    go_wp2_with fail
    go_ret
    exact ⟨rfl, Below.refl _ _⟩
end Go.Proofs.Qxb6604122a.fill
