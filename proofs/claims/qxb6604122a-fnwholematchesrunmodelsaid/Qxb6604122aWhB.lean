/- wholeModel, walked. -/
import Derived.Test.Qxb6604122aWhA
namespace Go.Proofs.Qxb6604122a.whole
open Go.ChangeShapes Go.WideShapes Go.ChangeAt Go.RowKit
attribute [local go_sem] eql_nil

/-- The last of the first k pieces that is marked first. -/
def lf (fs : List Bool) : Nat → Option Nat
  | 0 => none
  | k + 1 => if fs.getD k false = true then some k else lf fs k

theorem lf_lt {fs : List Bool} {k f : Nat} (h : lf fs k = some f) : f < k := by
  induction k with
  | zero => simp [lf] at h
  | succ k ih =>
    simp only [lf] at h
    split at h
    · simp at h; omega
    · have := ih h; omega

/-- What the model answers. -/
def ModelEnd (a : List Int) (fs ls : List Bool) (n : Nat) (e : Ending) : Prop :=
  ∃ r, e = .returned (.bool r) ∧ ((lf fs n = none ∧ r = false) ∨ ∃ f, lf fs n = some f ∧ Tells a ls n (a.getD f 0) r)

theorem Least.start (a : List Int) (ls : List Bool) (n : Nat) (st : Int) (d : Int) : Least a ls n 0 st false d := .inl ⟨rfl, fun _ h => absurd h (by omega)⟩

theorem Least.skip {a : List Int} {ls : List Bool} {n k : Nat} {st : Int} {hv : Bool} {d : Int} (h : Least a ls n k st hv d) (hk : ¬ (ls.getD k false = true ∧ stand a n k = true)) : Least a ls n (k + 1) st hv d := by
  rcases h with ⟨h1, h2⟩ | ⟨h1, h2, h3, ⟨j, h4, h5⟩, h6⟩
  · refine .inl ⟨h1, fun j hj => ?_⟩
    by_cases e : j = k
    · subst e; exact hk
    · exact h2 j (by omega)
  · refine .inr ⟨h1, h2, h3, ⟨j, by omega, h5⟩, fun j hj a b => ?_⟩
    by_cases e : j = k
    · subst e; exact absurd ⟨a, b⟩ hk
    · exact h6 j (by omega) a b

theorem Least.take {a : List Int} {ls : List Bool} {n k : Nat} {st : Int} {hv : Bool} {d z : Int} (h : Least a ls n k st hv d) (hl : ls.getD k false = true) (hs : stand a n k = true) (hz : z = off a st k) (hlt : hv = false ∨ z < d) :
    Least a ls n (k + 1) st true z := by
  have hr := off_range a st k
  refine .inr ⟨rfl, by omega, by omega, ⟨k, by omega, hl, hs, hz.symm⟩, fun j hj hlj hsj => ?_⟩
  by_cases e : j = k
  · subst e; omega
  · rcases h with ⟨_, h2⟩ | ⟨h1, _, _, _, h6⟩
    · exact absurd ⟨hlj, hsj⟩ (h2 j (by omega))
    · have := h6 j (by omega) hlj hsj
      rcases hlt with hlt | hlt
      · rw [h1] at hlt; cases hlt
      · omega

theorem Least.keep {a : List Int} {ls : List Bool} {n k : Nat} {st : Int} {d z : Int} (h : Least a ls n k st true d) (hz : z = off a st k) (hge : ¬ z < d) : Least a ls n (k + 1) st true d := by
  rcases h with ⟨h1, _⟩ | ⟨h1, h2, h3, ⟨j, h4, h5⟩, h6⟩
  · cases h1
  · refine .inr ⟨h1, h2, h3, ⟨j, by omega, h5⟩, fun j hj a b => ?_⟩
    by_cases e : j = k
    · subst e; omega
    · exact h6 j (by omega) a b

theorem cnt_step_yes {p : Nat → Bool} {k C : Nat} (h : C = cnt p k) (hp : p k = true) : C + 1 = cnt p (k + 1) := by simp only [cnt]; rw [if_pos hp, h]
theorem cnt_step_no {p : Nat → Bool} {k C : Nat} (h : C = cnt p k) (hp : p k = false) : C = cnt p (k + 1) := by simp only [cnt]; rw [hp, h]; rfl

set_option maxRecDepth 4000 in
set_option maxHeartbeats 2000000 in
theorem model_any (pa pf pl : Option Addr) (ca cf cl n : Nat) (a : List Int) (fs ls : List Bool) (w : World) (hn : Hid (n = a.length ∧ n = fs.length ∧ n = ls.length))
    (ha : Reads (Value.int .u32) 0 w pa a) (hf : Reads Value.bool false w pf fs) (hls : Reads Value.bool false w pl ls) (hl : n ≤ 4096) :
    Calls Try.prog 16 #[.slice pa n ca, .slice pf n cf, .slice pl n cl] w fun e w' => ModelEnd a fs ls n e ∧ ∃ q, w' = w.drewN q := by
  go_enter Try.func16, Try.ntmps16
  go_wp2
  go_loop [8, 9] (fun f i => ∃ k : Nat, k ≤ n ∧ i = .int .i64 ((k : Int) - 1) ∧ f = .int .i64 (-1) ∧ lf fs n = lf fs k) (fun _ i => (intOf i + 1).toNat)
  case atStart => exact ⟨n, Nat.le_refl _, rfl, rfl, rfl⟩
  case round =>
    obtain ⟨k, hk, rfl, rfl, hlf⟩ := hrel
    have HLF : Hid (lf fs n = lf fs k) := hlf
    clear hlf
    by_cases hpos : 0 < k
    · obtain ⟨m, rfl⟩ : ∃ m, k = m + 1 := ⟨k - 1, by omega⟩
      obtain ⟨bf, of, rfl, _, hcf⟩ := hf (by have := hn.out; omega)
      have c1 := hcf m (by have := hn.out; omega)
      have e1 : ((m + 1 : Nat) : Int) - 1 = (m : Int) := by omega
      rw [e1]
      obtain ⟨x, hx⟩ : ∃ x, x = fs.getD m false := ⟨_, rfl⟩
      rw [← hx] at c1
      have HX : Hid (x = fs.getD m false) := hx
      have hm' : (m : Int) < (n : Int) := by omega
      clear hx e1
      cases x
      · clear hcf
        go_wp2
        go_round
        case rel => exact ⟨m, by omega, by go_num, rfl, by rw [HLF.out]; simp only [lf]; rw [if_neg (by rw [← HX.out]; simp)]⟩
        case measure => simp [intOf]
      · have HS : Hid (lf fs n = some m) := by show _ = _; rw [HLF.out]; simp only [lf]; rw [if_pos HX.out.symm]
        obtain ⟨ba, oa, rfl, _, hca⟩ := ha (by have := hn.out; omega)
        obtain ⟨bl, ol, rfl, _, hcl⟩ := hls (by have := hn.out; omega)
        have c2 := hca m (by have := hn.out; omega)
        obtain ⟨st, hst⟩ : ∃ st, st = a.getD m 0 := ⟨_, rfl⟩
        rw [← hst] at c2
        have HST : Hid (st = a.getD m 0) := hst
        have HRA : Hid (Reads (Value.int .u32) 0 w (some ⟨ba, oa, none⟩) a) := ha
        have HCA : Hid (∀ i, i < a.length → w.cell? ⟨ba, oa + i, none⟩ = some (.int .u32 (a.getD i 0))) := hca
        have HCL : Hid (∀ i, i < ls.length → w.cell? ⟨bl, ol + i, none⟩ = some (.bool (ls.getD i false))) := hcl
        clear hst hcf ha hf hls hca hcl
        go_wp2
        go_loopw [11, 12, 13] (fun hv d i wr => ∃ (k : Nat) (v : Bool) (D : Int), k ≤ n ∧ i = .int .i64 k ∧ hv = .bool v ∧ d = .int .u32 D ∧ 0 ≤ D ∧ D < 4294967296 ∧ Least a ls n k st v D ∧ ∃ q, wr = w.drewN q) (fun _ _ i _ => n - (intOf i).toNat)
        case atStart => exact ⟨0, false, 0, Nat.zero_le _, rfl, rfl, rfl, by omega, by omega, Least.start _ _ _ _ _, 0, rfl⟩
        case round =>
          obtain ⟨k, v, D, hk, rfl, rfl, rfl, hD0, hD1, hle, q, rfl⟩ := hrel
          have HLE : Hid (Least a ls n k st v D) := hle
          clear hle
          by_cases hlt : k < n
          · have c3 := HCL.out k (by have := hn.out; omega)
            have c4 := HCA.out k (by have := hn.out; omega)
            obtain ⟨l, hl'⟩ : ∃ l, l = ls.getD k false := ⟨_, rfl⟩
            obtain ⟨x, hx⟩ : ∃ x, x = a.getD k 0 := ⟨_, rfl⟩
            rw [← hl'] at c3
            rw [← hx] at c4
            have HLL : Hid (l = ls.getD k false) := hl'
            have HX2 : Hid (x = a.getD k 0) := hx
            obtain ⟨s, hs⟩ : ∃ s, s = stand a n k := ⟨_, rfl⟩
            have HS2 : Hid (s = stand a n k) := hs
            have HC : Hid (∀ q, Calls Try.prog 26 #[.slice (some ⟨ba, oa, none⟩) n ca, .int .i64 (k : Int)] (w.drewN q) fun e w' => e = .returned (.bool s) ∧ ∃ q', w' = (w.drewN q).drewN q') := by
              intro q
              rw [hs]
              exact standing_any _ ca n k a _ hn.out.1 HRA.out hlt (by omega)
            clear hl' hx hs
            have hlt' : (k : Int) < (n : Int) := by omega
            cases l
            · go_wp2_with fail
              go_roundw
              case rel => exact ⟨k + 1, v, D, by omega, by go_num, rfl, rfl, hD0, hD1, HLE.out.skip (fun h => by rw [← HLL.out] at h; exact absurd h.1 (by simp)), _, rfl⟩
              case measure => simp [intOf]; omega
            · cases s
              · go_wp2_with fail
                refine (HC.out _).mono ?_
                rintro e w' ⟨rfl, q2, rfl⟩
                go_wp2_with fail
                go_roundw
                case rel => exact ⟨k + 1, v, D, by omega, by go_num, rfl, rfl, hD0, hD1, HLE.out.skip (fun h => by rw [← HS2.out] at h; exact absurd h.2 (by simp)), _, by first | rfl | rw [World.drewN_drewN]⟩
                case measure => simp [intOf]; omega
              · have hzr : 0 ≤ (x - st) % 4294967296 ∧ (x - st) % 4294967296 < 4294967296 := by omega
                by_cases hzd : (x - st) % 4294967296 < D
                · cases v
                  · go_wp2_with fail
                    refine (HC.out _).mono ?_
                    rintro e w' ⟨rfl, q2, rfl⟩
                    go_wp2_with fail
                    go_roundw
                    case rel => exact ⟨k + 1, true, (x - st) % 4294967296, by omega, by go_num, rfl, rfl, hzr.1, hzr.2, HLE.out.take HLL.out.symm HS2.out.symm (by rw [off, ← HX2.out]) (.inl rfl), _, by first | rfl | rw [World.drewN_drewN]⟩
                    case measure => simp [intOf]; omega
                  · go_wp2_with fail
                    refine (HC.out _).mono ?_
                    rintro e w' ⟨rfl, q2, rfl⟩
                    go_wp2_with fail
                    go_roundw
                    case rel => exact ⟨k + 1, true, (x - st) % 4294967296, by omega, by go_num, rfl, rfl, hzr.1, hzr.2, HLE.out.take HLL.out.symm HS2.out.symm (by rw [off, ← HX2.out]) (.inr hzd), _, by first | rfl | rw [World.drewN_drewN]⟩
                    case measure => simp [intOf]; omega
                · cases v
                  · go_wp2_with fail
                    refine (HC.out _).mono ?_
                    rintro e w' ⟨rfl, q2, rfl⟩
                    go_wp2_with fail
                    go_roundw
                    case rel => exact ⟨k + 1, true, (x - st) % 4294967296, by omega, by go_num, rfl, rfl, hzr.1, hzr.2, HLE.out.take HLL.out.symm HS2.out.symm (by rw [off, ← HX2.out]) (.inl rfl), _, by first | rfl | rw [World.drewN_drewN]⟩
                    case measure => simp [intOf]; omega
                  · go_wp2_with fail
                    refine (HC.out _).mono ?_
                    rintro e w' ⟨rfl, q2, rfl⟩
                    go_wp2_with fail
                    go_roundw
                    case rel => exact ⟨k + 1, true, D, by omega, by go_num, rfl, rfl, hD0, hD1, HLE.out.keep (z := (x - st) % 4294967296) (by rw [off, ← HX2.out]) (by omega), _, by first | rfl | rw [World.drewN_drewN]⟩
                    case measure => simp [intOf]; omega
          · obtain rfl : k = n := by omega
            cases v
            · go_wp2
              go_ret
              exact ⟨⟨_, rfl, .inr ⟨m, HS.out, false, D, by rw [← HST.out]; exact HLE.out, .inl ⟨rfl, rfl⟩⟩⟩, _, rfl⟩
            · go_wp2
              go_loopw [15, 16] (fun cn i wr => ∃ (j C : Nat), j ≤ k ∧ C ≤ j ∧ i = .int .i64 j ∧ cn = .int .u64 C ∧ Hid (C = cnt (fun i => stand a k i && decide (off a st i ≤ D)) j) ∧ ∃ q, wr = w.drewN q) (fun _ i _ => k - (intOf i).toNat)
              case atStart => exact ⟨0, 0, Nat.zero_le _, Nat.le_refl _, rfl, rfl, show _ = _ from rfl, _, rfl⟩
              case round =>
                obtain ⟨j, C, hj, hCj, rfl, rfl, HCN, q, rfl⟩ := hrel
                by_cases hjk : j < k
                · have c4 := HCA.out j (by have := hn.out; omega)
                  obtain ⟨x, hx⟩ : ∃ x, x = a.getD j 0 := ⟨_, rfl⟩
                  rw [← hx] at c4
                  have HX2 : Hid (x = a.getD j 0) := hx
                  obtain ⟨s, hs⟩ : ∃ s, s = stand a k j := ⟨_, rfl⟩
                  have HS2 : Hid (s = stand a k j) := hs
                  have HC : Hid (∀ q, Calls Try.prog 26 #[.slice (some ⟨ba, oa, none⟩) k ca, .int .i64 (j : Int)] (w.drewN q) fun e w' => e = .returned (.bool s) ∧ ∃ q', w' = (w.drewN q).drewN q') := by
                    intro q
                    rw [hs]
                    exact standing_any _ ca k j a _ hn.out.1 HRA.out hjk (by omega)
                  clear hx hs
                  have hjk' : (j : Int) < (k : Int) := by omega
                  cases s
                  · go_wp2_with fail
                    refine (HC.out _).mono ?_
                    rintro e w' ⟨rfl, q2, rfl⟩
                    go_wp2_with fail
                    go_roundw
                    case rel => exact ⟨j + 1, C, by omega, by omega, by go_num, rfl, cnt_step_no HCN.out (by rw [← HS2.out]; rfl), _, by first | rfl | rw [World.drewN_drewN]⟩
                    case measure => simp [intOf]; omega
                  · by_cases hzd : (x - st) % 4294967296 ≤ D
                    · go_wp2_with fail
                      refine (HC.out _).mono ?_
                      rintro e w' ⟨rfl, q2, rfl⟩
                      go_wp2_with fail
                      go_roundw
                      case rel => exact ⟨j + 1, C + 1, by omega, by omega, by go_num, by go_num, cnt_step_yes HCN.out (by rw [← HS2.out, off, ← HX2.out, decide_eq_true (p := (x - st) % 4294967296 ≤ D) (by omega)]; rfl), _, by first | rfl | rw [World.drewN_drewN]⟩
                      case measure => simp [intOf]; omega
                    · go_wp2_with fail
                      refine (HC.out _).mono ?_
                      rintro e w' ⟨rfl, q2, rfl⟩
                      go_wp2_with fail
                      go_roundw
                      case rel => exact ⟨j + 1, C, by omega, by omega, by go_num, rfl, cnt_step_no HCN.out (by rw [← HS2.out, off, ← HX2.out, decide_eq_false (p := (x - st) % 4294967296 ≤ D) (by omega)]; rfl), _, by first | rfl | rw [World.drewN_drewN]⟩
                      case measure => simp [intOf]; omega
                · obtain rfl : j = k := by omega
                  go_wp2
                  go_ret
                  exact ⟨⟨_, rfl, .inr ⟨m, HS.out, true, D, by rw [← HST.out]; exact HLE.out, .inr ⟨rfl, by rw [← HST.out, ← HCN.out]⟩⟩⟩, _, rfl⟩
    · obtain rfl : k = 0 := by omega
      clear hf ha hls
      go_wp2
      go_ret
      exact ⟨⟨_, rfl, .inl ⟨HLF.out, rfl⟩⟩, 0, rfl⟩
end Go.Proofs.Qxb6604122a.whole
