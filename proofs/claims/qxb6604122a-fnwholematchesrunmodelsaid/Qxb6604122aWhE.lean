/- FnWholeMatchesRunModel, walked. -/
import Derived.Test.Qxb6604122aWhD
namespace Go.Proofs.Qxb6604122a.whole
open Go.ChangeShapes Go.WideShapes Go.ChangeAt Go.RowKit Go.Maps

theorem both {a : List Int} {fs ls : List Bool} {n : Nat} {r1 r2 : Bool} (hu : U32 a) (hn : n ≤ 4096) (h1 : (lf fs n = none ∧ r1 = false) ∨ ∃ f, lf fs n = some f ∧ Goes a ls n (a.getD f 0) r1)
    (h2 : (lf fs n = none ∧ r2 = false) ∨ ∃ f, lf fs n = some f ∧ Tells a ls n (a.getD f 0) r2) : r1 = r2 := by
  rcases h1 with ⟨e1, rfl⟩ | ⟨f1, e1, g1⟩
  · rcases h2 with ⟨e2, rfl⟩ | ⟨f2, e2, g2⟩
    · rfl
    · rw [e1] at e2; cases e2
  · rcases h2 with ⟨e2, rfl⟩ | ⟨f2, e2, g2⟩
    · rw [e1] at e2; cases e2
    · rw [e1] at e2; cases e2
      exact agree hu hn g1 g2

set_option maxRecDepth 4000 in
set_option maxHeartbeats 1000000 in
theorem law_eq (pa pf pl : Option Addr) (ca cf cl n : Nat) (a : List Int) (fs ls : List Bool) (w : World) (hn : Hid (n = a.length ∧ n = fs.length ∧ n = ls.length)) (hu : Hid (U32 a))
    (na : pa = none → n = 0) (nf : pf = none → n = 0) (nl : pl = none → n = 0)
    (ha : Reads (Value.int .u32) 0 w pa a) (hf : Reads Value.bool false w pf fs) (hls : Reads Value.bool false w pl ls) (hl : n ≤ 4096) :
    Calls Try.prog 4 #[.slice pa n ca, .slice pf n cf, .slice pl n cl] w fun e w' => e = .returned (.bool true) ∧ Below w.heap.size w w' := by
  have hd : decide (n + n + n ≤ 1048576) = true := decide_eq_true (by omega)
  have NA : Hid (pa = none → n = 0) := na
  have NF : Hid (pf = none → n = 0) := nf
  have NL : Hid (pl = none → n = 0) := nl
  clear na nf nl
  go_enter Try.func4, Try.ntmps4
  go_wp2_with fail
  refine (zbytes_any _ _ _ _ _ _ _ _ _ _ (by omega) (by omega) (by omega)).mono ?_
  rintro e w' ⟨rfl, hw⟩
  obtain rfl := hw.symm
  rw [hd]
  go_wp2_with fail
  refine (cloneU32_any _ _ _ a _ hn.out.1 NA.out ha (by omega)).mono ?_
  rintro e w1 ⟨p1, c1, rfl, hra, hb1⟩
  have hf1 := hf.below hb1
  have hls1 := hls.below hb1
  clear ha hf hls
  go_wp2_with fail
  refine (cloneBools_any _ _ _ fs _ hn.out.2.1 NF.out hf1 (by omega)).mono ?_
  rintro e w2 ⟨p2, c2, rfl, hrf, hb2⟩
  have hra2 := hra.below hb2
  have hls2 := hls1.below hb2
  have hbe2 := hb1.trans (hb2.mono hb1.size)
  clear hra hf1 hls1 hb1 hb2
  go_wp2_with fail
  refine (cloneBools_any _ _ _ ls _ hn.out.2.2 NL.out hls2 (by omega)).mono ?_
  rintro e w3 ⟨p3, c3, rfl, hrl, hb3⟩
  have hra3 := hra2.below hb3
  have hrf3 := hrf.below hb3
  have hbe3 := hbe2.trans (hb3.mono hbe2.size)
  clear hra2 hls2 hrf hb3 hbe2
  go_wp2_with fail
  refine (zzwhole_any _ _ _ _ _ _ _ a fs ls _ hn hu hra3 hrf3 hrl hl).mono ?_
  rintro e w4 ⟨⟨r1, rfl, hr1⟩, hb4⟩
  have hra4 := hra3.below hb4
  have hrf4 := hrf3.below hb4
  have hrl4 := hrl.below hb4
  have hbe4 := hbe3.trans (hb4.mono hbe3.size)
  have HR1 : Hid ((lf fs n = none ∧ r1 = false) ∨ ∃ f, lf fs n = some f ∧ Goes a ls n (a.getD f 0) r1) := hr1
  clear hra3 hrf3 hrl hb4 hbe3 hr1
  go_wp2_with fail
  refine (model_any _ _ _ _ _ _ _ a fs ls _ hn hra4 hrf4 hrl4 hl).mono ?_
  rintro e w5 ⟨⟨r2, rfl, hr2⟩, q, rfl⟩
  have hr : r1 = r2 := both hu.out hl HR1.out hr2
  subst hr
  clear hr2
  cases r1
  · go_wp2
    go_ret
    exact ⟨rfl, below_drewN hbe4 _⟩
  · go_wp2
    go_ret
    exact ⟨rfl, below_drewN hbe4 _⟩

set_option maxRecDepth 4000 in
set_option maxHeartbeats 1000000 in
theorem law_walk (pa pf pl : Option Addr) (ca cf cl n m l : Nat) (a : List Int) (fs ls : List Bool) (w : World) (hn : Hid (n = a.length ∧ m = fs.length ∧ l = ls.length)) (hu : Hid (U32 a))
    (na : pa = none → n = 0) (nf : pf = none → m = 0) (nl : pl = none → l = 0)
    (ha : Reads (Value.int .u32) 0 w pa a) (hf : Reads Value.bool false w pf fs) (hls : Reads Value.bool false w pl ls) (h1 : n ≤ 9223372036854775807) (h2 : m ≤ 9223372036854775807) (h3 : l ≤ 9223372036854775807) :
    Calls Try.prog 4 #[.slice pa n ca, .slice pf m cf, .slice pl l cl] w fun e w' => e = .returned (.bool true) ∧ Below w.heap.size w w' := by
  by_cases hs : n + m + l ≤ 1048576
  · have hd : decide (n + m + l ≤ 1048576) = true := decide_eq_true hs
    by_cases g1 : n ≤ 4096
    · by_cases g2 : m ≤ 4096
      · by_cases g3 : l ≤ 4096
        · by_cases e1 : m = n
          · by_cases e2 : l = n
            · subst e1
              subst e2
              exact law_eq pa pf pl ca cf cl l a fs ls w hn hu na nf nl ha hf hls g1
            · have eb : ((l : Int) == (n : Int)) = false := by simpa using (by omega : ¬ (l : Int) = (n : Int))
              subst e1
              clear na nf nl ha hf hls
              go_enter Try.func4, Try.ntmps4
              go_wp2_with fail
              refine (zbytes_any _ _ _ _ _ _ _ _ _ _ (by omega) (by omega) (by omega)).mono ?_
              rintro e w' ⟨rfl, hw⟩
              obtain rfl := hw.symm
              rw [hd]
              go_wp2_with fail
              go_ret
              exact ⟨rfl, Below.refl _ _⟩
          · have eb : ((m : Int) == (n : Int)) = false := by simpa using (by omega : ¬ (m : Int) = (n : Int))
            clear na nf nl ha hf hls
            go_enter Try.func4, Try.ntmps4
            go_wp2_with fail
            refine (zbytes_any _ _ _ _ _ _ _ _ _ _ (by omega) (by omega) (by omega)).mono ?_
            rintro e w' ⟨rfl, hw⟩
            obtain rfl := hw.symm
            rw [hd]
            go_wp2_with fail
            go_ret
            exact ⟨rfl, Below.refl _ _⟩
        · clear na nf nl ha hf hls
          go_enter Try.func4, Try.ntmps4
          go_wp2_with fail
          refine (zbytes_any _ _ _ _ _ _ _ _ _ _ (by omega) (by omega) (by omega)).mono ?_
          rintro e w' ⟨rfl, hw⟩
          obtain rfl := hw.symm
          rw [hd]
          go_wp2_with fail
          go_ret
          exact ⟨rfl, Below.refl _ _⟩
      · clear na nf nl ha hf hls
        go_enter Try.func4, Try.ntmps4
        go_wp2_with fail
        refine (zbytes_any _ _ _ _ _ _ _ _ _ _ (by omega) (by omega) (by omega)).mono ?_
        rintro e w' ⟨rfl, hw⟩
        obtain rfl := hw.symm
        rw [hd]
        go_wp2_with fail
        go_ret
        exact ⟨rfl, Below.refl _ _⟩
    · clear na nf nl ha hf hls
      go_enter Try.func4, Try.ntmps4
      go_wp2_with fail
      refine (zbytes_any _ _ _ _ _ _ _ _ _ _ (by omega) (by omega) (by omega)).mono ?_
      rintro e w' ⟨rfl, hw⟩
      obtain rfl := hw.symm
      rw [hd]
      go_wp2_with fail
      go_ret
      exact ⟨rfl, Below.refl _ _⟩
  · have hd : decide (n + m + l ≤ 1048576) = false := decide_eq_false hs
    clear na nf nl ha hf hls
    go_enter Try.func4, Try.ntmps4
    go_wp2_with fail
    refine (zbytes_any _ _ _ _ _ _ _ _ _ _ (by omega) (by omega) (by omega)).mono ?_
    rintro e w' ⟨rfl, hw⟩
    obtain rfl := hw.symm
    rw [hd]
    go_wp2_with fail
    go_ret
    exact ⟨rfl, Below.refl _ _⟩
end Go.Proofs.Qxb6604122a.whole
