/- whole: the map of pieces. -/
import Derived.Test.Qxb6604122aWhB
import Derived.Maps.OwnSet
import Derived.Maps.OwnOps
import Derived.Maps.Views
namespace Go.Proofs.Qxb6604122a.whole
open Go.ChangeShapes Go.WideShapes Go.ChangeAt Go.RowKit Go.Maps

theorem makeMap_hint {P : Program} (w : World) (t k e : TypeId) (h : P.underlying t = some (.map k e)) (x : Int) : (Instr.makeMap t (some (.int .i64 x))).run P w = .ok (.map (some w.heap.size)) (w.alloc (.map #[] 0)) := by
  simp [Instr.makeMap, run_underlying h, asInt, asIntOf]

/-- A piece as a value. -/
def pv (a : List Int) (fs ls : List Bool) (i : Nat) : Value := .agg #[.int .u32 (a.getD i 0), .bool (fs.getD i false), .bool (ls.getD i false)]
def zv : Value := .agg #[.int .u32 0, .bool false, .bool false]
def R (v : Value) : Option (DataW Value × List MemPlace) := some (.held v, [])

theorem law40 : Keyed Try.prog 40 := int_keyed Try.underlying40
theorem zero43 (w : World) : (zeroValue 43).run Try.prog w = .ok zv w := by kernel_rfl

/-- What stands at a position among the first k pieces. -/
def at_ (a : List Int) (fs ls : List Bool) (k : Nat) (x : Int) : Value := match ix a k x with
  | some i => pv a fs ls i
  | none => zv

def MapOf (a : List Int) (fs ls : List Bool) (k : Nat) (D : DataW Value) : Prop :=
  IsMap D ∧ ∀ x, has D (.int .u32 x) = (ix a k x).isSome ∧ D.atKey (.int .u32 x) (.held zv) = .held (at_ a fs ls k x)

theorem MapOf.start (a : List Int) (fs ls : List Bool) : MapOf a fs ls 0 (.map []) := ⟨isMap_empty, fun _ => ⟨rfl, rfl⟩⟩

theorem MapOf.put {a : List Int} {fs ls : List Bool} {k : Nat} {D : DataW Value} (h : MapOf a fs ls k D) {y : Int} (hy : y = a.getD k 0) {v : Value} (hv : v = pv a fs ls k) : MapOf a fs ls (k + 1) (D.put (.int .u32 y) (.held v)) := by
  subst hv
  refine ⟨h.1.put _ _, fun x => ?_⟩
  by_cases e : x = y
  · subst e
    have e2 : ix a (k + 1) x = some k := by simp only [ix]; rw [if_pos hy.symm]
    exact ⟨by rw [has_put_same h.1 (by trivial), e2]; rfl, by rw [atKey_put_same h.1 (by trivial)]; unfold at_; rw [e2]⟩
  · have e2 : ix a (k + 1) x = ix a k x := by simp only [ix]; rw [if_neg (by rw [← hy]; exact fun h => e h.symm)]
    have hne : Lit.int .u32 x ≠ .int .u32 y := by simpa using e
    exact ⟨by rw [has_put_other hne, (h.2 x).1, e2], by rw [atKey_put_other hne, (h.2 x).2]; unfold at_; rw [e2]⟩

theorem MapOf.look {a : List Int} {fs ls : List Bool} {k : Nat} {D : DataW Value} (h : MapOf a fs ls k D) {w : World} {B n : Nat} (ho : w.ownsMap Try.prog 40 R B n D) {y : Int} (hy : (Lit.int .u32 y).wf = true) :
    (Instr.lookup 54 (.map (some B)) (.int .u32 y) true).run Try.prog w = .ok (.tuple #[at_ a fs ls k y, .bool (ix a k y).isSome]) w := by
  obtain ⟨v, ps, hrun, hv⟩ := ho.look_ok law40 Try.underlying54 (zero43 w) (zd := .held zv) (zp := []) rfl (keyOf_int_mk Try.underlying40 hy)
  rw [(h.2 y).1] at hrun
  rw [(h.2 y).2] at hv
  simp only [R, Option.some.injEq, Prod.mk.injEq, DataW.held.injEq] at hv
  rw [← hv.1]
  exact hrun

/-- The pieces as they lie in memory. -/
def Pieces (w : World) (p : Option Addr) (n : Nat) (a : List Int) (fs ls : List Bool) : Prop :=
  0 < n → ∃ b o, p = some ⟨b, o, none⟩ ∧ b < w.heap.size ∧ ∀ i, i < n → w.cell? ⟨b, o + i * 3, none⟩ = some (.int .u32 (a.getD i 0)) ∧ w.cell? ⟨b, o + i * 3 + 1, none⟩ = some (.bool (fs.getD i false)) ∧ w.cell? ⟨b, o + i * 3 + 2, none⟩ = some (.bool (ls.getD i false))

/-- What whole answers. -/
def WholeEnd (a : List Int) (fs ls : List Bool) (n : Nat) (e : Ending) : Prop :=
  ∃ r, e = .returned (.bool r) ∧ ((lf fs n = none ∧ r = false) ∨ ∃ f, lf fs n = some f ∧ Goes a ls n (a.getD f 0) r)

theorem posAt_zero {st : Int} (h : 0 ≤ st ∧ st < 4294967296) : posAt st 0 = st := by unfold posAt; omega
theorem posAt_succ (st : Int) (o : Nat) : (posAt st o + 1) % 4294967296 = posAt st (o + 1) := by unfold posAt; omega
theorem posAt_range (st : Int) (o : Nat) : 0 ≤ posAt st o ∧ posAt st o < 4294967296 := by unfold posAt; omega

theorem Run.step {a : List Int} {ls : List Bool} {n : Nat} {st : Int} {o i : Nat} (h : Run a ls n st o) (hi : ix a n (posAt st o) = some i) (hl : ls.getD i false = false) : Run a ls n st (o + 1) := by
  intro j hj
  by_cases e : j = o
  · subst e; exact ⟨i, hi, hl⟩
  · exact h j (by omega)

def fInt (fs : List Bool) (k : Nat) : Int := match lf fs k with
  | some f => (f : Int)
  | none => -1

theorem fInt_yes {fs : List Bool} {k : Nat} (h : fs.getD k false = true) : fInt fs (k + 1) = (k : Int) := by unfold fInt; simp only [lf]; rw [if_pos h]
theorem fInt_no {fs : List Bool} {k : Nat} (h : fs.getD k false = false) : fInt fs (k + 1) = fInt fs k := by unfold fInt; simp only [lf]; rw [if_neg (by rw [h]; simp)]
theorem fInt_none {fs : List Bool} {k : Nat} (h : lf fs k = none) : fInt fs k = -1 := by unfold fInt; rw [h]
theorem fInt_some {fs : List Bool} {k f : Nat} (h : lf fs k = some f) : fInt fs k = (f : Int) := by unfold fInt; rw [h]

set_option maxRecDepth 4000 in
set_option maxHeartbeats 1000000 in
theorem whole_any (p : Option Addr) (c n : Nat) (a : List Int) (fs ls : List Bool) (w : World) (hu : Hid (U32 a)) (hp : Pieces w p n a fs ls) (hl : n ≤ 4096) :
    Calls Try.prog 25 #[.slice p n c] w fun e w' => WholeEnd a fs ls n e ∧ Below w.heap.size w w' := by
  have hmm : ∀ (w : World) (x : Int), (Instr.makeMap 54 (some (.int .i64 x))).run Try.prog w = .ok (.map (some w.heap.size)) (w.alloc (.map #[] 0)) := fun w x => makeMap_hint w 54 40 43 Try.underlying54 x
  go_enter Try.func25, Try.ntmps25
  go_wp2
  go_loopw [4, 15] (fun f i wr => ∃ (k : Nat) (D : DataW Value), k ≤ n ∧ i = .int .i64 k ∧ f = .int .i64 (fInt fs k) ∧ wr.ownsMap Try.prog 40 R w.heap.size k D ∧ MapOf a fs ls k D ∧ Below w.heap.size w wr) (fun _ i _ => n - (intOf i).toNat)
  case atStart => exact ⟨0, .map [], Nat.zero_le _, rfl, rfl, World.ownsMap_made _ _ _ _, MapOf.start _ _ _, (Below.refl _ _).alloc (Nat.le_refl _) _⟩
  case round =>
    obtain ⟨k, D, hk, rfl, rfl, hown, hmo, hbw⟩ := hrel
    have HMO : Hid (MapOf a fs ls k D) := hmo
    clear hmo
    by_cases hlt : k < n
    · obtain ⟨b, o, rfl, hbl, hc⟩ := hp (by omega)
      obtain ⟨d1, d2, d3⟩ := hc k hlt
      have c1 := (hbw.cell (p := ⟨b, o + k * 3, none⟩) hbl).trans d1
      have c2 := (hbw.cell (p := ⟨b, o + k * 3 + 1, none⟩) hbl).trans d2
      have c3 := (hbw.cell (p := ⟨b, o + k * 3 + 2, none⟩) hbl).trans d3
      obtain ⟨x, hx⟩ : ∃ x, x = a.getD k 0 := ⟨_, rfl⟩
      obtain ⟨f, hf⟩ : ∃ f, f = fs.getD k false := ⟨_, rfl⟩
      obtain ⟨l, hl'⟩ : ∃ l, l = ls.getD k false := ⟨_, rfl⟩
      rw [← hx] at c1
      rw [← hf] at c2
      rw [← hl'] at c3
      have hxr := hu.out k
      rw [← hx] at hxr
      have hkey : keyOf Try.prog 40 (.int .u32 x) = some (.int .u32 x) := keyOf_int_mk Try.underlying40 (WalkArith.wf_u32 (by omega))
      have HV : Hid (x = a.getD k 0 ∧ f = fs.getD k false ∧ l = ls.getD k false) := ⟨hx, hf, hl'⟩
      clear hx hf hl' hc d1 d2 d3 hp
      have hlt' : (k : Int) < (n : Int) := by omega
      have hBlt := hown.lt
      obtain ⟨w3, hrun, hown3, hg3⟩ := (hown.alloc (.cells #[.int .u32 x, .bool f, .bool l] 43)).update law40 Try.underlying54 (by unfold maxLen; omega) hkey (val := .agg #[.int .u32 x, .bool f, .bool l]) (d := .held (.agg #[.int .u32 x, .bool f, .bool l])) (ps := []) rfl
      have hfc : w3.cell? ⟨wr.heap.size, 1, none⟩ = some (.bool f) := hg3.cell (by simp) (by simp; omega)
      have hb3 : Below w.heap.size w w3 := (hbw.alloc hbw.size _).grown hg3 (by have := hbw.size; simp; omega) (fun j hj => by cases hj; exact Nat.le_refl _)
      have HM3 : Hid (MapOf a fs ls (k + 1) (D.put (.int .u32 x) (.held (.agg #[.int .u32 x, .bool f, .bool l])))) := HMO.out.put HV.out.1 (by unfold pv; rw [← HV.out.1, ← HV.out.2.1, ← HV.out.2.2])
      clear hg3 hkey hown
      cases f
      · have hff := fInt_no HV.out.2.1.symm
        have HFF : Hid (fInt fs (k + 1) = fInt fs k) := hff
        clear hff
        go_wp2
        go_roundw
        case rel => exact ⟨k + 1, _, by omega, by go_num, by rw [HFF.out], hown3, HM3.out, hb3⟩
        case measure => simp [intOf]; omega
      · have hff := fInt_yes HV.out.2.1.symm
        have HFF : Hid (fInt fs (k + 1) = (k : Int)) := hff
        clear hff
        go_wp2
        go_roundw
        case rel => exact ⟨k + 1, _, by omega, by go_num, by rw [HFF.out], hown3, HM3.out, hb3⟩
        case measure => simp [intOf]; omega
    · obtain rfl : k = n := by omega
      cases hlf : lf fs k with
      | none =>
        have HF := fInt_none hlf
        rw [HF]
        have HLF : Hid (lf fs k = none) := hlf
        clear HF hp hown hlf
        go_wp2
        go_ret
        exact ⟨⟨_, rfl, .inl ⟨HLF.out, rfl⟩⟩, hbw⟩
      | some f =>
        have HF := fInt_some hlf
        rw [HF]
        have hfl := lf_lt hlf
        have HLF : Hid (lf fs k = some f) := hlf
        obtain ⟨b, o, rfl, hbl, hc⟩ := hp (by omega)
        have c1 := (hbw.cell (p := ⟨b, o + f * 3, none⟩) hbl).trans (hc f hfl).1
        obtain ⟨st, hst⟩ : ∃ st, st = a.getD f 0 := ⟨_, rfl⟩
        have hsr := hu.out f
        rw [← hst] at c1 hsr
        have HST : Hid (st = a.getD f 0) := hst
        clear HF hlf hc hp hst
        have hfl' : (f : Int) < (k : Int) := by omega
        go_wp2
        go_loopg [7] (k + 1) (fun g ps wr => ∃ o : Nat, o ≤ k ∧ g = k + 1 - o ∧ ps = .int .u32 (posAt st o) ∧ Run a ls k st o ∧ wr.ownsMap Try.prog 40 R w.heap.size k D ∧ Below w.heap.size w wr)
        case atStart => exact ⟨0, Nat.zero_le _, rfl, by rw [posAt_zero hsr], fun j hj => absurd hj (by omega), hown, hbw⟩
        case round =>
          obtain ⟨o2, ho2, hgk, rfl, hrun, hown2, hbw2⟩ := hrel
          have HG : Hid (gk = k + 1 - o2) := hgk
          have HR : Hid (Run a ls k st o2) := hrun
          obtain ⟨y, hy⟩ : ∃ y, y = posAt st o2 := ⟨_, rfl⟩
          have hyr := posAt_range st o2
          rw [← hy] at hyr
          rw [← hy]
          have HY : Hid (y = posAt st o2) := hy
          have hlk := HMO.out.look hown2 (y := y) (WalkArith.wf_u32 (by omega))
          clear hgk hrun hy
          cases hix : ix a k y with
          | none =>
            have HIX : Hid (ix a k y = none) := hix
            have hat : at_ a fs ls k y = .agg #[.int .u32 0, .bool false, .bool false] := by unfold at_; rw [hix]; rfl
            rw [hat, hix] at hlk
            simp only [Option.isSome_none] at hlk
            clear hix hat
            go_wp2
            go_ret
            exact ⟨⟨_, rfl, .inr ⟨f, HLF.out, o2, ho2, by rw [← HST.out]; exact HR.out, .inr ⟨rfl, by rw [← HST.out, ← HY.out]; exact HIX.out⟩⟩⟩, hbw2.alloc hbw2.size _⟩
          | some i =>
            have HIX : Hid (ix a k y = some i) := hix
            have hat : at_ a fs ls k y = .agg #[.int .u32 (a.getD i 0), .bool (fs.getD i false), .bool (ls.getD i false)] := by unfold at_; rw [hix]; rfl
            rw [hat, hix] at hlk
            simp only [Option.isSome_some] at hlk
            obtain ⟨x1, hx1⟩ : ∃ x1, x1 = a.getD i 0 := ⟨_, rfl⟩
            obtain ⟨x2, hx2⟩ : ∃ x2, x2 = fs.getD i false := ⟨_, rfl⟩
            obtain ⟨x3, hx3⟩ : ∃ x3, x3 = ls.getD i false := ⟨_, rfl⟩
            rw [← hx1, ← hx2, ← hx3] at hlk
            have H3 : Hid (x3 = ls.getD i false) := hx3
            clear hix hat hx1 hx2 hx3
            cases x3
            · have hrun2 := HR.out.step (by rw [← HY.out]; exact HIX.out) H3.out.symm
              have HR2 : Hid (Run a ls k st (o2 + 1)) := hrun2
              have hsh := hrun2.short hu.out (by omega)
              clear hrun2
              go_wp2
              go_roundg (k + 1 - (o2 + 1))
              case measure => have := HG.out; omega
              case rel => exact ⟨o2 + 1, hsh, rfl, by rw [← posAt_succ, ← HY.out], HR2.out, hown2.alloc _, hbw2.alloc hbw2.size _⟩
            · go_wp2
              go_ret
              exact ⟨⟨_, rfl, .inr ⟨f, HLF.out, o2, ho2, by rw [← HST.out]; exact HR.out, .inl ⟨rfl, i, by rw [← HST.out, ← HY.out]; exact HIX.out, H3.out.symm⟩⟩⟩, hbw2.alloc hbw2.size _⟩
end Go.Proofs.Qxb6604122a.whole
