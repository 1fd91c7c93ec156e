/- ZZwhole, walked. -/
import Derived.Test.Qxb6604122aWhC
import Derived.BigRegion
namespace Go.Proofs.Qxb6604122a.whole
open Go.ChangeShapes Go.WideShapes Go.ChangeAt Go.RowKit Go.Maps

theorem info43 : (Try.prog.info? 43).map (fun i => (i.zero, i.size, i.bytes)) = some (some (.agg #[.int .u32 0, .bool false, .bool false]), 3, 8) := by kernel_rfl

theorem made_block3 {w w1 : World} {e n : Nat} {z : Value} (h : w1.ownsRow w.heap.size e 3 (.slice (some ⟨w.heap.size, 0, none⟩) n n) n (madeCells z.cells (n * 3)).toList) :
    ∃ cur, w1.heap[w.heap.size]? = some (.cells cur e (0, 0)) ∧ cur.size = n * 3 := by
  rcases h.2 with ⟨h1, _⟩ | ⟨g, cap, cur, h1, _, h2, _, _, h3, _⟩
  · cases h1
  · cases h1
    exact ⟨cur, h2, by omega⟩

/-- The row of pieces at block T, of which the first k are laid. -/
def Laid (w : World) (T n : Nat) (a : List Int) (fs ls : List Bool) (k : Nat) : Prop :=
  T < w.heap.size ∧ (∀ j, j < n * 3 → (w.cell? ⟨T, j, none⟩).isSome = true) ∧
  (∀ i, i < k → w.cell? ⟨T, i * 3, none⟩ = some (.int .u32 (a.getD i 0)) ∧ w.cell? ⟨T, i * 3 + 1, none⟩ = some (.bool (fs.getD i false)) ∧ w.cell? ⟨T, i * 3 + 2, none⟩ = some (.bool (ls.getD i false))) ∧ ∀ j, w.frozen? ⟨T, j, none⟩ = false

theorem Laid.start {w : World} {T n : Nat} {a : List Int} {fs ls : List Bool} {cur : Array Value} {t : TypeId} (h : w.heap[T]? = some (.cells cur t (0, 0))) (hs : cur.size = n * 3) : Laid w T n a fs ls 0 := by
  refine ⟨?_, fun j hj => ?_, fun j hj => absurd hj (by omega), fun j => ?_⟩
  · by_cases hlt : T < w.heap.size
    · exact hlt
    · rw [Array.getElem?_eq_none (by omega)] at h; cases h
  · simp [World.cell?, h]; omega
  · simp [World.frozen?, h]

theorem set_at {w : World} {T j0 : Nat} (v : Value) (h : (w.cell? ⟨T, j0, none⟩).isSome = true) (j : Nat) : (w.setCell ⟨T, j0, none⟩ v).cell? ⟨T, j, none⟩ = if j = j0 then some v else w.cell? ⟨T, j, none⟩ := by
  by_cases e : j = j0
  · subst e; rw [if_pos rfl]; exact World.cell?_setCell_same' w _ v h
  · rw [if_neg e]
    refine World.cell?_setCell_other _ _ _ _ ?_
    intro h; injection h; omega

theorem Laid.step {w : World} {T n : Nat} {a : List Int} {fs ls : List Bool} {k : Nat} (h : Laid w T n a fs ls k) (hk : k < n) {x : Int} {f l : Bool} (hx : x = a.getD k 0) (hf : f = fs.getD k false) (hl : l = ls.getD k false) :
    Laid (((w.setCell ⟨T, k * 3, none⟩ (.int .u32 x)).setCell ⟨T, k * 3 + 1, none⟩ (.bool f)).setCell ⟨T, k * 3 + 2, none⟩ (.bool l)).drew T n a fs ls (k + 1) := by
  obtain ⟨h1, h2, h3, h4⟩ := h
  have s1 := set_at (w := w) (T := T) (.int .u32 x) (h2 (k * 3) (by omega))
  have i1 : ∀ j, j < n * 3 → ((w.setCell ⟨T, k * 3, none⟩ (.int .u32 x)).cell? ⟨T, j, none⟩).isSome = true := fun j hj => by
    rw [s1 j]; split
    · rfl
    · exact h2 j hj
  have s2 := set_at (.bool f) (i1 (k * 3 + 1) (by omega))
  have i2 : ∀ j, j < n * 3 → (((w.setCell ⟨T, k * 3, none⟩ (.int .u32 x)).setCell ⟨T, k * 3 + 1, none⟩ (.bool f)).cell? ⟨T, j, none⟩).isSome = true := fun j hj => by
    rw [s2 j]; split
    · rfl
    · exact i1 j hj
  have s3 := set_at (.bool l) (i2 (k * 3 + 2) (by omega))
  refine ⟨by simpa using h1, fun j hj => ?_, fun i hi => ?_, fun j => ?_⟩
  · rw [World.cell?_drew, s3 j]; split
    · rfl
    · exact i2 j hj
  · rw [World.cell?_drew, World.cell?_drew, World.cell?_drew, s3, s3, s3, s2, s2, s2, s1, s1, s1]
    by_cases e : i = k
    · subst e
      subst hx; subst hf; subst hl
      refine ⟨?_, ?_, ?_⟩
      · rw [if_neg (by omega), if_neg (by omega), if_pos rfl]
      · rw [if_neg (by omega), if_pos rfl]
      · rw [if_pos rfl]
    · rw [if_neg (by omega), if_neg (by omega), if_neg (by omega), if_neg (by omega), if_neg (by omega), if_neg (by omega), if_neg (by omega), if_neg (by omega), if_neg (by omega)]
      exact h3 i (by omega)
  · rw [World.frozen?_drew, World.frozen?_setCell, World.frozen?_setCell, World.frozen?_setCell]; exact h4 j

theorem Laid.pieces {w : World} {T n : Nat} {a : List Int} {fs ls : List Bool} (h : Laid w T n a fs ls n) : Pieces w (some ⟨T, 0, none⟩) n a fs ls := by
  intro _
  exact ⟨T, 0, rfl, h.1, fun i hi => by simpa using h.2.2.1 i hi⟩

set_option maxRecDepth 4000 in
set_option maxHeartbeats 1000000 in
theorem zzwhole_any (pa pf pl : Option Addr) (ca cf cl n : Nat) (a : List Int) (fs ls : List Bool) (w : World) (hn : Hid (n = a.length ∧ n = fs.length ∧ n = ls.length)) (hu : Hid (U32 a))
    (ha : Reads (Value.int .u32) 0 w pa a) (hf : Reads Value.bool false w pf fs) (hls : Reads Value.bool false w pl ls) (hl : n ≤ 4096) :
    Calls Try.prog 15 #[.slice pa n ca, .slice pf n cf, .slice pl n cl] w fun e w' => WholeEnd a fs ls n e ∧ Below w.heap.size w w' := by
  obtain ⟨i0, hi, hz0, hz1, hz2⟩ := info_parts info43
  go_enter Try.func15, Try.ntmps15
  go_wp2_with (at_make; refine wpList_make_full _ rfl _ _ 41 rfl w.heap.size 43 i0 (.agg #[.int .u32 0, .bool false, .bool false]) 3 Try.underlying41 hi hz0 hz1 .i64 .i64 _ _ n rfl rfl (by omega) (by omega) (by rw [hz2]; omega) (by unfold maxLen; omega) (Nat.le_refl _) ?_; intro w1 hown1 hgrow1)
  obtain ⟨cur, hg1, hc1⟩ := made_block3 hown1
  have hb1 := grown_below hgrow1
  have HT : Hid (Laid w1 w.heap.size n a fs ls 0) := Laid.start hg1 hc1
  clear hg1 hown1 hgrow1 hc1
  go_loopw [8] (fun i wr => ∃ k : Nat, k ≤ n ∧ i = .int .i64 k ∧ Laid wr w.heap.size n a fs ls k ∧ Below w.heap.size w wr) (fun i _ => n - (intOf i).toNat)
  case atStart => exact ⟨0, Nat.zero_le _, rfl, HT.out, hb1⟩
  case round =>
    obtain ⟨k, hk, rfl, htw, hbw⟩ := hrel
    have HTW : Hid (Laid wr w.heap.size n a fs ls k) := htw
    by_cases hlt : k < n
    · obtain ⟨b1, o1, rfl, hl1, hc1⟩ := ha (by have := hn.out; omega)
      obtain ⟨b2, o2, rfl, hl2, hc2⟩ := hf (by have := hn.out; omega)
      obtain ⟨b3, o3, rfl, hl3, hc3⟩ := hls (by have := hn.out; omega)
      have c1 := (hbw.cell (p := ⟨b1, o1 + k, none⟩) hl1).trans (hc1 k (by have := hn.out; omega))
      have c2 := (hbw.cell (p := ⟨b2, o2 + k, none⟩) hl2).trans (hc2 k (by have := hn.out; omega))
      have c3 := (hbw.cell (p := ⟨b3, o3 + k, none⟩) hl3).trans (hc3 k (by have := hn.out; omega))
      obtain ⟨x, hx⟩ : ∃ x, x = a.getD k 0 := ⟨_, rfl⟩
      obtain ⟨f, hff⟩ : ∃ f, f = fs.getD k false := ⟨_, rfl⟩
      obtain ⟨l, hll⟩ : ∃ l, l = ls.getD k false := ⟨_, rfl⟩
      rw [← hx] at c1
      rw [← hff] at c2
      rw [← hll] at c3
      have HV : Hid (x = a.getD k 0 ∧ f = fs.getD k false ∧ l = ls.getD k false) := ⟨hx, hff, hll⟩
      obtain ⟨v0, hv0⟩ := Option.isSome_iff_exists.mp (htw.2.1 (k * 3) (by omega))
      obtain ⟨v1, hv1⟩ := Option.isSome_iff_exists.mp (htw.2.1 (k * 3 + 1) (by omega))
      obtain ⟨v2, hv2⟩ := Option.isSome_iff_exists.mp (htw.2.1 (k * 3 + 2) (by omega))
      have hf0 := htw.2.2.2 (k * 3)
      have hf1 := htw.2.2.2 (k * 3 + 1)
      have hf2 := htw.2.2.2 (k * 3 + 2)
      clear hx hff hll hc1 hc2 hc3 htw ha hf hls
      have hlt' : (k : Int) < (n : Int) := by omega
      go_wp2
      go_region
      go_wp2
      go_roundw
      case rel => exact ⟨k + 1, by omega, by go_num, HTW.out.step hlt HV.out.1 HV.out.2.1 HV.out.2.2, (((hbw.setCell (Nat.le_refl _) _).setCell (Nat.le_refl _) _).setCell (Nat.le_refl _) _).drew⟩
      case measure => simp [intOf]; omega
    · obtain rfl : k = n := by omega
      clear htw ha hf hls
      go_wp2_with fail
      refine (whole_any _ _ _ a fs ls _ hu HTW.out.pieces hl).mono ?_
      rintro e w2 ⟨⟨r, rfl, hr⟩, hb2⟩
      have HR : Hid ((lf fs k = none ∧ r = false) ∨ ∃ f, lf fs k = some f ∧ Goes a ls k (a.getD f 0) r) := hr
      clear hr
      go_wp2
      go_ret
      exact ⟨⟨_, rfl, HR.out⟩, hbw.trans (hb2.mono hbw.size)⟩
end Go.Proofs.Qxb6604122a.whole
