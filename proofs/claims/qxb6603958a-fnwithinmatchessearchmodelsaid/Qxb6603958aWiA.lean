/- The small callees of FnWithinMatchesSearchModel: b1Has, b1AllIn, the two guards on size. -/
import Derived.Test.Qxb6603958aKit
namespace Go.Proofs.Qxb6603958a.within
open Go.ChangeShapes Go.WideShapes Go.ChangeAt Go.RowKit

/-- A slice of slices at 'a' whose elements are 'ss' can be read in w. -/
def RowsRead (w : World) (a : Option Addr) (ss : List (List Int)) : Prop :=
  0 < ss.length → ∃ b off, a = some ⟨b, off, none⟩ ∧ b < w.heap.size ∧ ∀ i, i < ss.length → ∃ sa sc, w.cell? ⟨b, off + i, none⟩ = some (.slice sa (ss.getD i []).length sc) ∧ Reads w sa (ss.getD i []) ∧ (ss.getD i []).length ≤ 9223372036854775807

theorem RowsRead.below {w w' : World} {a : Option Addr} {ss : List (List Int)} (h : RowsRead w a ss) (hb : Below w.heap.size w w') : RowsRead w' a ss := by
  intro hp
  obtain ⟨b, off, rfl, hlt, hc⟩ := h hp
  refine ⟨b, off, rfl, Nat.lt_of_lt_of_le hlt hb.size, fun i hi => ?_⟩
  obtain ⟨sa, sc, h1, h2, h3⟩ := hc i hi
  exact ⟨sa, sc, by rw [hb.cell (p := ⟨b, off + i, none⟩) hlt]; exact h1, h2.below hb, h3⟩

theorem getD_of_lt (l : List Int) (k : Nat) (h : k < l.length) : l.getD k 0 = l[k] := by
  rw [List.getD_eq_getElem?_getD, List.getElem?_eq_getElem h]; rfl

/-- Does 'zs' hold x? -/
def hasB (zs : List Int) (x : Int) : Bool := zs.contains x

theorem contains_step_no {zs : List Int} {k : Nat} {x y : Int} (hk : k < zs.length) (hy : y = zs.getD k 0) (h : hasB (zs.take k) x = false) (hne : ¬ y = x) : hasB (zs.take (k + 1)) x = false := by
  unfold hasB at h ⊢
  rw [take_succ_getD _ _ hk, ← hy]
  simp at h ⊢
  exact ⟨h, fun e => hne e.symm⟩

theorem contains_yes {zs : List Int} {k : Nat} {x y : Int} (hk : k < zs.length) (hy : y = zs.getD k 0) (he : y = x) : hasB zs x = true := by
  rw [getD_of_lt _ _ hk] at hy
  unfold hasB
  simp
  rw [← he, hy]; exact List.getElem_mem hk

set_option maxHeartbeats 400000 in
theorem has_any (a : Option Addr) (c n : Nat) (zs : List Int) (x : Int) (w : World) (hn : Hid (n = zs.length)) (ha : Reads w a zs) (hl : n ≤ 9223372036854775807) :
    Calls Try.prog 14 #[.slice a n c, .int .i64 x] w fun e w' => e = .returned (.bool (hasB zs x)) ∧ w' = w := by
  go_enter Try.func14, Try.ntmps14
  go_wp2
  go_loop [5] (fun i => ∃ k : Nat, k ≤ n ∧ i = .int .i64 k ∧ hasB (zs.take k) x = false) (fun i => n - (intOf i).toNat)
  case atStart => exact ⟨0, Nat.zero_le _, rfl, rfl⟩
  case round =>
    obtain ⟨k, hk, rfl, ht⟩ := hrel
    have HT : Hid (hasB (zs.take k) x = false) := ht
    clear ht
    by_cases hlt : k < n
    · obtain ⟨b, off, rfl, _, hc⟩ := ha (by have := hn.out; omega)
      have h1 := hc k (by have := hn.out; omega)
      obtain ⟨y, hy⟩ : ∃ y, y = zs.getD k 0 := ⟨_, rfl⟩
      rw [← hy] at h1
      have HY : Hid (y = zs.getD k 0) := hy
      clear hy hc ha
      by_cases hxy : y = x
      · go_wp2
        go_ret
        exact ⟨by rw [contains_yes (by have := hn.out; omega) HY.out hxy]; rfl, rfl⟩
      · have hxb : (y == x) = false := by simpa using hxy
        go_wp2
        go_round
        case rel => exact ⟨k + 1, by omega, by go_num, contains_step_no (by have := hn.out; omega) HY.out HT.out hxy⟩
        case measure => simp [intOf]; omega
    · clear ha
      go_wp2
      go_ret
      have h3 := HT.out
      rw [List.take_of_length_le (by have := hn.out; omega)] at h3
      exact ⟨by rw [h3]; rfl, rfl⟩

/-- Does 'zs' hold every number of 'ps'? -/
def allIn (ps zs : List Int) : Bool := ps.all fun x => hasB zs x

theorem allIn_step {ps zs : List Int} {k : Nat} {y : Int} (hk : k < ps.length) (hy : y = ps.getD k 0) : allIn (ps.take (k + 1)) zs = (allIn (ps.take k) zs && hasB zs y) := by
  unfold allIn
  rw [take_succ_getD _ _ hk, ← hy]
  simp

theorem allIn_no {ps zs : List Int} {k : Nat} {y : Int} (hk : k < ps.length) (hy : y = ps.getD k 0) (h : hasB zs y = false) : allIn ps zs = false := by
  unfold allIn
  rw [getD_of_lt _ _ hk] at hy
  rw [List.all_eq_false]
  exact ⟨y, by rw [hy]; exact List.getElem_mem hk, by rw [h]; simp⟩

set_option maxHeartbeats 400000 in
theorem allin_any (a b : Option Addr) (ca cb n m : Nat) (ps zs : List Int) (w : World) (hn : Hid (n = ps.length)) (hm : Hid (m = zs.length)) (ha : Reads w a ps) (hb : Reads w b zs) (hl : n ≤ 9223372036854775807) (hlm : m ≤ 9223372036854775807) :
    Calls Try.prog 9 #[.slice a n ca, .slice b m cb] w fun e w' => e = .returned (.bool (allIn ps zs)) ∧ w' = w := by
  go_enter Try.func9, Try.ntmps9
  go_wp2
  go_loop [5] (fun i => ∃ k : Nat, k ≤ n ∧ i = .int .i64 k ∧ allIn (ps.take k) zs = true) (fun i => n - (intOf i).toNat)
  case atStart => exact ⟨0, Nat.zero_le _, rfl, rfl⟩
  case round =>
    obtain ⟨k, hk, rfl, ht⟩ := hrel
    have HT : Hid (allIn (ps.take k) zs = true) := ht
    clear ht
    by_cases hlt : k < n
    · obtain ⟨bb, off, rfl, _, hc⟩ := ha (by have := hn.out; omega)
      have h1 := hc k (by have := hn.out; omega)
      obtain ⟨y, hy⟩ : ∃ y, y = ps.getD k 0 := ⟨_, rfl⟩
      rw [← hy] at h1
      have HY : Hid (y = ps.getD k 0) := hy
      clear hy hc ha
      obtain ⟨g, hg⟩ : ∃ g, g = hasB zs y := ⟨_, rfl⟩
      have HG : Hid (g = hasB zs y) := hg
      clear hg
      have hcall : ∀ w', Reads w' b zs → Calls Try.prog 14 #[.slice b m cb, .int .i64 y] w' fun e w'' => e = .returned (.bool g) ∧ w'' = w' := fun w' h => by rw [HG.out]; exact has_any b cb m zs y w' hm h hlm
      have HC : Hid (∀ w', Reads w' b zs → Calls Try.prog 14 #[.slice b m cb, .int .i64 y] w' fun e w'' => e = .returned (.bool g) ∧ w'' = w') := hcall
      clear hcall
      cases g
      · go_wp2_with (go_at_call 14; refine (HC.out _ hb).mono ?_; rintro e w' ⟨rfl, hw⟩; obtain rfl := hw.symm)
        go_ret
        exact ⟨by rw [allIn_no (by have := hn.out; omega) HY.out HG.out.symm]; rfl, rfl⟩
      · go_wp2_with (go_at_call 14; refine (HC.out _ hb).mono ?_; rintro e w' ⟨rfl, hw⟩; obtain rfl := hw.symm)
        go_round
        case rel => exact ⟨k + 1, by omega, by go_num, by rw [allIn_step (by have := hn.out; omega) HY.out, HT.out, ← HG.out]; rfl⟩
        case measure => simp [intOf]; omega
    · clear ha hb
      go_wp2
      go_ret
      have h3 := HT.out
      rw [List.take_of_length_le (by have := hn.out; omega)] at h3
      exact ⟨by rw [h3]; rfl, rfl⟩
end Go.Proofs.Qxb6603958a.within
