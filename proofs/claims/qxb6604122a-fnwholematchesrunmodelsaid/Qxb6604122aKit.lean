/- What reads in memory; what reads on; a row that the call fills cell by cell. -/
import Derived.Test.Qxb6604122aRows
import Derived.WalkKit
import Derived.ProofKit
import Derived.OpenShut
import Derived.ShutString
import Derived.ChangeOld
import Derived.Below
import Derived.WalkSmall
import Derived.Deep.QuietTactic
import Derived.BigQuiet
import Derived.RegionTactic
import Derived.Deep.DeepCutAuto
import Derived.Deep.LoopGhost
import Derived.Laws.Cover3
import Derived.Laws.OwnMore
import Derived.Maps.AppendAt
namespace Go.Proofs.Qxb6604122a
open Go.ChangeShapes Go.WideShapes Go.ChangeAt Go.RowKit

/-- A slice at 'a' whose elements are 'zs', each laid as 'f' says, can be read in w. -/
def Reads {α : Type} (f : α → Value) (d : α) (w : World) (a : Option Addr) (zs : List α) : Prop :=
  0 < zs.length → ∃ b off, a = some ⟨b, off, none⟩ ∧ b < w.heap.size ∧ ∀ i, i < zs.length → w.cell? ⟨b, off + i, none⟩ = some (f (zs.getD i d))

theorem take_succ_getD {α : Type} (d : α) (l : List α) (k : Nat) (h : k < l.length) : l.take (k + 1) = l.take k ++ [l.getD k d] := by
  rw [List.take_succ_eq_append_getElem h, List.getD_eq_getElem?_getD, List.getElem?_eq_getElem h]; rfl

theorem getD_of_lt {α : Type} (d : α) (l : List α) (k : Nat) (h : k < l.length) : l.getD k d = l[k] := by
  rw [List.getD_eq_getElem?_getD, List.getElem?_eq_getElem h]; rfl

theorem Reads.below {α : Type} {f : α → Value} {d : α} {w w' : World} {a : Option Addr} {zs : List α} (h : Reads f d w a zs) (hb : Below w.heap.size w w') : Reads f d w' a zs := by
  intro hp
  obtain ⟨b, off, rfl, hlt, hc⟩ := h hp
  refine ⟨b, off, rfl, Nat.lt_of_lt_of_le hlt hb.size, fun i hi => ?_⟩
  rw [hb.cell (p := ⟨b, off + i, none⟩) hlt]; exact hc i hi

theorem made_block {w w1 : World} {e n : Nat} {z : Value} (h : w1.ownsRow w.heap.size e 1 (.slice (some ⟨w.heap.size, 0, none⟩) n n) n (madeCells z.cells (n * 1)).toList) :
    ∃ cur, w1.heap[w.heap.size]? = some (.cells cur e (0, 0)) ∧ cur.size = n := by
  rcases h.2 with ⟨h1, _⟩ | ⟨g, cap, cur, h1, _, h2, _, _, h3, _⟩
  · cases h1
  · cases h1
    exact ⟨cur, h2, by omega⟩

theorem grown_below {w w1 : World} (h : w.grownBy w1 none) : Below w.heap.size w w1 := (Below.refl w.heap.size w).grown h (Nat.le_refl _) (by simp)

/-- The row at block T, n cells long, of which the first k hold za's elements. -/
def Twin {α : Type} (f : α → Value) (d : α) (w : World) (T n : Nat) (za : List α) (k : Nat) : Prop :=
  T < w.heap.size ∧ (∀ j, j < n → (w.cell? ⟨T, j, none⟩).isSome = true) ∧ (∀ j, j < k → w.cell? ⟨T, j, none⟩ = some (f (za.getD j d))) ∧ ∀ j, w.frozen? ⟨T, j, none⟩ = false

theorem Twin.start {α : Type} {f : α → Value} {d : α} {w : World} {T n : Nat} {za : List α} {cur : Array Value} {t : TypeId} (h : w.heap[T]? = some (.cells cur t (0, 0))) (hs : cur.size = n) : Twin f d w T n za 0 := by
  refine ⟨?_, fun j hj => ?_, fun j hj => absurd hj (by omega), fun j => ?_⟩
  · by_cases hlt : T < w.heap.size
    · exact hlt
    · rw [Array.getElem?_eq_none (by omega)] at h; cases h
  · simp [World.cell?, h]; omega
  · simp [World.frozen?, h]

theorem Twin.step {α : Type} {f : α → Value} {d : α} {w : World} {T n : Nat} {za : List α} {k : Nat} (h : Twin f d w T n za k) (hk : k < n) : Twin f d (w.setCell ⟨T, k, none⟩ (f (za.getD k d))) T n za (k + 1) := by
  obtain ⟨h1, h2, h3, h4⟩ := h
  have hsame := World.cell?_setCell_same' w ⟨T, k, none⟩ (f (za.getD k d)) (h2 k hk)
  have hother : ∀ j, ¬ j = k → (w.setCell ⟨T, k, none⟩ (f (za.getD k d))).cell? ⟨T, j, none⟩ = w.cell? ⟨T, j, none⟩ := by
    intro j e
    refine World.cell?_setCell_other _ _ _ _ ?_
    intro h; injection h; omega
  refine ⟨by simpa using h1, fun j hj => ?_, fun j hj => ?_, fun j => ?_⟩
  · by_cases e : j = k
    · subst e; rw [hsame]; rfl
    · rw [hother j e]; exact h2 j hj
  · by_cases e : j = k
    · subst e; exact hsame
    · rw [hother j e]; exact h3 j (by omega)
  · rw [World.frozen?_setCell]; exact h4 j

theorem Twin.reads {α : Type} {f : α → Value} {d : α} {w : World} {T n : Nat} {za : List α} (h : Twin f d w T n za n) (hn : n = za.length) : Reads f d w (some ⟨T, 0, none⟩) za := by
  intro _
  exact ⟨T, 0, rfl, h.1, fun i hi => by rw [Nat.zero_add]; exact h.2.2.1 i (by omega)⟩

theorem info3 : (Try.prog.info? 3).map (fun i => (i.zero, i.size, i.bytes)) = some (some (.int .i64 0), 1, 8) := by kernel_rfl
theorem info22 : (Try.prog.info? 22).map (fun i => (i.zero, i.size, i.bytes)) = some (some (.slice none 0 0), 1, 24) := by kernel_rfl
theorem info40 : (Try.prog.info? 40).map (fun i => (i.zero, i.size, i.bytes)) = some (some (.int .u32 0), 1, 4) := by kernel_rfl
theorem info4 : (Try.prog.info? 4).map (fun i => (i.zero, i.size, i.bytes)) = some (some (.bool false), 1, 1) := by kernel_rfl

/-- 's == nil' of a slice. -/
theorem eql_nil {P : Program} (w : World) (t e : TypeId) (a : Option Addr) (l c : Nat) (h : P.underlying t = some (.slice e)) : (binOp .eql t (.slice a l c) (.slice none 0 0)).run P w = .ok (.bool a.isNone) w := by
  simp only [binOp]
  simp [run_equal_slice_nil w t e a l c h]
attribute [local go_sem] eql_nil

/-- What a clone of a slice hands back. -/
def Cloned {α : Type} (f : α → Value) (d : α) (w : World) (n : Nat) (za : List α) (e : Ending) (w' : World) : Prop :=
  ∃ a c, e = .returned (.slice a n c) ∧ Reads f d w' a za ∧ Below w.heap.size w w'

set_option maxHeartbeats 400000 in
theorem cloneInts_any (a : Option Addr) (c n : Nat) (za : List Int) (w : World) (hn : Hid (n = za.length)) (hnil : a = none → n = 0) (ha : Reads (Value.int .i64) 0 w a za) (hl : n ≤ 1048576) :
    Calls Try.prog 10 #[.slice a n c] w fun e w' => Cloned (Value.int .i64) 0 w n za e w' := by
  obtain ⟨i0, hi, hz0, hz1, hz2⟩ := info_parts info3
  rcases a with _ | ad
  · obtain rfl := hnil rfl
    go_enter Try.func10, Try.ntmps10
    go_wp2
    go_ret
    exact ⟨_, _, rfl, fun h => absurd h (by have := hn.out; omega), Below.refl _ _⟩
  · clear hnil
    go_enter Try.func10, Try.ntmps10
    go_wp2_with (at_make; refine wpList_make_full _ rfl _ _ 22 rfl w.heap.size 3 i0 (.int .i64 0) 1 Try.underlying22 hi hz0 hz1 .i64 .i64 _ _ n rfl rfl (by omega) (by omega) (by rw [hz2]; omega) (by unfold maxLen; omega) (Nat.le_refl _) ?_; intro w1 hown1 hgrow1)
    obtain ⟨cur, hg1, hc1⟩ := made_block hown1
    have hb1 := grown_below hgrow1
    have HT : Hid (Twin (Value.int .i64) 0 w1 w.heap.size n za 0) := Twin.start hg1 hc1
    clear hg1 hown1 hgrow1 hc1
    go_loopw [4] (fun i wr => ∃ k : Nat, k ≤ n ∧ i = .int .i64 k ∧ Twin (Value.int .i64) 0 wr w.heap.size n za k ∧ Below w.heap.size w wr) (fun i _ => n - (intOf i).toNat)
    case atStart => exact ⟨0, Nat.zero_le _, rfl, HT.out, hb1⟩
    case round =>
      obtain ⟨k, hk, rfl, htw, hbw⟩ := hrel
      have HTW : Hid (Twin (Value.int .i64) 0 wr w.heap.size n za k) := htw
      by_cases hlt : k < n
      · obtain ⟨ba, oa, had, hbl, hca⟩ := ha (by have := hn.out; omega)
        obtain rfl : ad = ⟨ba, oa, none⟩ := by simpa using had
        have c1 := (hbw.cell (p := ⟨ba, oa + k, none⟩) hbl).trans (hca k (by have := hn.out; omega))
        obtain ⟨x, hx⟩ : ∃ x, x = za.getD k 0 := ⟨_, rfl⟩
        rw [← hx] at c1
        have HX : Hid (x = za.getD k 0) := hx
        obtain ⟨v, hv⟩ := Option.isSome_iff_exists.mp (htw.2.1 k hlt)
        have hf := htw.2.2.2 k
        clear hx hca htw had ha
        have hlt' : (k : Int) < (n : Int) := by omega
        go_wp2
        go_roundw
        case rel =>
          refine ⟨k + 1, by omega, by go_num, ?_, hbw.setCell (Nat.le_refl _) _⟩
          rw [HX.out]
          exact HTW.out.step hlt
        case measure => simp [intOf]; omega
      · obtain rfl : k = n := by omega
        clear htw ha
        go_wp2
        go_ret
        exact ⟨_, _, rfl, HTW.out.reads hn.out, hbw⟩
end Go.Proofs.Qxb6604122a
