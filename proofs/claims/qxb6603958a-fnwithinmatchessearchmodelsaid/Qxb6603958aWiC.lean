/- within, walked: a map of bools filled from a slice, looked up. -/
import Derived.Test.Qxb6603958aWiA
import Derived.Maps.OwnSet
import Derived.Maps.OwnOps
import Derived.Maps.Views
import Derived.Deep.LoopGhost
namespace Go.Proofs.Qxb6603958a.within
open Go.ChangeShapes Go.WideShapes Go.ChangeAt Go.RowKit Go.Maps

theorem plainElem_bool_inv {H : Type} {P : Program} {e : TypeId} (he : P.underlying e = some .bool) {v : Value} {z : DataW H × List MemPlace} (h : plainElem P e v = some z) : ∃ x, v = .bool x ∧ z = (.lit (.bool x), []) := by
  unfold plainElem at h
  rw [he] at h
  cases v <;> simp at h
  exact ⟨_, rfl, h.symm⟩

/-- 'm[k]' in a map of bools that the call owns. -/
theorem lookup_bool {H : Type} {P : Program} {k e t : TypeId} {w : World} {b n : Nat} {D : DataW H} (h : w.ownsMap P k (plainElem P e) b n D) (K : Keyed P k) (ht : P.underlying t = some (.map k e)) (he : P.underlying e = some .bool)
    (hz : (zeroValue e).run P w = .ok (.bool false) w) {key : Value} {kl : Lit} (hkey : keyOf P k key = some kl) :
    ∃ c, (Instr.lookup t (.map (some b)) key false).run P w = .ok (.bool c) w ∧ D.atKey kl (.lit (.bool false)) = .lit (.bool c) := by
  obtain ⟨v, ps, hrun, hv⟩ := h.lookup K ht hz (plainElem_bool he false) hkey
  obtain ⟨c, rfl, hc⟩ := plainElem_bool_inv he hv
  simp only [Prod.mk.injEq] at hc
  exact ⟨c, hrun, hc.1⟩

theorem law3 : Keyed Try.prog 3 := int_keyed Try.underlying3
theorem zero4 (w : World) : (zeroValue 4).run Try.prog w = .ok (.bool false) w := by kernel_rfl

/-- The map at block B holds just the numbers of zs. -/
def SetAt (w : World) (B n : Nat) (zs : List Int) : Prop :=
  ∃ D : DataW Unit, w.ownsMap Try.prog 3 (plainElem Try.prog 4) B n D ∧ IsMap D ∧ ∀ x, (Lit.int .i64 x).wf = true → D.atKey (.int .i64 x) (.lit (.bool false)) = .lit (.bool (hasB zs x))

theorem SetAt.start (w : World) : SetAt (w.alloc (.map #[] 0)) w.heap.size 0 [] :=
  ⟨_, World.ownsMap_made _ _ _ _, isMap_empty, fun _ _ => rfl⟩

theorem SetAt.look {w : World} {B n : Nat} {zs : List Int} (h : SetAt w B n zs) {y : Int} (hy : (Lit.int .i64 y).wf = true) :
    (Instr.lookup 31 (.map (some B)) (.int .i64 y) false).run Try.prog w = .ok (.bool (hasB zs y)) w := by
  obtain ⟨D, h1, _, h3⟩ := h
  obtain ⟨c, hrun, hat⟩ := lookup_bool h1 law3 Try.underlying31 Try.underlying4 (zero4 w) (keyOf_int_mk Try.underlying3 hy)
  rw [h3 y hy] at hat
  simp only [DataW.lit.injEq, Lit.bool.injEq] at hat
  rw [hat]; exact hrun

theorem hasB_snoc (zs : List Int) (y x : Int) : hasB (zs ++ [y]) x = (hasB zs x || x == y) := by
  unfold hasB
  rw [Bool.eq_iff_iff]
  simp

theorem SetAt.put {w : World} {B n : Nat} {zs : List Int} (h : SetAt w B n zs) (hn : n < maxLen) {y : Int} (hy : (Lit.int .i64 y).wf = true) :
    ∃ w', (Instr.mapUpdate 31 (.map (some B)) (.int .i64 y) (.bool true)).run Try.prog w = .ok () w' ∧ SetAt w' B (n + 1) (zs ++ [y]) ∧ w.grownBy w' (some B) := by
  obtain ⟨D, h1, h2, h3⟩ := h
  obtain ⟨w', hrun, hown, hg⟩ := h1.update law3 Try.underlying31 hn (keyOf_int_mk Try.underlying3 hy) (plainElem_bool Try.underlying4 true)
  refine ⟨w', hrun, ⟨_, hown, h2.put _ _, fun x hx => ?_⟩, hg⟩
  by_cases e : x = y
  · subst e
    rw [atKey_put_same h2 (by trivial), hasB_snoc]
    simp
  · rw [atKey_put_other (by simpa using e), h3 x hx, hasB_snoc]
    have : (x == y) = false := by simpa using e
    rw [this, Bool.or_false]
end Go.Proofs.Qxb6603958a.within
