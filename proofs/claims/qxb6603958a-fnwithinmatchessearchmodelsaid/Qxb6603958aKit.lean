/- A copy into a row that the call has just made; what reads on behind it. -/
import Derived.Test.Qxb6603958aEqb
import Derived.Laws.CopyOwn
import Derived.Laws.OwnMore
import Derived.Deep.DeepCutAuto
import Derived.Laws.Cover3
namespace Go.Proofs.Qxb6603958a
open Go.ChangeShapes Go.WideShapes Go.ChangeAt Go.RowKit

/-- 'copy(z, s)' where z is a row of the call's own, as long as s: the run. -/
theorem copy_run {P : Program} (w : World) (dT sT ty : TypeId) (elem : TypeId) (hu : P.underlying dT = some (.slice elem)) (hsz : (P.info? elem).map (·.size) = some 1)
    (g n dCap sCap : Nat) (sp : Option Addr) (cur : Array Value) (t : TypeId) (hg : w.heap[g]? = some (.cells cur t (0, 0))) (cs : List Value) (hn : cs.length = n) (hcur : cur.size = n)
    (hpos : 0 < n → ∃ ad, sp = some ad ∧ ∀ j v, cs[j]? = some v → w.cell? (ad.add j) = some v)
    (h1 : ∀ v ∈ cs, v.oneCell' = true) :
    ∃ w2, Sem.run P (Builtin.copy_ #[dT, sT] ty #[.slice (some ⟨g, 0, none⟩) n dCap, .slice sp n sCap]) w = .ok (.int .i64 n) w2 ∧ w2.heap[g]? = some (.cells cs.toArray t (0, 0)) ∧ Below g w w2 := by
  by_cases h0 : n = 0
  · subst h0
    obtain rfl : cs = [] := List.eq_nil_of_length_eq_zero hn
    obtain rfl : cur = #[] := Array.eq_empty_of_size_eq_zero hcur
    exact ⟨w, run_copy_none (P := P) w dT sT ty elem _ sp 0 dCap 0 sCap hu hsz rfl, hg, Below.refl _ _⟩
  · obtain ⟨ad, rfl, hsrc⟩ := hpos (by omega)
    have hrun := run_copy_row (P := P) w dT sT ty elem g 0 n dCap ad n sCap cur t cs hu hsz hg (by rw [hn]; exact (Nat.min_self n).symm) hsrc (by omega) h1
    have e : (cur.toList.take 0 ++ cs ++ cur.toList.drop (0 + cs.length)) = cs := by
      have : cur.toList.drop (0 + cs.length) = [] := List.drop_eq_nil_of_le (by simp; omega)
      rw [this]; simp
    rw [e, hn] at hrun
    exact ⟨_, hrun, setRow_heap w g _ _ t _ hg, below_setRow (Below.refl _ _) (Nat.le_refl _) _⟩

theorem made_block {w w1 : World} {e n : Nat} {z : Value} (h : w1.ownsRow w.heap.size e 1 (.slice (some ⟨w.heap.size, 0, none⟩) n n) n (madeCells z.cells (n * 1)).toList) :
    ∃ cur, w1.heap[w.heap.size]? = some (.cells cur e (0, 0)) ∧ cur.size = n := by
  rcases h.2 with ⟨h1, _⟩ | ⟨g, cap, cur, h1, _, h2, _, _, h3, _⟩
  · cases h1
  · cases h1
    exact ⟨cur, h2, by omega⟩

theorem grown_below {w w1 : World} (h : w.grownBy w1 none) : Below w.heap.size w w1 := (Below.refl w.heap.size w).grown h (Nat.le_refl _) (by simp)

theorem Reads.below {w w' : World} {a : Option Addr} {zs : List Int} (h : Reads w a zs) (hb : Below w.heap.size w w') : Reads w' a zs := by
  intro hp
  obtain ⟨b, off, rfl, hlt, hc⟩ := h hp
  refine ⟨b, off, rfl, Nat.lt_of_lt_of_le hlt hb.size, fun i hi => ?_⟩
  rw [hb.cell (p := ⟨b, off + i, none⟩) hlt]; exact hc i hi

theorem Reads.drewN {w : World} {a : Option Addr} {zs : List Int} (h : Reads w a zs) (n : Nat) : Reads (w.drewN n) a zs := h

theorem Reads.made {w : World} {g : Nat} {zs : List Int} {t : TypeId} (h : w.heap[g]? = some (.cells (zs.map (Value.int .i64)).toArray t (0, 0))) : Reads w (some ⟨g, 0, none⟩) zs := by
  intro _
  refine ⟨g, 0, rfl, ?_, fun i hi => ?_⟩
  · by_cases hlt : g < w.heap.size
    · exact hlt
    · rw [Array.getElem?_eq_none (by omega)] at h; cases h
  · have : (zs.map (Value.int IntKind.i64))[i]? = some (.int .i64 (zs.getD i 0)) := by
      simp [List.getElem?_map, List.getElem?_eq_getElem hi, List.getD_eq_getElem?_getD]
    simp [World.cell?, h, this]
theorem src_of {w : World} {a : Option Addr} {zs : List Int} (h : Reads w a zs) : 0 < zs.length → ∃ ad, a = some ad ∧ ∀ j v, (zs.map (Value.int .i64))[j]? = some v → w.cell? (ad.add j) = some v := by
  intro hp
  obtain ⟨b, off, rfl, _, hc⟩ := h hp
  refine ⟨_, rfl, fun j v hv => ?_⟩
  have hj : j < zs.length := by
    by_cases hj : j < zs.length
    · exact hj
    · rw [List.getElem?_eq_none (by simp; omega)] at hv; cases hv
  rw [add_plain, hc j hj, ← hv]
  simp [List.getElem?_map, List.getElem?_eq_getElem hj, List.getD_eq_getElem?_getD]
end Go.Proofs.Qxb6603958a
