/- '==' on two Tables that are alike; the row of tokens. -/
import Derived.Test.Qxb6604038aTaD
import Derived.Test.Qxb6604038aTaE
import Derived.Laws.StructEq
namespace Go.Proofs.Qxb6604038a
open Go.ChangeShapes Go.WideShapes Go.ChangeAt Go.RowKit

theorem guard37 (w : World) (op : BinOp) (x y : Operand) (xs ys : Array Value) : (eqGuard op 37 x y (.agg xs) (.agg ys)).run Try.prog w = .ok () w := run_eqGuard_agg w op 37 x y xs ys (by kernel_rfl)
theorem f37 : Try.prog.underlying 37 = some (.struct (Try.prog.fieldsOf 37)) := by kernel_rfl
theorem st37 : Try.prog.stoodInHeld 37 = false := by kernel_rfl
theorem part9 (w : World) (s : ByteArray) (b c d e f : Value) : (part 9 #[.string s, b, c, d, e, f] 0).run Try.prog w = .ok (.string s) w := by kernel_rfl
theorem part9' (w : World) (s : ByteArray) (b c d e f : Value) : (part 9 #[b, .string s, c, d, e, f] 1).run Try.prog w = .ok (.string s) w := by kernel_rfl
theorem part4 (w : World) (s : Bool) (a b d e f : Value) : (part 4 #[a, b, .bool s, d, e, f] 2).run Try.prog w = .ok (.bool s) w := by kernel_rfl
theorem part3 (w : World) (s : Int) (a b c e f : Value) : (part 3 #[a, b, c, .int .i64 s, e, f] 3).run Try.prog w = .ok (.int .i64 s) w := by kernel_rfl
theorem part3' (w : World) (s : Int) (a b c d f : Value) : (part 3 #[a, b, c, d, .int .i64 s, f] 4).run Try.prog w = .ok (.int .i64 s) w := by kernel_rfl
theorem part3'' (w : World) (s : Int) (a b c d e : Value) : (part 3 #[a, b, c, d, e, .int .i64 s] 5).run Try.prog w = .ok (.int .i64 s) w := by kernel_rfl

theorem eq37 (w : World) (a b : ByteArray) (e : Int) : (binOp .eql 37 (.agg #[.string a, .string b, .bool false, .int .i64 0, .int .i64 0, .int .i64 e]) (.agg #[.string a, .string b, .bool false, .int .i64 0, .int .i64 0, .int .i64 e])).run Try.prog w = .ok (.bool true) w := by
  rw [run_eql_struct, run_equalIn_agg w 9999 37 _ _ f37 st37]
  simp [Program.fieldsOf, Try.underlying37, Op.eqFields, part9, part9', part4, part3, part3', part3'', run_equalIn_string w 9998 9 _ _ Try.underlying9, run_equalIn_bool' w 9998 4 _ _ Try.underlying4, run_equalIn_int w 9998 3 .i64 .i64 _ _ Try.underlying3]

/-- The row of N tokens at block T. -/
def Row (w : World) (T N : Nat) : Prop := T < w.heap.size ∧ (∀ j, j < N * 4 → (w.cell? ⟨T, j, none⟩).isSome = true) ∧ ∀ j, w.frozen? ⟨T, j, none⟩ = false

theorem Row.start {w : World} {T N : Nat} {cur : Array Value} {t : TypeId} (h : w.heap[T]? = some (.cells cur t (0, 0))) (hs : cur.size = N * 4) : Row w T N := by
  refine ⟨?_, fun j hj => ?_, fun j => ?_⟩
  · by_cases hlt : T < w.heap.size
    · exact hlt
    · rw [Array.getElem?_eq_none (by omega)] at h; cases h
  · simp [World.cell?, h]; omega
  · simp [World.frozen?, h]

theorem set_other {w : World} {T o j : Nat} {v : Value} (h : j ≠ o) : (w.setCell ⟨T, o, none⟩ v).cell? ⟨T, j, none⟩ = w.cell? ⟨T, j, none⟩ :=
  World.cell?_setCell_other _ _ _ _ (by intro h; injection h; omega)

theorem Row.set {w : World} {T N o : Nat} {v : Value} (h : Row w T N) : Row (w.setCell ⟨T, o, none⟩ v) T N := by
  refine ⟨by simpa using h.1, fun j hj => ?_, fun j => by rw [World.frozen?_setCell]; exact h.2.2 j⟩
  by_cases e : j = o
  · subst e; rw [World.cell?_setCell_same' _ _ _ (h.2.1 j hj)]; rfl
  · rw [set_other e]; exact h.2.1 j hj
theorem Row.alloc {w : World} {T N : Nat} {ob : Obj} (h : Row w T N) : Row (w.alloc ob) T N :=
  ⟨by have := h.1; simp; omega, fun j hj => by rw [cell_alloc _ h.1]; exact h.2.1 j hj, fun j => by rw [((Below.refl w.heap.size w).alloc (Nat.le_refl _) ob).frozen (p := ⟨T, j, none⟩) h.1]; exact h.2.2 j⟩
theorem Row.drew {w : World} {T N : Nat} (h : Row w T N) : Row w.drew T N := h

theorem TokAt.store {w : World} {T N j : Nat} {k t : ByteArray} {s e : Int} (h : Row w T N) (hj : j < N) :
    TokAt ((((w.setCell ⟨T, j * 4, none⟩ (.string k)).setCell ⟨T, j * 4 + 1, none⟩ (.string t)).setCell ⟨T, j * 4 + 2, none⟩ (.int .i64 s)).setCell ⟨T, j * 4 + 3, none⟩ (.int .i64 e)) T j k t s e := by
  refine ⟨by simpa using h.1, ?_, ?_, ?_, ?_⟩
  · rw [set_other (by omega), set_other (by omega), set_other (by omega)]
    exact World.cell?_setCell_same' _ _ _ (h.2.1 _ (by omega))
  · rw [set_other (by omega), set_other (by omega)]
    exact World.cell?_setCell_same' _ _ _ (h.set.2.1 _ (by omega))
  · rw [set_other (by omega)]
    exact World.cell?_setCell_same' _ _ _ (h.set.set.2.1 _ (by omega))
  · exact World.cell?_setCell_same' _ _ _ (h.set.set.set.2.1 _ (by omega))

theorem TokAt.past {w : World} {T j o : Nat} {k t : ByteArray} {s e : Int} {v : Value} (h : TokAt w T j k t s e) (ho : j * 4 + 3 < o) : TokAt (w.setCell ⟨T, o, none⟩ v) T j k t s e := by
  obtain ⟨h0, h1, h2, h3, h4⟩ := h
  exact ⟨by simpa using h0, by rw [set_other (by omega)]; exact h1, by rw [set_other (by omega)]; exact h2, by rw [set_other (by omega)]; exact h3, by rw [set_other (by omega)]; exact h4⟩

theorem TokAt.below {w w' : World} {T j : Nat} {k t : ByteArray} {s e : Int} (h : TokAt w T j k t s e) (hb : Below w.heap.size w w') : TokAt w' T j k t s e := by
  obtain ⟨h0, h1, h2, h3, h4⟩ := h
  exact ⟨Nat.lt_of_lt_of_le h0 hb.size, by rw [hb.cell (p := ⟨T, j * 4, none⟩) h0]; exact h1, by rw [hb.cell (p := ⟨T, j * 4 + 1, none⟩) h0]; exact h2, by rw [hb.cell (p := ⟨T, j * 4 + 2, none⟩) h0]; exact h3, by rw [hb.cell (p := ⟨T, j * 4 + 3, none⟩) h0]; exact h4⟩

theorem calls_gen {P : Program} {f : FuncId} {args : Array Value} {w : World} {Q : Ending → World → Prop} (h : ∀ W, W = w → Calls P f args W Q) : Calls P f args w Q := h w rfl

theorem kindOf_b (q : Bool) : ∃ k, (k = kWord ∨ k = kName) ∧ ∀ w, Calls Try.prog 10 #[.bool q] w fun e w' => e = .returned (.string k) ∧ w' = w := by
  cases q
  · exact ⟨kWord, .inl rfl, fun w => kindOf_any false w⟩
  · exact ⟨kName, .inr rfl, fun w => kindOf_any true w⟩

theorem made_block4 {w w1 : World} {e n : Nat} {z : Value} (h : w1.ownsRow w.heap.size e 4 (.slice (some ⟨w.heap.size, 0, none⟩) n n) n (madeCells z.cells (n * 4)).toList) :
    ∃ cur, w1.heap[w.heap.size]? = some (.cells cur e (0, 0)) ∧ cur.size = n * 4 := by
  rcases h.2 with ⟨h1, _⟩ | ⟨g, cap, cur, h1, _, h2, _, _, h3, _⟩
  · cases h1
  · cases h1
    exact ⟨cur, h2, by omega⟩

theorem grown_below {w w1 : World} (h : w.grownBy w1 none) : Below w.heap.size w w1 := (Below.refl w.heap.size w).grown h (Nat.le_refl _) (by simp)

theorem info31 : (Try.prog.info? 31).map (fun i => (i.zero, i.size, i.bytes)) = some (some (.agg #[.string ⟨#[]⟩, .string ⟨#[]⟩, .int .i64 0, .int .i64 0]), 4, 48) := by kernel_rfl
end Go.Proofs.Qxb6604038a
