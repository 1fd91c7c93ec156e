/- The reader's small callees, walked. -/
import Derived.Test.Qxb6604038aRows
import Derived.WalkKit
import Derived.ProofKit
import Derived.OpenShut
import Derived.ShutString
import Derived.ChangeOld
import Derived.Below
import Derived.WalkSmall
import Derived.Deep.QuietTactic
import Derived.BigQuiet
import Derived.RegionTactic
import Derived.BigRegion
import Derived.Deep.DeepCutAuto
import Derived.Deep.RegionWith
import Derived.Laws.OwnMore
namespace Go.Proofs.Qxb6604038a
open Go.ChangeShapes Go.WideShapes Go.ChangeAt Go.RowKit

theorem kindOf_any (q : Bool) (w : World) :
    Calls Try.prog 10 #[.bool q] w fun e w' => e = .returned (.string (if q = true then ⟨#[110, 97, 109, 101]⟩ else ⟨#[119, 111, 114, 100]⟩)) ∧ w' = w := by
  cases q
  · go_enter Try.func10, Try.ntmps10
    go_wp2
    go_ret
    exact ⟨rfl, rfl⟩
  · go_enter Try.func10, Try.ntmps10
    go_wp2
    go_ret
    exact ⟨rfl, rfl⟩

/-- The block that a token's value is laid into. -/
abbrev tokObj (ty : TypeId) (k t : ByteArray) (s e : Int) : Obj := .cells #[.string k, .string t, .int .i64 s, .int .i64 e] ty

theorem toToken_any (k t : ByteArray) (s e : Int) (w : World) :
    Calls Try.prog 9 #[.agg #[.string k, .string t, .int .i64 s, .int .i64 e]] w fun r w' => r = .returned (.agg #[.string k, .string t, .int .i64 s, .int .i64 e]) ∧ w' = (w.alloc (tokObj 34 k t s e)).alloc (tokObj 31 k t s e) := by
  go_enter Try.func9, Try.ntmps9
  go_wp2
  exact bodyPost_ret (v := .agg #[.string k, .string t, .int .i64 s, .int .i64 e]) (by simp [results, Try.results9, go_sem]) rfl ⟨rfl, rfl⟩

set_option maxHeartbeats 1000000 in
theorem peek_any (rb T n c i : Nat) (k t : ByteArray) (s e : Int) (w : World) (hrb : rb < w.heap.size) (hT : T < w.heap.size) (hi : i < n)
    (h0 : w.cell? ⟨rb, 0, none⟩ = some (.slice (some ⟨T, 0, none⟩) n c)) (h1 : w.cell? ⟨rb, 1, none⟩ = some (.int .i64 i))
    (k0 : w.cell? ⟨T, i * 4, none⟩ = some (.string k)) (k1 : w.cell? ⟨T, i * 4 + 1, none⟩ = some (.string t)) (k2 : w.cell? ⟨T, i * 4 + 2, none⟩ = some (.int .i64 s)) (k3 : w.cell? ⟨T, i * 4 + 3, none⟩ = some (.int .i64 e)) :
    Calls Try.prog 18 #[.pointer (some ⟨rb, 0, none⟩)] w fun r w' => r = .returned (.agg #[.string k, .string t, .int .i64 s, .int .i64 e]) ∧ w' = (w.alloc (tokObj 31 k t s e)).drew := by
  have hi' : (i : Int) < (n : Int) := by omega
  go_enter Try.func18, Try.ntmps18
  go_wp2
  go_region
  all_goals (go_wp2; exact bodyPost_ret (v := .agg #[.string k, .string t, .int .i64 s, .int .i64 e]) (by simp [results, Try.results18, go_sem]) rfl ⟨rfl, rfl⟩)

/-- The Kind and the Text of a token that is a value. -/
theorem field_0 (w : World) (k t : ByteArray) (s e : Int) : (Instr.field 31 (.agg #[.string k, .string t, .int .i64 s, .int .i64 e]) 0).run Try.prog w = .ok (.string k) w := by kernel_rfl
theorem field_1 (w : World) (k t : ByteArray) (s e : Int) : (Instr.field 31 (.agg #[.string k, .string t, .int .i64 s, .int .i64 e]) 1).run Try.prog w = .ok (.string t) w := by kernel_rfl
attribute [local go_sem] field_0 field_1

/-- The kinds that are met. -/
abbrev kWord : ByteArray := ⟨#[119, 111, 114, 100]⟩
abbrev kName : ByteArray := ⟨#[110, 97, 109, 101]⟩
abbrev kSym : ByteArray := ⟨#[115, 121, 109, 98, 111, 108]⟩
abbrev kEnd : ByteArray := ⟨#[101, 110, 100]⟩

theorem isName_any (k t : ByteArray) (s e : Int) (w : World) (hk : k = kWord ∨ k = kName) :
    Calls Try.prog 19 #[.agg #[.string k, .string t, .int .i64 s, .int .i64 e]] w fun r w' => r = .returned (.bool true) ∧ w' = w.alloc (tokObj 31 k t s e) := by
  rcases hk with rfl | rfl
  · go_enter Try.func19, Try.ntmps19
    go_wp2
    go_ret
    exact ⟨rfl, rfl⟩
  · go_enter Try.func19, Try.ntmps19
    go_wp2
    go_ret
    exact ⟨rfl, rfl⟩

set_option maxHeartbeats 1000000 in
theorem next_any (rb T n c i : Nat) (k t : ByteArray) (s e : Int) (w : World) (hk : k = kWord ∨ k = kName ∨ k = kSym) (hrb : rb < w.heap.size) (hT : T < w.heap.size) (hi : i < n) (hn : n ≤ 1048576)
    (h0 : w.cell? ⟨rb, 0, none⟩ = some (.slice (some ⟨T, 0, none⟩) n c)) (h1 : w.cell? ⟨rb, 1, none⟩ = some (.int .i64 i)) (hf : w.frozen? ⟨rb, 1, none⟩ = false)
    (k0 : w.cell? ⟨T, i * 4, none⟩ = some (.string k)) (k1 : w.cell? ⟨T, i * 4 + 1, none⟩ = some (.string t)) (k2 : w.cell? ⟨T, i * 4 + 2, none⟩ = some (.int .i64 s)) (k3 : w.cell? ⟨T, i * 4 + 3, none⟩ = some (.int .i64 e)) :
    Calls Try.prog 20 #[.pointer (some ⟨rb, 0, none⟩)] w fun r w' => r = .returned (.tuple #[]) ∧ w' = ((w.setCell ⟨rb, 1, none⟩ (.int .i64 ((i : Int) + 1))).alloc (tokObj 31 k t s e)).drew := by
  have H : Hid (Calls Try.prog 18 #[.pointer (some ⟨rb, 0, none⟩)] w fun r w' => r = .returned (.agg #[.string k, .string t, .int .i64 s, .int .i64 e]) ∧ w' = (w.alloc (tokObj 31 k t s e)).drew) := peek_any rb T n c i k t s e w hrb hT hi h0 h1 k0 k1 k2 k3
  clear k0 k1 k2 k3 h0
  rcases hk with rfl | rfl | rfl
  all_goals
    go_enter Try.func20, Try.ntmps20
    go_wp2_with fail
    refine H.out.mono ?_
    rintro r w' ⟨rfl, hw⟩
    subst hw
    go_wp2
    go_end0
    exact ⟨rfl, rfl⟩
end Go.Proofs.Qxb6604038a
