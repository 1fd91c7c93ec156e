/- fill and ZZfill, walked. -/
import Derived.Test.Qxb6604122aFillInv
namespace Go.Proofs.Qxb6604122a.fill
open Go.ChangeShapes Go.WideShapes Go.ChangeAt Go.RowKit

def FillEnd (w0 w' : World) (ws : List Int) (room most : Int) (n : Nat) (e : Ending) : Prop :=
  ∃ ga gl gc G vs, e = .returned (.slice ga gl gc) ∧ Filled w0 w' ws room most n ga gl gc G vs

set_option maxRecDepth 4000 in
set_option maxHeartbeats 1000000 in
theorem fill_any (a : Option Addr) (c n : Nat) (ws : List Int) (room most : Int) (w : World) (hn : Hid (n = ws.length)) (ha : Reads (Value.int .i64) 0 w a ws) (hdom : Dom ws room n) (hl : n ≤ 131072) (hr : room ≤ 9223372036854775807) :
    Calls Try.prog 24 #[.slice a n c, .int .i64 room, .int .i64 most] w fun e w' => FillEnd w w' ws room most n e := by
  have HD : Hid (Dom ws room n) := hdom
  clear hdom
  obtain ⟨iG, gi, gz0, gz1, gz2⟩ := info_parts info22
  obtain ⟨iC, ci, cz0, cz1, cz2⟩ := info_parts info3
  go_enter Try.func24, Try.ntmps24
  go_wp2
  go_loopw [7, 8, 9, 14] (fun gv cv u i wr => ∃ k st q gl G vs ga gc ca cc U, k ≤ n ∧ i = .int .i64 ((k : Nat) : Int) ∧ gv = .slice ga gl gc ∧ cv = .slice ca q cc ∧ u = .int .i64 U ∧ Loop w wr ws room most n k st q gl G vs gv cv U) (fun _ _ _ i _ => n - (intOf i).toNat)
  case atStart => exact ⟨0, 0, 0, 0, _, _, _, _, _, _, 0, Nat.zero_le _, rfl, rfl, rfl, rfl, Loop.start _ _ _ _ _⟩
  case round =>
    obtain ⟨k, st, q, gl, G, vs, ga, gc, ca, cc, U, hk, rfl, rfl, rfl, rfl, hlo⟩ := hrel
    have HLo : Hid (Loop w wr ws room most n k st q gl G vs (.slice ga gl gc) (.slice ca q cc) U) := hlo
    have hglk := hlo.2.2.2.2.2.1
    have hqk : q ≤ k := by have := hlo.1; omega
    have hownG : wr.ownsRow w.heap.size 22 1 (.slice ga gl gc) gl vs := by have := hlo.2.2.2.1.1; rw [← hlo.2.1] at this; exact this
    have hownC : wr.ownsRow w.heap.size 3 1 (.slice ca q cc) q (seg st q) := by have := hlo.2.2.2.1.2.1; rw [← hlo.1] at this; exact this
    have hbw := hlo.2.2.2.2.2.2.1
    have hsz := hbw.size
    by_cases hlt : k < n
    · obtain ⟨b, off, rfl, hbl, hc⟩ := ha (by have := hn.out; omega)
      have c1 := (hbw.cell (p := ⟨b, off + k, none⟩) hbl).trans (hc k (by have := hn.out; omega))
      have hxr := (HD.out.1 k hlt).1
      have hxl := (HD.out.1 k hlt).2
      have hrg := HD.out.range (s := st) (e := k + 1) (by have := hlo.2.2.2.1.2.2.1; omega) (by omega)
      simp only [psum] at hrg
      have hU := hlo.2.2.1
      obtain ⟨x, hx⟩ : ∃ x, x = ws.getD k 0 := ⟨_, rfl⟩
      rw [← hx] at c1 hxr hxl hrg
      have hr1 : -9223372036854775807 ≤ U + x := by omega
      have hr2 : U + x ≤ 9223372036854775807 := by omega
      have HX : Hid (x = ws.getD k 0) := hx
      clear hx hc ha hrg hU hlo hbw
      by_cases hf : room < U + x
      · go_wp2_with (first | (at_builtin; refine wpList_append_own_at _ rfl (.tmp 34) (.tmp 36) 26 rfl w.heap.size 22 iG (.slice none 0 0) 1 24 Try.underlying26 gi gz0 gz1 gz2 rfl (by decide) _ _ _ rfl (hownG.alloc _) ⟨wr.heap.size, 0, none⟩ 1 1 [.slice ca q cc] rfl rfl (cell_one_new _ _ _) (by intro u hu; simp at hu; subst hu; rfl) (by unfold maxLen; omega) (by omega) (by simp; omega) ?_; intro v1 w1 hown1 hgrow1 hnil1 hloc1; have hs1 : w.heap.size ≤ w1.heap.size := by have := hgrow1.size; simp at this; omega) | (at_builtin; refine wpList_append_own_at _ rfl (.tmp 38) (.tmp 40) 22 rfl w.heap.size 3 iC (.int .i64 0) 1 8 Try.underlying22 ci cz0 cz1 cz2 rfl (by decide) _ _ _ rfl ((World.ownsRow_nil w1 w.heap.size 3 1).alloc _) ⟨w1.heap.size, 0, none⟩ 1 1 [.int .i64 (k : Int)] rfl rfl (cell_one_new _ _ _) (ints_oneCell .i64 [_]) (by unfold maxLen; omega) (by omega) (by simp; omega) ?_; intro v2 w2 hown2 hgrow2 hnil2 hloc2))
        go_roundw
        case rel =>
          obtain ⟨g1, p1, rfl⟩ := shape hown1 (by omega)
          obtain ⟨g2, p2, rfl⟩ := shape hown2 (by omega)
          refine ⟨k + 1, k, 1, gl + 1, G ++ [(st, k)], vs ++ [.slice ca q cc], _, _, _, _, x, by omega, by go_num, rfl, rfl, by go_num, ?_⟩
          exact HLo.out.flush hlt HX.out hxr (.inl hf) hown1 hgrow1 hown2 hgrow2 hloc2
        case measure => simp [intOf]; omega
      · by_cases hm : 0 < most
        · by_cases hq : (q : Int) = most
          · go_wp2_with (first | (at_builtin; refine wpList_append_own_at _ rfl (.tmp 34) (.tmp 36) 26 rfl w.heap.size 22 iG (.slice none 0 0) 1 24 Try.underlying26 gi gz0 gz1 gz2 rfl (by decide) _ _ _ rfl (hownG.alloc _) ⟨wr.heap.size, 0, none⟩ 1 1 [.slice ca q cc] rfl rfl (cell_one_new _ _ _) (by intro u hu; simp at hu; subst hu; rfl) (by unfold maxLen; omega) (by omega) (by simp; omega) ?_; intro v1 w1 hown1 hgrow1 hnil1 hloc1; have hs1 : w.heap.size ≤ w1.heap.size := by have := hgrow1.size; simp at this; omega) | (at_builtin; refine wpList_append_own_at _ rfl (.tmp 38) (.tmp 40) 22 rfl w.heap.size 3 iC (.int .i64 0) 1 8 Try.underlying22 ci cz0 cz1 cz2 rfl (by decide) _ _ _ rfl ((World.ownsRow_nil w1 w.heap.size 3 1).alloc _) ⟨w1.heap.size, 0, none⟩ 1 1 [.int .i64 (k : Int)] rfl rfl (cell_one_new _ _ _) (ints_oneCell .i64 [_]) (by unfold maxLen; omega) (by omega) (by simp; omega) ?_; intro v2 w2 hown2 hgrow2 hnil2 hloc2))
            go_roundw
            case rel =>
              obtain ⟨g1, p1, rfl⟩ := shape hown1 (by omega)
              obtain ⟨g2, p2, rfl⟩ := shape hown2 (by omega)
              refine ⟨k + 1, k, 1, gl + 1, G ++ [(st, k)], vs ++ [.slice ca q cc], _, _, _, _, x, by omega, by go_num, rfl, rfl, by go_num, ?_⟩
              exact HLo.out.flush hlt HX.out hxr (.inr ⟨hm, hq⟩) hown1 hgrow1 hown2 hgrow2 hloc2
            case measure => simp [intOf]; omega
          · have hqb : ((q : Int) == most) = false := by simpa using hq
            go_wp2_with (at_builtin; refine wpList_append_own_at _ rfl (.tmp 38) (.tmp 40) 22 rfl w.heap.size 3 iC (.int .i64 0) 1 8 Try.underlying22 ci cz0 cz1 cz2 rfl (by decide) _ _ _ rfl (hownC.alloc _) ⟨wr.heap.size, 0, none⟩ 1 1 [.int .i64 (k : Int)] rfl rfl (cell_one_new _ _ _) (ints_oneCell .i64 [_]) (by unfold maxLen; omega) (by omega) (by simp; omega) ?_; intro v2 w2 hown2 hgrow2 hnil2 hloc2)
            go_roundw
            case rel =>
              obtain ⟨g2, p2, rfl⟩ := shape hown2 (by omega)
              refine ⟨k + 1, st, q + 1, gl, G, vs, _, _, _, _, U + x, by omega, by go_num, rfl, rfl, rfl, ?_⟩
              exact HLo.out.push HX.out (by omega) (fun h => hq h.2) hown2 hgrow2 hloc2
            case measure => simp [intOf]; omega
        · go_wp2_with (at_builtin; refine wpList_append_own_at _ rfl (.tmp 38) (.tmp 40) 22 rfl w.heap.size 3 iC (.int .i64 0) 1 8 Try.underlying22 ci cz0 cz1 cz2 rfl (by decide) _ _ _ rfl (hownC.alloc _) ⟨wr.heap.size, 0, none⟩ 1 1 [.int .i64 (k : Int)] rfl rfl (cell_one_new _ _ _) (ints_oneCell .i64 [_]) (by unfold maxLen; omega) (by omega) (by simp; omega) ?_; intro v2 w2 hown2 hgrow2 hnil2 hloc2)
          go_roundw
          case rel =>
            obtain ⟨g2, p2, rfl⟩ := shape hown2 (by omega)
            refine ⟨k + 1, st, q + 1, gl, G, vs, _, _, _, _, U + x, by omega, by go_num, rfl, rfl, rfl, ?_⟩
            exact HLo.out.push HX.out (by omega) (fun h => hm h.1) hown2 hgrow2 hloc2
          case measure => simp [intOf]; omega
    · obtain rfl : k = n := by omega
      by_cases hz : k = 0
      · subst hz
        have hcn := (hlo.2.2.2.2.2.2.2 rfl).2
        simp only [Value.slice.injEq] at hcn
        obtain ⟨rfl, rfl, rfl⟩ := hcn
        clear ha hlo hownG hownC hbw
        go_wp2
        go_ret
        exact ⟨_, _, _, _, _, rfl, HLo.out.none⟩
      · have hq := hlo.open_pos (by omega)
        obtain ⟨gq, pq, hsh⟩ := shape hownC hq
        simp only [Value.slice.injEq] at hsh
        obtain ⟨rfl, _, rfl⟩ := hsh
        clear ha hlo hownC hbw
        go_wp2_with (at_builtin; refine wpList_append_own_at _ rfl (.tmp 48) (.tmp 50) 26 rfl w.heap.size 22 iG (.slice none 0 0) 1 24 Try.underlying26 gi gz0 gz1 gz2 rfl (by decide) _ _ _ rfl (hownG.alloc _) ⟨wr.heap.size, 0, none⟩ 1 1 [.slice (some ⟨gq, 0, none⟩) q cc] rfl rfl (cell_one_new _ _ _) (by intro u hu; simp at hu; subst hu; rfl) (by unfold maxLen; omega) (by omega) (by simp; omega) ?_; intro v1 w1 hown1 hgrow1 hnil1 hloc1)
        go_ret
        obtain ⟨g1, p1, rfl⟩ := shape hown1 (by omega)
        exact ⟨_, _, _, _, _, rfl, HLo.out.final (by omega) hown1 hgrow1⟩

theorem zzfill_any (a : Option Addr) (c n : Nat) (ws : List Int) (room most : Int) (w : World) (hn : Hid (n = ws.length)) (ha : Reads (Value.int .i64) 0 w a ws) (hdom : Dom ws room n) (hl : n ≤ 131072) (hr : room ≤ 9223372036854775807) :
    Calls Try.prog 11 #[.slice a n c, .int .i64 room, .int .i64 most] w fun e w' => FillEnd w w' ws room most n e := by
  have H : Hid (Calls Try.prog 24 #[.slice a n c, .int .i64 room, .int .i64 most] w fun e w' => FillEnd w w' ws room most n e) := fill_any a c n ws room most w hn ha hdom hl hr
  clear ha hdom
  go_enter Try.func11, Try.ntmps11
  go_wp2_with fail
  refine H.out.mono ?_
  rintro e w' ⟨ga, gl, gc, G, vs, rfl, h⟩
  have HF : Hid (Filled w w' ws room most n ga gl gc G vs) := h
  clear h
  go_wp2
  go_ret
  exact ⟨_, _, _, _, _, rfl, HF.out⟩
end Go.Proofs.Qxb6604122a.fill
