/- within and ZZwithin, walked. -/
import Derived.Test.Qxb6603958aWiC
namespace Go.Proofs.Qxb6603958a.within
open Go.ChangeShapes Go.WideShapes Go.ChangeAt Go.RowKit Go.Maps

/-- Does some one set of 'ss' hold every number of 'ps'? -/
def someIn (ps : List Int) (ss : List (List Int)) : Bool := ss.any fun s => allIn ps s

theorem take_succ_rows (l : List (List Int)) (k : Nat) (h : k < l.length) : l.take (k + 1) = l.take k ++ [l.getD k []] := by
  rw [List.take_succ_eq_append_getElem h, List.getD_eq_getElem?_getD, List.getElem?_eq_getElem h]; rfl

theorem someIn_step {ps : List Int} {ss : List (List Int)} {k : Nat} (hk : k < ss.length) : someIn ps (ss.take (k + 1)) = (someIn ps (ss.take k) || allIn ps (ss.getD k [])) := by
  unfold someIn
  rw [take_succ_rows _ _ hk]
  simp

theorem someIn_yes {ps : List Int} {ss : List (List Int)} {k : Nat} (hk : k < ss.length) (h : allIn ps (ss.getD k []) = true) : someIn ps ss = true := by
  unfold someIn
  rw [List.any_eq_true]
  refine ⟨ss.getD k [], ?_, h⟩
  rw [List.getD_eq_getElem?_getD, List.getElem?_eq_getElem hk]
  exact List.getElem_mem hk

theorem wf_getD {zs : List Int} (h : ∀ n ∈ zs, (Lit.int .i64 n).wf = true) {k : Nat} (hk : k < zs.length) : (Lit.int .i64 (zs.getD k 0)).wf = true := by
  rw [getD_of_lt _ _ hk]; exact h _ (List.getElem_mem hk)

theorem set_below {wr w2 w3 : World} (h : Below wr.heap.size wr w2) (hg : w2.grownBy w3 (some wr.heap.size)) : Below wr.heap.size wr w3 :=
  h.grown hg h.size (fun j hj => by cases hj; exact Nat.le_refl _)

set_option maxRecDepth 4000 in
set_option maxHeartbeats 1000000 in
theorem within_any (a s : Option Addr) (ca cs n m : Nat) (ps : List Int) (ss : List (List Int)) (w : World) (hn : Hid (n = ps.length)) (hm : Hid (m = ss.length)) (ha : Reads w a ps) (hs : RowsRead w s ss)
    (wa : ∀ n ∈ ps, (Lit.int .i64 n).wf = true) (ws : ∀ i, ∀ n ∈ ss.getD i [], (Lit.int .i64 n).wf = true) (hl : n ≤ 4096) (hlm : m ≤ 4096) (hL : ∀ i, i < m → (ss.getD i []).length ≤ 4096) :
    Calls Try.prog 13 #[.slice a n ca, .slice s m cs] w fun e w' => e = .returned (.bool (someIn ps ss)) ∧ Below w.heap.size w w' := by
  have hmm := @run_makeMap Try.prog
  have HL : Hid (∀ i, i < m → (ss.getD i []).length ≤ 4096) := hL
  have HWA : Hid (∀ n ∈ ps, (Lit.int .i64 n).wf = true) := wa
  have HWS : Hid (∀ i, ∀ n ∈ ss.getD i [], (Lit.int .i64 n).wf = true) := ws
  clear hL wa ws
  go_enter Try.func13, Try.ntmps13
  go_wp2
  go_loopg [15] m (fun g i wr => ∃ k : Nat, k ≤ m ∧ g = m - k ∧ i = .int .i64 k ∧ someIn ps (ss.take k) = false ∧ Below w.heap.size w wr)
  case atStart => exact ⟨0, Nat.zero_le _, rfl, rfl, rfl, Below.refl _ _⟩
  case round =>
    obtain ⟨k, hk, hgk, rfl, hno, hbw⟩ := hrel
    have HK : Hid (gk = m - k) := hgk
    have HNO : Hid (someIn ps (ss.take k) = false) := hno
    clear hgk hno
    by_cases hlt : k < m
    · obtain ⟨b, off, rfl, hbl, hc⟩ := hs (by have := hm.out; omega)
      obtain ⟨sa, sc, c0, hrs, _⟩ := hc k (by have := hm.out; omega)
      have c1 := (hbw.cell (p := ⟨b, off + k, none⟩) hbl).trans c0
      have hlen := HL.out k hlt
      have hwf := HWS.out k
      obtain ⟨zs, hzs⟩ : ∃ zs, zs = ss.getD k [] := ⟨_, rfl⟩
      rw [← hzs] at c1 hrs hlen hwf
      obtain ⟨L, hLL⟩ : ∃ L, L = zs.length := ⟨_, rfl⟩
      rw [← hLL] at c1 hlen
      have HZ : Hid (zs = ss.getD k []) := hzs
      have HLL : Hid (L = zs.length) := hLL
      have HWF : Hid (∀ n ∈ zs, (Lit.int .i64 n).wf = true) := hwf
      have hrs' := hrs.below hbw
      clear hc c0 hzs hLL hwf hrs hs
      obtain ⟨wo, hwo⟩ : ∃ wo, wo = wr := ⟨_, rfl⟩
      subst hwo
      go_wp2
      go_loopw [22] (fun i w2 => ∃ j : Nat, j ≤ L ∧ i = .int .i64 j ∧ SetAt w2 wo.heap.size j (zs.take j) ∧ Below wo.heap.size wo w2) (fun i _ => L - (intOf i).toNat)
      case atStart => exact ⟨0, Nat.zero_le _, rfl, SetAt.start wo, (Below.refl _ _).alloc (Nat.le_refl _) _⟩
      case round =>
        obtain ⟨j, hj, rfl, hset, hb2⟩ := hrel
        by_cases hjl : j < L
        · obtain ⟨bs, os, rfl, hbs, hcs⟩ := hrs' (by have := HLL.out; omega)
          have c2 := (hb2.cell (p := ⟨bs, os + j, none⟩) hbs).trans (hcs j (by have := HLL.out; omega))
          have hwy := wf_getD HWF.out (k := j) (by have := HLL.out; omega)
          have htk := take_succ_getD zs j (by have := HLL.out; omega)
          obtain ⟨y, hy⟩ : ∃ y, y = zs.getD j 0 := ⟨_, rfl⟩
          rw [← hy] at c2 hwy htk
          obtain ⟨w3, hrun, hset3, hg3⟩ := hset.put (by unfold maxLen; omega) hwy
          rw [← htk] at hset3
          have HS : Hid (SetAt w3 wo.heap.size (j + 1) (zs.take (j + 1))) := hset3
          have hb3 := set_below hb2 hg3
          clear htk hy hcs hset hset3 hg3 hb2 hrs'
          go_wp2
          go_roundw
          case rel => exact ⟨j + 1, by omega, by go_num, HS.out, hb3⟩
          case measure => simp [intOf]; omega
        · have hfull : zs.take j = zs := List.take_of_length_le (by have := HLL.out; omega)
          rw [hfull] at hset
          have HSET : Hid (SetAt wr wo.heap.size j zs) := hset
          have hbwr : Below w.heap.size w wr := hbw.trans (hb2.mono hbw.size)
          have hra : Reads wr a ps := ha.below hbwr
          clear hfull hset hb2 hrs'
          go_wp2
          go_loop [10, 31] (fun al i => ∃ q : Nat, q ≤ n ∧ i = .int .i64 q ∧ al = .bool (allIn (ps.take q) zs)) (fun _ i => n - (intOf i).toNat)
          case atStart => exact ⟨0, Nat.zero_le _, rfl, rfl⟩
          case round =>
            obtain ⟨q, hq, rfl, rfl⟩ := hrel
            obtain ⟨al, hal⟩ : ∃ al, al = allIn (ps.take q) zs := ⟨_, rfl⟩
            have HAL : Hid (al = allIn (ps.take q) zs) := hal
            rw [← hal]
            clear hal
            by_cases hqn : q < n
            · obtain ⟨bp, op, rfl, _, hcp⟩ := hra (by have := hn.out; omega)
              have c2 := hcp q (by have := hn.out; omega)
              have hwy := wf_getD HWA.out (k := q) (by have := hn.out; omega)
              obtain ⟨y, hy⟩ : ∃ y, y = ps.getD q 0 := ⟨_, rfl⟩
              rw [← hy] at c2 hwy
              have HY : Hid (y = ps.getD q 0) := hy
              have hrun := HSET.out.look hwy
              clear hy hcp hra
              cases al
              · clear hrun
                go_wp2
                go_round
                case rel => exact ⟨q + 1, by omega, by go_num, by rw [allIn_step (by have := hn.out; omega) HY.out, ← HAL.out]; rfl⟩
                case measure => simp [intOf]; omega
              · go_wp2
                go_round
                case rel => exact ⟨q + 1, by omega, by go_num, by rw [allIn_step (by have := hn.out; omega) HY.out, ← HAL.out]; rfl⟩
                case measure => simp [intOf]; omega
            · have HAL2 : Hid (al = allIn ps zs) := by
                have h1 := HAL.out
                rw [List.take_of_length_le (by have := hn.out; omega)] at h1
                exact h1
              clear hra ha
              cases al
              · go_wp2
                go_roundg (m - (k + 1))
                case measure => have := HK.out; omega
                case rel => exact ⟨k + 1, by omega, rfl, by go_num, by rw [someIn_step (by have := hm.out; omega), HNO.out, ← HZ.out, ← HAL2.out]; rfl, hbwr⟩
              · go_wp2
                go_ret
                exact ⟨by rw [someIn_yes (k := k) (by have := hm.out; omega) (by rw [← HZ.out, ← HAL2.out])]; rfl, hbwr⟩
    · clear ha hs
      go_wp2
      go_ret
      exact ⟨by have h1 := HNO.out; rw [List.take_of_length_le (by have := hm.out; omega)] at h1; rw [h1]; rfl, hbw⟩
end Go.Proofs.Qxb6603958a.within
