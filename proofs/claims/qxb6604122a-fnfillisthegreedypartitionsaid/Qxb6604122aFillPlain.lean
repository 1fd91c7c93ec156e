/- Greedy groups: the plain law. No program in sight. -/
import Derived.OpenShut
namespace Go.Proofs.Qxb6604122a.fill

/-- The sum of the first k widths. -/
def psum (ws : List Int) : Nat → Int
  | 0 => 0
  | k + 1 => psum ws k + ws.getD k 0
/-- The sum of their magnitudes. -/
def asum (ws : List Int) : Nat → Int
  | 0 => 0
  | k + 1 => asum ws k + if ws.getD k 0 < 0 then - ws.getD k 0 else ws.getD k 0

def Dom (ws : List Int) (room : Int) (n : Nat) : Prop :=
  (∀ i, i < n → ws.getD i 0 ≤ room ∧ -9223372036854775807 ≤ ws.getD i 0) ∧ asum ws n ≤ 9223372036854775807

theorem asum_mono (ws : List Int) (s d : Nat) : asum ws s ≤ asum ws (s + d) ∧ psum ws (s + d) - psum ws s ≤ asum ws (s + d) - asum ws s ∧ -(asum ws (s + d) - asum ws s) ≤ psum ws (s + d) - psum ws s := by
  induction d with
  | zero => simp
  | succ d ih =>
    rw [← Nat.add_assoc]
    simp only [asum, psum]
    split <;> omega

theorem asum_nonneg (ws : List Int) (k : Nat) : 0 ≤ asum ws k := by
  have := (asum_mono ws 0 k).1
  simpa [asum] using this

/-- No sum of neighbouring widths leaves the range of an int. -/
theorem Dom.range {ws : List Int} {room : Int} {n : Nat} (h : Dom ws room n) {s e : Nat} (hse : s ≤ e) (hen : e ≤ n) :
    -9223372036854775807 ≤ psum ws e - psum ws s ∧ psum ws e - psum ws s ≤ 9223372036854775807 := by
  obtain ⟨d, rfl⟩ : ∃ d, e = s + d := ⟨e - s, by omega⟩
  obtain ⟨d2, rfl⟩ : ∃ d2, n = s + d + d2 := ⟨n - (s + d), by omega⟩
  have h1 := asum_mono ws s d
  have h2 := (asum_mono ws (s + d) d2).1
  have h3 := asum_nonneg ws s
  have h4 := h.2
  omega

def Grp (ws : List Int) (room most : Int) (s e : Nat) : Prop :=
  s < e ∧ (∀ j, s < j → j ≤ e → psum ws j - psum ws s ≤ room) ∧ (0 < most → ((e - s : Nat) : Int) ≤ most)

def Shut (ws : List Int) (room most : Int) (s e : Nat) : Prop :=
  (0 < most ∧ ((e - s : Nat) : Int) = most) ∨ room < psum ws e - psum ws s + ws.getD e 0

/-- Where the i-th group begins; behind the last group: st. -/
def startAt (G : List (Nat × Nat)) (st i : Nat) : Nat := if i < G.length then (G.getD i (0, 0)).1 else st

/-- What fill's loop holds behind k widths: the groups that are done, and the one that is open since st. -/
def Open (ws : List Int) (room most : Int) (n : Nat) (G : List (Nat × Nat)) (st k : Nat) : Prop :=
  startAt G st 0 = 0 ∧ (∀ i, i < G.length → (G.getD i (0, 0)).2 = startAt G st (i + 1) ∧ Grp ws room most (G.getD i (0, 0)).1 (G.getD i (0, 0)).2 ∧ Shut ws room most (G.getD i (0, 0)).1 (G.getD i (0, 0)).2 ∧ (G.getD i (0, 0)).2 < n) ∧
  ((k = 0 ∧ st = 0 ∧ G = []) ∨ Grp ws room most st k)

theorem getD_app_lt {α : Type} (d : α) (l : List α) (x : α) (i : Nat) (h : i < l.length) : (l ++ [x]).getD i d = l.getD i d := by
  simp [List.getD_eq_getElem?_getD, List.getElem?_append_left h]
theorem getD_app_eq {α : Type} (d : α) (l : List α) (x : α) : (l ++ [x]).getD l.length d = x := by
  simp [List.getD_eq_getElem?_getD]

theorem startAt_app (G : List (Nat × Nat)) (st k i : Nat) (hi : i ≤ G.length) : startAt (G ++ [(st, k)]) k i = startAt G st i := by
  unfold startAt
  by_cases h : i < G.length
  · rw [if_pos (by simp; omega), if_pos h, getD_app_lt _ _ _ _ h]
  · obtain rfl : i = G.length := by omega
    rw [if_pos (by simp), if_neg h, getD_app_eq]
theorem startAt_end (G : List (Nat × Nat)) (st k : Nat) : startAt (G ++ [(st, k)]) k (G.length + 1) = k := by
  unfold startAt
  rw [if_neg (by simp)]

theorem Open.start (ws : List Int) (room most : Int) (n : Nat) : Open ws room most n [] 0 0 :=
  ⟨rfl, fun i hi => absurd hi (by simp), .inl ⟨rfl, rfl, rfl⟩⟩

theorem Grp.one {ws : List Int} {room most : Int} {k : Nat} (h : ws.getD k 0 ≤ room) : Grp ws room most k (k + 1) := by
  refine ⟨by omega, fun j h1 h2 => ?_, fun h => ?_⟩
  · obtain rfl : j = k + 1 := by omega
    simp only [psum]; omega
  · omega

/-- The group since st ends; k opens a new one. -/
theorem Open.flush {ws : List Int} {room most : Int} {n : Nat} {G : List (Nat × Nat)} {st k : Nat} (h : Open ws room most n G st k) (hk : k < n) (hd : ws.getD k 0 ≤ room)
    (hc : room < psum ws k - psum ws st + ws.getD k 0 ∨ (0 < most ∧ ((k - st : Nat) : Int) = most)) : st < k ∧ Open ws room most n (G ++ [(st, k)]) k (k + 1) := by
  obtain ⟨h1, h2, h3⟩ := h
  have hg : Grp ws room most st k := by
    rcases h3 with ⟨rfl, rfl, rfl⟩ | h3
    · exfalso
      simp only [psum] at hc
      omega
    · exact h3
  refine ⟨hg.1, ?_, fun i hi => ?_, .inr (Grp.one hd)⟩
  · rw [startAt_app _ _ _ _ (by omega)]; exact h1
  · simp only [List.length_append, List.length_cons, List.length_nil] at hi
    by_cases e : i < G.length
    · rw [getD_app_lt _ _ _ _ e, startAt_app _ _ _ _ (by omega)]
      exact h2 i e
    · obtain rfl : i = G.length := by omega
      rw [getD_app_eq, startAt_end]
      refine ⟨rfl, hg, ?_, hk⟩
      rcases hc with hc | hc
      · exact .inr hc
      · exact .inl hc

/-- k joins the group since st. -/
theorem Open.push {ws : List Int} {room most : Int} {n : Nat} {G : List (Nat × Nat)} {st k : Nat} (h : Open ws room most n G st k)
    (hc : psum ws k - psum ws st + ws.getD k 0 ≤ room) (hm : ¬ (0 < most ∧ ((k - st : Nat) : Int) = most)) : Open ws room most n G st (k + 1) := by
  obtain ⟨h1, h2, h3⟩ := h
  refine ⟨h1, h2, .inr ?_⟩
  rcases h3 with ⟨rfl, rfl, rfl⟩ | ⟨g1, g2, g3⟩
  · refine Grp.one ?_
    simp only [psum] at hc; omega
  · refine ⟨by omega, fun j a b => ?_, fun hp => ?_⟩
    · by_cases e : j ≤ k
      · exact g2 j a e
      · obtain rfl : j = k + 1 := by omega
        simp only [psum]; omega
    · have := g3 hp
      omega

/-- What fill hands back. -/
def Final (ws : List Int) (room most : Int) (n : Nat) (G : List (Nat × Nat)) : Prop :=
  startAt G n 0 = 0 ∧ ∀ i, i < G.length → (G.getD i (0, 0)).2 = startAt G n (i + 1) ∧ Grp ws room most (G.getD i (0, 0)).1 (G.getD i (0, 0)).2 ∧ (G.getD i (0, 0)).2 ≤ n ∧
    (i + 1 < G.length → Shut ws room most (G.getD i (0, 0)).1 (G.getD i (0, 0)).2 ∧ (G.getD i (0, 0)).2 < n)

theorem Open.final {ws : List Int} {room most : Int} {n : Nat} {G : List (Nat × Nat)} {st : Nat} (h : Open ws room most n G st n) (hn : 0 < n) : st < n ∧ Final ws room most n (G ++ [(st, n)]) := by
  obtain ⟨h1, h2, h3⟩ := h
  rcases h3 with ⟨h3, _, _⟩ | hg
  · omega
  refine ⟨hg.1, by rw [startAt_app _ _ _ _ (by omega)]; exact h1, fun i hi => ?_⟩
  simp only [List.length_append, List.length_cons, List.length_nil] at hi
  by_cases e : i < G.length
  · rw [getD_app_lt _ _ _ _ e, startAt_app _ _ _ _ (by omega)]
    obtain ⟨a, b, c, d⟩ := h2 i e
    exact ⟨a, b, by omega, fun _ => ⟨c, d⟩⟩
  · obtain rfl : i = G.length := by omega
    rw [getD_app_eq, startAt_end]
    exact ⟨rfl, hg, by simp, fun h => absurd h (by simp)⟩
end Go.Proofs.Qxb6604122a.fill
