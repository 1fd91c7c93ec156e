/- The memory that fill lays: groups and the open group. -/
import Derived.Test.Qxb6604122aKit
import Derived.Test.Qxb6604122aFillPlain
namespace Go.Proofs.Qxb6604122a.fill
open Go.ChangeShapes Go.WideShapes Go.ChangeAt Go.RowKit

/-- The cells s, s+1, .., s+n-1. -/
def seg (s n : Nat) : List Value := (List.range n).map fun i => Value.int .i64 ((s + i : Nat) : Int)
theorem seg_len (s n : Nat) : (seg s n).length = n := by simp [seg]
theorem seg_zero (s : Nat) : seg s 0 = [] := rfl
theorem seg_succ (s n : Nat) : seg s (n + 1) = seg s n ++ [.int .i64 ((s + n : Nat) : Int)] := by simp [seg, List.range_succ]
theorem seg_at (s n i : Nat) (h : i < n) : (seg s n)[i]? = some (.int .i64 ((s + i : Nat) : Int)) := by simp [seg, h]

theorem shape {w : World} {B e n : Nat} {v : Value} {xs : List Value} (h : w.ownsRow B e 1 v n xs) (hn : 0 < n) : ∃ g cap, v = .slice (some ⟨g, 0, none⟩) n cap := by
  rcases h.2 with ⟨_, h2⟩ | ⟨g, cap, cur, h1, _⟩
  · omega
  · exact ⟨g, cap, h1⟩

theorem owned {w : World} {B e n : Nat} {v : Value} {xs : List Value} (h : w.ownsRow B e 1 v n xs) (hn : 0 < n) : ∃ g, v.ownBlock = some g := by
  obtain ⟨g, cap, rfl⟩ := shape h hn
  exact ⟨g, rfl⟩

theorem type_at {w : World} {B e n g : Nat} {v : Value} {xs : List Value} (h : w.ownsRow B e 1 v n xs) (hg : v.ownBlock = some g) : ∃ cur, w.heap[g]? = some (.cells cur e (0, 0)) := by
  rcases h.2 with ⟨rfl, _⟩ | ⟨g', cap, cur, rfl, _, h2, _⟩
  · cases hg
  · cases hg
    exact ⟨cur, h2⟩

/-- Rows of different element types do not lie in one block. -/
theorem apart {w : World} {B B' e e' n n' : Nat} {v v' : Value} {xs xs' : List Value} (h : w.ownsRow B e 1 v n xs) (h' : w.ownsRow B' e' 1 v' n' xs') (hne : e ≠ e') : v.ownBlock = none ∨ v.ownBlock ≠ v'.ownBlock := by
  cases hg : v.ownBlock with
  | none => exact .inl rfl
  | some g =>
    right
    intro he
    obtain ⟨c1, h1⟩ := type_at h hg
    obtain ⟨c2, h2⟩ := type_at h' he.symm
    rw [h1] at h2
    simp at h2
    exact hne h2.2

def Done (B : Nat) (w : World) (ex : Option Nat) (v : Value) (p : Nat × Nat) : Prop :=
  w.ownsRow B 3 1 v (p.2 - p.1) (seg p.1 (p.2 - p.1)) ∧ p.1 < p.2 ∧ v.ownBlock ≠ ex

def Inv (B : Nat) (w : World) (gv : Value) (vs : List Value) (cv : Value) (G : List (Nat × Nat)) (st k : Nat) : Prop :=
  w.ownsRow B 22 1 gv G.length vs ∧ w.ownsRow B 3 1 cv (k - st) (seg st (k - st)) ∧ st ≤ k ∧ ∀ i, i < G.length → Done B w cv.ownBlock (vs.getD i undef) (G.getD i (0, 0))

theorem Inv.start (B : Nat) (w : World) : Inv B w (.slice none 0 0) [] (.slice none 0 0) [] 0 0 :=
  ⟨World.ownsRow_nil _ _ _ _, World.ownsRow_nil _ _ _ _, Nat.le_refl _, fun i hi => absurd hi (by simp)⟩

theorem Inv.vs_len {B : Nat} {w : World} {gv : Value} {vs : List Value} {cv : Value} {G : List (Nat × Nat)} {st k : Nat} (h : Inv B w gv vs cv G st k) : vs.length = G.length := by
  have := h.1.1; omega

theorem Inv.flush {B : Nat} {w w1 : World} {gv gv' : Value} {vs : List Value} {cv : Value} {G : List (Nat × Nat)} {st k : Nat} {o : Obj} (h : Inv B w gv vs cv G st k) (hst : st < k)
    (hown : w1.ownsRow B 22 1 gv' (G.length + 1) (vs ++ [cv])) (hg : (w.alloc o).grownBy w1 gv.ownBlock) : Inv B w1 gv' (vs ++ [cv]) (.slice none 0 0) (G ++ [(st, k)]) k k := by
  have hl := h.vs_len
  obtain ⟨h1, h2, h3, h4⟩ := h
  have keep : ∀ {v : Value} {n : Nat} {xs : List Value}, w.ownsRow B 3 1 v n xs → w1.ownsRow B 3 1 v n xs := fun hv => (hv.alloc o).kept hg (apart hv h1 (by decide))
  refine ⟨by simpa using hown, by rw [Nat.sub_self]; exact World.ownsRow_nil _ _ _ _, Nat.le_refl _, fun i hi => ?_⟩
  simp only [List.length_append, List.length_cons, List.length_nil] at hi
  by_cases e : i < G.length
  · rw [getD_app_lt _ _ _ _ (by omega), getD_app_lt _ _ _ _ e]
    obtain ⟨d1, d2, _⟩ := h4 i e
    obtain ⟨g, hgv⟩ := owned d1 (by omega)
    exact ⟨keep d1, d2, by rw [hgv]; simp [Value.ownBlock]⟩
  · obtain rfl : i = G.length := by omega
    rw [getD_app_eq, ← hl, getD_app_eq]
    obtain ⟨g, hgv⟩ := owned h2 (by omega)
    exact ⟨keep h2, hst, by rw [hgv]; simp [Value.ownBlock]⟩

theorem Inv.push {B : Nat} {w w1 : World} {gv : Value} {vs : List Value} {cv cv' : Value} {G : List (Nat × Nat)} {st k : Nat} {o : Obj} (h : Inv B w gv vs cv G st k)
    (hown : w1.ownsRow B 3 1 cv' (k - st + 1) (seg st (k - st) ++ [.int .i64 (k : Int)])) (hg : (w.alloc o).grownBy w1 cv.ownBlock)
    (hloc : cv'.ownBlock = cv.ownBlock ∨ cv'.ownBlock = some (w.alloc o).heap.size) : Inv B w1 gv vs cv' G st (k + 1) := by
  obtain ⟨h1, h2, h3, h4⟩ := h
  have e1 : k + 1 - st = k - st + 1 := by omega
  have e2 : ((st + (k - st) : Nat) : Int) = (k : Int) := by omega
  refine ⟨(h1.alloc o).kept hg (apart h1 h2 (by decide)), ?_, by omega, fun i hi => ?_⟩
  · rw [e1, seg_succ, e2]; exact hown
  · obtain ⟨d1, d2, d3⟩ := h4 i hi
    obtain ⟨g, hgv⟩ := owned d1 (by omega)
    refine ⟨(d1.alloc o).kept hg (.inr d3), d2, ?_⟩
    rcases hloc with hloc | hloc
    · rw [hloc]; exact d3
    · rw [hloc]
      intro hh
      have := ((d1.alloc o).lt _ hh).2
      omega

/-- What the loop of fill holds behind k widths. -/
def Loop (w0 wr : World) (ws : List Int) (room most : Int) (n k st q gl : Nat) (G : List (Nat × Nat)) (vs : List Value) (gv cv : Value) (U : Int) : Prop :=
  q = k - st ∧ gl = G.length ∧ U = psum ws k - psum ws st ∧ Inv w0.heap.size wr gv vs cv G st k ∧ Open ws room most n G st k ∧ gl ≤ k ∧ Below w0.heap.size w0 wr ∧ (k = 0 → gv = .slice none 0 0 ∧ cv = .slice none 0 0)

theorem Loop.start (w : World) (ws : List Int) (room most : Int) (n : Nat) : Loop w w ws room most n 0 0 0 0 [] [] (.slice none 0 0) (.slice none 0 0) 0 :=
  ⟨rfl, rfl, by simp [psum], Inv.start _ _, Open.start _ _ _ _, Nat.le_refl _, Below.refl _ _, fun _ => ⟨rfl, rfl⟩⟩

theorem Loop.push {w0 wr w1 : World} {ws : List Int} {room most : Int} {n k st q gl : Nat} {G : List (Nat × Nat)} {vs : List Value} {gv cv cv' : Value} {U x : Int} {o : Obj} (h : Loop w0 wr ws room most n k st q gl G vs gv cv U)
    (hx : x = ws.getD k 0) (hc : U + x ≤ room) (hm : ¬ (0 < most ∧ (q : Int) = most))
    (hown : w1.ownsRow w0.heap.size 3 1 cv' (q + 1) (seg st q ++ [.int .i64 (k : Int)])) (hg : (wr.alloc o).grownBy w1 cv.ownBlock) (hloc : cv'.ownBlock = cv.ownBlock ∨ cv'.ownBlock = some (wr.alloc o).heap.size) :
    Loop w0 w1 ws room most n (k + 1) st (q + 1) gl G vs gv cv' (U + x) := by
  obtain ⟨rfl, rfl, rfl, hi, ho, hk, hb, _⟩ := h
  refine ⟨by have := hi.2.2.1; omega, rfl, by simp only [psum]; rw [← hx]; omega, hi.push hown hg hloc, ho.push (by rw [← hx]; exact hc) hm, by omega, ?_, fun h => absurd h (by omega)⟩
  exact (hb.alloc hb.size o).grown hg (by have := hb.size; simp; omega) (fun j hj => (hi.2.1.lt j hj).1)

theorem Loop.flush {w0 wr w1 w2 : World} {ws : List Int} {room most : Int} {n k st q gl : Nat} {G : List (Nat × Nat)} {vs : List Value} {gv gv' cv cv' : Value} {U x : Int} {o o' : Obj} (h : Loop w0 wr ws room most n k st q gl G vs gv cv U)
    (hk : k < n) (hx : x = ws.getD k 0) (hd : x ≤ room) (hc : room < U + x ∨ (0 < most ∧ (q : Int) = most))
    (hown : w1.ownsRow w0.heap.size 22 1 gv' (gl + 1) (vs ++ [cv])) (hg : (wr.alloc o).grownBy w1 gv.ownBlock)
    (hown2 : w2.ownsRow w0.heap.size 3 1 cv' 1 [.int .i64 (k : Int)]) (hg2 : (w1.alloc o').grownBy w2 none) (hloc : cv'.ownBlock = none ∨ cv'.ownBlock = some (w1.alloc o').heap.size) :
    Loop w0 w2 ws room most n (k + 1) k 1 (gl + 1) (G ++ [(st, k)]) (vs ++ [cv]) gv' cv' x := by
  obtain ⟨rfl, rfl, rfl, hi, ho, hkk, hb, _⟩ := h
  obtain ⟨hst, ho'⟩ := ho.flush hk (by rw [← hx]; exact hd) (by rw [← hx]; exact hc)
  have hi1 := hi.flush hst hown hg
  have hi2 := hi1.push (o := o') (cv' := cv') (w1 := w2) (by rw [Nat.sub_self]; exact hown2) hg2 hloc
  have hb1 : Below w0.heap.size w0 w1 := (hb.alloc hb.size o).grown hg (by have := hb.size; simp; omega) (fun j hj => (hi.1.lt j hj).1)
  refine ⟨by omega, by simp, by simp only [psum]; rw [← hx]; omega, hi2, ho', by omega, ?_, fun h => absurd h (by omega)⟩
  exact (hb1.alloc hb1.size o').grown hg2 (by have := hb1.size; simp; omega) (fun j hj => by cases hj)

/-- What fill hands back: n widths; G: the groups. -/
def Filled (w0 w' : World) (ws : List Int) (room most : Int) (n : Nat) (ga : Option Addr) (gl gc : Nat) (G : List (Nat × Nat)) (vs : List Value) : Prop :=
  gl = G.length ∧ (n = 0 → ga = none) ∧ (0 < n → Final ws room most n G) ∧ w'.ownsRow w0.heap.size 22 1 (.slice ga gl gc) gl vs ∧
  (∀ i, i < G.length → w'.ownsRow w0.heap.size 3 1 (vs.getD i undef) ((G.getD i (0, 0)).2 - (G.getD i (0, 0)).1) (seg (G.getD i (0, 0)).1 ((G.getD i (0, 0)).2 - (G.getD i (0, 0)).1))) ∧ Below w0.heap.size w0 w'

theorem Loop.none {w0 wr : World} {ws : List Int} {room most : Int} {st q gl : Nat} {G : List (Nat × Nat)} {vs : List Value} {ga : Option Addr} {gc : Nat} {cv : Value} {U : Int} (h : Loop w0 wr ws room most 0 0 st q gl G vs (.slice ga gl gc) cv U) :
    Filled w0 wr ws room most 0 ga gl gc G vs := by
  obtain ⟨rfl, rfl, rfl, hi, ho, hk, hb, hz⟩ := h
  refine ⟨rfl, fun _ => ?_, fun h => absurd h (by omega), hi.1, fun i hi' => absurd hi' (by omega), hb⟩
  have := (hz rfl).1
  simp at this
  exact this.1

theorem Loop.final {w0 wr w1 : World} {ws : List Int} {room most : Int} {n st q gl gc : Nat} {G : List (Nat × Nat)} {vs : List Value} {gv cv : Value} {ga : Option Addr} {U : Int} {o : Obj} (h : Loop w0 wr ws room most n n st q gl G vs gv cv U) (hn : 0 < n)
    (hown : w1.ownsRow w0.heap.size 22 1 (.slice ga (gl + 1) gc) (gl + 1) (vs ++ [cv])) (hg : (wr.alloc o).grownBy w1 gv.ownBlock) : Filled w0 w1 ws room most n ga (gl + 1) gc (G ++ [(st, n)]) (vs ++ [cv]) := by
  obtain ⟨rfl, rfl, rfl, hi, ho, hkk, hb, _⟩ := h
  obtain ⟨hst, hf⟩ := ho.final hn
  have hi1 := hi.flush hst hown hg
  have hb1 : Below w0.heap.size w0 w1 := (hb.alloc hb.size o).grown hg (by have := hb.size; simp; omega) (fun j hj => (hi.1.lt j hj).1)
  exact ⟨by simp, fun h => absurd h (by omega), fun _ => hf, hown, fun i h => (hi1.2.2.2 i h).1, hb1⟩

theorem Loop.open_pos {w0 wr : World} {ws : List Int} {room most : Int} {n k st q gl : Nat} {G : List (Nat × Nat)} {vs : List Value} {gv cv : Value} {U : Int} (h : Loop w0 wr ws room most n k st q gl G vs gv cv U) (hk : 0 < k) : 0 < q := by
  obtain ⟨rfl, rfl, rfl, hi, ho, hkk, hb, _⟩ := h
  rcases ho.2.2 with ⟨h, _⟩ | h
  · omega
  · have := h.1; omega
end Go.Proofs.Qxb6604122a.fill
