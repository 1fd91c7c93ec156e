/- A run of pieces against the offset model: the plain law. No program in sight. -/
import Derived.OpenShut
namespace Go.Proofs.Qxb6604122a.whole

/-- The last of the first k pieces that stands at pos. -/
def ix (a : List Int) : Nat → Int → Option Nat
  | 0, _ => none
  | k + 1, pos => if a.getD k 0 = pos then some k else ix a k pos

theorem ix_spec {a : List Int} {k i : Nat} {pos : Int} (h : ix a k pos = some i) : i < k ∧ a.getD i 0 = pos := by
  induction k with
  | zero => simp [ix] at h
  | succ k ih =>
    simp only [ix] at h
    split at h
    · rename_i hk
      simp at h; subst h
      exact ⟨by omega, hk⟩
    · have := ih h; exact ⟨by omega, this.2⟩

theorem ix_later {a : List Int} {k i : Nat} {pos : Int} (d : Nat) (h : ix a k pos = some i) : ∃ m, ix a (k + d) pos = some m ∧ i ≤ m := by
  induction d with
  | zero => exact ⟨i, h, Nat.le_refl _⟩
  | succ d ih =>
    obtain ⟨m, h1, h2⟩ := ih
    rw [← Nat.add_assoc]
    simp only [ix]
    split
    · exact ⟨k + d, rfl, by have := (ix_spec h).1; omega⟩
    · exact ⟨m, h1, h2⟩

theorem ix_hit {a : List Int} {k n i : Nat} {pos : Int} (hk : k < n) (hi : i < k) (h : a.getD k 0 = pos) : ix a n pos ≠ some i := by
  have h1 : ix a (k + 1) pos = some k := by simp only [ix]; rw [if_pos h]
  obtain ⟨d, rfl⟩ : ∃ d, n = k + 1 + d := ⟨n - (k + 1), by omega⟩
  obtain ⟨m, h2, h3⟩ := ix_later d h1
  rw [h2]; intro e; simp at e; omega

/-- Is the i-th piece the one that stands at its position? -/
def stand (a : List Int) (n i : Nat) : Bool := decide (ix a n (a.getD i 0) = some i)

/-- How many of the first n meet p. -/
def cnt (p : Nat → Bool) : Nat → Nat
  | 0 => 0
  | k + 1 => cnt p k + if p k = true then 1 else 0

theorem cnt_le (p : Nat → Bool) (n : Nat) : cnt p n ≤ n := by
  induction n with
  | zero => simp [cnt]
  | succ n ih => simp only [cnt]; split <;> omega

theorem cnt_congr {p q : Nat → Bool} {n : Nat} (h : ∀ i, i < n → p i = q i) : cnt p n = cnt q n := by
  induction n with
  | zero => rfl
  | succ n ih => simp only [cnt]; rw [ih (fun i hi => h i (by omega)), h n (by omega)]

theorem cnt_full {p : Nat → Bool} {n : Nat} : cnt p n = n ↔ ∀ i, i < n → p i = true := by
  induction n with
  | zero => simp [cnt]
  | succ n ih =>
    simp only [cnt]
    have hl := cnt_le p n
    constructor
    · intro h i hi
      have hp : p n = true := by
        by_cases hp : p n = true
        · exact hp
        · rw [if_neg hp] at h; omega
      rw [if_pos hp] at h
      by_cases e : i = n
      · subst e; exact hp
      · exact (ih.mp (by omega)) i (by omega)
    · intro h
      rw [if_pos (h n (by omega)), ih.mpr (fun i hi => h i (by omega))]

theorem cnt_or {p q r : Nat → Bool} {n : Nat} (h : ∀ i, i < n → r i = (p i || q i)) (hd : ∀ i, i < n → ¬ (p i = true ∧ q i = true)) : cnt r n = cnt p n + cnt q n := by
  induction n with
  | zero => rfl
  | succ n ih =>
    simp only [cnt]
    rw [ih (fun i hi => h i (by omega)) (fun i hi => hd i (by omega)), h n (by omega)]
    have := hd n (by omega)
    cases hp : p n <;> cases hq : q n <;> simp_all <;> omega

theorem cnt_none {p : Nat → Bool} {n : Nat} (h : ∀ i, i < n → p i = false) : cnt p n = 0 := by
  induction n with
  | zero => rfl
  | succ n ih => simp only [cnt]; rw [ih (fun i hi => h i (by omega)), h n (by omega)]; rfl

theorem cnt_one {p : Nat → Bool} {n j : Nat} (hj : j < n) (h : ∀ i, i < n → (p i = true ↔ i = j)) : cnt p n = 1 := by
  induction n with
  | zero => omega
  | succ n ih =>
    simp only [cnt]
    by_cases e : j = n
    · subst e
      rw [cnt_none (fun i hi => by
        cases hp : p i with
        | false => rfl
        | true => have := (h i (by omega)).mp hp; omega), if_pos ((h j (by omega)).mpr rfl)]
    · rw [ih (by omega) (fun i hi => h i (by omega)), if_neg (fun hp => e ((h n (by omega)).mp hp).symm)]

def off (a : List Int) (st : Int) (i : Nat) : Int := (a.getD i 0 - st) % 4294967296
def posAt (st : Int) (o : Nat) : Int := (st + (o : Int)) % 4294967296
def pres (a : List Int) (n : Nat) (st : Int) (o : Nat) : Bool := (ix a n (posAt st o)).isSome

/-- Every piece's position is a uint32. -/
def U32 (a : List Int) : Prop := ∀ i, 0 ≤ a.getD i 0 ∧ a.getD i 0 < 4294967296

theorem off_iff {a : List Int} (h : U32 a) (st : Int) (i o : Nat) (ho : o < 4294967296) : off a st i = (o : Int) ↔ a.getD i 0 = posAt st o := by
  have := h i
  unfold off posAt
  omega

theorem off_range (a : List Int) (st : Int) (i : Nat) : 0 ≤ off a st i ∧ off a st i < 4294967296 := by unfold off; omega

theorem stand_at {a : List Int} (h : U32 a) {st : Int} {n i o : Nat} (_hi : i < n) (ho : o < 4294967296) : (stand a n i = true ∧ off a st i = (o : Int)) ↔ ix a n (posAt st o) = some i := by
  unfold stand
  rw [decide_eq_true_eq, off_iff h st i o ho]
  constructor
  · rintro ⟨h1, h2⟩; rw [h2] at h1; exact h1
  · intro h1
    have h2 := (ix_spec h1).2
    exact ⟨by rw [h2]; exact h1, h2⟩

theorem cnt_at {a : List Int} (h : U32 a) (st : Int) (n o : Nat) (ho : o < 4294967296) : cnt (fun i => stand a n i && decide (off a st i = (o : Int))) n = if pres a n st o = true then 1 else 0 := by
  have key : ∀ i, i < n → ((stand a n i && decide (off a st i = (o : Int))) = true ↔ ix a n (posAt st o) = some i) := fun i hi => by
    rw [Bool.and_eq_true, decide_eq_true_eq]; exact stand_at h hi ho
  cases hx : ix a n (posAt st o) with
  | none =>
    have hp : pres a n st o = false := by unfold pres; rw [hx]; rfl
    rw [hp]
    refine cnt_none fun i hi => ?_
    cases hb : (stand a n i && decide (off a st i = (o : Int))) with
    | false => rfl
    | true => have := (key i hi).mp hb; rw [hx] at this; cases this
  | some j =>
    have hp : pres a n st o = true := by unfold pres; rw [hx]; rfl
    rw [if_pos hp]
    refine cnt_one (ix_spec hx).1 fun i hi => ?_
    rw [key i hi, hx]
    constructor
    · intro e; simp at e; omega
    · intro e; rw [e]

/-- The pieces that stand below offset m, counted by pieces and by offsets. -/
theorem cnt_below {a : List Int} (h : U32 a) (st : Int) (n m : Nat) (hm : m ≤ 4294967296) : cnt (fun i => stand a n i && decide (off a st i < (m : Int))) n = cnt (pres a n st) m := by
  induction m with
  | zero =>
    refine (cnt_none fun i _ => ?_).trans rfl
    have := (off_range a st i).1
    have e : decide (off a st i < ((0 : Nat) : Int)) = false := decide_eq_false (by omega)
    rw [e, Bool.and_false]
  | succ m ih =>
    simp only [cnt]
    rw [← ih (by omega), ← cnt_at h st n m (by omega)]
    refine cnt_or (fun i _ => ?_) (fun i _ => ?_)
    · rw [← Bool.and_or_distrib_left]
      congr 1
      rw [Bool.eq_iff_iff]
      simp only [decide_eq_true_eq, Bool.or_eq_true]
      omega
    · simp only [Bool.and_eq_true, decide_eq_true_eq]
      omega

/-- Up to offset o every position holds a piece, and none of those is marked last. -/
def Run (a : List Int) (ls : List Bool) (n : Nat) (st : Int) (o : Nat) : Prop :=
  ∀ j, j < o → ∃ i, ix a n (posAt st j) = some i ∧ ls.getD i false = false

theorem Run.short {a : List Int} {ls : List Bool} {n : Nat} {st : Int} {o : Nat} (ha : U32 a) (h : Run a ls n st o) (ho : o ≤ 4294967296) : o ≤ n := by
  have h1 : cnt (pres a n st) o = o := cnt_full.mpr fun j hj => by
    obtain ⟨i, hi, _⟩ := h j hj
    unfold pres; rw [hi]; rfl
  rw [← cnt_below ha st n o ho] at h1
  have := cnt_le (fun i => stand a n i && decide (off a st i < (o : Int))) n
  omega

/-- What whole answers from position st. -/
def Goes (a : List Int) (ls : List Bool) (n : Nat) (st : Int) (r : Bool) : Prop :=
  ∃ o, o ≤ n ∧ Run a ls n st o ∧ ((r = true ∧ ∃ i, ix a n (posAt st o) = some i ∧ ls.getD i false = true) ∨ (r = false ∧ ix a n (posAt st o) = none))

/-- The least offset of a standing piece that is marked last, among the first k. -/
def Least (a : List Int) (ls : List Bool) (n k : Nat) (st : Int) (hv : Bool) (d : Int) : Prop :=
  (hv = false ∧ ∀ j, j < k → ¬ (ls.getD j false = true ∧ stand a n j = true)) ∨
  (hv = true ∧ 0 ≤ d ∧ d < 4294967296 ∧ (∃ j, j < k ∧ ls.getD j false = true ∧ stand a n j = true ∧ off a st j = d) ∧ ∀ j, j < k → ls.getD j false = true → stand a n j = true → d ≤ off a st j)

/-- What the model answers from position st. -/
def Tells (a : List Int) (ls : List Bool) (n : Nat) (st : Int) (r : Bool) : Prop :=
  ∃ hv d, Least a ls n n st hv d ∧ ((hv = false ∧ r = false) ∨ (hv = true ∧ r = ((cnt (fun i => stand a n i && decide (off a st i ≤ d)) n : Int) == d + 1)))

theorem cnt_le_d {a : List Int} (h : U32 a) (st : Int) (n o : Nat) (ho : o < 4294967296) : cnt (fun i => stand a n i && decide (off a st i ≤ (o : Int))) n = cnt (pres a n st) (o + 1) := by
  rw [← cnt_below h st n (o + 1) (by omega)]
  refine cnt_congr fun i _ => ?_
  congr 1
  rw [Bool.eq_iff_iff]
  simp only [decide_eq_true_eq]
  omega

theorem agree {a : List Int} {ls : List Bool} {n : Nat} {st : Int} {r1 r2 : Bool} (ha : U32 a) (hn : n ≤ 4096) (h1 : Goes a ls n st r1) (h2 : Tells a ls n st r2) : r1 = r2 := by
  obtain ⟨o, ho, hrun, h1⟩ := h1
  obtain ⟨hv, d, hl, h2⟩ := h2
  have hfull : ∀ j, j < o → pres a n st j = true := fun j hj => by
    obtain ⟨i, hi, _⟩ := hrun j hj
    unfold pres; rw [hi]; rfl
  rcases h1 with ⟨rfl, i, hi, hli⟩ | ⟨rfl, hnone⟩
  · have hin := (ix_spec hi).1
    obtain ⟨hs, hoff⟩ := (stand_at ha hin (by omega)).mpr hi
    rcases hl with ⟨rfl, hl⟩ | ⟨rfl, hd0, hd1, ⟨j, hj, hlj, hsj, hoj⟩, hmin⟩
    · exact absurd ⟨hli, hs⟩ (hl i hin)
    · have hle := hmin i hin hli hs
      obtain ⟨D, rfl⟩ : ∃ D : Nat, d = D := ⟨d.toNat, by omega⟩
      have hDo : D = o := by
        by_cases e : D < o
        · obtain ⟨i2, hi2, hl2⟩ := hrun D e
          have hj2 := (stand_at ha hj (by omega)).mp ⟨hsj, hoj⟩
          rw [hi2] at hj2
          simp at hj2; subst hj2
          rw [hl2] at hlj; cases hlj
        · omega
      subst hDo
      rcases h2 with ⟨h2, _⟩ | ⟨_, h2⟩
      · cases h2
      rw [cnt_le_d ha st n D (by omega)] at h2
      have hall : cnt (pres a n st) (D + 1) = D + 1 := cnt_full.mpr fun k hk => by
        by_cases e : k = D
        · subst e; unfold pres; rw [hi]; rfl
        · exact hfull k (by omega)
      rw [h2, hall]
      simp
  · rcases h2 with ⟨_, rfl⟩ | ⟨rfl, h2⟩
    · rfl
    rcases hl with ⟨hl, _⟩ | ⟨_, hd0, hd1, ⟨j, hj, hlj, hsj, hoj⟩, hmin⟩
    · cases hl
    obtain ⟨D, rfl⟩ : ∃ D : Nat, d = D := ⟨d.toNat, by omega⟩
    have hj2 := (stand_at ha hj (by omega)).mp ⟨hsj, hoj⟩
    have hoD : o < D := by
      by_cases e : D < o
      · obtain ⟨i2, hi2, hl2⟩ := hrun D e
        rw [hi2] at hj2
        simp at hj2; subst hj2
        rw [hl2] at hlj; cases hlj
      · by_cases e2 : D = o
        · subst e2; rw [hnone] at hj2; cases hj2
        · omega
    rw [cnt_le_d ha st n D (by omega)] at h2
    have hne : cnt (pres a n st) (D + 1) ≠ D + 1 := fun e => by
      have := cnt_full.mp e o (by omega)
      unfold pres at this; rw [hnone] at this; cases this
    rw [h2]
    symm
    rw [beq_eq_false_iff_ne]
    omega
end Go.Proofs.Qxb6604122a.whole
