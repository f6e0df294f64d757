/-
  THE PLAIN LAW behind '(Timestamp).Compare': two ascending rows of processes with counts, met from the left. No Go in sight.
-/
namespace Go.Proofs.Qxb6630448a.Plain

/-- Strictly ascending below n. -/
def Asc (n : Nat) (P : Nat → Int) : Prop := ∀ i, i + 1 < n → P i < P (i + 1)

theorem asc_lt {n : Nat} {P : Nat → Int} (h : Asc n P) : ∀ (d i : Nat), i + d + 1 < n → P i < P (i + d + 1) := by
  intro d
  induction d with
  | zero => intro i hi; exact h i hi
  | succ d ih =>
    intro i hi
    have h1 := ih i (by omega)
    have h2 := h (i + d + 1) (by omega)
    have e : i + (d + 1) + 1 = i + d + 1 + 1 := by omega
    rw [e]; omega

theorem asc_of {n : Nat} {P : Nat → Int} (h : Asc n P) {i j : Nat} (hij : i < j) (hj : j < n) : P i < P j := by
  have := asc_lt h (j - i - 1) i (by omega)
  have e : i + (j - i - 1) + 1 = j := by omega
  rw [e] at this; exact this

/-- Some count of the left one, among what has been met, is below the right one's. -/
def LessAt (n : Nat) (P C Q D : Nat → Int) (i j : Nat) : Prop :=
  (∃ b, b < j ∧ ∀ a, a < n → P a ≠ Q b) ∨ (∃ a b, a < i ∧ b < j ∧ P a = Q b ∧ C a < D b)
/-- Some count of the left one is above. -/
def MoreAt (m : Nat) (P C Q D : Nat → Int) (i j : Nat) : Prop :=
  (∃ a, a < i ∧ ∀ b, b < m → P a ≠ Q b) ∨ (∃ a b, a < i ∧ b < j ∧ P a = Q b ∧ D b < C a)

/-- What holds at the head of each round of Compare's loop. -/
structure Inv (n m : Nat) (P C Q D : Nat → Int) (i j : Nat) (l r : Bool) : Prop where
  hi : i ≤ n
  hj : j ≤ m
  lo : ∀ a b, a < i → j ≤ b → b < m → P a < Q b
  ro : ∀ a b, i ≤ a → a < n → b < j → Q b < P a
  less : l = true ↔ LessAt n P C Q D i j
  more : r = true ↔ MoreAt m P C Q D i j

theorem inv_start (n m : Nat) (P C Q D : Nat → Int) : Inv n m P C Q D 0 0 false false where
  hi := Nat.zero_le _
  hj := Nat.zero_le _
  lo := by intro a b h; omega
  ro := by intro a b _ _ h; omega
  less := by
    constructor
    · intro h; cases h
    · rintro (⟨b, h, _⟩ | ⟨a, b, h, _⟩) <;> omega
  more := by
    constructor
    · intro h; cases h
    · rintro (⟨b, h, _⟩ | ⟨a, b, h, _⟩) <;> omega

theorem inv_more {n m : Nat} {P C Q D : Nat → Int} {i j : Nat} {l r : Bool} (hQ : Asc m Q) (h : Inv n m P C Q D i j l r)
    (hi : i < n) (hc : j = m ∨ P i < Q j) : Inv n m P C Q D (i + 1) j l true := by
  have key : ∀ b, j ≤ b → b < m → P i < Q b := by
    intro b h1 h2
    rcases hc with hc | hc
    · omega
    · by_cases e : j = b
      · rw [← e]; exact hc
      · have := asc_of hQ (i := j) (j := b) (by omega) h2; omega
  have keyr : ∀ b, b < j → Q b < P i := fun b hb => h.ro i b (Nat.le_refl _) hi hb
  refine ⟨by omega, h.hj, ?_, ?_, ?_, ?_⟩
  · intro a b h1 h2 h3
    by_cases e : a = i
    · rw [e]; exact key b h2 h3
    · exact h.lo a b (by omega) h2 h3
  · intro a b h1 h2 h3
    exact h.ro a b (by omega) h2 h3
  · rw [h.less]
    constructor
    · rintro (h1 | ⟨a, b, h1, h2, h3, h4⟩)
      · exact .inl h1
      · exact .inr ⟨a, b, by omega, h2, h3, h4⟩
    · rintro (h1 | ⟨a, b, h1, h2, h3, h4⟩)
      · exact .inl h1
      · by_cases e : a = i
        · subst e; have := keyr b h2; omega
        · exact .inr ⟨a, b, by omega, h2, h3, h4⟩
  · constructor
    · intro _
      refine .inl ⟨i, by omega, fun b hb => ?_⟩
      by_cases e : b < j
      · have := keyr b e; omega
      · have := key b (by omega) hb; omega
    · intro _; rfl

theorem inv_less {n m : Nat} {P C Q D : Nat → Int} {i j : Nat} {l r : Bool} (hP : Asc n P) (h : Inv n m P C Q D i j l r)
    (hj : j < m) (hc : i = n ∨ Q j < P i) : Inv n m P C Q D i (j + 1) true r := by
  have key : ∀ a, i ≤ a → a < n → Q j < P a := by
    intro a h1 h2
    rcases hc with hc | hc
    · omega
    · by_cases e : i = a
      · rw [← e]; exact hc
      · have := asc_of hP (i := i) (j := a) (by omega) h2; omega
  have keyl : ∀ a, a < i → P a < Q j := fun a ha => h.lo a j ha (Nat.le_refl _) hj
  refine ⟨h.hi, by omega, ?_, ?_, ?_, ?_⟩
  · intro a b h1 h2 h3
    exact h.lo a b h1 (by omega) h3
  · intro a b h1 h2 h3
    by_cases e : b = j
    · rw [e]; exact key a h1 h2
    · exact h.ro a b h1 h2 (by omega)
  · constructor
    · intro _
      refine .inl ⟨j, by omega, fun a ha => ?_⟩
      by_cases e : a < i
      · have := keyl a e; omega
      · have := key a (by omega) ha; omega
    · intro _; rfl
  · rw [h.more]
    constructor
    · rintro (h1 | ⟨a, b, h1, h2, h3, h4⟩)
      · exact .inl h1
      · exact .inr ⟨a, b, h1, by omega, h3, h4⟩
    · rintro (h1 | ⟨a, b, h1, h2, h3, h4⟩)
      · exact .inl h1
      · by_cases e : b = j
        · subst e; have := keyl a h1; omega
        · exact .inr ⟨a, b, h1, by omega, h3, h4⟩

theorem inv_both {n m : Nat} {P C Q D : Nat → Int} {i j : Nat} {l r : Bool} (hP : Asc n P) (hQ : Asc m Q) (h : Inv n m P C Q D i j l r)
    (hi : i < n) (hj : j < m) (he : P i = Q j) : Inv n m P C Q D (i + 1) (j + 1) (l || decide (C i < D j)) (r || decide (D j < C i)) := by
  have keyr : ∀ b, b < j → Q b < P i := fun b hb => h.ro i b (Nat.le_refl _) hi hb
  have keyl : ∀ a, a < i → P a < Q j := fun a ha => h.lo a j ha (Nat.le_refl _) hj
  refine ⟨by omega, by omega, ?_, ?_, ?_, ?_⟩
  · intro a b h1 h2 h3
    have hb := asc_of hQ (i := j) (j := b) (by omega) h3
    by_cases e : a = i
    · rw [e]; omega
    · have := keyl a (by omega); omega
  · intro a b h1 h2 h3
    have ha := asc_of hP (i := i) (j := a) (by omega) h2
    by_cases e : b = j
    · rw [e]; omega
    · have := keyr b (by omega); omega
  · rw [Bool.or_eq_true, h.less, decide_eq_true_eq]
    constructor
    · rintro ((⟨b, h1, h2⟩ | ⟨a, b, h1, h2, h3, h4⟩) | hc)
      · exact .inl ⟨b, by omega, h2⟩
      · exact .inr ⟨a, b, by omega, by omega, h3, h4⟩
      · exact .inr ⟨i, j, by omega, by omega, he, hc⟩
    · rintro (⟨b, h1, h2⟩ | ⟨a, b, h1, h2, h3, h4⟩)
      · by_cases e : b = j
        · subst e; exact absurd he (h2 i hi)
        · exact .inl (.inl ⟨b, by omega, h2⟩)
      · by_cases ea : a = i
        · by_cases eb : b = j
          · subst ea; subst eb; exact .inr h4
          · subst ea; have := keyr b (by omega); omega
        · by_cases eb : b = j
          · subst eb; have := keyl a (by omega); omega
          · exact .inl (.inr ⟨a, b, by omega, by omega, h3, h4⟩)
  · rw [Bool.or_eq_true, h.more, decide_eq_true_eq]
    constructor
    · rintro ((⟨b, h1, h2⟩ | ⟨a, b, h1, h2, h3, h4⟩) | hc)
      · exact .inl ⟨b, by omega, h2⟩
      · exact .inr ⟨a, b, by omega, by omega, h3, h4⟩
      · exact .inr ⟨i, j, by omega, by omega, he, hc⟩
    · rintro (⟨a, h1, h2⟩ | ⟨a, b, h1, h2, h3, h4⟩)
      · by_cases e : a = i
        · subst e; exact absurd he (h2 j hj)
        · exact .inl (.inl ⟨a, by omega, h2⟩)
      · by_cases ea : a = i
        · by_cases eb : b = j
          · subst ea; subst eb; exact .inr h4
          · subst ea; have := keyr b (by omega); omega
        · by_cases eb : b = j
          · subst eb; have := keyl a (by omega); omega
          · exact .inl (.inr ⟨a, b, by omega, by omega, h3, h4⟩)

/-- The relation's number: Equal 0, Before 1, After 2, Concurrent 3. -/
def relOf (l r : Bool) : Int := if l = true then (if r = true then 3 else 1) else (if r = true then 2 else 0)

/-- What Compare answers: two Bools that say just this, and the number that they give. -/
def Stands (n m : Nat) (P C Q D : Nat → Int) (l r : Bool) : Prop :=
  (l = true ↔ LessAt n P C Q D n m) ∧ (r = true ↔ MoreAt m P C Q D n m)

theorem stands_of {n m : Nat} {P C Q D : Nat → Int} {l r : Bool} (h : Inv n m P C Q D n m l r) : Stands n m P C Q D l r := ⟨h.less, h.more⟩

theorem stands_one {n m : Nat} {P C Q D : Nat → Int} {l r l' r' : Bool} (h : Stands n m P C Q D l r) (h' : Stands n m P C Q D l' r') : l = l' ∧ r = r' := by
  constructor
  · rw [Bool.eq_iff_iff, h.1, h'.1]
  · rw [Bool.eq_iff_iff, h.2, h'.2]

/-! ### The pointwise model -/
/-- v is the count of p in the row (Q, D) of m entries, 0 where it is not named. -/
def IsLook (m : Nat) (Q D : Nat → Int) (p v : Int) : Prop :=
  (∀ b, b < m → Q b = p → v = D b) ∧ ((∀ b, b < m → Q b ≠ p) → v = 0)

/-- The first loop: over the left one's entries. -/
def One (m : Nat) (P C Q D : Nat → Int) (i : Nat) (l r : Bool) : Prop :=
  (l = true ↔ ∃ a b, a < i ∧ b < m ∧ P a = Q b ∧ C a < D b) ∧ (r = true ↔ MoreAt m P C Q D i m)

theorem one_start (m : Nat) (P C Q D : Nat → Int) : One m P C Q D 0 false false := by
  refine ⟨?_, ?_⟩
  · constructor
    · intro h; cases h
    · rintro ⟨a, b, h, _⟩; omega
  · constructor
    · intro h; cases h
    · rintro (⟨b, h, _⟩ | ⟨a, b, h, _⟩) <;> omega

theorem one_step {m : Nat} {P C Q D : Nat → Int} {i : Nat} {l r : Bool} {v : Int} (h : One m P C Q D i l r) (hC : 1 ≤ C i) (hv : IsLook m Q D (P i) v) :
    One m P C Q D (i + 1) (l || decide (C i < v)) (r || decide (v < C i)) := by
  have key : (∃ b, b < m ∧ P i = Q b ∧ v = D b) ∨ ((∀ b, b < m → P i ≠ Q b) ∧ v = 0) := by
    by_cases hx : ∃ b, b < m ∧ Q b = P i
    · obtain ⟨b, hb, e⟩ := hx
      exact .inl ⟨b, hb, e.symm, hv.1 b hb e⟩
    · have hx' : ∀ b, b < m → Q b ≠ P i := fun b hb e => hx ⟨b, hb, e⟩
      exact .inr ⟨fun b hb e => hx' b hb e.symm, hv.2 hx'⟩
  have hvb : ∀ b, b < m → P i = Q b → v = D b := fun b hb e => hv.1 b hb e.symm
  refine ⟨?_, ?_⟩
  · rw [Bool.or_eq_true, h.1, decide_eq_true_eq]
    constructor
    · rintro (⟨a, b, h1, h2, h3, h4⟩ | hc)
      · exact ⟨a, b, by omega, h2, h3, h4⟩
      · rcases key with ⟨b, hb, e, ev⟩ | ⟨_, ev⟩
        · exact ⟨i, b, by omega, hb, e, by omega⟩
        · omega
    · rintro ⟨a, b, h1, h2, h3, h4⟩
      by_cases e : a = i
      · subst e; have := hvb b h2 h3; exact .inr (by omega)
      · exact .inl ⟨a, b, by omega, h2, h3, h4⟩
  · rw [Bool.or_eq_true, h.2, decide_eq_true_eq]
    constructor
    · rintro ((⟨a, h1, h2⟩ | ⟨a, b, h1, h2, h3, h4⟩) | hc)
      · exact .inl ⟨a, by omega, h2⟩
      · exact .inr ⟨a, b, by omega, h2, h3, h4⟩
      · rcases key with ⟨b, hb, e, ev⟩ | ⟨hn, _⟩
        · exact .inr ⟨i, b, by omega, hb, e, by omega⟩
        · exact .inl ⟨i, by omega, hn⟩
    · rintro (⟨a, h1, h2⟩ | ⟨a, b, h1, h2, h3, h4⟩)
      · by_cases e : a = i
        · subst e
          rcases key with ⟨b, hb, e, _⟩ | ⟨_, ev⟩
          · exact absurd e (h2 b hb)
          · exact .inr (by omega)
        · exact .inl (.inl ⟨a, by omega, h2⟩)
      · by_cases e : a = i
        · subst e; have := hvb b h2 h3; exact .inr (by omega)
        · exact .inl (.inr ⟨a, b, by omega, h2, h3, h4⟩)

/-- The second loop: over the right one's entries. -/
def Two (n m : Nat) (P C Q D : Nat → Int) (j : Nat) (l r : Bool) : Prop :=
  (l = true ↔ (∃ a b, a < n ∧ b < m ∧ P a = Q b ∧ C a < D b) ∨ LessAt n P C Q D n j) ∧ (r = true ↔ MoreAt m P C Q D n m)

theorem two_start {n m : Nat} {P C Q D : Nat → Int} {l r : Bool} (h : One m P C Q D n l r) : Two n m P C Q D 0 l r := by
  refine ⟨?_, h.2⟩
  rw [h.1]
  constructor
  · intro h; exact .inl h
  · rintro (h | ⟨b, h, _⟩ | ⟨a, b, _, h, _⟩)
    · exact h
    · omega
    · omega

theorem two_step {n m : Nat} {P C Q D : Nat → Int} {j : Nat} {l r : Bool} {v : Int} (h : Two n m P C Q D j l r) (hj : j < m) (hD : 1 ≤ D j) (hv : IsLook n P C (Q j) v) :
    Two n m P C Q D (j + 1) (l || decide (v < D j)) (r || decide (D j < v)) := by
  have key : (∃ a, a < n ∧ P a = Q j ∧ v = C a) ∨ ((∀ a, a < n → P a ≠ Q j) ∧ v = 0) := by
    by_cases hx : ∃ a, a < n ∧ P a = Q j
    · obtain ⟨a, ha, e⟩ := hx
      exact .inl ⟨a, ha, e, hv.1 a ha e⟩
    · have hx' : ∀ a, a < n → P a ≠ Q j := fun a ha e => hx ⟨a, ha, e⟩
      exact .inr ⟨hx', hv.2 hx'⟩
  refine ⟨?_, ?_⟩
  · rw [Bool.or_eq_true, h.1, decide_eq_true_eq]
    constructor
    · rintro ((h1 | ⟨b, h1, h2⟩ | ⟨a, b, h1, h2, h3, h4⟩) | hc)
      · exact .inl h1
      · exact .inr (.inl ⟨b, by omega, h2⟩)
      · exact .inr (.inr ⟨a, b, h1, by omega, h3, h4⟩)
      · rcases key with ⟨a, ha, e, ev⟩ | ⟨hn, _⟩
        · exact .inr (.inr ⟨a, j, ha, by omega, e, by omega⟩)
        · exact .inr (.inl ⟨j, by omega, hn⟩)
    · rintro (h1 | ⟨b, h1, h2⟩ | ⟨a, b, h1, h2, h3, h4⟩)
      · exact .inl (.inl h1)
      · by_cases e : b = j
        · subst e
          rcases key with ⟨a, ha, e, _⟩ | ⟨_, ev⟩
          · exact absurd e (h2 a ha)
          · exact .inr (by omega)
        · exact .inl (.inr (.inl ⟨b, by omega, h2⟩))
      · by_cases e : b = j
        · subst e; have := hv.1 a h1 h3; exact .inr (by omega)
        · exact .inl (.inr (.inr ⟨a, b, h1, by omega, h3, h4⟩))
  · rw [Bool.or_eq_true, h.2, decide_eq_true_eq]
    constructor
    · rintro (h1 | hc)
      · exact h1
      · rcases key with ⟨a, ha, e, ev⟩ | ⟨_, ev⟩
        · exact .inr ⟨a, j, ha, hj, e, by omega⟩
        · omega
    · intro h1; exact .inl h1

theorem two_done {n m : Nat} {P C Q D : Nat → Int} {l r : Bool} (h : Two n m P C Q D m l r) : Stands n m P C Q D l r := by
  refine ⟨?_, h.2⟩
  rw [h.1]
  constructor
  · rintro (h | h)
    · exact .inr h
    · exact h
  · intro h; exact .inr h

/-! ### The mirror, and what Equal means -/
theorem stands_mirror {n m : Nat} {P C Q D : Nat → Int} {l r l' r' : Bool} (h : Stands n m P C Q D l r) (h' : Stands m n Q D P C l' r') : l' = r ∧ r' = l := by
  constructor
  · rw [Bool.eq_iff_iff, h'.1, h.2]
    constructor
    · rintro (⟨b, h1, h2⟩ | ⟨a, b, h1, h2, h3, h4⟩)
      · exact .inl ⟨b, h1, fun a ha e => h2 a ha e.symm⟩
      · exact .inr ⟨b, a, h2, h1, h3.symm, h4⟩
    · rintro (⟨b, h1, h2⟩ | ⟨a, b, h1, h2, h3, h4⟩)
      · exact .inl ⟨b, h1, fun a ha e => h2 a ha e.symm⟩
      · exact .inr ⟨b, a, h2, h1, h3.symm, h4⟩
  · rw [Bool.eq_iff_iff, h'.2, h.1]
    constructor
    · rintro (⟨b, h1, h2⟩ | ⟨a, b, h1, h2, h3, h4⟩)
      · exact .inl ⟨b, h1, fun a ha e => h2 a ha e.symm⟩
      · exact .inr ⟨b, a, h2, h1, h3.symm, h4⟩
    · rintro (⟨b, h1, h2⟩ | ⟨a, b, h1, h2, h3, h4⟩)
      · exact .inl ⟨b, h1, fun a ha e => h2 a ha e.symm⟩
      · exact .inr ⟨b, a, h2, h1, h3.symm, h4⟩

/-- Named alike, counted alike. -/
def Same (n m : Nat) (P C Q D : Nat → Int) : Prop := n = m ∧ ∀ i, i < n → P i = Q i ∧ C i = D i

theorem same_of_neither {n m : Nat} {P C Q D : Nat → Int} (hP : Asc n P) (hQ : Asc m Q) (hl : ¬ LessAt n P C Q D n m) (hr : ¬ MoreAt m P C Q D n m) : Same n m P C Q D := by
  have q1 : ∀ b, b < m → ∃ a, a < n ∧ P a = Q b := by
    intro b hb
    refine Classical.byContradiction fun hx => hl (.inl ⟨b, hb, fun a ha e => hx ⟨a, ha, e⟩⟩)
  have q2 : ∀ a, a < n → ∃ b, b < m ∧ P a = Q b := by
    intro a ha
    refine Classical.byContradiction fun hx => hr (.inl ⟨a, ha, fun b hb e => hx ⟨b, hb, e⟩⟩)
  have q3 : ∀ a b, a < n → b < m → P a = Q b → C a = D b := by
    intro a b ha hb e
    have h1 : ¬ C a < D b := fun hc => hl (.inr ⟨a, b, ha, hb, e, hc⟩)
    have h2 : ¬ D b < C a := fun hc => hr (.inr ⟨a, b, ha, hb, e, hc⟩)
    omega
  have eq : ∀ k i, i < k → i < n → i < m → P i = Q i := by
    intro k
    induction k with
    | zero => intro i h; omega
    | succ k ih =>
      intro i hik hn hm
      obtain ⟨b, hb, e⟩ := q2 i hn
      obtain ⟨a, ha, e'⟩ := q1 i hm
      have hbi : ¬ b < i := by
        intro hbi
        have h1 := ih b (by omega) (by omega) hb
        have h2 := asc_of hP hbi hn
        omega
      have hai : ¬ a < i := by
        intro hai
        have h1 := ih a (by omega) ha (by omega)
        have h2 := asc_of hQ hai hm
        omega
      have h3 : Q i ≤ Q b := by
        by_cases e : i = b
        · rw [← e]; exact Int.le_refl _
        · have := asc_of hQ (i := i) (j := b) (by omega) hb; omega
      have h4 : P i ≤ P a := by
        by_cases e : i = a
        · rw [← e]; exact Int.le_refl _
        · have := asc_of hP (i := i) (j := a) (by omega) ha; omega
      omega
  have hnm : n = m := by
    rcases Nat.lt_trichotomy n m with h | h | h
    · obtain ⟨a, ha, e⟩ := q1 n h
      have h1 := eq (a + 1) a (by omega) ha (by omega)
      have h2 := asc_of hQ ha h
      omega
    · exact h
    · obtain ⟨b, hb, e⟩ := q2 m h
      have h1 := eq (b + 1) b (by omega) (by omega) hb
      have h2 := asc_of hP hb h
      omega
  subst hnm
  refine ⟨rfl, fun i hi => ?_⟩
  have h1 := eq (i + 1) i (by omega) hi hi
  exact ⟨h1, q3 i i hi hi h1⟩

theorem neither_of_same {n m : Nat} {P C Q D : Nat → Int} (hP : Asc n P) (h : Same n m P C Q D) : ¬ LessAt n P C Q D n m ∧ ¬ MoreAt m P C Q D n m := by
  obtain ⟨rfl, h⟩ := h
  have inj : ∀ a b, a < n → b < n → P a = P b → a = b := by
    intro a b ha hb e
    rcases Nat.lt_trichotomy a b with h | h | h
    · have := asc_of hP h hb; omega
    · exact h
    · have := asc_of hP h ha; omega
  constructor
  · rintro (⟨b, h1, h2⟩ | ⟨a, b, h1, h2, h3, h4⟩)
    · exact h2 b h1 (h b h1).1
    · have e := inj a b h1 h2 (by rw [h3, (h b h2).1])
      subst e; have := (h a h1).2; omega
  · rintro (⟨b, h1, h2⟩ | ⟨a, b, h1, h2, h3, h4⟩)
    · exact h2 b h1 (h b h1).1
    · have e := inj a b h1 h2 (by rw [h3, (h b h2).1])
      subst e; have := (h a h1).2; omega

theorem equal_iff {n m : Nat} {P C Q D : Nat → Int} {l r : Bool} (hP : Asc n P) (hQ : Asc m Q) (h : Stands n m P C Q D l r) : (l = false ∧ r = false) ↔ Same n m P C Q D := by
  constructor
  · rintro ⟨rfl, rfl⟩
    refine same_of_neither hP hQ (fun hl => ?_) (fun hr => ?_)
    · have := h.1.2 hl; cases this
    · have := h.2.2 hr; cases this
  · intro hs
    obtain ⟨h1, h2⟩ := neither_of_same hP hs
    refine ⟨?_, ?_⟩
    · cases l with
      | false => rfl
      | true => exact absurd (h.1.1 rfl) h1
    · cases r with
      | false => rfl
      | true => exact absurd (h.2.1 rfl) h2

end Go.Proofs.Qxb6630448a.Plain
