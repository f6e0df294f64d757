/-
  THE PLAIN LAW behind 'hex4': hexadecimal digits and the number that four of them spell. No Go in sight.
-/
namespace Go.Proofs.Qxb6630482a.Plain

/-- A byte's value as a hexadecimal digit, or -1. -/
def dig (c : Int) : Int :=
  if 48 ≤ c ∧ c ≤ 57 then c - 48 else if 97 ≤ c ∧ c ≤ 102 then c - 87 else if 65 ≤ c ∧ c ≤ 70 then c - 55 else -1

/-- The alphabet, by position. -/
def al (k : Nat) : Int := if k < 10 then 48 + k else if k < 16 then 87 + k else if k < 26 then 32 + k else 39 + k

theorem dig_al (k : Nat) (h : k < 32) : dig (al k) = ((k % 16 : Nat) : Int) := by
  unfold al
  by_cases h1 : k < 10
  · rw [if_pos h1]; unfold dig; rw [if_pos (by omega)]; omega
  by_cases h2 : k < 16
  · rw [if_neg h1, if_pos h2]; unfold dig; rw [if_neg (by omega), if_pos (by omega)]; omega
  by_cases h3 : k < 26
  · rw [if_neg h1, if_neg h2, if_pos h3]; unfold dig; rw [if_pos (by omega)]; omega
  · rw [if_neg h1, if_neg h2, if_neg h3]; unfold dig; rw [if_neg (by omega), if_neg (by omega), if_pos (by omega)]; omega

theorem dig_none (c : Int) (h : ∀ k, k < 32 → al k ≠ c) : dig c = -1 := by
  unfold dig
  by_cases h1 : 48 ≤ c ∧ c ≤ 57
  · exfalso; refine h (c - 48).toNat (by omega) ?_; unfold al; rw [if_pos (by omega)]; omega
  by_cases h2 : 97 ≤ c ∧ c ≤ 102
  · exfalso; refine h (c - 87).toNat (by omega) ?_; unfold al; rw [if_neg (by omega), if_pos (by omega)]; omega
  by_cases h3 : 65 ≤ c ∧ c ≤ 70
  · exfalso; refine h (c - 39).toNat (by omega) ?_; unfold al; rw [if_neg (by omega), if_neg (by omega), if_neg (by omega)]; omega
  · rw [if_neg h1, if_neg h2, if_neg h3]

theorem dig_num {c : Int} (h1 : 48 ≤ c) (h2 : c ≤ 57) : dig c = c - 48 := by unfold dig; rw [if_pos ⟨h1, h2⟩]
theorem dig_low {c : Int} (h1 : 97 ≤ c) (h2 : c ≤ 102) : dig c = c - 87 := by unfold dig; rw [if_neg (by omega), if_pos ⟨h1, h2⟩]
theorem dig_up {c : Int} (h1 : 65 ≤ c) (h2 : c ≤ 70) : dig c = c - 55 := by unfold dig; rw [if_neg (by omega), if_neg (by omega), if_pos ⟨h1, h2⟩]
theorem dig_no {c : Int} (h1 : ¬ (48 ≤ c ∧ c ≤ 57)) (h2 : ¬ (97 ≤ c ∧ c ≤ 102)) (h3 : ¬ (65 ≤ c ∧ c ≤ 70)) : dig c = -1 := by unfold dig; rw [if_neg h1, if_neg h2, if_neg h3]
theorem dig_le (c : Int) : -1 ≤ dig c ∧ dig c ≤ 15 := by
  unfold dig
  by_cases h1 : 48 ≤ c ∧ c ≤ 57
  · rw [if_pos h1]; omega
  by_cases h2 : 97 ≤ c ∧ c ≤ 102
  · rw [if_neg h1, if_pos h2]; omega
  by_cases h3 : 65 ≤ c ∧ c ≤ 70
  · rw [if_neg h1, if_neg h2, if_pos h3]; omega
  · rw [if_neg h1, if_neg h2, if_neg h3]; omega

/-- The number that the first i digits spell. -/
def val (P : Nat → Int) : Nat → Int
  | 0 => 0
  | i + 1 => val P i * 16 + dig (P i)

/-- The first i positions lie in the row of n and hold digits. -/
def AllDig (n : Nat) (P : Nat → Int) (i : Nat) : Prop := ∀ k, k < i → k < n ∧ 0 ≤ dig (P k)
theorem good_zero (n : Nat) (P : Nat → Int) : AllDig n P 0 := fun k h => by omega
theorem good_step {n : Nat} {P : Nat → Int} {i : Nat} (h : AllDig n P i) (h1 : i < n) (h2 : 0 ≤ dig (P i)) : AllDig n P (i + 1) := by
  intro k hk
  by_cases e : k = i
  · rw [e]; exact ⟨h1, h2⟩
  · exact h k (by omega)

theorem val_bound {n : Nat} {P : Nat → Int} {i : Nat} (h : AllDig n P i) : 0 ≤ val P i ∧ val P i < 16 ^ i := by
  induction i with
  | zero => show (0 : Int) ≤ 0 ∧ (0 : Int) < 1; omega
  | succ i ih =>
    have h1 := ih (fun k hk => h k (by omega))
    have h2 := (h i (by omega)).2
    have h3 := (dig_le (P i)).2
    have e : (16 : Int) ^ (i + 1) = 16 ^ i * 16 := Int.pow_succ _ _
    rw [e]
    show 0 ≤ val P i * 16 + dig (P i) ∧ val P i * 16 + dig (P i) < 16 ^ i * 16
    omega

theorem val_small {n : Nat} {P : Nat → Int} {i : Nat} (h : AllDig n P i) (hi : i < 4) : 0 ≤ val P i ∧ val P i ≤ 4095 := by
  have h1 := val_bound h
  have h2 : (16 : Int) ^ i ≤ 4096 := by
    match i, hi with
    | 0, _ => decide
    | 1, _ => decide
    | 2, _ => decide
    | 3, _ => decide
  omega

/-- What hex4 answers: a bad place, or the number. -/
def Ans (n : Nat) (P : Nat → Int) (v e : Int) : Prop :=
  (∃ i : Nat, i < 4 ∧ v = 0 ∧ e = (i : Int) ∧ AllDig n P i ∧ (n ≤ i ∨ dig (P i) < 0)) ∨ (v = val P 4 ∧ e = -1 ∧ AllDig n P 4)

theorem ans_bad {n : Nat} {P : Nat → Int} {v e : Int} (h : Ans n P v e) {i : Nat} (hi : i < 4) (hg : AllDig n P i) (hb : n ≤ i ∨ dig (P i) < 0) : v = 0 ∧ e = (i : Int) := by
  rcases h with ⟨j, hj, h1, h2, h3, h4⟩ | ⟨_, _, h3⟩
  · rcases Nat.lt_trichotomy i j with h | h | h
    · have := h3 i h; omega
    · rw [h]; exact ⟨h1, h2⟩
    · have := hg j h; omega
  · have := h3 i hi; omega
theorem ans_good {n : Nat} {P : Nat → Int} {v e : Int} (h : Ans n P v e) (hg : AllDig n P 4) : v = val P 4 ∧ e = -1 := by
  rcases h with ⟨j, hj, h1, h2, h3, h4⟩ | ⟨h1, h2, _⟩
  · have := hg j hj; omega
  · exact ⟨h1, h2⟩

theorem val4 (P : Nat → Int) : val P 4 = ((dig (P 0) * 16 + dig (P 1)) * 16 + dig (P 2)) * 16 + dig (P 3) := by
  show ((((0 * 16 + dig (P 0)) * 16 + dig (P 1)) * 16 + dig (P 2)) * 16 + dig (P 3)) = _
  omega

end Go.Proofs.Qxb6630482a.Plain
