/-
  THE PLAIN LAW behind FnLenCountsEdgesToOtherIDs: what Len reckons by two searches is the number of the makers of another id. No Go in sight but the definitions that the walk of Len gave.
-/
import Derived.Test.Qxb6631224aLen
namespace Go.Proofs.Qxb6631224a

/-! ### Ids -/
def key (I : Nat → Nat → ByteArray) (a : Nat) : List UInt8 × List UInt8 × List UInt8 × List UInt8 := ((I a 0).toList, (I a 1).toList, (I a 2).toList, (I a 3).toList)
theorem same_iff (I : Nat → Nat → ByteArray) (a b : Nat) : sameId I a b = true ↔ key I a = key I b := by
  unfold sameId key
  simp only [Bool.and_eq_true, beq_iff_eq, Prod.mk.injEq]
theorem differ_iff (I : Nat → Nat → ByteArray) (a b : Nat) : sameId I a b = false ↔ key I a ≠ key I b := by
  rw [← Bool.not_eq_true, same_iff]

/-- Equal ids stand next to each other. -/
def Grouped (I : Nat → Nat → ByteArray) (n : Nat) : Prop := ∀ j, 1 ≤ j → j < n → sameId I j (j - 1) = false → ∀ i, i + 1 < j → sameId I i j = false

theorem lo_spec (I : Nat → Nat → ByteArray) (F : Nat) : ∀ l, loOf I F l ≤ l ∧ (∀ i, loOf I F l ≤ i → i < l → key I i = key I F) ∧ (loOf I F l = 0 ∨ key I (loOf I F l - 1) ≠ key I F) := by
  intro l
  induction l with
  | zero => exact ⟨Nat.le_refl _, fun i h1 h2 => by omega, .inl rfl⟩
  | succ l ih =>
    rw [loOf]
    by_cases hs : sameId I l F = true
    · rw [if_pos hs]
      obtain ⟨h1, h2, h3⟩ := ih
      refine ⟨by omega, fun i hi hl => ?_, h3⟩
      by_cases e : i = l
      · rw [e]; exact (same_iff I l F).1 hs
      · exact h2 i hi (by omega)
    · rw [if_neg hs]
      refine ⟨Nat.le_refl _, fun i h1 h2 => by omega, .inr ?_⟩
      rw [Nat.add_sub_cancel]
      exact (differ_iff I l F).1 (by simpa using hs)
theorem hi_spec (I : Nat → Nat → ByteArray) (F : Nat) : ∀ d h, h ≤ hiOf I F d h ∧ hiOf I F d h ≤ h + d ∧ (∀ i, h ≤ i → i < hiOf I F d h → key I i = key I F) ∧ (hiOf I F d h = h + d ∨ key I (hiOf I F d h) ≠ key I F) := by
  intro d
  induction d with
  | zero => intro h; exact ⟨Nat.le_refl _, Nat.le_refl _, fun i h1 h2 => by rw [hiOf] at h2; omega, .inl rfl⟩
  | succ d ih =>
    intro h
    rw [hiOf]
    by_cases hs : sameId I h F = true
    · rw [if_pos hs]
      obtain ⟨h1, h2, h3, h4⟩ := ih (h + 1)
      refine ⟨by omega, by omega, fun i hi hl => ?_, ?_⟩
      · by_cases e : i = h
        · rw [e]; exact (same_iff I h F).1 hs
        · exact h3 i (by omega) hl
      · rcases h4 with h4 | h4
        · exact .inl (by omega)
        · exact .inr h4
    · rw [if_neg hs]
      exact ⟨Nat.le_refl _, by omega, fun i h1 h2 => by omega, .inr ((differ_iff I h F).1 (by simpa using hs))⟩

/-- The ids that are F's are just those from loF to hiF. -/
theorem run_of {I : Nat → Nat → ByteArray} {n F : Nat} (hF : F < n) (hg : Grouped I n) : loF I F ≤ F ∧ F < hiF I n F ∧ hiF I n F ≤ n ∧ ∀ i, i < n → (key I i = key I F ↔ loF I F ≤ i ∧ i < hiF I n F) := by
  obtain ⟨l1, l2, l3⟩ := lo_spec I F F
  obtain ⟨h1, h2, h3, h4⟩ := hi_spec I F (n - (F + 1)) (F + 1)
  have eL : loF I F = loOf I F F := rfl
  have eH : hiF I n F = hiOf I F (n - (F + 1)) (F + 1) := rfl
  rw [← eL] at l1 l2 l3
  rw [← eH] at h1 h2 h3 h4
  generalize loF I F = lo at *
  generalize hiF I n F = hi at *
  clear eL eH
  have inside : ∀ i, lo ≤ i → i < hi → key I i = key I F := by
    intro i hi1 hi2
    by_cases e : i < F
    · exact l2 i hi1 e
    · by_cases e2 : i = F
      · rw [e2]
      · exact h3 i (by omega) hi2
  have below : ∀ i, i < lo → key I i ≠ key I F := by
    intro i hi1 he
    rcases l3 with l3 | l3
    · omega
    · have hne : i ≠ lo - 1 := fun e => l3 (by rw [← e]; exact he)
      have hlo : key I lo = key I F := inside lo (Nat.le_refl _) (by omega)
      have hd : sameId I lo (lo - 1) = false := (differ_iff I lo (lo - 1)).2 (fun e => l3 (by rw [← e]; exact hlo))
      have := hg lo (by omega) (by omega) hd i (by omega)
      exact (differ_iff I i lo).1 this (by rw [he, hlo])
  have above : ∀ m, hi + m < n → key I (hi + m) ≠ key I F := by
    intro m
    induction m with
    | zero =>
      intro hlt
      rcases h4 with h4 | h4
      · omega
      · exact h4
    | succ m ih =>
      intro hlt he
      have hp := ih (by omega)
      have hd : sameId I (hi + (m + 1)) (hi + (m + 1) - 1) = false := (differ_iff I _ _).2 (fun e => hp (by rw [show hi + (m + 1) - 1 = hi + m by omega] at e; rw [← e]; exact he))
      have := hg (hi + (m + 1)) (by omega) hlt hd F (by omega)
      exact (differ_iff I F _).1 this he.symm
  refine ⟨l1, by omega, by omega, fun i hi1 => ⟨fun he => ?_, fun h => inside i h.1 h.2⟩⟩
  refine ⟨?_, ?_⟩
  · exact Nat.le_of_not_lt fun h => below i h he
  · refine Nat.lt_of_not_le fun h => ?_
    have := above (i - hi) (by omega)
    rw [show hi + (i - hi) = i by omega] at this
    exact this he

/-! ### The search in an ascending row -/
def Rising (M : Nat → Int) (l : Nat) : Prop := ∀ j, j + 1 < l → M j ≤ M (j + 1)
theorem rising_le {M : Nat → Int} {l : Nat} (h : Rising M l) : ∀ (d i : Nat), i + d < l → M i ≤ M (i + d) := by
  intro d
  induction d with
  | zero => intro i _; exact Int.le_refl _
  | succ d ih =>
    intro i hi
    have h1 := ih i (by omega)
    have h2 := h (i + d) (by omega)
    have e : i + (d + 1) = i + d + 1 := by omega
    rw [e]; omega
theorem rising_of {M : Nat → Int} {l : Nat} (h : Rising M l) {i j : Nat} (hij : i ≤ j) (hj : j < l) : M i ≤ M j := by
  have := rising_le h (j - i) i (by omega)
  rw [show i + (j - i) = j by omega] at this; exact this

theorem bsGo_spec {M : Nat → Int} {l : Nat} (hr : Rising M l) (x : Int) : ∀ f i j, i ≤ j → j ≤ l → j - i ≤ f → (∀ t, t < i → M t < x) → (∀ t, j ≤ t → t < l → x ≤ M t) →
    i ≤ bsGo M x f i j ∧ bsGo M x f i j ≤ j ∧ (∀ t, t < bsGo M x f i j → M t < x) ∧ (∀ t, bsGo M x f i j ≤ t → t < l → x ≤ M t) := by
  intro f
  induction f with
  | zero =>
    intro i j hij hj hf h1 h2
    rw [bsGo]
    obtain rfl : i = j := by omega
    exact ⟨Nat.le_refl _, Nat.le_refl _, h1, h2⟩
  | succ f ih =>
    intro i j hij hj hf h1 h2
    rw [bsGo]
    by_cases hlt : i < j
    · rw [if_pos hlt]
      by_cases hx : M ((i + j) / 2) < x
      · rw [if_pos hx]
        have := ih ((i + j) / 2 + 1) j (by omega) hj (by omega) (fun t ht => by have := rising_of hr (i := t) (j := (i + j) / 2) (by omega) (by omega); omega) h2
        exact ⟨by omega, this.2.1, this.2.2.1, this.2.2.2⟩
      · rw [if_neg hx]
        have := ih i ((i + j) / 2) (by omega) (by omega) (by omega) h1 (fun t ht ht2 => by have := rising_of hr (i := (i + j) / 2) (j := t) ht ht2; omega)
        exact ⟨this.1, by omega, this.2.2.1, this.2.2.2⟩
    · rw [if_neg hlt]
      obtain rfl : i = j := by omega
      exact ⟨Nat.le_refl _, Nat.le_refl _, h1, h2⟩
theorem bs_spec {M : Nat → Int} {l : Nat} (hr : Rising M l) (x : Int) : bs M l x ≤ l ∧ (∀ t, t < bs M l x → M t < x) ∧ (∀ t, bs M l x ≤ t → t < l → x ≤ M t) := by
  have h := bsGo_spec hr x l 0 l (by omega) (Nat.le_refl _) (by omega) (fun t ht => by omega) (fun t h1 h2 => by omega)
  exact ⟨h.2.1, h.2.2.1, h.2.2.2⟩

/-! ### The count -/
/-- The makers among the first j whose id is not F's. -/
def cntOf (I : Nat → Nat → ByteArray) (M : Nat → Int) (F : Nat) : Nat → Int
  | 0 => 0
  | j + 1 => cntOf I M F j + (if sameId I (M j).toNat F = true then 0 else 1)

theorem cnt_is {I : Nat → Nat → ByteArray} {n F : Nat} {M : Nat → Int} {l : Nat} (hF : F < n) (hg : Grouped I n) (hr : Rising M l) (hM : ∀ j, j < l → 0 ≤ M j ∧ M j < n) : cntOf I M F l = termOf I n M l F := by
  obtain ⟨r1, r2, r3, r4⟩ := run_of hF hg
  obtain ⟨a1, a2, a3⟩ := bs_spec hr (loF I F : Int)
  obtain ⟨b1, b2, b3⟩ := bs_spec hr (hiF I n F : Int)
  unfold termOf
  generalize loF I F = lo at *
  generalize hiF I n F = hi at *
  generalize bs M l (lo : Int) = f at *
  generalize bs M l (hi : Int) = e at *
  have hfe : f ≤ e := by
    refine Nat.le_of_not_lt fun h => ?_
    have h1 := a2 e h
    have h2 := b3 e (Nat.le_refl _) (by omega)
    omega
  have same : ∀ j, j < l → (sameId I (M j).toNat F = true ↔ f ≤ j ∧ j < e) := by
    intro j hj
    have hm := hM j hj
    rw [same_iff, r4 (M j).toNat (by omega)]
    constructor
    · rintro ⟨h1, h2⟩
      refine ⟨Nat.le_of_not_lt fun h => ?_, Nat.lt_of_not_le fun h => ?_⟩
      · have := a2 j h; omega
      · have := b3 j h hj; omega
    · rintro ⟨h1, h2⟩
      have h3 := a3 j h1 hj
      have h4 := b2 j h2
      omega
  have key : ∀ j, j ≤ l → (j ≤ f → cntOf I M F j = j) ∧ (f ≤ j → j ≤ e → cntOf I M F j = f) ∧ (e ≤ j → cntOf I M F j = (j : Int) - ((e : Int) - f)) := by
    intro j
    induction j with
    | zero =>
      intro _
      refine ⟨fun _ => rfl, fun h1 h2 => ?_, fun h => ?_⟩
      · show (0 : Int) = f; omega
      · show (0 : Int) = ((0 : Nat) : Int) - ((e : Int) - f); omega
    | succ j ih =>
      intro hj
      obtain ⟨i1, i2, i3⟩ := ih (by omega)
      have hs := same j (by omega)
      have step : cntOf I M F (j + 1) = cntOf I M F j + (if sameId I (M j).toNat F = true then 0 else 1) := rfl
      by_cases c1 : f ≤ j ∧ j < e
      · rw [if_pos (hs.2 c1)] at step
        have := i2 c1.1 (by omega)
        refine ⟨fun h => by omega, fun h1 h2 => by omega, fun h => by omega⟩
      · rw [if_neg (fun h => c1 (hs.1 h))] at step
        by_cases c2 : j < f
        · have := i1 (by omega)
          refine ⟨fun h => by omega, fun h1 h2 => by omega, fun h => by omega⟩
        · have := i3 (by omega)
          refine ⟨fun h => by omega, fun h1 h2 => by omega, fun h => by omega⟩
  exact (key l (Nat.le_refl _)).2.2 b1

def cntInner (I : Nat → Nat → ByteArray) (M : Nat → Int) (l : Nat) (H : Nat → Int) : Nat → Int
  | 0 => 0
  | j + 1 => cntInner I M l H j + cntOf I M (H j).toNat l
def cntOuter (I : Nat → Nat → ByteArray) (lm : Nat → Nat) (M : Nat → Nat → Int) (lh : Nat → Nat) (H : Nat → Nat → Int) : Nat → Int
  | 0 => 0
  | k + 1 => cntOuter I lm M lh H k + cntInner I (M k) (lm k) (H k) (lh k)

theorem cntInner_is {I : Nat → Nat → ByteArray} {n : Nat} {M : Nat → Int} {l : Nat} {H : Nat → Int} {m : Nat} (hg : Grouped I n) (hr : Rising M l) (hM : ∀ j, j < l → 0 ≤ M j ∧ M j < n) (hH : ∀ j, j < m → 0 ≤ H j ∧ H j < n) :
    ∀ j, j ≤ m → cntInner I M l H j = innerOf I n M l H j := by
  intro j
  induction j with
  | zero => intro _; rfl
  | succ j ih =>
    intro hj
    show cntInner I M l H j + cntOf I M (H j).toNat l = innerOf I n M l H j + termOf I n M l (H j).toNat
    have := hH j (by omega)
    rw [ih (by omega), cnt_is (n := n) (by omega) hg hr hM]
/-- The makers of the first k bequests are ascending positions. -/
def MakersIn (n : Nat) (lm : Nat → Nat) (M : Nat → Nat → Int) (k : Nat) : Prop := ∀ i, i < k → (∀ j, j < lm i → 0 ≤ M i j ∧ M i j < n) ∧ Rising (M i) (lm i)
theorem cntOuter_is {I : Nat → Nat → ByteArray} {n : Nat} {lm : Nat → Nat} {M : Nat → Nat → Int} {lh : Nat → Nat} {H : Nat → Nat → Int} {nb : Nat} (hg : Grouped I n) (hm : MakersIn n lm M nb) (hh : HeirsIn n lh H nb) :
    ∀ k, k ≤ nb → cntOuter I lm M lh H k = outerOf I n lm M lh H k := by
  intro k
  induction k with
  | zero => intro _; rfl
  | succ k ih =>
    intro hk
    show cntOuter I lm M lh H k + cntInner I (M k) (lm k) (H k) (lh k) = outerOf I n lm M lh H k + innerOf I n (M k) (lm k) (H k) (lh k)
    have h1 := hm k (by omega)
    rw [ih (by omega), cntInner_is hg h1.2 h1.1 (hh k (by omega)) (lh k) (Nat.le_refl _)]

end Go.Proofs.Qxb6631224a
