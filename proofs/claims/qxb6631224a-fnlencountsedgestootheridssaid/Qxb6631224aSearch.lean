/-
  THE WALKS OF zzHeirsIn (8), cmp.Less (18), slices.BinarySearch (17).
-/
import Derived.Test.Qxb6631224aFits
namespace Go.Proofs.Qxb6631224a
open Go.RowKit

/-! ### zzHeirsIn -/
/-- Every heir of the first k bequests is a position below n. -/
def HeirsIn (n : Nat) (lh : Nat → Nat) (H : Nat → Nat → Int) (k : Nat) : Prop := ∀ i, i < k → ∀ j, j < lh i → 0 ≤ H i j ∧ H i j < n
/-- .. and the first m of one. -/
def HeirsTo (n : Nat) (H : Nat → Int) (m : Nat) : Prop := ∀ j, j < m → 0 ≤ H j ∧ H j < n
def HeirsAns (n : Nat) (lh : Nat → Nat) (H : Nat → Nat → Int) (k : Nat) (e : Ending) : Prop := ∃ b, e = .returned (.bool b) ∧ (b = true → HeirsIn n lh H k)
theorem heirs_no (n : Nat) (lh : Nat → Nat) (H : Nat → Nat → Int) (k : Nat) : HeirsAns n lh H k (.returned (.bool false)) := ⟨false, rfl, fun h => by cases h⟩
theorem heirsIn_step {n : Nat} {lh : Nat → Nat} {H : Nat → Nat → Int} {k : Nat} (h : HeirsIn n lh H k) (h1 : HeirsTo n (H k) (lh k)) : HeirsIn n lh H (k + 1) := by
  intro i hi j hj
  by_cases e : i = k
  · subst e; exact h1 j hj
  · exact h i (by omega) j hj
theorem heirsTo_step {n : Nat} {H : Nat → Int} {m : Nat} (h : HeirsTo n H m) (h0 : 0 ≤ H m) (h1 : H m < n) : HeirsTo n H (m + 1) := by
  intro j hj
  by_cases e : j = m
  · subst e; exact ⟨h0, h1⟩
  · exact h j (by omega)

set_option maxRecDepth 10000 in
set_option maxHeartbeats 1000000 in
theorem heirsIn (n : Nat) (a2 : Option Addr) (n2 c2 : Nat) (lm : Nat → Nat) (M : Nat → Nat → Int) (lh : Nat → Nat) (H : Nat → Nat → Int) (w : World) (hn2 : n2 ≤ 131072) (r2 : BeqRow w a2 n2 lm M lh H) :
    Calls Try.prog 8 #[.int .i64 n, .slice a2 n2 c2] w fun e w' => HeirsAns n lh H n2 e ∧ w' = w := by
  go_enter Try.func8, Try.ntmps8
  go_wp2_with fail
  go_loop [5] (fun ti => ∃ k : Nat, k ≤ n2 ∧ ti = .int .i64 k ∧ HeirsIn n lh H k) (fun ti => n2 - (intOf ti).toNat)
  case atStart => exact ⟨0, by omega, rfl, fun i h => by omega⟩
  case round =>
    obtain ⟨k, hk, rfl, hin⟩ := hrel
    by_cases hlt : k < n2
    · obtain ⟨b, o, rfl, s, am, cm, ah, ch, h0, h1, h2, ⟨_, _, hl3⟩, h6, _, hl4⟩ := beq_at r2 hlt
      clear r2
      go_wp2_with fail
      go_loop [6] (fun ti => ∃ j : Nat, j ≤ lh k ∧ ti = .int .i64 j ∧ HeirsTo n (H k) j) (fun ti => lh k - (intOf ti).toNat)
      case atStart => exact ⟨0, by omega, rfl, fun i h => by omega⟩
      case round =>
        obtain ⟨j, hj, rfl, hto⟩ := hrel
        by_cases hltj : j < lh k
        · obtain ⟨b3, o3, rfl, h⟩ := heir_at h6 (by omega)
          obtain ⟨g0, s3, g1⟩ := h j hltj
          clear h
          by_cases y0 : H k j < 0
          · go_wp2
            go_ret; exact ⟨heirs_no _ _ _ _, rfl⟩
          by_cases y1 : (n : Int) ≤ H k j
          · go_wp2
            go_ret; exact ⟨heirs_no _ _ _ _, rfl⟩
          have hto' := heirsTo_step hto (by omega) (by omega)
          go_wp2
          go_round
          case rel => exact ⟨j + 1, by omega, by go_num, hto'⟩
          case measure => simp [intOf]; omega
        · have e : j = lh k := by omega
          have hin' := heirsIn_step hin (by rw [← e]; exact hto)
          clear e
          go_wp2
          go_round
          case rel => exact ⟨k + 1, by omega, by go_num, hin'⟩
          case measure => simp [intOf]; omega
    · go_wp2
      go_ret
      have e : k = n2 := by omega
      subst e
      exact ⟨⟨true, rfl, fun _ => hin⟩, rfl⟩

/-! ### slices.BinarySearch -/
theorem less (x y : Int) (w : World) : Calls Try.prog 18 #[.int .i64 x, .int .i64 y] w fun e w' => e = .returned (.bool (decide (x < y))) ∧ w' = w := by
  have e1 : (x != x) = false := by simp
  go_enter Try.func18, Try.ntmps18
  go_wp2
  all_goals (go_ret; exact ⟨rfl, rfl⟩)

/-- The search, as Go's text has it. -/
def bsGo (M : Nat → Int) (x : Int) : Nat → Nat → Nat → Nat
  | 0, i, _ => i
  | f + 1, i, j => if i < j then (if M ((i + j) / 2) < x then bsGo M x f ((i + j) / 2 + 1) j else bsGo M x f i ((i + j) / 2)) else i
def bs (M : Nat → Int) (l : Nat) (x : Int) : Nat := bsGo M x l 0 l
/-- What is left of the search comes to what the whole search comes to. -/
def BsAt (M : Nat → Int) (l : Nat) (x : Int) (i j : Nat) : Prop := ∃ f, j - i ≤ f ∧ bsGo M x f i j = bs M l x
theorem bsAt_start (M : Nat → Int) (l : Nat) (x : Int) : BsAt M l x 0 l := ⟨l, by omega, rfl⟩
theorem bsAt_up {M : Nat → Int} {l : Nat} {x : Int} {i j : Nat} (h : BsAt M l x i j) (hij : i < j) (hx : M ((i + j) / 2) < x) : BsAt M l x ((i + j) / 2 + 1) j := by
  obtain ⟨f, hf, e⟩ := h
  cases f with
  | zero => omega
  | succ f =>
    refine ⟨f, by omega, ?_⟩
    rw [← e]; show _ = bsGo M x (f + 1) i j
    rw [bsGo, if_pos hij, if_pos hx]
theorem bsAt_down {M : Nat → Int} {l : Nat} {x : Int} {i j : Nat} (h : BsAt M l x i j) (hij : i < j) (hx : ¬ M ((i + j) / 2) < x) : BsAt M l x i ((i + j) / 2) := by
  obtain ⟨f, hf, e⟩ := h
  cases f with
  | zero => omega
  | succ f =>
    refine ⟨f, by omega, ?_⟩
    rw [← e]; show _ = bsGo M x (f + 1) i j
    rw [bsGo, if_pos hij, if_neg hx]
theorem bsAt_done {M : Nat → Int} {l : Nat} {x : Int} {i j : Nat} (h : BsAt M l x i j) (hij : ¬ i < j) : bs M l x = i := by
  obtain ⟨f, hf, e⟩ := h
  rw [← e]
  cases f with
  | zero => rfl
  | succ f => rw [bsGo, if_neg hij]
/-- What BinarySearch answers. -/
def BsAns (M : Nat → Int) (l : Nat) (x : Int) (e : Ending) : Prop := ∃ b, e = .returned (.tuple #[.int .i64 (bs M l x), .bool b]) ∧ bs M l x ≤ l

set_option maxRecDepth 10000 in
set_option maxHeartbeats 1000000 in
theorem bsearch_some (b o l c : Nat) (M : Nat → Int) (x : Int) (w : World) (hl : l ≤ 131072) (hM : ∀ i, i < l → w.cell? ⟨b, o + i, none⟩ = some (.int .i64 (M i))) :
    Calls Try.prog 17 #[.slice (some ⟨b, o, none⟩) l c, .int .i64 x] w fun e w' => BsAns M l x e ∧ w' = w := by
  go_enter Try.func17, Try.ntmps17
  go_wp2_with fail
  go_loop [7, 8] (fun ti tj => ∃ i j : Nat, i ≤ j ∧ j ≤ l ∧ ti = .int .i64 i ∧ tj = .int .i64 j ∧ BsAt M l x i j) (fun ti tj => (intOf tj).toNat - (intOf ti).toNat)
  case atStart => exact ⟨0, l, by omega, by omega, rfl, rfl, bsAt_start M l x⟩
  case round =>
    obtain ⟨i, j, hij, hj, rfl, rfl, hb⟩ := hrel
    by_cases hlt : i < j
    · have hc := hM ((i + j) / 2) (by omega)
      by_cases hx : M ((i + j) / 2) < x
      · have hb' := bsAt_up hb hlt hx
        go_wp2_with (go_at_call 18; refine (less _ _ _).mono ?_; rintro e w' ⟨rfl, rfl⟩)
        go_round
        case rel => exact ⟨(i + j) / 2 + 1, j, by omega, hj, by go_num, rfl, hb'⟩
        case measure => simp [intOf]; omega
      · have hb' := bsAt_down hb hlt hx
        go_wp2_with (go_at_call 18; refine (less _ _ _).mono ?_; rintro e w' ⟨rfl, rfl⟩)
        go_round
        case rel => exact ⟨i, (i + j) / 2, by omega, by omega, rfl, by go_num, hb'⟩
        case measure => simp [intOf]; omega
    · have hd := bsAt_done hb hlt
      have hd2 : Hid (bs M l x = i) := hd
      have hle : i ≤ l := by omega
      clear hb hd
      by_cases hil : i < l
      · have hc := hM i hil
        have ex : (x != x) = false := by simp
        by_cases he : M i = x
        · have g : (M i == x) = true := by simpa using he
          have He : Hid (M i = x) := he
          clear he
          go_wp2
          go_ret2
          exact ⟨⟨_, by rw [hd2.out]; rfl, by rw [hd2.out]; exact hle⟩, rfl⟩
        · have g : (M i == x) = false := by simpa using he
          have g2 : (M i != M i) = false := by simp
          clear he
          go_wp2
          go_ret2
          exact ⟨⟨_, by rw [hd2.out]; rfl, by rw [hd2.out]; exact hle⟩, rfl⟩
      · go_wp2
        go_ret2
        exact ⟨⟨_, by rw [hd2.out]; rfl, by rw [hd2.out]; exact hle⟩, rfl⟩

theorem bsearch (a : Option Addr) (l c : Nat) (M : Nat → Int) (x : Int) (w : World) (hl : l ≤ 131072) (hM : IntRow w a l M) :
    Calls Try.prog 17 #[.slice a l c, .int .i64 x] w fun e w' => BsAns M l x e ∧ w' = w := by
  by_cases hz : l = 0
  · subst hz
    have e0 : bs M 0 x = 0 := rfl
    have E0 : Hid (bs M 0 x = 0) := e0
    clear e0
    go_enter Try.func17, Try.ntmps17
    go_wp2_with fail
    refine wp_loop_rounds 1 ?_
    rw [rounds_succ]
    go_wp2
    go_ret2
    exact ⟨⟨_, by rw [E0.out]; rfl, by rw [E0.out]; exact Nat.le_refl _⟩, rfl⟩
  · obtain ⟨b, o, rfl, h⟩ := int_at hM (by omega)
    exact bsearch_some b o l c M x w hl h

end Go.Proofs.Qxb6631224a
