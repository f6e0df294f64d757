/-
  THE WALKS OF THE SMALL FUNCTIONS ON THE ROAD: zzBytes (5, 10), zzMirror (11), zzValid (6), zzLookup (8).
-/
import Derived.Test.Qxb6630448aRows
import Derived.Test.Qxb6630448aPlain
import Derived.WalkKit
import Derived.WalkSpells
import Derived.Outline
import Derived.RegionTactic
import Derived.ChangeAlike
import Derived.Deep.QuietTactic
import Derived.BigQuiet
namespace Go.Proofs.Qxb6630448a
open Go.RowKit Go.Proofs.Qxb6630448a.Plain

/-- WHAT THE WALK IS TOLD OF A SLICE OF INTEGERS: it has no element; or its elements' cells hold 'P i'. -/
def Row (k : IntKind) (w : World) (a : Option Addr) (n : Nat) (P : Nat → Int) : Prop :=
  n = 0 ∨ ∃ b off, a = some ⟨b, off, none⟩ ∧ ∀ i, i < n → w.cell? ⟨b, off + i, none⟩ = some (.int k (P i))

set_option maxHeartbeats 400000 in
theorem bytes5 (a0 a1 a2 a3 : Option Addr) (n0 c0 n1 c1 n2 c2 n3 c3 : Nat) (w : World) :
    Calls Try.prog 5 #[.slice a0 n0 c0, .slice a1 n1 c1, .slice a2 n2 c2, .slice a3 n3 c3] w fun e w' => (∃ b, e = .returned (.bool b)) ∧ w' = w := by
  go_enter Try.func5, Try.ntmps5
  go_wp2
  all_goals (go_ret; exact ⟨⟨_, rfl⟩, rfl⟩)

theorem mirror (r : Int) (w : World) :
    Calls Try.prog 11 #[.int .i64 r] w fun e w' => e = .returned (.int .i64 (if r = 1 then 2 else if r = 2 then 1 else r)) ∧ w' = w := by
  by_cases h1 : r = 1
  · subst h1
    go_enter Try.func11, Try.ntmps11
    go_wp2
    go_ret; exact ⟨rfl, rfl⟩
  by_cases h2 : r = 2
  · subst h2
    go_enter Try.func11, Try.ntmps11
    go_wp2
    go_ret; exact ⟨rfl, rfl⟩
  rw [if_neg h1, if_neg h2]
  have g1 : (r == 1) = false := by simpa using h1
  have g2 : (r == 2) = false := by simpa using h2
  go_enter Try.func11, Try.ntmps11
  go_wp2
  go_ret; exact ⟨rfl, rfl⟩

theorem bytes10 (a0 a1 a2 a3 : Option Addr) (n0 c0 n1 c1 n2 c2 n3 c3 : Nat) (w : World) :
    Calls Try.prog 10 #[.slice a0 n0 c0, .slice a1 n1 c1, .slice a2 n2 c2, .slice a3 n3 c3] w fun e w' => (∃ b, e = .returned (.bool b)) ∧ w' = w := by
  go_enter Try.func10, Try.ntmps10
  go_wp2
  all_goals (go_ret; exact ⟨⟨_, rfl⟩, rfl⟩)

/-- What zzValid has seen at the head of round k. -/
def Seen (P C : Nat → Int) (k : Nat) : Prop := (∀ i, i < k → C i ≠ 0) ∧ ∀ i, i + 1 < k → P i < P (i + 1)
theorem seen_zero (P C : Nat → Int) : Seen P C 0 := ⟨fun i h => by omega, fun i h => by omega⟩
theorem seen_step {P C : Nat → Int} {k : Nat} (h : Seen P C k) (hc : C k ≠ 0) (hp : k = 0 ∨ P (k - 1) < P k) : Seen P C (k + 1) := by
  refine ⟨fun i hi => ?_, fun i hi => ?_⟩
  · by_cases e : i = k
    · rw [e]; exact hc
    · exact h.1 i (by omega)
  · by_cases e : i + 1 = k
    · have e2 : k - 1 = i := by omega
      rcases hp with hp | hp
      · omega
      · rw [e2] at hp; rw [e]; exact hp
    · exact h.2 i (by omega)

set_option maxHeartbeats 400000 in
theorem valid_some (b0 o0 b1 o1 n c0 c1 : Nat) (P C : Nat → Int) (w : World) (hn : n ≤ 1000000)
    (hP : ∀ i, i < n → w.cell? ⟨b0, o0 + i, none⟩ = some (.int .u32 (P i))) (hC : ∀ i, i < n → w.cell? ⟨b1, o1 + i, none⟩ = some (.int .u64 (C i))) :
    Calls Try.prog 6 #[.slice (some ⟨b0, o0, none⟩) n c0, .slice (some ⟨b1, o1, none⟩) n c1] w fun e w' => (∃ b, e = .returned (.bool b) ∧ (b = true → Seen P C n)) ∧ ∃ nq, w' = w.drewN nq := by
  go_enter Try.func6, Try.ntmps6
  go_wp2
  go_loopw [5] (fun i wr => ∃ k nq : Nat, k ≤ n ∧ i = .int .i64 k ∧ wr = w.drewN nq ∧ Seen P C k) (fun i _ => n - (intOf i).toNat)
  case atStart => exact ⟨0, 0, Nat.zero_le _, rfl, rfl, seen_zero P C⟩
  case round =>
    obtain ⟨k, nq, hk, rfl, rfl, hs⟩ := hrel
    by_cases hlt : k < n
    · have hCk := hC k hlt
      have hPk := hP k hlt
      by_cases h0 : C k = 0
      · have g0 : (C k == 0) = true := by simpa using h0
        go_wp2
        go_ret
        exact ⟨⟨false, rfl, fun h => by cases h⟩, nq, rfl⟩
      · have g0 : (C k == 0) = false := by simpa using h0
        by_cases hk0 : k < 1
        · have hd : decide (0 < k) = false := decide_eq_false (by omega)
          have hk9 : Hid (k < 1) := hk0
          clear hk0
          go_wp2
          go_quiet (fail)
          go_wp2
          go_roundw
          case rel => exact ⟨k + 1, _, by omega, by go_num, rfl, seen_step hs h0 (.inl (by have := hk9.out; omega))⟩
          case measure => simp [intOf]; omega
        · have hd : 0 < k := by omega
          have hPp := hP (k - 1) (by omega)
          have hk1 : (0 : Int) ≤ (k : Int) - 1 := by omega
          have hk2 : (k : Int) - 1 < (n : Int) := by omega
          by_cases hge : P k ≤ P (k - 1)
          · go_wp2
            go_quiet (fail)
            go_wp2
            go_ret
            exact ⟨⟨false, rfl, fun h => by cases h⟩, _, World.drewN_drewN _ _ _⟩
          · have hgd : decide (P k ≤ P (k - 1)) = false := decide_eq_false hge
            go_wp2
            go_quiet (fail)
            go_wp2
            go_roundw
            case rel => exact ⟨k + 1, _, by omega, by go_num, rfl, seen_step hs h0 (.inr (by omega))⟩
            case measure => simp [intOf]; omega
    · go_wp2
      go_ret
      have e : k = n := by omega
      subst e
      exact ⟨⟨true, rfl, fun _ => hs⟩, nq, rfl⟩

/-- zzValid, whatever comes in. -/
theorem valid (a0 a1 : Option Addr) (n0 c0 n1 c1 : Nat) (P C : Nat → Int) (w : World) (hn : n0 ≤ 1000000) (hP : Row .u32 w a0 n0 P) (hC : Row .u64 w a1 n1 C) :
    Calls Try.prog 6 #[.slice a0 n0 c0, .slice a1 n1 c1] w fun e w' => (∃ b, e = .returned (.bool b) ∧ (b = true → n0 = n1 ∧ Seen P C n0)) ∧ ∃ nq, w' = w.drewN nq := by
  by_cases hne : n0 = n1
  · subst hne
    rcases hP with hz | ⟨b0, o0, rfl, hP⟩
    · subst hz
      go_enter Try.func6, Try.ntmps6
      go_wp2
      refine wp_loop_rounds 1 ?_
      rw [rounds_succ]
      go_wp2
      go_ret
      exact ⟨⟨true, rfl, fun _ => ⟨by trivial, seen_zero P C⟩⟩, 0, rfl⟩
    · rcases hC with hz | ⟨b1, o1, rfl, hC⟩
      · subst hz
        go_enter Try.func6, Try.ntmps6
        go_wp2
        refine wp_loop_rounds 1 ?_
        rw [rounds_succ]
        go_wp2
        go_ret
        exact ⟨⟨true, rfl, fun _ => ⟨by trivial, seen_zero P C⟩⟩, 0, rfl⟩
      · exact (valid_some b0 o0 b1 o1 n0 c0 c1 P C w hn hP hC).mono fun e w' ⟨⟨b, he, hb⟩, hw⟩ => ⟨⟨b, he, fun h => ⟨rfl, hb h⟩⟩, hw⟩
  · have g : ((n0 : Int) != (n1 : Int)) = true := by simp; omega
    go_enter Try.func6, Try.ntmps6
    go_wp2
    go_ret
    exact ⟨⟨false, rfl, fun h => by cases h⟩, 0, rfl⟩

/-! ### zzLookup -/
theorem look_hit {m : Nat} {Q D : Nat → Int} {p : Int} {l : Nat} (hQ : Asc m Q) (hl : l < m) (he : Q l = p) : IsLook m Q D p (D l) := by
  refine ⟨fun b hb e => ?_, fun h => absurd he (h l hl)⟩
  rcases Nat.lt_trichotomy b l with h | h | h
  · have := asc_of hQ h hl; omega
  · rw [h]
  · have := asc_of hQ h hb; omega
/-- What the search knows at the head of each round: below lo all is less than p, from hi on nothing is. -/
def Mid (m : Nat) (Q : Nat → Int) (p : Int) (l h : Nat) : Prop := (∀ b, b < l → Q b < p) ∧ (∀ b, h ≤ b → b < m → p ≤ Q b)
theorem mid_start (m : Nat) (Q : Nat → Int) (p : Int) : Mid m Q p 0 m := ⟨fun b h => by omega, fun b h h' => by omega⟩
theorem mid_up {m : Nat} {Q : Nat → Int} {p : Int} {l h x : Nat} (hQ : Asc m Q) (hm : Mid m Q p l h) (hx : x < m) (hlt : Q x < p) : Mid m Q p (x + 1) h := by
  refine ⟨fun b hb => ?_, hm.2⟩
  by_cases e : b = x
  · rw [e]; exact hlt
  · have := asc_of hQ (i := b) (j := x) (by omega) hx; omega
theorem mid_down {m : Nat} {Q : Nat → Int} {p : Int} {l h x : Nat} (hQ : Asc m Q) (hm : Mid m Q p l h) (hge : p ≤ Q x) : Mid m Q p l x := by
  refine ⟨hm.1, fun b hb hb' => ?_⟩
  by_cases e : b = x
  · rw [e]; exact hge
  · have := asc_of hQ (i := x) (j := b) (by omega) hb'; omega
theorem look_miss {m : Nat} {Q D : Nat → Int} {p : Int} {l : Nat} (hQ : Asc m Q) (hm : Mid m Q p l l) (he : l < m → Q l ≠ p) : IsLook m Q D p 0 := by
  refine ⟨fun b hb e => ?_, fun _ => rfl⟩
  exfalso
  rcases Nat.lt_trichotomy b l with h | h | h
  · have := hm.1 b h; omega
  · subst h; exact he hb e
  · have h1 := hm.2 l (Nat.le_refl _) (by omega)
    have h2 := asc_of hQ h hb
    omega

set_option maxHeartbeats 400000 in
theorem lookup_some (b0 o0 b1 o1 n c0 c1 : Nat) (p : Int) (Q D : Nat → Int) (w : World) (hn : n ≤ 1000000) (hA : Asc n Q)
    (hQ : ∀ i, i < n → w.cell? ⟨b0, o0 + i, none⟩ = some (.int .u32 (Q i))) (hD : ∀ i, i < n → w.cell? ⟨b1, o1 + i, none⟩ = some (.int .u64 (D i))) :
    Calls Try.prog 8 #[.slice (some ⟨b0, o0, none⟩) n c0, .slice (some ⟨b1, o1, none⟩) n c1, .int .u32 p] w fun e w' => (∃ v, e = .returned (.int .u64 v) ∧ IsLook n Q D p v) ∧ w' = w := by
  go_enter Try.func8, Try.ntmps8
  go_wp2
  go_loop [7, 8] (fun lo hi => ∃ l h : Nat, l ≤ h ∧ h ≤ n ∧ lo = .int .i64 l ∧ hi = .int .i64 h ∧ Mid n Q p l h) (fun lo hi => (intOf hi).toNat - (intOf lo).toNat)
  case atStart => exact ⟨0, n, Nat.zero_le _, Nat.le_refl _, rfl, rfl, mid_start n Q p⟩
  case round =>
    obtain ⟨l, h, hlh, hh, rfl, rfl, hm⟩ := hrel
    by_cases hlt : l < h
    · have hc := hQ (l + (h - l) / 2) (by omega)
      by_cases hx : Q (l + (h - l) / 2) < p
      · go_wp2
        go_round
        case rel => exact ⟨l + (h - l) / 2 + 1, h, by omega, hh, by go_num, rfl, mid_up hA hm (by omega) hx⟩
        case measure => simp [intOf]; omega
      · go_wp2
        go_round
        case rel => exact ⟨l, l + (h - l) / 2, by omega, by omega, rfl, by go_num, mid_down hA hm (by omega)⟩
        case measure => simp [intOf]; omega
    · have e : l = h := by omega
      subst e
      by_cases hln : l < n
      · have hc := hQ l hln
        have hd := hD l hln
        by_cases he : Q l = p
        · have g : (Q l == p) = true := by simpa using he
          have He : Hid (Q l = p) := he
          clear he
          go_wp2
          go_ret
          exact ⟨⟨_, rfl, look_hit hA hln He.out⟩, rfl⟩
        · have g : (Q l == p) = false := by simpa using he
          go_wp2
          go_ret
          exact ⟨⟨_, rfl, look_miss hA hm (fun _ => he)⟩, rfl⟩
      · go_wp2
        go_ret
        exact ⟨⟨_, rfl, look_miss hA hm (fun h => absurd h hln)⟩, rfl⟩

theorem lookup (a0 a1 : Option Addr) (n c0 c1 : Nat) (p : Int) (Q D : Nat → Int) (w : World) (hn : n ≤ 1000000) (hA : Asc n Q) (hQ : Row .u32 w a0 n Q) (hD : Row .u64 w a1 n D) :
    Calls Try.prog 8 #[.slice a0 n c0, .slice a1 n c1, .int .u32 p] w fun e w' => (∃ v, e = .returned (.int .u64 v) ∧ IsLook n Q D p v) ∧ w' = w := by
  by_cases hz : n = 0
  · subst hz
    go_enter Try.func8, Try.ntmps8
    go_wp2
    refine wp_loop_rounds 1 ?_
    rw [rounds_succ]
    go_wp2
    go_ret
    exact ⟨⟨_, rfl, fun b h => by omega, fun _ => rfl⟩, rfl⟩
  · rcases hQ with h | ⟨b0, o0, rfl, hQ⟩
    · exact absurd h hz
    · rcases hD with h | ⟨b1, o1, rfl, hD⟩
      · exact absurd h hz
      · exact lookup_some b0 o0 b1 o1 n c0 c1 p Q D w hn hA hQ hD

end Go.Proofs.Qxb6630448a
