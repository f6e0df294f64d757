/-
  THE WALKS OF zzBytes (5, 8), hexDigitOf (7), hex4 (10), ZZhex4 (6).
-/
import Derived.Test.Qxb6630482aRows
import Derived.Test.Qxb6630482aPlain
import Derived.WalkKit
import Derived.WalkSpells
import Derived.Outline
import Derived.RegionTactic
import Derived.ChangeAlike
import Derived.Deep.QuietTactic
import Derived.BigQuiet
namespace Go.Proofs.Qxb6630482a
open Go.RowKit Go.Proofs.Qxb6630482a.Plain

theorem bytes5 (a0 : Option Addr) (n0 c0 : Nat) (w : World) :
    Calls Try.prog 5 #[.slice a0 n0 c0] w fun e w' => (∃ b, e = .returned (.bool b)) ∧ w' = w := by
  go_enter Try.func5, Try.ntmps5
  go_wp2
  all_goals (go_ret; exact ⟨⟨_, rfl⟩, rfl⟩)
theorem bytes8 (n u x : Int) (a0 : Option Addr) (n0 c0 : Nat) (w : World) :
    Calls Try.prog 8 #[.int .u16 n, .int .u8 u, .slice a0 n0 c0, .int .u8 x] w fun e w' => (∃ b, e = .returned (.bool b)) ∧ w' = w := by
  go_enter Try.func8, Try.ntmps8
  go_wp2
  all_goals (go_ret; exact ⟨⟨_, rfl⟩, rfl⟩)

theorem al_at (k : Nat) (hk : k < ({ data := #[48, 49, 50, 51, 52, 53, 54, 55, 56, 57, 97, 98, 99, 100, 101, 102, 48, 49, 50, 51, 52, 53, 54, 55, 56, 57, 65, 66, 67, 68, 69, 70] } : ByteArray).size) : ((({ data := #[48, 49, 50, 51, 52, 53, 54, 55, 56, 57, 97, 98, 99, 100, 101, 102, 48, 49, 50, 51, 52, 53, 54, 55, 56, 57, 65, 66, 67, 68, 69, 70] } : ByteArray)[k]'hk).toNat : Int) = al k := by
  have h : ∀ i : Fin 32, ((({ data := #[48, 49, 50, 51, 52, 53, 54, 55, 56, 57, 97, 98, 99, 100, 101, 102, 48, 49, 50, 51, 52, 53, 54, 55, 56, 57, 65, 66, 67, 68, 69, 70] } : ByteArray)[i.val]'i.isLt).toNat : Int) = al i.val := by decide +kernel
  exact h ⟨k, hk⟩
theorem al_hit {k : Nat} {c : Int} (hk : k < ({ data := #[48, 49, 50, 51, 52, 53, 54, 55, 56, 57, 97, 98, 99, 100, 101, 102, 48, 49, 50, 51, 52, 53, 54, 55, 56, 57, 65, 66, 67, 68, 69, 70] } : ByteArray).size) (h : (((({ data := #[48, 49, 50, 51, 52, 53, 54, 55, 56, 57, 97, 98, 99, 100, 101, 102, 48, 49, 50, 51, 52, 53, 54, 55, 56, 57, 65, 66, 67, 68, 69, 70] } : ByteArray)[k]'hk).toNat : Int) == c) = true) : al k = c := by
  rw [al_at k hk] at h; simpa using h
theorem al_miss {k : Nat} {c : Int} (hk : k < ({ data := #[48, 49, 50, 51, 52, 53, 54, 55, 56, 57, 97, 98, 99, 100, 101, 102, 48, 49, 50, 51, 52, 53, 54, 55, 56, 57, 65, 66, 67, 68, 69, 70] } : ByteArray).size) (h : (((({ data := #[48, 49, 50, 51, 52, 53, 54, 55, 56, 57, 97, 98, 99, 100, 101, 102, 48, 49, 50, 51, 52, 53, 54, 55, 56, 57, 65, 66, 67, 68, 69, 70] } : ByteArray)[k]'hk).toNat : Int) == c) = false) : al k ≠ c := by
  rw [al_at k hk] at h; simpa using h
theorem ret_i64 {a b : Int} (h : a = b) : Ending.returned (.int .i64 a) = .returned (.int .i64 b) := by rw [h]

/-- None of the first k letters is c. -/
def Passed (c : Int) (k : Nat) : Prop := ∀ i, i < k → al i ≠ c

set_option maxHeartbeats 400000 in
theorem digitOf (c : Int) (w : World) : Calls Try.prog 7 #[.int .u8 c] w fun e w' => e = .returned (.int .i64 (dig c)) ∧ w' = w := by
  go_enter Try.func7, Try.ntmps7
  go_wp2
  go_loop [3] (fun j => ∃ k : Nat, k ≤ 32 ∧ j = .int .i64 k ∧ Passed c k) (fun j => 32 - (intOf j).toNat)
  case atStart => exact ⟨0, by omega, rfl, fun i h => by omega⟩
  case round =>
    obtain ⟨k, hk, rfl, hp⟩ := hrel
    by_cases hlt : k < 32
    · go_wp2
      · have hx := al_hit hlt (by assumption)
        go_ret
        refine ⟨ret_i64 ?_, rfl⟩
        rw [← hx, dig_al k hlt]; omega
      · have hx := al_miss hlt (by assumption)
        go_round
        case rel =>
          refine ⟨k + 1, by omega, by go_num, fun i hi => ?_⟩
          by_cases e : i = k
          · rw [e]; exact hx
          · exact hp i (by omega)
        case measure => simp [intOf]; omega
    · go_wp2
      go_ret
      have e : k = 32 := by omega
      subst e
      exact ⟨ret_i64 (dig_none c hp).symm, rfl⟩

/-- WHAT THE WALK IS TOLD OF A SLICE OF BYTES: it has no element; or its elements' cells hold 'P i', bytes. -/
def Row (w : World) (a : Option Addr) (n : Nat) (P : Nat → Int) : Prop :=
  n = 0 ∨ ∃ b off, a = some ⟨b, off, none⟩ ∧ ∀ i, i < n → w.cell? ⟨b, off + i, none⟩ = some (.int .u8 (P i)) ∧ 0 ≤ P i ∧ P i ≤ 255

theorem or_step {n : Nat} {P : Nat → Int} {k : Nat} {d : Int} (h : AllDig n P k) (hk : k < 4) (hd : dig (P k) = d) (h0 : 0 ≤ d) (h1 : d ≤ 15) : bits .or .i32 (val P k * 16) d = val P (k + 1) := by
  have hv := val_small h hk
  rw [bits_join .i32 31 (by decide) wraps_i32 4 (val P k * 16) d (by omega) (by omega) (by omega) h0 (by omega) (by omega)]
  show _ = val P k * 16 + dig (P k)
  rw [hd]

set_option maxRecDepth 10000 in
set_option maxHeartbeats 400000 in
theorem hex4_some (b o n c : Nat) (P : Nat → Int) (w : World) (hn : n ≤ 4000000) (hP : ∀ i, i < n → w.cell? ⟨b, o + i, none⟩ = some (.int .u8 (P i)) ∧ 0 ≤ P i ∧ P i ≤ 255) :
    Calls Try.prog 10 #[.slice (some ⟨b, o, none⟩) n c] w fun e w' => (∃ v r, e = .returned (.tuple #[.int .i32 v, .int .i64 r]) ∧ Ans n P v r) ∧ w' = w := by
  go_enter Try.func10, Try.ntmps10
  go_wp2
  go_loop [4, 7] (fun code ti => ∃ k : Nat, k ≤ 4 ∧ ti = .int .i64 k ∧ code = .int .i32 (val P k) ∧ AllDig n P k) (fun _ ti => 4 - (intOf ti).toNat)
  case atStart => exact ⟨0, by omega, rfl, rfl, good_zero n P⟩
  case round =>
    obtain ⟨k, hk, rfl, rfl, hg⟩ := hrel
    by_cases hlt : k < 4
    · by_cases hkn : k = n
      · have g : ((k : Int) == (n : Int)) = true := by simp; omega
        have H : Hid (k = n) := hkn
        clear hkn
        go_wp2
        go_ret2
        exact ⟨⟨_, _, rfl, .inl ⟨k, hlt, rfl, rfl, hg, .inl (by have := H.out; omega)⟩⟩, rfl⟩
      · have hkl : k < n := by
          refine Classical.byContradiction fun h => ?_
          by_cases hk0 : k = 0
          · omega
          · have := hg (k - 1) (by omega); omega
        have g : ((k : Int) == (n : Int)) = false := by simp; omega
        obtain ⟨hc, hc0, hc1⟩ := hP k hkl
        obtain ⟨hv0, hv1⟩ := val_small hg hlt
        by_cases d1 : 48 ≤ P k ∧ P k ≤ 57
        · obtain ⟨d1a, d1b⟩ := d1
          have hd := dig_num d1a d1b
          have hor := or_step hg hlt hd (by omega) (by omega)
          have hnew := good_step hg hkl (by omega)
          clear hd
          go_wp2
          go_round
          case rel => exact ⟨k + 1, by omega, by go_num, rfl, hnew⟩
          case measure => simp [intOf]; omega
        by_cases d2 : 97 ≤ P k ∧ P k ≤ 102
        · obtain ⟨d2a, d2b⟩ := d2
          have hd := dig_low d2a d2b
          have hor := or_step hg hlt hd (by omega) (by omega)
          have hnew := good_step hg hkl (by omega)
          have x1 : ¬ P k ≤ 57 := by omega
          clear hd d1
          go_wp2
          go_round
          case rel => exact ⟨k + 1, by omega, by go_num, rfl, hnew⟩
          case measure => simp [intOf]; omega
        by_cases d3 : 65 ≤ P k ∧ P k ≤ 70
        · obtain ⟨d3a, d3b⟩ := d3
          have hd := dig_up d3a d3b
          have hor := or_step hg hlt hd (by omega) (by omega)
          have hnew := good_step hg hkl (by omega)
          have x1 : ¬ P k ≤ 57 := by omega
          have x2 : ¬ 97 ≤ P k := by omega
          clear hd d1 d2
          go_wp2
          go_round
          case rel => exact ⟨k + 1, by omega, by go_num, rfl, hnew⟩
          case measure => simp [intOf]; omega
        have hd := dig_no d1 d2 d3
        have hbad : dig (P k) < 0 := by omega
        clear hd
        by_cases y1 : 48 ≤ P k
        · have y2 : ¬ P k ≤ 57 := by omega
          by_cases y3 : 65 ≤ P k
          · have y4 : ¬ P k ≤ 70 := by omega
            by_cases y5 : 97 ≤ P k
            · have y6 : ¬ P k ≤ 102 := by omega
              clear d1 d2 d3
              go_wp2
              go_ret2
              exact ⟨⟨_, _, rfl, .inl ⟨k, hlt, rfl, rfl, hg, .inr hbad⟩⟩, rfl⟩
            · clear d1 d2 d3
              go_wp2
              go_ret2
              exact ⟨⟨_, _, rfl, .inl ⟨k, hlt, rfl, rfl, hg, .inr hbad⟩⟩, rfl⟩
          · have y5 : ¬ 97 ≤ P k := by omega
            clear d1 d2 d3
            go_wp2
            go_ret2
            exact ⟨⟨_, _, rfl, .inl ⟨k, hlt, rfl, rfl, hg, .inr hbad⟩⟩, rfl⟩
        · have y3 : ¬ 65 ≤ P k := by omega
          have y5 : ¬ 97 ≤ P k := by omega
          clear d1 d2 d3
          go_wp2
          go_ret2
          exact ⟨⟨_, _, rfl, .inl ⟨k, hlt, rfl, rfl, hg, .inr hbad⟩⟩, rfl⟩
    · go_wp2
      go_ret2
      have e : k = 4 := by omega
      subst e
      exact ⟨⟨_, _, rfl, .inr ⟨rfl, rfl, hg⟩⟩, rfl⟩

/-- hex4, whatever comes in. -/
theorem hex4 (a : Option Addr) (n c : Nat) (P : Nat → Int) (w : World) (hn : n ≤ 4000000) (hP : Row w a n P) :
    Calls Try.prog 10 #[.slice a n c] w fun e w' => (∃ v r, e = .returned (.tuple #[.int .i32 v, .int .i64 r]) ∧ Ans n P v r) ∧ w' = w := by
  rcases hP with hz | ⟨b, o, rfl, hP⟩
  · subst hz
    go_enter Try.func10, Try.ntmps10
    go_wp2
    refine wp_loop_rounds 1 ?_
    rw [rounds_succ]
    go_wp2
    go_ret2
    exact ⟨⟨_, _, rfl, .inl ⟨0, by omega, rfl, rfl, good_zero 0 P, .inl (Nat.le_refl _)⟩⟩, rfl⟩
  · exact hex4_some b o n c P w hn hP

/-- ZZhex4 hands it on. -/
theorem zzhex4 (a : Option Addr) (n c : Nat) (P : Nat → Int) (w : World) (hn : n ≤ 4000000) (hP : Row w a n P) :
    Calls Try.prog 6 #[.slice a n c] w fun e w' => (∃ v r, e = .returned (.tuple #[.int .i32 v, .int .i64 r]) ∧ Ans n P v r) ∧ w' = w := by
  go_enter Try.func6, Try.ntmps6
  go_wp2_with (go_at_call 10; refine (hex4 a n c P _ hn hP).mono ?_; rintro e w' ⟨⟨v, r, rfl, ha⟩, rfl⟩)
  go_ret2
  exact ⟨⟨v, r, rfl, ha⟩, rfl⟩

end Go.Proofs.Qxb6630482a
