/-
  THE WALKS OF zzBytes (5, 8), DefaultPort (6), zzPortValue (7) at the two ports; the law FnDefaultPortSecureSibling (3).
-/
import Derived.Test.Qxb6631252aRows
import Derived.WalkKit
import Derived.WalkSpells
import Derived.Outline
import Derived.RowKit3
namespace Go.Proofs.Qxb6631252a
open Go.RowKit

theorem bytes5 (s : ByteArray) (w : World) : Calls Try.prog 5 #[.string s] w fun e w' => (∃ b, e = .returned (.bool b)) ∧ w' = w := by
  go_enter Try.func5, Try.ntmps5
  go_wp2
  all_goals (go_ret; exact ⟨⟨_, rfl⟩, rfl⟩)
theorem bytes8 (s : ByteArray) (w : World) : Calls Try.prog 8 #[.string s] w fun e w' => (∃ b, e = .returned (.bool b)) ∧ w' = w := by
  go_enter Try.func8, Try.ntmps8
  go_wp2
  all_goals (go_ret; exact ⟨⟨_, rfl⟩, rfl⟩)

/-! ### DefaultPort -/
theorem port_http (s : ByteArray) (w : World) (h : (s.toList == [104, 116, 116, 112]) = true) :
    Calls Try.prog 6 #[.string s] w fun e w' => e = .returned (.tuple #[.string ⟨#[56, 48]⟩, .bool true]) ∧ w' = w := by
  go_enter Try.func6, Try.ntmps6
  go_wp2
  go_ret2; exact ⟨rfl, rfl⟩
theorem port_https (s : ByteArray) (w : World) (h0 : (s.toList == [104, 116, 116, 112]) = false) (h : (s.toList == [104, 116, 116, 112, 115]) = true) :
    Calls Try.prog 6 #[.string s] w fun e w' => e = .returned (.tuple #[.string ⟨#[52, 52, 51]⟩, .bool true]) ∧ w' = w := by
  go_enter Try.func6, Try.ntmps6
  go_wp2
  go_ret2; exact ⟨rfl, rfl⟩
theorem port_none (s : ByteArray) (w : World) (h0 : (s.toList == [104, 116, 116, 112]) = false) (h : (s.toList == [104, 116, 116, 112, 115]) = false) :
    Calls Try.prog 6 #[.string s] w fun e w' => e = .returned (.tuple #[.string ⟨#[]⟩, .bool false]) ∧ w' = w := by
  go_enter Try.func6, Try.ntmps6
  go_wp2
  go_ret2; exact ⟨rfl, rfl⟩

/-! ### zzPortValue at "80" and "443" -/
/-- Where the reading of it stands. -/
def At80 (tn ti : Value) : Prop := (tn = .int .i64 0 ∧ ti = .int .i64 0) ∨ (tn = .int .i64 8 ∧ ti = .int .i64 1) ∨ (tn = .int .i64 80 ∧ ti = .int .i64 2)
set_option maxHeartbeats 1000000 in
theorem value80 (w : World) : Calls Try.prog 7 #[.string ⟨#[56, 48]⟩] w fun e w' => e = .returned (.tuple #[.int .i64 80, .bool true]) ∧ w' = w := by
  have b0 : (({ data := #[56, 48] } : ByteArray)[0]'(by decide)).toNat = 56 := rfl
  have b1 : (({ data := #[56, 48] } : ByteArray)[1]'(by decide)).toNat = 48 := rfl
  go_enter Try.func7, Try.ntmps7
  go_wp2
  go_loop [4, 5] At80 (fun _ ti => 2 - (intOf ti).toNat)
  case atStart => exact .inl ⟨rfl, rfl⟩
  case round =>
    rcases hrel with ⟨rfl, rfl⟩ | ⟨rfl, rfl⟩ | ⟨rfl, rfl⟩
    · go_wp2
      go_round
      case rel => exact .inr (.inl ⟨rfl, rfl⟩)
      case measure => simp [intOf]
    · go_wp2
      go_round
      case rel => exact .inr (.inr ⟨rfl, rfl⟩)
      case measure => simp [intOf]
    · go_wp2
      go_ret2
      exact ⟨rfl, rfl⟩

/-- Where the reading of it stands. -/
def At443 (tn ti : Value) : Prop := (tn = .int .i64 0 ∧ ti = .int .i64 0) ∨ (tn = .int .i64 4 ∧ ti = .int .i64 1) ∨ (tn = .int .i64 44 ∧ ti = .int .i64 2) ∨ (tn = .int .i64 443 ∧ ti = .int .i64 3)
set_option maxHeartbeats 1000000 in
theorem value443 (w : World) : Calls Try.prog 7 #[.string ⟨#[52, 52, 51]⟩] w fun e w' => e = .returned (.tuple #[.int .i64 443, .bool true]) ∧ w' = w := by
  have b0 : (({ data := #[52, 52, 51] } : ByteArray)[0]'(by decide)).toNat = 52 := rfl
  have b1 : (({ data := #[52, 52, 51] } : ByteArray)[1]'(by decide)).toNat = 52 := rfl
  have b2 : (({ data := #[52, 52, 51] } : ByteArray)[2]'(by decide)).toNat = 51 := rfl
  go_enter Try.func7, Try.ntmps7
  go_wp2
  go_loop [4, 5] At443 (fun _ ti => 3 - (intOf ti).toNat)
  case atStart => exact .inl ⟨rfl, rfl⟩
  case round =>
    rcases hrel with ⟨rfl, rfl⟩ | ⟨rfl, rfl⟩ | ⟨rfl, rfl⟩ | ⟨rfl, rfl⟩
    · go_wp2
      go_round
      case rel => exact .inr (.inl ⟨rfl, rfl⟩)
      case measure => simp [intOf]
    · go_wp2
      go_round
      case rel => exact .inr (.inr (.inl ⟨rfl, rfl⟩))
      case measure => simp [intOf]
    · go_wp2
      go_round
      case rel => exact .inr (.inr (.inr ⟨rfl, rfl⟩))
      case measure => simp [intOf]
    · go_wp2
      go_ret2
      exact ⟨rfl, rfl⟩


/-! ### FnDefaultPortSecureSibling -/
theorem app_s (s : ByteArray) : (s ++ ⟨#[115]⟩ : ByteArray).toList = s.toList ++ [115] := by
  rw [ByteArray.toList_eq, ByteArray.toList_eq]; simp

set_option maxRecDepth 10000 in
set_option maxHeartbeats 1000000 in
theorem law3 (s : ByteArray) (w : World) (hs : s.size ≤ maxLen) : Calls Try.prog 3 #[.string s] w fun e w' => e = .returned (.bool true) ∧ Grown w w' := by
  unfold maxLen at hs
  by_cases t0 : (1048576 : Int) < s.size
  · go_enter Try.func3, Try.ntmps3
    go_wp2_with (go_at_call 5; refine (bytes5 s _).mono ?_; rintro e w' ⟨⟨b, rfl⟩, rfl⟩; cases b)
    all_goals (go_ret; exact ⟨rfl, Grown.refl _⟩)
  by_cases h1 : s.toList = [104, 116, 116, 112]
  · have g1 : (s.toList == [104, 116, 116, 112]) = true := by simpa using h1
    have g2 : ((s ++ ⟨#[115]⟩ : ByteArray).toList == [104, 116, 116, 112]) = false := by rw [app_s, h1]; rfl
    have g3 : ((s ++ ⟨#[115]⟩ : ByteArray).toList == [104, 116, 116, 112, 115]) = true := by rw [app_s, h1]; rfl
    clear h1
    go_enter Try.func3, Try.ntmps3
    go_wp2_with fail
    refine (bytes5 s _).mono ?_
    rintro e w ⟨⟨b, rfl⟩, rfl⟩
    cases b
    · go_wp2; go_ret; exact ⟨rfl, Grown.refl _⟩
    go_wp2_with fail
    refine (port_http s _ g1).mono ?_
    rintro e w ⟨rfl, rfl⟩
    go_wp2_with fail
    refine (port_https _ _ g2 g3).mono ?_
    rintro e w ⟨rfl, rfl⟩
    go_wp2_with fail
    refine (value80 _).mono ?_
    rintro e w ⟨rfl, rfl⟩
    go_wp2_with fail
    refine (value443 _).mono ?_
    rintro e w ⟨rfl, rfl⟩
    go_wp2_with fail
    refine (value80 _).mono ?_
    rintro e w ⟨rfl, rfl⟩
    go_wp2_with fail
    refine (value443 _).mono ?_
    rintro e w ⟨rfl, rfl⟩
    go_wp2
    go_ret
    exact ⟨rfl, Grown.refl _⟩
  have g1 : (s.toList == [104, 116, 116, 112]) = false := by simpa using h1
  have g2 : ((s ++ ⟨#[115]⟩ : ByteArray).toList == [104, 116, 116, 112]) = false := by
    rw [app_s]
    refine beq_eq_false_iff_ne.2 fun h => ?_
    have := congrArg List.getLast? h
    simp at this
  have g3 : ((s ++ ⟨#[115]⟩ : ByteArray).toList == [104, 116, 116, 112, 115]) = false := by
    rw [app_s]
    refine beq_eq_false_iff_ne.2 fun h => h1 ?_
    have := congrArg List.dropLast h
    simpa using this
  by_cases h2 : s.toList = [104, 116, 116, 112, 115]
  · have g4 : (s.toList == [104, 116, 116, 112, 115]) = true := by simpa using h2
    clear h1 h2
    go_enter Try.func3, Try.ntmps3
    go_wp2_with fail
    refine (bytes5 s _).mono ?_
    rintro e w ⟨⟨b, rfl⟩, rfl⟩
    cases b
    · go_wp2; go_ret; exact ⟨rfl, Grown.refl _⟩
    go_wp2_with fail
    refine (port_https s _ g1 g4).mono ?_
    rintro e w ⟨rfl, rfl⟩
    go_wp2_with fail
    refine (port_none _ _ g2 g3).mono ?_
    rintro e w ⟨rfl, rfl⟩
    go_wp2_with fail
    refine (value443 _).mono ?_
    rintro e w ⟨rfl, rfl⟩
    go_wp2
    go_ret
    exact ⟨rfl, Grown.refl _⟩
  · have g4 : (s.toList == [104, 116, 116, 112, 115]) = false := by simpa using h2
    clear h1 h2
    go_enter Try.func3, Try.ntmps3
    go_wp2_with fail
    refine (bytes5 s _).mono ?_
    rintro e w ⟨⟨b, rfl⟩, rfl⟩
    cases b
    · go_wp2; go_ret; exact ⟨rfl, Grown.refl _⟩
    go_wp2_with fail
    refine (port_none s _ g1 g4).mono ?_
    rintro e w ⟨rfl, rfl⟩
    go_wp2_with fail
    refine (port_none _ _ g2 g3).mono ?_
    rintro e w ⟨rfl, rfl⟩
    go_wp2
    go_ret
    exact ⟨rfl, Grown.refl _⟩

end Go.Proofs.Qxb6631252a
