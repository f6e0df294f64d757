/-
  THE WALK OF (Timestamp).Compare (9).
-/
import Derived.Test.Qxb6630448aWalkB
namespace Go.Proofs.Qxb6630448a
open Go.RowKit Go.Proofs.Qxb6630448a.Plain

theorem ret_i64 {a b : Int} (h : a = b) : Ending.returned (.int .i64 a) = .returned (.int .i64 b) := by rw [h]

set_option maxRecDepth 10000 in
set_option maxHeartbeats 1000000 in
theorem compare (B1 B2 n m : Nat) (P C Q D : Nat → Int) (w : World) (hn : n ≤ 1000000) (hm : m ≤ 1000000) (h1 : Stamp w B1 n P C) (h2 : Stamp w B2 m Q D) (hP : Asc n P) (hQ : Asc m Q) :
    Calls Try.prog 9 #[.slice (some ⟨B1, 0, none⟩) n n, .slice (some ⟨B2, 0, none⟩) m m] w fun e w' => (∃ l r, e = .returned (.int .i64 (relOf l r)) ∧ Stands n m P C Q D l r) ∧ ∃ nq, w' = w.drewN nq := by
  go_enter Try.func9, Try.ntmps9
  go_wp2
  go_loopw [5, 6, 7, 8] (fun less more ti tj wr => ∃ (l r : Bool) (i j nq : Nat), less = .bool l ∧ more = .bool r ∧ ti = .int .i64 i ∧ tj = .int .i64 j ∧ wr = w.drewN nq ∧ Inv n m P C Q D i j l r)
    (fun _ _ ti tj _ => (n - (intOf ti).toNat) + (m - (intOf tj).toNat))
  case atStart => exact ⟨false, false, 0, 0, 0, rfl, rfl, rfl, rfl, rfl, inv_start n m P C Q D⟩
  case round =>
    obtain ⟨l, r, i, j, nq, rfl, rfl, rfl, rfl, rfl, hinv⟩ := hrel
    have hi := hinv.hi
    have hj := hinv.hj
    by_cases hjm : j < m
    · obtain ⟨q0, q1⟩ := h2 j hjm
      have gj : ((j : Int) == (m : Int)) = false := by simp; omega
      by_cases hin : i < n
      · obtain ⟨p0, p1⟩ := h1 i hin
        have gi : ((i : Int) == (n : Int)) = false := by simp; omega
        by_cases hlt : P i < Q j
        · have hnew := inv_more hQ hinv hin (.inr hlt)
          go_wp2
          go_quiet (fail)
          go_wp2
          go_roundw
          case rel => exact ⟨l, true, i + 1, j, _, rfl, rfl, by go_num, rfl, rfl, hnew⟩
          case measure => simp [intOf]; omega
        · have hltd : decide (P i < Q j) = false := decide_eq_false hlt
          by_cases hgt : Q j < P i
          · have hnew := inv_less hP hinv hjm (.inr hgt)
            go_wp2
            go_quiet (fail)
            go_wp2
            go_quiet (fail)
            go_wp2
            go_roundw
            case rel => exact ⟨true, r, i, j + 1, _, rfl, rfl, rfl, by go_num, rfl, hnew⟩
            case measure => simp [intOf]; omega
          · have hgtd : decide (Q j < P i) = false := decide_eq_false hgt
            have hnew := inv_both hP hQ hinv hin hjm (by omega)
            cases l <;> cases r
            all_goals
              go_wp2
              go_quiet (fail)
              go_wp2
              go_quiet (fail)
              go_wp2
              go_quiet (fail)
              go_wp2
              go_quiet (fail)
              go_wp2
              go_roundw
              case rel => exact ⟨_, _, i + 1, j + 1, _, rfl, rfl, by go_num, by go_num, rfl, by simpa using hnew⟩
              case measure => simp [intOf]; omega
      · have gi : ((i : Int) == (n : Int)) = true := by simp; omega
        have gi2 : decide (i < n) = false := decide_eq_false hin
        have hnew := inv_less hP hinv hjm (.inl (by omega))
        go_wp2
        go_quiet (fail)
        go_wp2
        go_quiet (fail)
        go_wp2
        go_roundw
        case rel => exact ⟨true, r, i, j + 1, _, rfl, rfl, rfl, by go_num, rfl, hnew⟩
        case measure => simp [intOf]; omega
    · by_cases hin : i < n
      · have gj : ((j : Int) == (m : Int)) = true := by simp; omega
        have hnew := inv_more hQ hinv hin (.inl (by omega))
        go_wp2
        go_quiet (fail)
        go_wp2
        go_roundw
        case rel => exact ⟨l, true, i + 1, j, _, rfl, rfl, by go_num, rfl, rfl, hnew⟩
        case measure => simp [intOf]; omega
      · have e1 : i = n := by omega
        have e2 : j = m := by omega
        subst e1; subst e2
        have hst := stands_of hinv
        cases l <;> cases r
        all_goals
          go_wp2
          go_ret
          exact ⟨⟨_, _, rfl, hst⟩, nq, rfl⟩

end Go.Proofs.Qxb6630448a
