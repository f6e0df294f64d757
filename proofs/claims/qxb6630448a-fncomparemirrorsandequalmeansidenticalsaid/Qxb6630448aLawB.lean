/-
  THE WALK OF FnCompareMirrorsAndEqualMeansIdentical (4).
-/
import Derived.Test.Qxb6630448aLawA
namespace Go.Proofs.Qxb6630448a
open Go.RowKit Go.Proofs.Qxb6630448a.Plain

/-- What the law's own loop has seen at the head of round i. -/
def SameTo (n m : Nat) (P C Q D : Nat → Int) (i : Nat) : Prop := n = m ∧ ∀ k, k < i → P k = Q k ∧ C k = D k
/-- The Bool says just that. -/
def SameIs (s : Bool) (n m : Nat) (P C Q D : Nat → Int) (i : Nat) : Prop := s = true ↔ SameTo n m P C Q D i
theorem sameTo_start (n : Nat) (P C Q D : Nat → Int) : SameIs true n n P C Q D 0 := ⟨fun _ => ⟨rfl, fun k h => by omega⟩, fun _ => rfl⟩
theorem sameTo_yes {n : Nat} {P C Q D : Nat → Int} {i : Nat} (h : SameIs true n n P C Q D i) (hp : P i = Q i) (hc : C i = D i) : SameIs true n n P C Q D (i + 1) := by
  refine ⟨fun _ => ⟨rfl, fun k hk => ?_⟩, fun _ => rfl⟩
  by_cases e : k = i
  · rw [e]; exact ⟨hp, hc⟩
  · exact (h.1 rfl).2 k (by omega)
theorem sameTo_no {n : Nat} {P C Q D : Nat → Int} {i : Nat} (h : ¬ (P i = Q i ∧ C i = D i)) : SameIs false n n P C Q D (i + 1) := by
  exact ⟨fun hf => (by cases hf), fun hs => absurd (hs.2 i (by omega)) h⟩
theorem sameTo_done {n m : Nat} {P C Q D : Nat → Int} {i : Nat} {s l r : Bool} (hP : Asc n P) (hQ : Asc m Q) (hi : i ≤ n) (hx : s = true → i = n) (h : SameIs s n m P C Q D i) (hst : Stands n m P C Q D l r) : s = (!l && !r) := by
  have h2 := equal_iff hP hQ hst
  have h3 : s = true ↔ Same n m P C Q D := by
    constructor
    · intro e; have := h.1 e; have e2 := hx e; subst e2; exact this
    · intro hs; exact h.2 ⟨hs.1, fun k hk => hs.2 k (by omega)⟩
  rw [Bool.eq_iff_iff, h3, ← h2]
  cases l <;> cases r <;> simp

set_option maxRecDepth 10000 in
set_option maxHeartbeats 1000000 in
theorem law4 (a0 a1 a2 a3 : Option Addr) (n0 c0 n1 c1 n2 c2 n3 c3 : Nat) (P C Q D : Nat → Int) (w : World) (r0 : Row .u32 w a0 n0 P) (r1 : Row .u64 w a1 n1 C) (r2 : Row .u32 w a2 n2 Q) (r3 : Row .u64 w a3 n3 D) :
    Calls Try.prog 4 #[.slice a0 n0 c0, .slice a1 n1 c1, .slice a2 n2 c2, .slice a3 n3 c3] w fun e w' => e = .returned (.bool true) ∧ Below w.heap.size w w' := by
  by_cases t0 : (262144 : Int) < n0
  · go_enter Try.func4, Try.ntmps4
    go_wp2_with (go_at_call 10; refine (bytes10 a0 a1 a2 a3 n0 c0 n1 c1 n2 c2 n3 c3 _).mono ?_; rintro e w' ⟨⟨b, rfl⟩, rfl⟩; cases b)
    all_goals (go_ret; exact ⟨rfl, Below.refl _ _⟩)
  by_cases t1 : (131072 : Int) < n1
  · go_enter Try.func4, Try.ntmps4
    go_wp2_with (go_at_call 10; refine (bytes10 a0 a1 a2 a3 n0 c0 n1 c1 n2 c2 n3 c3 _).mono ?_; rintro e w' ⟨⟨b, rfl⟩, rfl⟩; cases b)
    all_goals (go_ret; exact ⟨rfl, Below.refl _ _⟩)
  by_cases t2 : (262144 : Int) < n2
  · go_enter Try.func4, Try.ntmps4
    go_wp2_with (go_at_call 10; refine (bytes10 a0 a1 a2 a3 n0 c0 n1 c1 n2 c2 n3 c3 _).mono ?_; rintro e w' ⟨⟨b, rfl⟩, rfl⟩; cases b)
    all_goals (go_ret; exact ⟨rfl, Below.refl _ _⟩)
  by_cases t3 : (131072 : Int) < n3
  · go_enter Try.func4, Try.ntmps4
    go_wp2_with (go_at_call 10; refine (bytes10 a0 a1 a2 a3 n0 c0 n1 c1 n2 c2 n3 c3 _).mono ?_; rintro e w' ⟨⟨b, rfl⟩, rfl⟩; cases b)
    all_goals (go_ret; exact ⟨rfl, Below.refl _ _⟩)
  by_cases t4 : (1048576 : Int) < 4 * n0 + 8 * n1 + 4 * n2 + 8 * n3
  · go_enter Try.func4, Try.ntmps4
    go_wp2_with (go_at_call 10; refine (bytes10 a0 a1 a2 a3 n0 c0 n1 c1 n2 c2 n3 c3 _).mono ?_; rintro e w' ⟨⟨b, rfl⟩, rfl⟩; cases b)
    all_goals (go_ret; exact ⟨rfl, Below.refl _ _⟩)
  by_cases e1 : n0 = n1
  case neg =>
    go_enter Try.func4, Try.ntmps4
    go_wp2_with (go_at_call 10; refine (bytes10 a0 a1 a2 a3 n0 c0 n1 c1 n2 c2 n3 c3 _).mono ?_; rintro e w' ⟨⟨b, rfl⟩, rfl⟩; cases b)
    · go_ret; exact ⟨rfl, Below.refl _ _⟩
    refine (valid a0 a1 n0 c0 n1 c1 P C _ (by omega) (by exact r0) (by exact r1)).mono ?_
    rintro e w1 ⟨⟨b, rfl, hb⟩, nq, rfl⟩
    cases b
    · go_wp2
      go_ret; exact ⟨rfl, below_drewN (Below.refl _ _) _⟩
    · exact absurd (hb rfl).1 e1
  subst e1
  by_cases e2 : n2 = n3
  case neg =>
    go_enter Try.func4, Try.ntmps4
    go_wp2_with (go_at_call 10; refine (bytes10 a0 a1 a2 a3 n0 c0 n0 c1 n2 c2 n3 c3 _).mono ?_; rintro e w' ⟨⟨b, rfl⟩, rfl⟩; cases b)
    · go_ret; exact ⟨rfl, Below.refl _ _⟩
    refine (valid a0 a1 n0 c0 n0 c1 P C _ (by omega) (by exact r0) (by exact r1)).mono ?_
    rintro e w1 ⟨⟨b, rfl, hb⟩, nq, rfl⟩
    cases b
    · go_wp2
      go_ret; exact ⟨rfl, below_drewN (Below.refl _ _) _⟩
    clear hb
    go_wp2_with fail
    refine (valid a2 a3 n2 c2 n3 c3 Q D _ (by omega) (by exact r2) (by exact r3)).mono ?_
    rintro e w1 ⟨⟨b, rfl, hb⟩, nq2, rfl⟩
    cases b
    · go_wp2
      go_ret; exact ⟨rfl, below_drewN (Below.refl _ _) _⟩
    · exact absurd (hb rfl).1 e2
  subst e2
  go_enter Try.func4, Try.ntmps4
  go_wp2_with (go_at_call 10; refine (bytes10 a0 a1 a2 a3 n0 c0 n0 c1 n2 c2 n2 c3 _).mono ?_; rintro e w' ⟨⟨b, rfl⟩, rfl⟩; cases b)
  · go_ret; exact ⟨rfl, Below.refl _ _⟩
  refine (valid a0 a1 n0 c0 n0 c1 P C _ (by omega) (by exact r0) (by exact r1)).mono ?_
  rintro e w1 ⟨⟨b, rfl, hb⟩, nq, rfl⟩
  cases b
  · go_wp2
    go_ret; exact ⟨rfl, below_drewN (Below.refl _ _) _⟩
  obtain ⟨_, hs1⟩ := hb rfl
  clear hb
  go_wp2_with fail
  refine (valid a2 a3 n2 c2 n2 c3 Q D _ (by omega) (by exact r2) (by exact r3)).mono ?_
  rintro e w1 ⟨⟨b, rfl, hb'⟩, nq2, rfl⟩
  cases b
  · go_wp2
    go_ret; exact ⟨rfl, below_drewN (Below.refl _ _) _⟩
  obtain ⟨_, hs2⟩ := hb' rfl
  clear hb'
  go_wp2_with fail
  refine (build a0 a1 n0 c0 c1 P C _ (by omega) (by exact r0) (by exact r1)).mono ?_
  rintro e w1 ⟨rfl, st1, bel1, sz⟩
  clear sz
  have Bel1 : Below w'.heap.size w' w1 := (below_drewN (Below.refl w'.heap.size w') (nq + nq2)).trans bel1
  have q2 := row_below r2 Bel1
  have q3 := row_below r3 Bel1
  clear bel1
  go_wp2_with fail
  refine (build a2 a3 n2 c2 c3 Q D _ (by omega) (by exact q2) (by exact q3)).mono ?_
  rintro e w2 ⟨rfl, st2, bel2, sz⟩
  clear sz
  have st1' := stamp_below st1 bel2
  have Bel2 : Below w'.heap.size w' w2 := Bel1.trans (bel2.mono Bel1.size)
  have s0 := row_below r0 Bel2
  have s1 := row_below r1 Bel2
  have s2 := row_below r2 Bel2
  have s3 := row_below r3 Bel2
  clear r0 r1 r2 r3 q2 q3 bel2 Bel1 st1
  by_cases e3 : n0 = n2
  · subst e3
    go_wp2_with fail
    go_loopw [11, 12] (fun same ti wr => ∃ (s : Bool) (i nq3 : Nat), i ≤ n0 ∧ same = .bool s ∧ ti = .int .i64 i ∧ wr = w2.drewN nq3 ∧ SameIs s n0 n0 P C Q D i) (fun _ ti _ => n0 - (intOf ti).toNat)
    case atStart => exact ⟨true, 0, 0, Nat.zero_le _, by simp, rfl, rfl, sameTo_start n0 P C Q D⟩
    case round =>
      obtain ⟨s, i, nq3, hi, rfl, rfl, rfl, hs⟩ := hrel
      by_cases hgo : s = true ∧ i < n0
      · obtain ⟨rfl, hlt⟩ := hgo
        obtain ⟨b0, o0, rfl, hP⟩ := row_some s0 (by omega)
        obtain ⟨b1, o1, rfl, hC⟩ := row_some s1 (by omega)
        obtain ⟨b2, o2, rfl, hQ⟩ := row_some s2 (by omega)
        obtain ⟨b3, o3, rfl, hD⟩ := row_some s3 (by omega)
        have hPi := hP i hlt
        have hCi := hC i hlt
        have hQi := hQ i hlt
        have hDi := hD i hlt
        by_cases ep : P i = Q i
        · by_cases ec : C i = D i
          · have hnew := sameTo_yes hs ep ec
            have gp : (P i != Q i) = false := by simpa using ep
            have gc : (C i != D i) = false := by simpa using ec
            clear ep ec hs
            go_wp2_with fail
            go_quiet (fail)
            go_wp2
            go_roundw
            case rel => exact ⟨true, i + 1, _, by omega, rfl, by go_num, rfl, hnew⟩
            case measure => simp [intOf]; omega
          · have hnew := sameTo_no (n := n0) (P := P) (C := C) (Q := Q) (D := D) (i := i) (fun h => ec h.2)
            have gp : (P i != Q i) = false := by simpa using ep
            have gc : (C i != D i) = true := by simpa using ec
            clear ep ec hs
            go_wp2_with fail
            go_quiet (fail)
            go_wp2
            go_roundw
            case rel => exact ⟨false, i + 1, _, by omega, rfl, by go_num, rfl, hnew⟩
            case measure => simp [intOf]; omega
        · have hnew := sameTo_no (n := n0) (P := P) (C := C) (Q := Q) (D := D) (i := i) (fun h => ep h.1)
          have gp : (P i != Q i) = true := by simpa using ep
          clear ep hs
          go_wp2_with fail
          go_quiet (fail)
          go_wp2
          go_roundw
          case rel => exact ⟨false, i + 1, _, by omega, rfl, by go_num, rfl, hnew⟩
          case measure => simp [intOf]; omega
      · have hx : s = true → i = n0 := fun e => by
          refine Classical.byContradiction fun hne => hgo ⟨e, by omega⟩
        have fin : ∀ l r, Stands n0 n0 P C Q D l r → s = (!l && !r) := fun l r hst => sameTo_done hs1.2 hs2.2 hi hx hs hst
        have HF : Hid (∀ l r, Stands n0 n0 P C Q D l r → s = (!l && !r)) := fin
        clear fin hs
        cases s
        · clear hgo hx
          go_wp2_with fail
          refine (compare _ _ n0 n0 P C Q D _ (by omega) (by omega) (by exact st1') (by exact st2) hs1.2 hs2.2).mono ?_
          rintro e w4 ⟨⟨l, r, rfl, hst⟩, nq4, rfl⟩
          go_wp2_with fail
          refine (compare _ _ n0 n0 Q D P C _ (by omega) (by omega) (by exact st2) (by exact st1') hs2.2 hs1.2).mono ?_
          rintro e w5 ⟨⟨l', r', rfl, hst'⟩, nq5, rfl⟩
          obtain ⟨rfl, rfl⟩ := stands_mirror hst hst'
          have hfin := HF.out r' l' hst
          clear hst hst' HF
          have r00 : relOf false false = 0 := rfl
          have r01 : relOf false true = 2 := rfl
          have r10 : relOf true false = 1 := rfl
          have r11 : relOf true true = 3 := rfl
          cases l' <;> cases r' <;> first | (exact absurd hfin (by decide)) | (clear hfin; go_wp2; go_ret; exact ⟨rfl, below_drewN Bel2 _⟩)
        · have e4 := hx rfl
          clear hgo hx
          subst e4
          go_wp2_with fail
          refine (compare _ _ i i P C Q D _ (by omega) (by omega) (by exact st1') (by exact st2) hs1.2 hs2.2).mono ?_
          rintro e w4 ⟨⟨l, r, rfl, hst⟩, nq4, rfl⟩
          go_wp2_with fail
          refine (compare _ _ i i Q D P C _ (by omega) (by omega) (by exact st2) (by exact st1') hs2.2 hs1.2).mono ?_
          rintro e w5 ⟨⟨l', r', rfl, hst'⟩, nq5, rfl⟩
          obtain ⟨rfl, rfl⟩ := stands_mirror hst hst'
          have hfin := HF.out r' l' hst
          clear hst hst' HF
          have r00 : relOf false false = 0 := rfl
          have r01 : relOf false true = 2 := rfl
          have r10 : relOf true false = 1 := rfl
          have r11 : relOf true true = 3 := rfl
          cases l' <;> cases r' <;> first | (exact absurd hfin (by decide)) | (clear hfin; go_wp2; go_ret; exact ⟨rfl, below_drewN Bel2 _⟩)
  · have g3 : ((n0 : Int) == (n2 : Int)) = false := by simp; omega
    have HF : Hid (∀ l r, Stands n0 n2 P C Q D l r → false = (!l && !r)) := fun l r hst => by
      have h2 := equal_iff hs1.2 hs2.2 hst
      cases l <;> cases r <;> first | rfl | exact absurd (h2.1 ⟨rfl, rfl⟩).1 e3
    go_wp2_with fail
    refine wp_loop_rounds 1 ?_
    rw [rounds_succ]
    go_wp2_with fail
    refine (compare _ _ n0 n2 P C Q D _ (by omega) (by omega) (by exact st1') (by exact st2) hs1.2 hs2.2).mono ?_
    rintro e w4 ⟨⟨l, r, rfl, hst⟩, nq4, rfl⟩
    go_wp2_with fail
    refine (compare _ _ n2 n0 Q D P C _ (by omega) (by omega) (by exact st2) (by exact st1') hs2.2 hs1.2).mono ?_
    rintro e w5 ⟨⟨l', r', rfl, hst'⟩, nq5, rfl⟩
    obtain ⟨rfl, rfl⟩ := stands_mirror hst hst'
    have hfin := HF.out r' l' hst
    clear hst hst' HF
    have r00 : relOf false false = 0 := rfl
    have r01 : relOf false true = 2 := rfl
    have r10 : relOf true false = 1 := rfl
    have r11 : relOf true true = 3 := rfl
    cases l' <;> cases r' <;> first | (exact absurd hfin (by decide)) | (clear hfin; go_wp2; go_ret; exact ⟨rfl, below_drewN Bel2 _⟩)

end Go.Proofs.Qxb6630448a
