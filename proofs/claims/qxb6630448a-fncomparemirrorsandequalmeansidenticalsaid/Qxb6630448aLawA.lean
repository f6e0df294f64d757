/-
  THE WALK OF FnCompareMatchesPointwiseModel (3).
-/
import Derived.Test.Qxb6630448aWalkC
namespace Go.Proofs.Qxb6630448a
open Go.RowKit Go.Proofs.Qxb6630448a.Plain

theorem row_some {k : IntKind} {w : World} {a : Option Addr} {n : Nat} {P : Nat → Int} (h : Row k w a n P) (hn : 0 < n) :
    ∃ b off, a = some ⟨b, off, none⟩ ∧ ∀ i, i < n → w.cell? ⟨b, off + i, none⟩ = some (.int k (P i)) := by
  rcases h with h | h
  · omega
  · exact h
theorem row_below {k : IntKind} {w w' : World} {a : Option Addr} {n : Nat} {P : Nat → Int} (h : Row k w a n P) (hb : Below w.heap.size w w') : Row k w' a n P := by
  rcases h with h | ⟨b, off, rfl, h⟩
  · exact .inl h
  · exact .inr ⟨b, off, rfl, fun i hi => (hb.cell (p := ⟨b, off + i, none⟩) (cell_lt (h i hi))).trans (h i hi)⟩
theorem stamp_below {w w' : World} {B n : Nat} {P C : Nat → Int} (h : Stamp w B n P C) (hb : Below w.heap.size w w') : Stamp w' B n P C := fun i hi =>
  ⟨(hb.cell (p := ⟨B, i * 2, none⟩) (cell_lt (h i hi).1)).trans (h i hi).1, (hb.cell (p := ⟨B, i * 2 + 1, none⟩) (cell_lt (h i hi).2)).trans (h i hi).2⟩
theorem below_drewN {B : Nat} {a w : World} (h : Below B a w) (n : Nat) : Below B a (w.drewN n) := ⟨h.os, h.tape, h.output, h.size, h.block⟩

set_option maxRecDepth 10000 in
set_option maxHeartbeats 1000000 in
theorem law3 (a0 a1 a2 a3 : Option Addr) (n0 c0 n1 c1 n2 c2 n3 c3 : Nat) (P C Q D : Nat → Int) (w : World) (r0 : Row .u32 w a0 n0 P) (r1 : Row .u64 w a1 n1 C) (r2 : Row .u32 w a2 n2 Q) (r3 : Row .u64 w a3 n3 D)
    (hC : ∀ i, i < n1 → 0 ≤ C i) (hD : ∀ i, i < n3 → 0 ≤ D i) :
    Calls Try.prog 3 #[.slice a0 n0 c0, .slice a1 n1 c1, .slice a2 n2 c2, .slice a3 n3 c3] w fun e w' => e = .returned (.bool true) ∧ Below w.heap.size w w' := by
  by_cases t0 : (262144 : Int) < n0
  · go_enter Try.func3, Try.ntmps3
    go_wp2_with (go_at_call 5; refine (bytes5 a0 a1 a2 a3 n0 c0 n1 c1 n2 c2 n3 c3 _).mono ?_; rintro e w' ⟨⟨b, rfl⟩, rfl⟩; cases b)
    all_goals (go_ret; exact ⟨rfl, Below.refl _ _⟩)
  by_cases t1 : (131072 : Int) < n1
  · go_enter Try.func3, Try.ntmps3
    go_wp2_with (go_at_call 5; refine (bytes5 a0 a1 a2 a3 n0 c0 n1 c1 n2 c2 n3 c3 _).mono ?_; rintro e w' ⟨⟨b, rfl⟩, rfl⟩; cases b)
    all_goals (go_ret; exact ⟨rfl, Below.refl _ _⟩)
  by_cases t2 : (262144 : Int) < n2
  · go_enter Try.func3, Try.ntmps3
    go_wp2_with (go_at_call 5; refine (bytes5 a0 a1 a2 a3 n0 c0 n1 c1 n2 c2 n3 c3 _).mono ?_; rintro e w' ⟨⟨b, rfl⟩, rfl⟩; cases b)
    all_goals (go_ret; exact ⟨rfl, Below.refl _ _⟩)
  by_cases t3 : (131072 : Int) < n3
  · go_enter Try.func3, Try.ntmps3
    go_wp2_with (go_at_call 5; refine (bytes5 a0 a1 a2 a3 n0 c0 n1 c1 n2 c2 n3 c3 _).mono ?_; rintro e w' ⟨⟨b, rfl⟩, rfl⟩; cases b)
    all_goals (go_ret; exact ⟨rfl, Below.refl _ _⟩)
  by_cases t4 : (1048576 : Int) < 4 * n0 + 8 * n1 + 4 * n2 + 8 * n3
  · go_enter Try.func3, Try.ntmps3
    go_wp2_with (go_at_call 5; refine (bytes5 a0 a1 a2 a3 n0 c0 n1 c1 n2 c2 n3 c3 _).mono ?_; rintro e w' ⟨⟨b, rfl⟩, rfl⟩; cases b)
    all_goals (go_ret; exact ⟨rfl, Below.refl _ _⟩)
  by_cases e1 : n0 = n1
  case neg =>
    go_enter Try.func3, Try.ntmps3
    go_wp2_with (go_at_call 5; refine (bytes5 a0 a1 a2 a3 n0 c0 n1 c1 n2 c2 n3 c3 _).mono ?_; rintro e w' ⟨⟨b, rfl⟩, rfl⟩; cases b)
    · go_ret; exact ⟨rfl, Below.refl _ _⟩
    refine (valid a0 a1 n0 c0 n1 c1 P C _ (by omega) (by exact r0) (by exact r1)).mono ?_
    rintro e w1 ⟨⟨b, rfl, hb⟩, nq, rfl⟩
    cases b
    · go_wp2
      go_ret; exact ⟨rfl, below_drewN (Below.refl _ _) _⟩
    · exact absurd (hb rfl).1 e1
  subst e1
  by_cases e2 : n2 = n3
  case neg =>
    go_enter Try.func3, Try.ntmps3
    go_wp2_with (go_at_call 5; refine (bytes5 a0 a1 a2 a3 n0 c0 n0 c1 n2 c2 n3 c3 _).mono ?_; rintro e w' ⟨⟨b, rfl⟩, rfl⟩; cases b)
    · go_ret; exact ⟨rfl, Below.refl _ _⟩
    refine (valid a0 a1 n0 c0 n0 c1 P C _ (by omega) (by exact r0) (by exact r1)).mono ?_
    rintro e w1 ⟨⟨b, rfl, hb⟩, nq, rfl⟩
    cases b
    · go_wp2
      go_ret; exact ⟨rfl, below_drewN (Below.refl _ _) _⟩
    clear hb
    go_wp2_with fail
    refine (valid a2 a3 n2 c2 n3 c3 Q D _ (by omega) (by exact r2) (by exact r3)).mono ?_
    rintro e w1 ⟨⟨b, rfl, hb⟩, nq2, rfl⟩
    cases b
    · go_wp2
      go_ret; exact ⟨rfl, below_drewN (Below.refl _ _) _⟩
    · exact absurd (hb rfl).1 e2
  subst e2
  go_enter Try.func3, Try.ntmps3
  go_wp2_with (go_at_call 5; refine (bytes5 a0 a1 a2 a3 n0 c0 n0 c1 n2 c2 n2 c3 _).mono ?_; rintro e w' ⟨⟨b, rfl⟩, rfl⟩; cases b)
  · go_ret; exact ⟨rfl, Below.refl _ _⟩
  refine (valid a0 a1 n0 c0 n0 c1 P C _ (by omega) (by exact r0) (by exact r1)).mono ?_
  rintro e w1 ⟨⟨b, rfl, hb⟩, nq, rfl⟩
  cases b
  · go_wp2
    go_ret; exact ⟨rfl, below_drewN (Below.refl _ _) _⟩
  obtain ⟨_, hs1⟩ := hb rfl
  clear hb
  go_wp2_with fail
  refine (valid a2 a3 n2 c2 n2 c3 Q D _ (by omega) (by exact r2) (by exact r3)).mono ?_
  rintro e w1 ⟨⟨b, rfl, hb'⟩, nq2, rfl⟩
  cases b
  · go_wp2
    go_ret; exact ⟨rfl, below_drewN (Below.refl _ _) _⟩
  obtain ⟨_, hs2⟩ := hb' rfl
  clear hb'
  go_wp2_with fail
  refine (build a0 a1 n0 c0 c1 P C _ (by omega) (by exact r0) (by exact r1)).mono ?_
  rintro e w1 ⟨rfl, st1, bel1, sz⟩
  clear sz
  have Bel1 : Below w'.heap.size w' w1 := (below_drewN (Below.refl w'.heap.size w') (nq + nq2)).trans bel1
  have q2 := row_below r2 Bel1
  have q3 := row_below r3 Bel1
  clear bel1
  go_wp2_with fail
  refine (build a2 a3 n2 c2 c3 Q D _ (by omega) (by exact q2) (by exact q3)).mono ?_
  rintro e w2 ⟨rfl, st2, bel2, sz⟩
  clear sz
  have st1' := stamp_below st1 bel2
  have Bel2 : Below w'.heap.size w' w2 := Bel1.trans (bel2.mono Bel1.size)
  have s0 := row_below r0 Bel2
  have s1 := row_below r1 Bel2
  have s2 := row_below r2 Bel2
  have s3 := row_below r3 Bel2
  clear r0 r1 r2 r3 q2 q3 bel2 Bel1 st1
  go_wp2_with fail
  go_loop [11, 12, 13] (fun less more ti => ∃ (l r : Bool) (i : Nat), i ≤ n0 ∧ less = .bool l ∧ more = .bool r ∧ ti = .int .i64 i ∧ One n2 P C Q D i l r) (fun _ _ ti => n0 - (intOf ti).toNat)
  case atStart => exact ⟨false, false, 0, Nat.zero_le _, rfl, rfl, rfl, one_start n2 P C Q D⟩
  case round =>
    obtain ⟨l, r, i, hi, rfl, rfl, rfl, hone⟩ := hrel
    by_cases hlt : i < n0
    · obtain ⟨b0, o0, rfl, hP⟩ := row_some s0 (by omega)
      obtain ⟨b1, o1, rfl, hCc⟩ := row_some s1 (by omega)
      have hPi := hP i hlt
      have hCi := hCc i hlt
      have hC0 := hC i hlt
      have hCn := hs1.1 i hlt
      have hC1 : 1 ≤ C i := by omega
      clear hCn hC0
      go_wp2_with fail
      refine (lookup a2 a3 n2 c2 c3 (P i) Q D _ (by omega) hs2.2 (by exact s2) (by exact s3)).mono ?_
      rintro e w3 ⟨⟨v, rfl, hv⟩, rfl⟩
      have hnew := one_step hone hC1 hv
      by_cases g1 : C i < v
      · have g2 : ¬ v < C i := by omega
        have hnew' : One n2 P C Q D (i + 1) true r := by simpa [g1, g2] using hnew
        clear hnew hone
        go_wp2
        go_round
        case rel => exact ⟨true, r, i + 1, by omega, rfl, rfl, by go_num, hnew'⟩
        case measure => simp [intOf]; omega
      · by_cases g2 : v < C i
        · have hnew' : One n2 P C Q D (i + 1) l true := by simpa [g1, g2] using hnew
          clear hnew hone
          go_wp2
          go_round
          case rel => exact ⟨l, true, i + 1, by omega, rfl, rfl, by go_num, hnew'⟩
          case measure => simp [intOf]; omega
        · have hnew' : One n2 P C Q D (i + 1) l r := by simpa [g1, g2] using hnew
          clear hnew hone
          go_wp2
          go_round
          case rel => exact ⟨l, r, i + 1, by omega, rfl, rfl, by go_num, hnew'⟩
          case measure => simp [intOf]; omega
    · have e1 : i = n0 := by omega
      subst e1
      go_wp2_with fail
      go_loop [11, 12, 15] (fun less more tj => ∃ (l r : Bool) (j : Nat), j ≤ n2 ∧ less = .bool l ∧ more = .bool r ∧ tj = .int .i64 j ∧ Two i n2 P C Q D j l r) (fun _ _ tj => n2 - (intOf tj).toNat)
      case atStart => exact ⟨l, r, 0, Nat.zero_le _, rfl, rfl, rfl, two_start hone⟩
      case round =>
        obtain ⟨l', r', j, hj, rfl, rfl, rfl, htwo⟩ := hrel
        by_cases hltj : j < n2
        · obtain ⟨b2, o2, rfl, hQ⟩ := row_some s2 (by omega)
          obtain ⟨b3, o3, rfl, hDc⟩ := row_some s3 (by omega)
          have hQj := hQ j hltj
          have hDj := hDc j hltj
          have hD0 := hD j hltj
          have hDn := hs2.1 j hltj
          have hD1 : 1 ≤ D j := by omega
          clear hDn hD0
          go_wp2_with fail
          refine (lookup a0 a1 i c0 c1 (Q j) P C _ (by omega) hs1.2 (by exact s0) (by exact s1)).mono ?_
          rintro e w3 ⟨⟨v, rfl, hv⟩, rfl⟩
          have hnew := two_step htwo hltj hD1 hv
          by_cases g1 : v < D j
          · have g2 : ¬ D j < v := by omega
            have hnew' : Two i n2 P C Q D (j + 1) true r' := by simpa [g1, g2] using hnew
            clear hnew htwo hone
            go_wp2
            go_round
            case rel => exact ⟨true, r', j + 1, by omega, rfl, rfl, by go_num, hnew'⟩
            case measure => simp [intOf]; omega
          · by_cases g2 : D j < v
            · have hnew' : Two i n2 P C Q D (j + 1) l' true := by simpa [g1, g2] using hnew
              clear hnew htwo hone
              go_wp2
              go_round
              case rel => exact ⟨l', true, j + 1, by omega, rfl, rfl, by go_num, hnew'⟩
              case measure => simp [intOf]; omega
            · have hnew' : Two i n2 P C Q D (j + 1) l' r' := by simpa [g1, g2] using hnew
              clear hnew htwo hone
              go_wp2
              go_round
              case rel => exact ⟨l', r', j + 1, by omega, rfl, rfl, by go_num, hnew'⟩
              case measure => simp [intOf]; omega
        · have e2 : j = n2 := by omega
          subst e2
          have hst := two_done htwo
          clear htwo hone
          cases l' <;> cases r'
          all_goals
            go_wp2_with fail
            refine (compare _ _ i j P C Q D _ (by omega) (by omega) (by exact st1') (by exact st2) hs1.2 hs2.2).mono ?_
            rintro e w4 ⟨⟨l4, r4, rfl, hst4⟩, nq4, rfl⟩
            obtain ⟨rfl, rfl⟩ := stands_one hst hst4
            go_wp2
            go_ret
            exact ⟨rfl, below_drewN Bel2 _⟩

end Go.Proofs.Qxb6630448a
