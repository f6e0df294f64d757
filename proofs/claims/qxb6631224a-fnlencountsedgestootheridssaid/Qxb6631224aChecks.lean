/-
  THE WALKS OF zzPairsFit (7), zzMakersOrdered (9), zzGrouped (10).
-/
import Derived.Test.Qxb6631224aPlain
import Derived.BigRegion
namespace Go.Proofs.Qxb6631224a
open Go.RowKit

/-! ### zzPairsFit -/
def PairsAns (e : Ending) : Prop := ∃ b, e = .returned (.bool b)
def AnInt (v : Value) : Prop := ∃ z, v = .int .i64 z
set_option maxRecDepth 10000 in
set_option maxHeartbeats 1000000 in
theorem pairsFit (a2 : Option Addr) (n2 c2 : Nat) (lm : Nat → Nat) (M : Nat → Nat → Int) (lh : Nat → Nat) (H : Nat → Nat → Int) (w : World) (hn2 : n2 ≤ 131072) (r2 : BeqRow w a2 n2 lm M lh H) :
    Calls Try.prog 7 #[.slice a2 n2 c2] w fun e w' => PairsAns e ∧ w' = w := by
  go_enter Try.func7, Try.ntmps7
  go_wp2_with fail
  go_loop [3, 4] (fun ts ti => ∃ k : Nat, k ≤ n2 ∧ ti = .int .i64 k ∧ AnInt ts) (fun _ ti => n2 - (intOf ti).toNat)
  case atStart => exact ⟨0, by omega, rfl, ⟨_, rfl⟩⟩
  case round =>
    obtain ⟨k, hk, rfl, z, rfl⟩ := hrel
    by_cases hlt : k < n2
    · obtain ⟨b, o, rfl, s, am, cm, ah, ch, h0, h1, h2, ⟨_, _, hl3⟩, h6, _, hl4⟩ := beq_at r2 hlt
      clear r2 h6
      by_cases hp : 0 < lh k
      · have hp2 : ((lh k : Int) == 0) = false := by simp; omega
        go_wp2
        all_goals first | (go_ret; exact ⟨⟨_, rfl⟩, rfl⟩) | (go_round; (case rel => exact ⟨k + 1, by omega, by go_num, ⟨_, rfl⟩⟩); (case measure => simp [intOf]; omega))
      · go_wp2
        all_goals first | (go_ret; exact ⟨⟨_, rfl⟩, rfl⟩) | (go_round; (case rel => exact ⟨k + 1, by omega, by go_num, ⟨_, rfl⟩⟩); (case measure => simp [intOf]; omega))
    · go_wp2
      go_ret; exact ⟨⟨_, rfl⟩, rfl⟩

/-! ### zzMakersOrdered -/
def MakersAns (n : Nat) (lm : Nat → Nat) (M : Nat → Nat → Int) (k : Nat) (e : Ending) : Prop := ∃ b, e = .returned (.bool b) ∧ (b = true → MakersIn n lm M k)
theorem makers_no (n : Nat) (lm : Nat → Nat) (M : Nat → Nat → Int) (k : Nat) : MakersAns n lm M k (.returned (.bool false)) := ⟨false, rfl, fun h => by cases h⟩
def MakersTo (n : Nat) (M : Nat → Int) (m : Nat) : Prop := (∀ j, j < m → 0 ≤ M j ∧ M j < n) ∧ Rising M m
theorem makersTo_zero (n : Nat) (M : Nat → Int) : MakersTo n M 0 := ⟨fun j h => by omega, fun j h => by omega⟩
theorem makersTo_step {n : Nat} {M : Nat → Int} {m : Nat} (h : MakersTo n M m) (h0 : 0 ≤ M m) (h1 : M m < n) (h2 : m = 0 ∨ M (m - 1) ≤ M m) : MakersTo n M (m + 1) := by
  refine ⟨fun j hj => ?_, fun j hj => ?_⟩
  · by_cases e : j = m
    · rw [e]; exact ⟨h0, h1⟩
    · exact h.1 j (by omega)
  · by_cases e : j + 1 = m
    · rcases h2 with h2 | h2
      · omega
      · have e2 : m - 1 = j := by omega
        rw [e2] at h2; rw [e]; exact h2
    · exact h.2 j (by omega)
theorem makersIn_step {n : Nat} {lm : Nat → Nat} {M : Nat → Nat → Int} {k : Nat} (h : MakersIn n lm M k) (h1 : MakersTo n (M k) (lm k)) : MakersIn n lm M (k + 1) := by
  intro i hi
  by_cases e : i = k
  · rw [e]; exact h1
  · exact h i (by omega)

set_option maxRecDepth 10000 in
set_option maxHeartbeats 2000000 in
theorem makersOrdered (n : Nat) (a2 : Option Addr) (n2 c2 : Nat) (lm : Nat → Nat) (M : Nat → Nat → Int) (lh : Nat → Nat) (H : Nat → Nat → Int) (w : World) (hn2 : n2 ≤ 131072) (hsm : Small lm lh n2) (r2 : BeqRow w a2 n2 lm M lh H) :
    Calls Try.prog 9 #[.int .i64 n, .slice a2 n2 c2] w fun e w' => MakersAns n lm M n2 e ∧ ∃ nq, w' = w.drewN nq := by
  go_enter Try.func9, Try.ntmps9
  go_wp2_with fail
  go_loopw [5] (fun ti wr => ∃ k q : Nat, k ≤ n2 ∧ ti = .int .i64 k ∧ wr = w.drewN q ∧ MakersIn n lm M k) (fun ti _ => n2 - (intOf ti).toNat)
  case atStart => exact ⟨0, 0, by omega, rfl, rfl, fun i h => by omega⟩
  case round =>
    obtain ⟨k, q, hk, rfl, rfl, hin⟩ := hrel
    by_cases hlt : k < n2
    · obtain ⟨b, o, rfl, s, am, cm, ah, ch, h0, h1, h2, ⟨hM, _, hl3⟩, h6, _, hl4⟩ := beq_at r2 hlt
      have hlm := (hsm k hlt).1
      clear r2 h6 hsm
      go_wp2_with fail
      go_loopw [7] (fun ti wr => ∃ j q : Nat, j ≤ lm k ∧ ti = .int .i64 j ∧ wr = w.drewN q ∧ MakersTo n (M k) j) (fun ti _ => lm k - (intOf ti).toNat)
      case atStart => exact ⟨0, q, by omega, rfl, rfl, makersTo_zero n (M k)⟩
      case round =>
        obtain ⟨j, q2, hj, rfl, rfl, hto⟩ := hrel
        by_cases hltj : j < lm k
        · obtain ⟨bm, om, rfl, hMc⟩ := int_at hM (by omega)
          have g0 := hMc j hltj
          by_cases y0 : M k j < 0
          · go_wp2
            go_ret; exact ⟨makers_no _ _ _ _, _, rfl⟩
          by_cases y1 : (n : Int) ≤ M k j
          · go_wp2
            go_ret; exact ⟨makers_no _ _ _ _, _, rfl⟩
          by_cases hj0 : 0 < j
          · have g1 := hMc (j - 1) (by omega)
            have p1 : (0 : Int) ≤ (j : Int) - 1 := by omega
            have p2 : (j : Int) - 1 < (lm k : Int) := by omega
            have qw : IntKind.i64.wrap ((j : Int) - 1) = (j : Int) - 1 := by rw [IntKind.wrap_i64]; omega
            by_cases y2 : M k j < M k (j - 1)
            · clear hM hMc
              go_wp2_with fail
              go_big_region
              go_wp2
              go_ret; exact ⟨makers_no _ _ _ _, _, rfl⟩
            · have hto' := makersTo_step hto (by omega) (by omega) (.inr (by omega))
              clear hM hMc
              go_wp2_with fail
              go_big_region
              go_wp2
              go_roundw
              case rel => exact ⟨j + 1, q2 + 1, by omega, by go_num, rfl, hto'⟩
              case measure => simp [intOf]; omega
          · have hd : decide (0 < j) = false := decide_eq_false hj0
            have hto' := makersTo_step hto (by omega) (by omega) (.inl (by omega))
            have hj1 : Hid (¬ 0 < j) := hj0
            clear hM hMc hj0
            go_wp2_with fail
            go_big_region
            go_wp2
            go_roundw
            case rel => exact ⟨j + 1, q2 + 1, by omega, by go_num, rfl, hto'⟩
            case measure => simp [intOf]; omega
        · have e : j = lm k := by omega
          have hin' := makersIn_step hin (by rw [← e]; exact hto)
          clear e
          go_wp2
          go_roundw
          case rel => exact ⟨k + 1, q2, by omega, by go_num, rfl, hin'⟩
          case measure => simp [intOf]; omega
    · go_wp2
      go_ret
      have e : k = n2 := by omega
      subst e
      exact ⟨⟨true, rfl, fun _ => hin⟩, _, rfl⟩

/-! ### zzGrouped -/
theorem guard38 : Try.prog.eqGuardType Try.prog.depth 38 = false := by kernel_rfl
theorem held38 : Try.prog.stoodInHeld 38 = false := by kernel_rfl
theorem equal38 (I : Nat → Nat → ByteArray) (a b : Nat) (w : World) : (Op.equalIn 10000 38 (.agg #[.string (I a 0), .string (I a 1), .string (I a 2), .string (I a 3)]) (.agg #[.string (I b 0), .string (I b 1), .string (I b 2), .string (I b 3)])).run Try.prog w = .ok (sameId I a b) w := by
  have hu := Try.underlying38
  have hh := held38
  have h9 := Try.underlying9
  rw [run_equalIn_struct w 9999 38 _ _ (by rw [Program.fieldsOf, Try.underlying38]) held38]
  simp only [Program.fieldsOf, Try.underlying38, sameId]
  go_simp
  by_cases h0 : (I a 0).toList = (I b 0).toList
  · by_cases h1 : (I a 1).toList = (I b 1).toList
    · by_cases h2 : (I a 2).toList = (I b 2).toList
      · by_cases h3 : (I a 3).toList = (I b 3).toList
        · simp [h0, h1, h2, h3]
        · simp [h0, h1, h2, h3]
      · simp [h0, h1, h2]
    · simp [h0, h1]
  · simp [h0]
theorem eql38 (I : Nat → Nat → ByteArray) (a b : Nat) (w : World) : (binOp .eql 38 (.agg #[.string (I a 0), .string (I a 1), .string (I a 2), .string (I a 3)]) (.agg #[.string (I b 0), .string (I b 1), .string (I b 2), .string (I b 3)])).run Try.prog w = .ok (.bool (sameId I a b)) w := by
  rw [run_eql_struct, equal38]; rfl
theorem neq38 (I : Nat → Nat → ByteArray) (a b : Nat) (w : World) : (binOp .neq 38 (.agg #[.string (I a 0), .string (I a 1), .string (I a 2), .string (I a 3)]) (.agg #[.string (I b 0), .string (I b 1), .string (I b 2), .string (I b 3)])).run Try.prog w = .ok (.bool (!sameId I a b)) w := by
  rw [run_neq_struct, equal38]; rfl

def GroupedAns (I : Nat → Nat → ByteArray) (n : Nat) (e : Ending) : Prop := ∃ b, e = .returned (.bool b) ∧ (b = true → Grouped I n)
theorem grouped_no (I : Nat → Nat → ByteArray) (n : Nat) : GroupedAns I n (.returned (.bool false)) := ⟨false, rfl, fun h => by cases h⟩
theorem grouped_one (I : Nat → Nat → ByteArray) : Grouped I 1 := fun j h1 h2 => by omega
theorem grouped_same {I : Nat → Nat → ByteArray} {j : Nat} (h : Grouped I j) (hs : sameId I j (j - 1) = true) : Grouped I (j + 1) := by
  intro m h1 h2 hd i hi
  by_cases e : m = j
  · rw [e, hs] at hd; cases hd
  · exact h m h1 (by omega) hd i hi
def NoneOf (I : Nat → Nat → ByteArray) (j m : Nat) : Prop := ∀ i, i < m → sameId I i j = false
theorem noneOf_step {I : Nat → Nat → ByteArray} {j m : Nat} (h : NoneOf I j m) (hs : sameId I m j = false) : NoneOf I j (m + 1) := by
  intro i hi
  by_cases e : i = m
  · rw [e]; exact hs
  · exact h i (by omega)
theorem grouped_other {I : Nat → Nat → ByteArray} {j m : Nat} (h : Grouped I j) (hn : NoneOf I j m) (hm : ¬ m + 1 < j) : Grouped I (j + 1) := by
  intro t h1 h2 hd i hi
  by_cases e : t = j
  · subst e; exact hn i (by omega)
  · exact h t h1 (by omega) hd i hi

set_option maxRecDepth 10000 in
set_option maxHeartbeats 2000000 in
theorem grouped (a0 : Option Addr) (n c0 : Nat) (I : Nat → Nat → ByteArray) (w : World) (hn : n ≤ 131072) (r0 : IdsRow w a0 n I) :
    Calls Try.prog 10 #[.slice a0 n c0] w fun e w' => GroupedAns I n e ∧ ∃ nq, w' = w.drewN nq := by
  by_cases hn1 : n ≤ 1
  · go_enter Try.func10, Try.ntmps10
    go_wp2_with fail
    refine wp_loop_rounds 1 ?_
    rw [rounds_succ]
    go_wp2
    go_ret
    exact ⟨⟨true, rfl, fun _ j h1 h2 => by omega⟩, 0, rfl⟩
  obtain ⟨bi, oi, rfl, hid⟩ := ids_all r0 (by omega)
  clear r0
  go_enter Try.func10, Try.ntmps10
  go_wp2_with fail
  go_loopw [3] (fun ti wr => ∃ j q : Nat, 1 ≤ j ∧ j ≤ n ∧ ti = .int .i64 j ∧ wr = w.drewN q ∧ Grouped I j) (fun ti _ => n - (intOf ti).toNat)
  case atStart => exact ⟨1, 0, by omega, by omega, rfl, rfl, grouped_one I⟩
  case round =>
    obtain ⟨j, q, hj1, hj, rfl, rfl, hgr⟩ := hrel
    by_cases hlt : j < n
    · obtain ⟨x0, x1, x2, x3⟩ := hid j hlt
      obtain ⟨y0, y1, y2, y3⟩ := hid (j - 1) (by omega)
      have p1 : (0 : Int) ≤ (j : Int) - 1 := by omega
      have p2 : (j : Int) - 1 < (n : Int) := by omega
      have p3 : (j : Int) < (n : Int) := by omega
      have qw : IntKind.i64.wrap ((j : Int) - 1) = (j : Int) - 1 := by rw [IntKind.wrap_i64]; omega
      have heq := neq38 I j (j - 1)
      have hgd := guard38
      by_cases hs : sameId I j (j - 1) = true
      · have hgr' := grouped_same hgr hs
        clear hid
        go_wp2_with fail
        go_big_region
        go_wp2
        go_roundw
        case rel => exact ⟨j + 1, q + 1, by omega, by omega, by go_num, rfl, hgr'⟩
        case measure => simp [intOf]; omega
      · have hs' : sameId I j (j - 1) = false := by simpa using hs
        clear hs
        go_wp2_with fail
        go_big_region
        clear y0 y1 y2 y3 p1 p2 qw heq hs'
        go_wp2_with fail
        go_loopw [4] (fun ti wr => ∃ i q : Nat, i ≤ j ∧ ti = .int .i64 i ∧ wr = w.drewN q ∧ NoneOf I j i) (fun ti _ => j - (intOf ti).toNat)
        case atStart => exact ⟨0, q + 1, by omega, rfl, rfl, fun i h => by omega⟩
        case round =>
          obtain ⟨i, q2, hi, rfl, rfl, hno⟩ := hrel
          by_cases hlti : i + 1 < j
          · obtain ⟨y0, y1, y2, y3⟩ := hid i (by omega)
            have p4 : (i : Int) < (n : Int) := by omega
            have heq := eql38 I i j
            by_cases hs : sameId I i j = true
            · clear hid
              go_wp2_with fail
              go_big_region
              go_wp2
              go_ret; exact ⟨grouped_no _ _, _, rfl⟩
            · have hs' : sameId I i j = false := by simpa using hs
              have hno' := noneOf_step hno hs'
              clear hs hid
              go_wp2_with fail
              go_big_region
              go_wp2
              go_roundw
              case rel => exact ⟨i + 1, q2 + 1, by omega, by go_num, rfl, hno'⟩
              case measure => simp [intOf]; omega
          · have hgr' := grouped_other hgr hno hlti
            clear hid
            go_wp2
            go_roundw
            case rel => exact ⟨j + 1, q2, by omega, by omega, by go_num, rfl, hgr'⟩
            case measure => simp [intOf]; omega
    · go_wp2
      go_ret
      have e : j = n := by omega
      subst e
      exact ⟨⟨true, rfl, fun _ => hgr⟩, _, rfl⟩

end Go.Proofs.Qxb6631224a
