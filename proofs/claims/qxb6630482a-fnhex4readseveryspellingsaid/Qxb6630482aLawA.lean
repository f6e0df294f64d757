/-
  THE WALK OF FnHex4MatchesDigitModel (3).
-/
import Derived.Test.Qxb6630482aWalkA
import Derived.Deep.OwnRows
import Derived.Laws.CopyOwn
namespace Go.Proofs.Qxb6630482a
open Go.RowKit Go.Proofs.Qxb6630482a.Plain

theorem Try.info5 : (Try.prog.info? 5).map (fun i => (i.zero, i.size, i.bytes)) = some (some (.int .u8 0), 1, 1) := by kernel_rfl

theorem make22 (n : Nat) (hn : n ≤ 4000000) (w : World) : (Instr.makeSlice 22 (.int .i64 (n : Int)) (.int .i64 (n : Int))).run Try.prog w =
    .ok (.slice (some ⟨w.heap.size, 0, none⟩) n n) (w.alloc (.cells (madeCells #[.int .u8 0] n) 5)) :=
  run_make_row' (P := Try.prog) 22 5 (.int .u8 0) 1 Try.underlying22 Try.info5 rfl .i64 .i64 n (by omega) (by omega) w

theorem law3_nil (w : World) : Calls Try.prog 3 #[.slice none 0 0] w fun e w' => e = .returned (.bool true) ∧ Below w.heap.size w w' := by
  have hneq := fun w => run_neq_slice_nil_any (P := Try.prog) w 22 5 none 0 0 0 0 Try.underlying22
  go_enter Try.func3, Try.ntmps3
  go_wp2_with (first | (go_at_call 5; refine (bytes5 none 0 0 _).mono ?_; rintro e w' ⟨⟨b, rfl⟩, rfl⟩; cases b) | (go_at_call 6; refine (zzhex4 none 0 0 (fun _ => 0) _ (by omega) (.inl rfl)).mono ?_; rintro e w' ⟨⟨v, r, rfl, ha⟩, rfl⟩; obtain ⟨rfl, rfl⟩ := ans_bad ha (i := 0) (by omega) (good_zero _ _) (.inl (Nat.le_refl _))))
  · go_ret; exact ⟨rfl, Below.refl _ _⟩
  refine wp_loop_rounds 1 ?_
  rw [rounds_succ]
  go_wp2
  go_ret
  exact ⟨rfl, Below.refl _ _⟩

/-- The bytes as cells. -/
def bytesOf (P : Nat → Int) (n : Nat) : List Value := (List.range n).map fun i => .int .u8 (P i)
theorem bytesOf_length (P : Nat → Int) (n : Nat) : (bytesOf P n).length = n := by simp [bytesOf]
theorem bytesOf_get {P : Nat → Int} {n j : Nat} {v : Value} (h : (bytesOf P n)[j]? = some v) : j < n ∧ v = .int .u8 (P j) := by
  by_cases hj : j < n
  · simp [bytesOf, hj] at h; exact ⟨hj, h.symm⟩
  · simp [bytesOf, hj] at h
theorem bytesOf_one (P : Nat → Int) (n : Nat) : ∀ v ∈ bytesOf P n, v.oneCell' = true := by
  intro v hv
  simp [bytesOf] at hv
  obtain ⟨i, _, rfl⟩ := hv
  rfl
theorem row_spliced {w : World} {B n : Nat} {P : Nat → Int} (h : w.heap[B]? = some (.cells (splice (madeCells #[.int .u8 0] n).toList 0 (bytesOf P n)).toArray 5 (0, 0))) (hP : ∀ i, i < n → 0 ≤ P i ∧ P i ≤ 255) :
    Row w (some ⟨B, 0, none⟩) n P := by
  refine .inr ⟨B, 0, rfl, fun i hi => ⟨?_, hP i hi⟩⟩
  have e : (splice (madeCells #[Value.int .u8 0] n).toList 0 (bytesOf P n)) = bytesOf P n := by
    simp [splice, bytesOf_length, List.drop_eq_nil_of_le, size_madeCells]
  rw [e] at h
  simp [World.cell?, h, bytesOf, hi]

theorem copied (w : World) (x : Addr) (n c : Nat) (P : Nat → Int) (hr : Row w (some x) n P) (hP : ∀ i, i < n → 0 ≤ P i ∧ P i ≤ 255) : ∃ w2 v,
    Sem.run Try.prog (Builtin.copy_ #[22, 22] 3 #[.slice (some ⟨w.heap.size, 0, none⟩) n n, .slice (some x) n c]) (w.alloc (.cells (madeCells #[.int .u8 0] n) 5)) = .ok v w2 ∧
      Row w2 (some ⟨w.heap.size, 0, none⟩) n P ∧ Below w.heap.size w w2 := by
  have hg : (w.alloc (.cells (madeCells #[.int .u8 0] n) 5)).heap[w.heap.size]? = some (.cells (madeCells #[.int .u8 0] n) 5 (0, 0)) := Go.Deep.blk_alloc_new _ _
  have hb : Below w.heap.size w (w.alloc (.cells (madeCells #[.int .u8 0] n) 5)) := (Below.refl _ _).alloc (Nat.le_refl _) _
  by_cases h0 : n = 0
  · subst h0
    exact ⟨_, _, run_copy_none (P := Try.prog) _ 22 22 3 5 _ _ 0 0 0 c Try.underlying22 (by kernel_rfl) rfl, .inl rfl, hb⟩
  · rcases hr with h | ⟨b, o, hx, hr⟩
    · exact absurd h h0
    · have hx' : x = ⟨b, o, none⟩ := by simpa using hx
      subst hx'
      have hsrc : ∀ j v, (bytesOf P n)[j]? = some v → (w.alloc (.cells (madeCells #[.int .u8 0] n) 5)).cell? (Addr.add ⟨b, o, none⟩ j) = some v := by
        intro j v hj
        obtain ⟨hjn, rfl⟩ := bytesOf_get hj
        have hcell := (hr j hjn).1
        have hlt : b < w.heap.size := by
          refine Classical.byContradiction fun hx => ?_
          have e : w.heap[b]? = none := Array.getElem?_eq_none (by omega)
          simp [World.cell?, e] at hcell
        rw [Go.WideShapes.add_plain]
        exact (hb.cell (p := ⟨b, o + j, none⟩) hlt).trans hcell
      have hrun := run_copy_row (P := Try.prog) (w.alloc (.cells (madeCells #[.int .u8 0] n) 5)) 22 22 3 5 w.heap.size 0 n n ⟨b, o, none⟩ n c (madeCells #[.int .u8 0] n) 5 (bytesOf P n) Try.underlying22 (by kernel_rfl) hg
        (by rw [bytesOf_length]; exact (Nat.min_self n).symm) hsrc (by rw [bytesOf_length, size_madeCells]; omega) (bytesOf_one P n)
      refine ⟨_, _, hrun, row_spliced ?_ hP, below_setRow hb (Nat.le_refl _) _⟩
      exact setRow_heap _ _ _ _ 5 _ hg

theorem nibbles {n : Nat} {P : Nat → Int} (h : AllDig n P 4) :
    0 ≤ val P 4 ∧ val P 4 ≤ 65535 ∧ val P 4 / 4096 % 16 = dig (P 0) ∧ val P 4 / 256 % 16 = dig (P 1) ∧ val P 4 / 16 % 16 = dig (P 2) ∧ val P 4 % 16 = dig (P 3) := by
  have h0 := (h 0 (by omega)).2
  have h1 := (h 1 (by omega)).2
  have h2 := (h 2 (by omega)).2
  have h3 := (h 3 (by omega)).2
  have g0 := (dig_le (P 0)).2
  have g1 := (dig_le (P 1)).2
  have g2 := (dig_le (P 2)).2
  have g3 := (dig_le (P 3)).2
  rw [val4]
  omega

theorem and15 (x : Int) (h0 : 0 ≤ x) (h1 : x ≤ 65535) : bits .and .i32 x 15 = x % 16 := bits_mask .i32 31 (by decide) wraps_i32 4 (by decide) x h0 (by omega)
theorem nibbles' {n : Nat} {P : Nat → Int} (h : AllDig n P 4) :
    0 ≤ val P 4 ∧ val P 4 ≤ 65535 ∧ bits .and .i32 (val P 4 / 4096) 15 = dig (P 0) ∧ bits .and .i32 (val P 4 / 256) 15 = dig (P 1) ∧ bits .and .i32 (val P 4 / 16) 15 = dig (P 2) ∧ bits .and .i32 (val P 4) 15 = dig (P 3) := by
  obtain ⟨h0, h1, f0, f1, f2, f3⟩ := nibbles h
  rw [and15 _ (by omega) (by omega), and15 _ (by omega) (by omega), and15 _ (by omega) (by omega), and15 _ (by omega) (by omega)]
  exact ⟨h0, h1, f0, f1, f2, f3⟩

theorem law3_some (x : Addr) (n c : Nat) (P : Nat → Int) (w : World) (hr : Row w (some x) n P) : Calls Try.prog 3 #[.slice (some x) n c] w fun e w' => e = .returned (.bool true) ∧ Below w.heap.size w w' := by
  by_cases t0 : (1048576 : Int) < n
  · go_enter Try.func3, Try.ntmps3
    go_wp2_with (go_at_call 5; refine (bytes5 (some x) n c _).mono ?_; rintro e w' ⟨⟨b, rfl⟩, rfl⟩; cases b)
    all_goals (go_ret; exact ⟨rfl, Below.refl _ _⟩)
  have hneq := fun w => run_neq_slice_nil_any (P := Try.prog) w 22 5 (some x) n c 0 0 Try.underlying22
  have hmk := make22 n (by omega)
  have hP : ∀ i, i < n → 0 ≤ P i ∧ P i ≤ 255 := by
    rcases hr with h | ⟨b, o, _, h⟩
    · intro i hi; omega
    · exact fun i hi => (h i hi).2
  go_enter Try.func3, Try.ntmps3
  go_wp2_with fail
  refine (bytes5 (some x) n c _).mono ?_
  rintro e w' ⟨⟨b, rfl⟩, rfl⟩
  cases b
  · go_wp2; go_ret; exact ⟨rfl, Below.refl _ _⟩
  obtain ⟨w2, vc, hcp, hrow, hbel⟩ := copied w' x n c P hr hP
  clear hr
  go_wp2_with fail
  refine (zzhex4 _ n n P _ (by omega) hrow).mono ?_
  rintro e w3 ⟨⟨v, r, rfl, ha⟩, rfl⟩
  rcases hrow with hz | ⟨b1, o1, hx1, hcell⟩
  · subst hz
    obtain ⟨rfl, rfl⟩ := ans_bad ha (i := 0) (by omega) (good_zero _ _) (.inl (Nat.le_refl _))
    go_wp2_with fail
    refine wp_loop_rounds 1 ?_
    rw [rounds_succ]
    go_wp2
    go_ret
    exact ⟨rfl, hbel⟩
  have hx2 : w'.heap.size = b1 ∧ 0 = o1 := by simpa using hx1
  obtain ⟨rfl, rfl⟩ := hx2
  clear hx1
  have hcell' : ∀ i, i < n → w3.cell? ⟨w'.heap.size, i, none⟩ = some (.int .u8 (P i)) := fun i hi => by have := (hcell i hi).1; rwa [Nat.zero_add] at this
  clear hcell
  go_wp2_with fail
  go_loop [6, 7] (fun bad ti => ∃ k : Nat, k ≤ 4 ∧ ti = .int .i64 k ∧ bad = .int .i64 (-1) ∧ AllDig n P k) (fun _ ti => 4 - (intOf ti).toNat)
  case atStart => exact ⟨0, by omega, rfl, rfl, good_zero n P⟩
  case round =>
    obtain ⟨k, hk, rfl, rfl, hg⟩ := hrel
    by_cases hlt : k < 4
    · by_cases hkn : n ≤ k
      · obtain ⟨rfl, rfl⟩ := ans_bad ha hlt hg (.inl hkn)
        go_wp2
        go_ret
        exact ⟨rfl, hbel⟩
      · have hck := hcell' k (by omega)
        by_cases hd : dig (P k) < 0
        · obtain ⟨rfl, rfl⟩ := ans_bad ha hlt hg (.inr hd)
          go_wp2_with (go_at_call 7; refine (digitOf (P k) _).mono ?_; rintro e w4 ⟨rfl, rfl⟩)
          go_ret
          exact ⟨rfl, hbel⟩
        · have hnew := good_step hg (by omega) (by omega)
          go_wp2_with (go_at_call 7; refine (digitOf (P k) _).mono ?_; rintro e w4 ⟨rfl, rfl⟩)
          go_round
          case rel => exact ⟨k + 1, by omega, by go_num, rfl, hnew⟩
          case measure => simp [intOf]; omega
    · have e : k = 4 := by omega
      subst e
      obtain ⟨rfl, rfl⟩ := ans_good ha hg
      obtain ⟨hv0, hv1, f0, f1, f2, f3⟩ := nibbles' hg
      have hn4 : 4 ≤ n := by have := hg 3 (by omega); omega
      clear ha hg hlt hk
      go_wp2_with fail
      go_loop [8] (fun ti => ∃ k : Nat, k ≤ 4 ∧ ti = .int .i64 k) (fun ti => 4 - (intOf ti).toNat)
      case atStart => exact ⟨0, by omega, rfl⟩
      case round =>
        obtain ⟨k, hk, rfl⟩ := hrel
        by_cases hlt : k < 4
        · have hk4 : k = 0 ∨ k = 1 ∨ k = 2 ∨ k = 3 := by omega
          have q0 := hcell' 0 (by omega)
          have q1 := hcell' 1 (by omega)
          have q2 := hcell' 2 (by omega)
          have q3 := hcell' 3 (by omega)
          rcases hk4 with rfl | rfl | rfl | rfl
          · obtain ⟨y0, y1⟩ := dig_le (P 0)
            go_wp2_with (go_at_call 7; refine (digitOf (P 0) _).mono ?_; rintro e w4 ⟨rfl, rfl⟩)
            go_round
            case rel => exact ⟨1, by omega, rfl⟩
            case measure => simp [intOf]
          · obtain ⟨y0, y1⟩ := dig_le (P 1)
            go_wp2_with (go_at_call 7; refine (digitOf (P 1) _).mono ?_; rintro e w4 ⟨rfl, rfl⟩)
            go_round
            case rel => exact ⟨2, by omega, rfl⟩
            case measure => simp [intOf]
          · obtain ⟨y0, y1⟩ := dig_le (P 2)
            go_wp2_with (go_at_call 7; refine (digitOf (P 2) _).mono ?_; rintro e w4 ⟨rfl, rfl⟩)
            go_round
            case rel => exact ⟨3, by omega, rfl⟩
            case measure => simp [intOf]
          · obtain ⟨y0, y1⟩ := dig_le (P 3)
            go_wp2_with (go_at_call 7; refine (digitOf (P 3) _).mono ?_; rintro e w4 ⟨rfl, rfl⟩)
            go_round
            case rel => exact ⟨4, by omega, rfl⟩
            case measure => simp [intOf]
        · go_wp2
          go_ret
          exact ⟨rfl, hbel⟩

/-- THE LAW's WALK, whatever comes in. -/
theorem law3 (a : Option Addr) (n c : Nat) (P : Nat → Int) (w : World) (hnil : a = none → n = 0 ∧ c = 0) (hr : Row w a n P) : Calls Try.prog 3 #[.slice a n c] w fun e w' => e = .returned (.bool true) ∧ Below w.heap.size w w' := by
  cases a with
  | none => obtain ⟨rfl, rfl⟩ := hnil rfl; exact law3_nil w
  | some x => exact law3_some x n c P w hr

end Go.Proofs.Qxb6630482a
