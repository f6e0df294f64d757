/-
  THE WALK OF FnHex4ReadsEverySpelling (4).
-/
import Derived.Test.Qxb6630482aSpell
namespace Go.Proofs.Qxb6630482a
open Go.RowKit Go.Proofs.Qxb6630482a.Plain

/-- A row of N bytes that the call has made, its first k cells holding 'S i'. -/
def Filled (w : World) (B N : Nat) (S : Nat → Int) (k : Nat) : Prop := ∃ f, w.rowIs B 5 N f ∧ ∀ i, i < k → f i = .int .u8 (S i)
theorem fill_start (w : World) (N : Nat) (S : Nat → Int) : Filled (w.alloc (.cells (madeCells #[.int .u8 0] N) 5)) w.heap.size N S 0 := ⟨_, World.rowIs_made w _ N 5, fun i h => by omega⟩
theorem fill_cell {w : World} {B N : Nat} {S : Nat → Int} {k i : Nat} (h : Filled w B N S k) (hi : i < N) : (∃ v, w.cell? ⟨B, i, none⟩ = some v) ∧ w.frozen? ⟨B, i, none⟩ = false := by
  obtain ⟨f, hr, _⟩ := h
  exact ⟨⟨_, hr.cell hi⟩, hr.frozen i⟩
theorem fill_step {w : World} {B N : Nat} {S : Nat → Int} {k : Nat} {v : Int} (h : Filled w B N S k) (hv : v = S k) : Filled (w.setCell ⟨B, k, none⟩ (.int .u8 v)) B N S (k + 1) := by
  obtain ⟨f, hr, hf⟩ := h
  refine ⟨_, hr.set _ _, fun i hi => ?_⟩
  by_cases e : i = k
  · subst e; rw [if_pos rfl, hv]
  · rw [if_neg e]; exact hf i (by omega)
theorem fill_put {w : World} {B N : Nat} {S : Nat → Int} {k : Nat} {x : Int} (h : Filled w B N S N) : Filled (w.setCell ⟨B, k, none⟩ (.int .u8 x)) B N (fun i => if i = k then x else S i) N := by
  obtain ⟨f, hr, hf⟩ := h
  refine ⟨_, hr.set _ _, fun i hi => ?_⟩
  by_cases e : i = k
  · subst e; show _ = Value.int .u8 (if i = i then x else S i); rw [if_pos rfl, if_pos rfl]
  · show _ = Value.int .u8 (if i = k then x else S i); rw [if_neg e, if_neg e]; exact hf i hi
theorem fill_row {w : World} {B N : Nat} {S : Nat → Int} (h : Filled w B N S N) (hS : ∀ i, i < N → 0 ≤ S i ∧ S i ≤ 255) : Row w (some ⟨B, 0, none⟩) N S := by
  obtain ⟨f, hr, hf⟩ := h
  refine .inr ⟨B, 0, rfl, fun i hi => ⟨?_, hS i hi⟩⟩
  rw [Nat.zero_add, hr.cell hi, hf i hi]
theorem fill_lt {w : World} {B N : Nat} {S : Nat → Int} {k : Nat} (h : Filled w B N S k) : B < w.heap.size := by
  obtain ⟨f, hr, _⟩ := h; exact hr.lt

/-- The spelling, as a function. -/
theorem spelt_fn {w : World} {B : Nat} {n : Int} (h : Spelt w B n 4) : ∃ S : Nat → Int, ∀ i, i < 4 → w.cell? ⟨B, i, none⟩ = some (.int .u8 (S i)) ∧ (0 ≤ S i ∧ S i ≤ 255) ∧ dig (S i) = nib n i := by
  obtain ⟨f, hr, hf⟩ := h
  refine ⟨fun i => intOf (f i), fun i hi => ?_⟩
  obtain ⟨s, e, h0, h1, hd⟩ := hf i hi
  have e2 : intOf (f i) = s := by rw [e]; rfl
  have h3 := hr.cell hi
  rw [e] at h3
  show w.cell? ⟨B, i, none⟩ = some (.int .u8 (intOf (f i))) ∧ (0 ≤ intOf (f i) ∧ intOf (f i) ≤ 255) ∧ dig (intOf (f i)) = nib n i
  rw [e2]
  exact ⟨h3, ⟨h0, h1⟩, hd⟩
theorem nib_nonneg (n : Int) (i : Nat) : 0 ≤ nib n i := by
  unfold nib; split <;> omega
theorem val_spelt {S : Nat → Int} {n : Int} (h0 : 0 ≤ n) (h1 : n ≤ 65535) (h : ∀ i, i < 4 → dig (S i) = nib n i) : val S 4 = n := by
  rw [val4, h 0 (by omega), h 1 (by omega), h 2 (by omega), h 3 (by omega)]
  show ((n / 4096 % 16 * 16 + n / 256 % 16) * 16 + n / 16 % 16) * 16 + n % 16 = n
  omega
/-- The spelling and the tail behind it. -/
def fullOf (S T : Nat → Int) (i : Nat) : Int := if i < 4 then S i else T (i - 4)

theorem fullOf_bytes {S T : Nat → Int} {m : Nat} (hS : ∀ i, i < 4 → 0 ≤ S i ∧ S i ≤ 255) (hT : ∀ i, i < m → 0 ≤ T i ∧ T i ≤ 255) : ∀ i, i < 4 + m → 0 ≤ fullOf S T i ∧ fullOf S T i ≤ 255 := by
  intro i hi
  unfold fullOf
  by_cases h : i < 4
  · rw [if_pos h]; exact hS i h
  · rw [if_neg h]; exact hT (i - 4) (by omega)
theorem fullOf_good {S T : Nat → Int} {n : Int} {m : Nat} {w : World} {B : Nat} (hS : ∀ i, i < 4 → w.cell? ⟨B, i, none⟩ = some (.int .u8 (S i)) ∧ (0 ≤ S i ∧ S i ≤ 255) ∧ dig (S i) = nib n i) : AllDig (4 + m) (fullOf S T) 4 := by
  intro k hk
  refine ⟨by omega, ?_⟩
  unfold fullOf
  rw [if_pos hk, (hS k hk).2.2]
  exact nib_nonneg n k
theorem val_full {S T : Nat → Int} {n : Int} (h0 : 0 ≤ n) (h1 : n ≤ 65535) (h : ∀ i, i < 4 → dig (S i) = nib n i) : val (fullOf S T) 4 = n := by
  refine val_spelt h0 h1 fun i hi => ?_
  unfold fullOf
  rw [if_pos hi]; exact h i hi

theorem bent_bytes {S : Nat → Int} {x : Int} {k : Nat} (h0 : 0 ≤ x) (h1 : x ≤ 255) (hS : ∀ i, i < 4 → 0 ≤ S i ∧ S i ≤ 255) : ∀ i, i < 4 → 0 ≤ (fun i => if i = k then x else S i) i ∧ (fun i => if i = k then x else S i) i ≤ 255 := by
  intro i hi
  show 0 ≤ (if i = k then x else S i) ∧ (if i = k then x else S i) ≤ 255
  by_cases e : i = k
  · rw [if_pos e]; exact ⟨h0, h1⟩
  · rw [if_neg e]; exact hS i hi
theorem bent_good {S : Nat → Int} {x : Int} {k : Nat} (hS : ∀ i, i < 4 → 0 ≤ dig (S i)) (hk : k < 4) : AllDig 4 (fun i => if i = k then x else S i) k := by
  intro i hi
  refine ⟨by omega, ?_⟩
  show 0 ≤ dig (if i = k then x else S i)
  rw [if_neg (by omega)]; exact hS i (by omega)
theorem bent_bad {S : Nat → Int} {x : Int} {k : Nat} (hx : dig x < 0) : dig ((fun i => if i = k then x else S i) k) < 0 := by
  show dig (if k = k then x else S k) < 0
  rw [if_pos rfl]; exact hx

theorem make22b (m : Nat) (hm : m ≤ 1048576) (w : World) : (Instr.makeSlice 22 (.int .i64 (4 + (m : Int))) (.int .i64 (4 + (m : Int)))).run Try.prog w =
    .ok (.slice (some ⟨w.heap.size, 0, none⟩) (4 + m) (4 + m)) (w.alloc (.cells (madeCells #[.int .u8 0] (4 + m)) 5)) := by
  have h := make22 (4 + m) (by omega) w
  have e : ((4 + m : Nat) : Int) = 4 + (m : Int) := by omega
  rw [e] at h; exact h

theorem row_lt {w : World} {a : Option Addr} {n : Nat} {P : Nat → Int} (h : Row w a n P) (hn : 0 < n) : ∃ b off, a = some ⟨b, off, none⟩ ∧ b < w.heap.size ∧ ∀ i, i < n → w.cell? ⟨b, off + i, none⟩ = some (.int .u8 (P i)) := by
  rcases h with h | ⟨b, o, rfl, h⟩
  · omega
  · refine ⟨b, o, rfl, ?_, fun i hi => (h i hi).1⟩
    have hc := (h 0 hn).1
    refine Classical.byContradiction fun hx => ?_
    have e : w.heap[b]? = none := Array.getElem?_eq_none (by omega)
    simp [World.cell?, e] at hc

set_option maxRecDepth 10000 in
set_option maxHeartbeats 2000000 in
theorem law4 (n u x : Int) (a : Option Addr) (m c : Nat) (T : Nat → Int) (w : World) (hn0 : 0 ≤ n) (hn1 : n ≤ 65535) (hx0 : 0 ≤ x) (hx1 : x ≤ 255) (hr : Row w a m T) :
    Calls Try.prog 4 #[.int .u16 n, .int .u8 u, .slice a m c, .int .u8 x] w fun e w' => e = .returned (.bool true) ∧ Below w.heap.size w w' := by
  by_cases t0 : (1048576 : Int) < m
  · go_enter Try.func4, Try.ntmps4
    go_wp2_with (go_at_call 8; refine (bytes8 n u x a m c _).mono ?_; rintro e w' ⟨⟨b, rfl⟩, rfl⟩; cases b)
    all_goals (go_ret; exact ⟨rfl, Below.refl _ _⟩)
  have hmk := make22b m (by omega)
  have hTb : ∀ i, i < m → 0 ≤ T i ∧ T i ≤ 255 := by
    rcases hr with h | ⟨b, o, _, h⟩
    · intro i hi; omega
    · exact fun i hi => (h i hi).2
  go_enter Try.func4, Try.ntmps4
  go_wp2_with fail
  refine (bytes8 n u x a m c _).mono ?_
  rintro e w' ⟨⟨b, rfl⟩, rfl⟩
  cases b
  · go_wp2; go_ret; exact ⟨rfl, Below.refl _ _⟩
  go_wp2_with fail
  refine (spell n u _ hn0 hn1).mono ?_
  rintro e w1 ⟨rfl, hsp, hbel1, hsz1⟩
  obtain ⟨S, hS⟩ := spelt_fn hsp
  have hB1 : w'.heap.size < w1.heap.size := by omega
  clear hsp hsz1
  go_wp2_with fail
  go_loopw [11] (fun ti wr => ∃ k : Nat, k ≤ 4 ∧ ti = .int .i64 k ∧ Filled wr w1.heap.size (4 + m) (fullOf S T) k ∧ Below w1.heap.size w1 wr) (fun ti _ => 4 - (intOf ti).toNat)
  case atStart => exact ⟨0, by omega, rfl, fill_start w1 (4 + m) (fullOf S T), (Below.refl _ _).alloc (Nat.le_refl _) _⟩
  case round =>
    obtain ⟨k, hk, rfl, hfil, hbel⟩ := hrel
    by_cases hlt : k < 4
    · obtain ⟨⟨v0, hv0⟩, hf0⟩ := fill_cell hfil (i := k) (by omega)
      have hSk := (hbel.cell (p := ⟨w'.heap.size, k, none⟩) hB1).trans (hS k hlt).1
      go_wp2
      go_roundw
      case rel => exact ⟨k + 1, by omega, by go_num, fill_step hfil (by unfold fullOf; rw [if_pos hlt]), hbel.setCell (Nat.le_refl _) _⟩
      case measure => simp [intOf]; omega
    · have e : k = 4 := by omega
      subst e
      go_wp2_with fail
      clear hlt hk
      go_loopw [12] (fun ti wr => ∃ k : Nat, k ≤ m ∧ ti = .int .i64 k ∧ Filled wr w1.heap.size (4 + m) (fullOf S T) (4 + k) ∧ Below w1.heap.size w1 wr) (fun ti _ => m - (intOf ti).toNat)
      case atStart => exact ⟨0, by omega, rfl, hfil, hbel⟩
      case round =>
        obtain ⟨k, hk, rfl, hfil2, hbel2⟩ := hrel
        clear hfil hbel
        by_cases hlt : k < m
        · obtain ⟨⟨v0, hv0⟩, hf0⟩ := fill_cell hfil2 (i := 4 + k) (by omega)
          obtain ⟨bt, ot, rfl, hbt, hT⟩ := row_lt hr (by omega)
          have hTk := (((hbel1.trans (hbel2.mono hbel1.size)).cell (p := ⟨bt, ot + k, none⟩) hbt)).trans (hT k hlt)
          go_wp2
          go_roundw
          case rel => exact ⟨k + 1, by omega, by go_num, fill_step hfil2 (by unfold fullOf; rw [if_neg (by omega)]; congr 1; omega), hbel2.setCell (Nat.le_refl _) _⟩
          case measure => simp [intOf]; omega
        · have e : k = m := by omega
          subst e
          go_wp2_with fail
          refine (zzhex4 _ (4 + k) (4 + k) (fullOf S T) _ (by omega) (fill_row hfil2 (fullOf_bytes (fun i hi => (hS i hi).2.1) hTb))).mono ?_
          rintro e w3 ⟨⟨v, r, rfl, ha⟩, rfl⟩
          obtain ⟨rfl, rfl⟩ := ans_good ha (fullOf_good hS)
          clear ha hfil2
          have hval := val_full (T := T) hn0 hn1 (fun i hi => (hS i hi).2.2)
          by_cases hxb : dig x < 0
          · go_wp2_with (go_at_call 7; refine (digitOf x _).mono ?_; rintro e w4 ⟨rfl, rfl⟩)
            clear hval hmk hlt hk
            have hS' : ∀ i, i < 4 → 0 ≤ S i ∧ S i ≤ 255 := fun i hi => (hS i hi).2.1
            have hSd : ∀ i, i < 4 → 0 ≤ dig (S i) := fun i hi => by rw [(hS i hi).2.2]; exact nib_nonneg n i
            have hSc : ∀ i, i < 4 → w1.cell? ⟨w'.heap.size, i, none⟩ = some (.int .u8 (S i)) := fun i hi => (hS i hi).1
            clear hS hTb hr t0
            have hmk4 : ∀ w, (Instr.makeSlice 22 (.int .i64 4) (.int .i64 4)).run Try.prog w = .ok (.slice (some ⟨w.heap.size, 0, none⟩) 4 4) (w.alloc (.cells (madeCells #[.int .u8 0] 4) 5)) := fun w => make22 4 (by omega) w
            go_loopw [16] (fun ti wr => ∃ q : Nat, q ≤ 4 ∧ ti = .int .i64 q ∧ Below w1.heap.size w1 wr) (fun ti _ => 4 - (intOf ti).toNat)
            case atStart => exact ⟨0, by omega, rfl, hbel2⟩
            case round =>
              clear hbel2
              obtain ⟨q, hq, rfl, hbel3⟩ := hrel
              by_cases hlt : q < 4
              · have hmkq := make22 q (by omega)
                go_wp2_with fail
                go_loopw [18] (fun ti wi => ∃ j : Nat, j ≤ q ∧ ti = .int .i64 j ∧ Filled wi wr.heap.size q S j ∧ Below wr.heap.size wr wi) (fun ti _ => q - (intOf ti).toNat)
                case atStart => exact ⟨0, by omega, rfl, fill_start wr q S, (Below.refl _ _).alloc (Nat.le_refl _) _⟩
                case round =>
                  obtain ⟨j, hj, rfl, hfil, hbel4⟩ := hrel
                  have hbel5 := hbel3.trans (hbel4.mono hbel3.size)
                  by_cases hltj : j < q
                  · obtain ⟨⟨v0, hv0⟩, hf0⟩ := fill_cell hfil (i := j) hltj
                    have hSj := (hbel5.cell (p := ⟨w'.heap.size, j, none⟩) hB1).trans (hSc j (by omega))
                    clear hmkq hmk4
                    go_wp2
                    go_roundw
                    case rel => exact ⟨j + 1, by omega, by go_num, fill_step hfil rfl, hbel4.setCell (Nat.le_refl _) _⟩
                    case measure => simp [intOf]; omega
                  · have e : j = q := by omega
                    subst e
                    go_wp2_with fail
                    refine (zzhex4 _ j j S _ (by omega) (fill_row hfil (fun i hi => hS' i (by omega)))).mono ?_
                    rintro e w5 ⟨⟨v, r, rfl, ha⟩, rfl⟩
                    obtain ⟨rfl, rfl⟩ := ans_bad ha hlt (fun i hi => ⟨hi, hSd i (by omega)⟩) (.inl (Nat.le_refl _))
                    clear ha hfil hmkq
                    go_wp2_with fail
                    go_loopw [22] (fun ti wi => ∃ i : Nat, i ≤ 4 ∧ ti = .int .i64 i ∧ Filled wi w5.heap.size 4 S i ∧ Below w5.heap.size w5 wi) (fun ti _ => 4 - (intOf ti).toNat)
                    case atStart => exact ⟨0, by omega, rfl, fill_start w5 4 S, (Below.refl _ _).alloc (Nat.le_refl _) _⟩
                    case round =>
                      obtain ⟨i, hi, rfl, hfil, hbel6⟩ := hrel
                      have hbel7 := hbel5.trans (hbel6.mono hbel5.size)
                      clear hmk4
                      by_cases hlti : i < 4
                      · obtain ⟨⟨v0, hv0⟩, hf0⟩ := fill_cell hfil (i := i) hlti
                        have hSi := (hbel7.cell (p := ⟨w'.heap.size, i, none⟩) hB1).trans (hSc i hlti)
                        go_wp2
                        go_roundw
                        case rel => exact ⟨i + 1, by omega, by go_num, fill_step hfil rfl, hbel6.setCell (Nat.le_refl _) _⟩
                        case measure => simp [intOf]; omega
                      · have e : i = 4 := by omega
                        subst e
                        obtain ⟨⟨v0, hv0⟩, hf0⟩ := fill_cell hfil (i := j) hlt
                        have hput := fill_put (k := j) (x := x) hfil
                        have hrow := fill_row hput (bent_bytes hx0 hx1 hS')
                        have hbel8 := hbel7.setCell (p := ⟨w5.heap.size, j, none⟩) hbel5.size (.int .u8 x)
                        clear hfil hput
                        go_wp2_with fail
                        refine (zzhex4 _ 4 4 _ _ (by omega) hrow).mono ?_
                        rintro e w6 ⟨⟨v, r, rfl, ha⟩, rfl⟩
                        obtain ⟨rfl, rfl⟩ := ans_bad ha hlt (bent_good hSd hlt) (.inr (bent_bad hxb))
                        clear ha
                        go_wp2
                        go_roundw
                        case rel => exact ⟨j + 1, by omega, by go_num, hbel8⟩
                        case measure => simp [intOf]; omega
              · go_wp2
                go_ret
                exact ⟨rfl, hbel1.trans (hbel3.mono hbel1.size)⟩
          · go_wp2_with (go_at_call 7; refine (digitOf x _).mono ?_; rintro e w4 ⟨rfl, rfl⟩)
            clear hval hmk hlt hk
            have hS' : ∀ i, i < 4 → 0 ≤ S i ∧ S i ≤ 255 := fun i hi => (hS i hi).2.1
            have hSd : ∀ i, i < 4 → 0 ≤ dig (S i) := fun i hi => by rw [(hS i hi).2.2]; exact nib_nonneg n i
            have hSc : ∀ i, i < 4 → w1.cell? ⟨w'.heap.size, i, none⟩ = some (.int .u8 (S i)) := fun i hi => (hS i hi).1
            clear hS hTb hr t0
            have hmk4 : ∀ w, (Instr.makeSlice 22 (.int .i64 4) (.int .i64 4)).run Try.prog w = .ok (.slice (some ⟨w.heap.size, 0, none⟩) 4 4) (w.alloc (.cells (madeCells #[.int .u8 0] 4) 5)) := fun w => make22 4 (by omega) w
            go_loopw [16] (fun ti wr => ∃ q : Nat, q ≤ 4 ∧ ti = .int .i64 q ∧ Below w1.heap.size w1 wr) (fun ti _ => 4 - (intOf ti).toNat)
            case atStart => exact ⟨0, by omega, rfl, hbel2⟩
            case round =>
              clear hbel2
              obtain ⟨q, hq, rfl, hbel3⟩ := hrel
              by_cases hlt : q < 4
              · have hmkq := make22 q (by omega)
                go_wp2_with fail
                go_loopw [18] (fun ti wi => ∃ j : Nat, j ≤ q ∧ ti = .int .i64 j ∧ Filled wi wr.heap.size q S j ∧ Below wr.heap.size wr wi) (fun ti _ => q - (intOf ti).toNat)
                case atStart => exact ⟨0, by omega, rfl, fill_start wr q S, (Below.refl _ _).alloc (Nat.le_refl _) _⟩
                case round =>
                  obtain ⟨j, hj, rfl, hfil, hbel4⟩ := hrel
                  have hbel5 := hbel3.trans (hbel4.mono hbel3.size)
                  by_cases hltj : j < q
                  · obtain ⟨⟨v0, hv0⟩, hf0⟩ := fill_cell hfil (i := j) hltj
                    have hSj := (hbel5.cell (p := ⟨w'.heap.size, j, none⟩) hB1).trans (hSc j (by omega))
                    clear hmkq hmk4
                    go_wp2
                    go_roundw
                    case rel => exact ⟨j + 1, by omega, by go_num, fill_step hfil rfl, hbel4.setCell (Nat.le_refl _) _⟩
                    case measure => simp [intOf]; omega
                  · have e : j = q := by omega
                    subst e
                    go_wp2_with fail
                    refine (zzhex4 _ j j S _ (by omega) (fill_row hfil (fun i hi => hS' i (by omega)))).mono ?_
                    rintro e w5 ⟨⟨v, r, rfl, ha⟩, rfl⟩
                    obtain ⟨rfl, rfl⟩ := ans_bad ha hlt (fun i hi => ⟨hi, hSd i (by omega)⟩) (.inl (Nat.le_refl _))
                    clear ha hfil hmkq
                    go_wp2_with fail
                    go_roundw
                    case rel => exact ⟨j + 1, by omega, by go_num, hbel5⟩
                    case measure => simp [intOf]; omega
              · go_wp2
                go_ret
                exact ⟨rfl, hbel1.trans (hbel3.mono hbel1.size)⟩

end Go.Proofs.Qxb6630482a
