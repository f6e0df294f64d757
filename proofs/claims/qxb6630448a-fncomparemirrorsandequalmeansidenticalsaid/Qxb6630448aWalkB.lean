/-
  THE WALK OF zzBuild (7).
-/
import Derived.Test.Qxb6630448aWalkA
import Derived.Deep.OwnRows
import Derived.BigRegion
namespace Go.Proofs.Qxb6630448a
open Go.RowKit Go.Proofs.Qxb6630448a.Plain

theorem Try.info37 : (Try.prog.info? 37).map (fun i => (i.zero, i.size, i.bytes)) = some (some (.agg #[.int .u32 0, .int .u64 0]), 2, 16) := by kernel_rfl

theorem make27 (n : Nat) (hn : n ≤ 1000000) (w : World) : (Instr.makeSlice 27 (.int .i64 (n : Int)) (.int .i64 (n : Int))).run Try.prog w =
    .ok (.slice (some ⟨w.heap.size, 0, none⟩) n n) (w.alloc (.cells (madeCells #[.int .u32 0, .int .u64 0] (n * 2)) 37)) := by
  obtain ⟨i0, hi, hz0, hz1, hz2⟩ := info_parts Try.info37
  have h := run_make (P := Try.prog) w 27 37 i0 _ Try.underlying27 hi hz0 .i64 .i64 n n (by omega) (by omega) (by rw [hz2]; omega) (by omega)
  rw [hz1] at h
  simpa [Value.cells] using h

/-- A timestamp in memory: n entries, two cells each, at the head of block B. -/
def Stamp (w : World) (B n : Nat) (P C : Nat → Int) : Prop := ∀ i, i < n → w.cell? ⟨B, i * 2, none⟩ = some (.int .u32 (P i)) ∧ w.cell? ⟨B, i * 2 + 1, none⟩ = some (.int .u64 (C i))

/-- What zzBuild has laid at the head of round k. -/
def Laid (w : World) (B n : Nat) (P C : Nat → Int) (k : Nat) : Prop :=
  ∃ f, w.rowIs B 37 (n * 2) f ∧ ∀ i, i < k → f (i * 2) = .int .u32 (P i) ∧ f (i * 2 + 1) = .int .u64 (C i)

theorem laid_start (w : World) (n : Nat) (P C : Nat → Int) : Laid (w.alloc (.cells (madeCells #[.int .u32 0, .int .u64 0] (n * 2)) 37)) w.heap.size n P C 0 := by
  refine ⟨fun i => (madeCells #[.int .u32 0, .int .u64 0] (n * 2))[i]?.getD (.int .u32 0), ?_, fun i h => by omega⟩
  have h := World.rowIs_alloc w (madeCells #[.int .u32 0, .int .u64 0] (n * 2)) 37 (fun i => (madeCells #[.int .u32 0, .int .u64 0] (n * 2))[i]?.getD (.int .u32 0)) (fun i hi => by simp [hi])
  rw [size_madeCells] at h
  exact h
theorem laid_cell {w : World} {B n : Nat} {P C : Nat → Int} {k i : Nat} (h : Laid w B n P C k) (hi : i < n * 2) : (∃ v, w.cell? ⟨B, i, none⟩ = some v) ∧ w.frozen? ⟨B, i, none⟩ = false := by
  obtain ⟨f, hr, _⟩ := h
  exact ⟨⟨_, hr.cell hi⟩, hr.frozen i⟩
theorem laid_step {w : World} {B n : Nat} {P C : Nat → Int} {k : Nat} (h : Laid w B n P C k) :
    Laid ((w.setCell ⟨B, k * 2, none⟩ (.int .u32 (P k))).setCell ⟨B, k * 2 + 1, none⟩ (.int .u64 (C k))) B n P C (k + 1) := by
  obtain ⟨f, hr, hf⟩ := h
  refine ⟨_, (hr.set _ _).set _ _, fun i hi => ?_⟩
  by_cases e : i = k
  · subst e
    refine ⟨?_, ?_⟩
    · rw [if_neg (by omega), if_pos rfl]
    · rw [if_pos rfl]
  · have := hf i (by omega)
    refine ⟨?_, ?_⟩
    · rw [if_neg (by omega), if_neg (by omega)]; exact this.1
    · rw [if_neg (by omega), if_neg (by omega)]; exact this.2
theorem laid_done {w : World} {B n : Nat} {P C : Nat → Int} (h : Laid w B n P C n) : Stamp w B n P C := by
  obtain ⟨f, hr, hf⟩ := h
  intro i hi
  rw [hr.cell (by omega), hr.cell (by omega), (hf i hi).1, (hf i hi).2]
  exact ⟨rfl, rfl⟩

set_option maxHeartbeats 400000 in
theorem build_some (b0 o0 b1 o1 n c0 c1 : Nat) (P C : Nat → Int) (w : World) (hn : n ≤ 1000000) (hb0 : b0 < w.heap.size) (hb1 : b1 < w.heap.size)
    (hP : ∀ i, i < n → w.cell? ⟨b0, o0 + i, none⟩ = some (.int .u32 (P i))) (hC : ∀ i, i < n → w.cell? ⟨b1, o1 + i, none⟩ = some (.int .u64 (C i))) :
    Calls Try.prog 7 #[.slice (some ⟨b0, o0, none⟩) n c0, .slice (some ⟨b1, o1, none⟩) n c1] w fun e w' =>
      e = .returned (.slice (some ⟨w.heap.size, 0, none⟩) n n) ∧ Stamp w' w.heap.size n P C ∧ Below w.heap.size w w' ∧ w'.heap.size = w.heap.size + 1 := by
  have hmk := make27 n hn
  go_enter Try.func7, Try.ntmps7
  go_wp2
  go_loopw [6] (fun i wr => ∃ k : Nat, k ≤ n ∧ i = .int .i64 k ∧ Laid wr w.heap.size n P C k ∧ Below w.heap.size w wr ∧ wr.heap.size = w.heap.size + 1) (fun i _ => n - (intOf i).toNat)
  case atStart => exact ⟨0, Nat.zero_le _, rfl, laid_start w n P C, (Below.refl _ _).alloc (Nat.le_refl _) _, by simp⟩
  case round =>
    obtain ⟨k, hk, rfl, hlaid, hbel, hsz⟩ := hrel
    by_cases hlt : k < n
    · have hPk := (hbel.cell (p := ⟨b0, o0 + k, none⟩) hb0).trans (hP k hlt)
      have hCk := (hbel.cell (p := ⟨b1, o1 + k, none⟩) hb1).trans (hC k hlt)
      obtain ⟨⟨v0, hv0⟩, hf0⟩ := laid_cell hlaid (i := k * 2) (by omega)
      obtain ⟨⟨v1, hv1⟩, hf1⟩ := laid_cell hlaid (i := k * 2 + 1) (by omega)
      have Hsz : Hid (wr.heap.size = w.heap.size + 1) := hsz
      clear hsz
      go_wp2
      go_region
      go_wp2
      go_roundw
      case rel => exact ⟨k + 1, by omega, by go_num, laid_step hlaid, ((hbel.setCell (Nat.le_refl _) _).setCell (Nat.le_refl _) _).drew, by have := Hsz.out; simpa using this⟩
      case measure => simp [intOf]; omega
    · go_wp2
      go_ret
      have e : k = n := by omega
      subst e
      exact ⟨rfl, laid_done hlaid, hbel, hsz⟩

theorem cell_lt {w : World} {b o : Nat} {v : Value} (h : w.cell? ⟨b, o, none⟩ = some v) : b < w.heap.size := by
  refine Classical.byContradiction fun hx => ?_
  have e : w.heap[b]? = none := Array.getElem?_eq_none (by omega)
  simp [World.cell?, e] at h

/-- zzBuild, whatever comes in. -/
theorem build (a0 a1 : Option Addr) (n c0 c1 : Nat) (P C : Nat → Int) (w : World) (hn : n ≤ 1000000) (hP : Row .u32 w a0 n P) (hC : Row .u64 w a1 n C) :
    Calls Try.prog 7 #[.slice a0 n c0, .slice a1 n c1] w fun e w' =>
      e = .returned (.slice (some ⟨w.heap.size, 0, none⟩) n n) ∧ Stamp w' w.heap.size n P C ∧ Below w.heap.size w w' ∧ w'.heap.size = w.heap.size + 1 := by
  by_cases hz : n = 0
  · subst hz
    have hmk : ∀ w, (Instr.makeSlice 27 (.int .i64 0) (.int .i64 0)).run Try.prog w = .ok (.slice (some ⟨w.heap.size, 0, none⟩) 0 0) (w.alloc (.cells (madeCells #[.int .u32 0, .int .u64 0] (0 * 2)) 37)) := fun w => make27 0 hn w
    go_enter Try.func7, Try.ntmps7
    go_wp2
    refine wp_loop_rounds 1 ?_
    rw [rounds_succ]
    go_wp2
    go_ret
    exact ⟨rfl, fun i h => by omega, (Below.refl _ _).alloc (Nat.le_refl _) _, by simp⟩
  · rcases hP with h | ⟨b0, o0, rfl, hP⟩
    · exact absurd h hz
    · rcases hC with h | ⟨b1, o1, rfl, hC⟩
      · exact absurd h hz
      · exact build_some b0 o0 b1 o1 n c0 c1 P C w hn (cell_lt (hP 0 (by omega))) (cell_lt (hC 0 (by omega))) hP hC

end Go.Proofs.Qxb6630448a
