/-
  zzGraph (11): what is told of the memory that it makes; the plain laws on it.
-/
import Derived.Test.Qxb6631224aSearch
namespace Go.Proofs.Qxb6631224a
open Go.RowKit

/-! ### The makes -/
theorem Try.info55 : (Try.prog.info? 55).map (fun i => (i.zero, i.size, i.bytes)) = some (some (.agg #[.string ⟨#[]⟩, .string ⟨#[]⟩, .string ⟨#[]⟩, .string ⟨#[]⟩]), 4, 64) := by kernel_rfl
theorem Try.info59 : (Try.prog.info? 59).map (fun i => (i.zero, i.size, i.bytes)) = some (some (.agg #[.string ⟨#[]⟩, .string ⟨#[]⟩, .string ⟨#[]⟩, .string ⟨#[]⟩, .string ⟨#[]⟩, .string ⟨#[]⟩, .string ⟨#[]⟩, .string ⟨#[]⟩, .string ⟨#[]⟩, .string ⟨#[]⟩, .bool false, .bool false, .string ⟨#[]⟩]), 13, 184) := by kernel_rfl
theorem Try.info63 : (Try.prog.info? 63).map (fun i => (i.zero, i.size, i.bytes)) = some (some (.agg #[.string ⟨#[]⟩, .slice none 0 0, .slice none 0 0]), 3, 64) := by kernel_rfl
theorem Try.info61 : (Try.prog.info? 61).map (fun i => (i.zero, i.size, i.bytes)) = some (some (.agg #[.int .i64 0, .string ⟨#[]⟩]), 2, 24) := by kernel_rfl
theorem Try.info3 : (Try.prog.info? 3).map (fun i => (i.zero, i.size, i.bytes)) = some (some (.int .i64 0), 1, 8) := by kernel_rfl

/-- A row that has just been made: of it only the length is told. -/
def AnyRow (w : World) (B t N : Nat) : Prop := ∃ f, w.rowIs B t N f
theorem any_made (w : World) (z : Array Value) (N t : Nat) : AnyRow (w.alloc (.cells (madeCells z N) t)) w.heap.size t N := by
  have h := World.rowIs_alloc w (madeCells z N) t (fun i => (madeCells z N)[i]?.getD (.int .i64 0)) (fun i hi => by simp [hi])
  rw [size_madeCells] at h
  exact ⟨_, h⟩
theorem any_cell {w : World} {B t N i : Nat} (h : AnyRow w B t N) (hi : i < N) : ∃ v, w.cell? ⟨B, i, none⟩ = some v := by obtain ⟨f, h⟩ := h; exact ⟨_, h.cell hi⟩
theorem any_frozen {w : World} {B t N : Nat} (h : AnyRow w B t N) (i : Nat) : w.frozen? ⟨B, i, none⟩ = false := by obtain ⟨f, h⟩ := h; exact h.frozen i
theorem any_lt {w : World} {B t N : Nat} (h : AnyRow w B t N) : B < w.heap.size := by obtain ⟨f, h⟩ := h; exact h.lt
theorem any_alloc {w : World} {B t N : Nat} (h : AnyRow w B t N) (o : Obj) : AnyRow (w.alloc o) B t N := by obtain ⟨f, h⟩ := h; exact ⟨_, h.alloc o⟩
theorem any_set {w : World} {B t N : Nat} (h : AnyRow w B t N) (i : Nat) (v : Value) : AnyRow (w.setCell ⟨B, i, none⟩ v) B t N := by obtain ⟨f, h⟩ := h; exact ⟨_, h.set i v⟩
theorem any_drewN {w : World} {B t N : Nat} (h : AnyRow w B t N) (k : Nat) : AnyRow (w.drewN k) B t N := by obtain ⟨f, h⟩ := h; exact ⟨_, h.of_block rfl⟩
theorem any_below {w w' : World} {B t N X : Nat} (h : AnyRow w B t N) (hb : Below X w w') (hB : B < X) : AnyRow w' B t N := by obtain ⟨f, h⟩ := h; exact ⟨_, h.of_block (hb.block B hB)⟩

theorem makeOf {t e : TypeId} {z : Value} {size bytes : Nat} (ht : Try.prog.underlying t = some (.slice e)) (hi : (Try.prog.info? e).map (fun i => (i.zero, i.size, i.bytes)) = some (some z, size, bytes)) (hb : bytes ≤ 1000) (n : Nat) (hn : n ≤ 131072) (w : World) :
    (Instr.makeSlice t (.int .i64 (n : Int)) (.int .i64 (n : Int))).run Try.prog w = .ok (.slice (some ⟨w.heap.size, 0, none⟩) n n) (w.alloc (.cells (madeCells z.cells (n * size)) e)) := by
  obtain ⟨i0, hi, hz0, hz1, hz2⟩ := info_parts hi
  have hbn : (i0.bytes : Int) * (n : Int) ≤ 1000 * 131072 := Int.mul_le_mul (by omega) (by omega) (by omega) (by omega)
  have h := run_make (P := Try.prog) w t e i0 z ht hi hz0 .i64 .i64 n n (by omega) (by omega) (by omega) (by omega)
  rw [hz1] at h
  simpa using h
theorem make47 (n : Nat) (hn : n ≤ 131072) (w : World) : (Instr.makeSlice 47 (.int .i64 (n : Int)) (.int .i64 (n : Int))).run Try.prog w = .ok (.slice (some ⟨w.heap.size, 0, none⟩) n n) (w.alloc (.cells (madeCells #[.string ⟨#[]⟩, .string ⟨#[]⟩, .string ⟨#[]⟩, .string ⟨#[]⟩] (n * 4)) 55)) := makeOf Try.underlying47 Try.info55 (by omega) n hn w
theorem make48 (n : Nat) (hn : n ≤ 131072) (w : World) : (Instr.makeSlice 48 (.int .i64 (n : Int)) (.int .i64 (n : Int))).run Try.prog w = .ok (.slice (some ⟨w.heap.size, 0, none⟩) n n) (w.alloc (.cells (madeCells #[.string ⟨#[]⟩, .string ⟨#[]⟩, .string ⟨#[]⟩, .string ⟨#[]⟩, .string ⟨#[]⟩, .string ⟨#[]⟩, .string ⟨#[]⟩, .string ⟨#[]⟩, .string ⟨#[]⟩, .string ⟨#[]⟩, .bool false, .bool false, .string ⟨#[]⟩] (n * 13)) 59)) := makeOf Try.underlying48 Try.info59 (by omega) n hn w
theorem make49 (n : Nat) (hn : n ≤ 131072) (w : World) : (Instr.makeSlice 49 (.int .i64 (n : Int)) (.int .i64 (n : Int))).run Try.prog w = .ok (.slice (some ⟨w.heap.size, 0, none⟩) n n) (w.alloc (.cells (madeCells #[.string ⟨#[]⟩, .slice none 0 0, .slice none 0 0] (n * 3)) 63)) := makeOf Try.underlying49 Try.info63 (by omega) n hn w
theorem make60 (n : Nat) (hn : n ≤ 131072) (w : World) : (Instr.makeSlice 60 (.int .i64 (n : Int)) (.int .i64 (n : Int))).run Try.prog w = .ok (.slice (some ⟨w.heap.size, 0, none⟩) n n) (w.alloc (.cells (madeCells #[.int .i64 0, .string ⟨#[]⟩] (n * 2)) 61)) := makeOf Try.underlying60 Try.info61 (by omega) n hn w
theorem make33 (n : Nat) (hn : n ≤ 131072) (w : World) : (Instr.makeSlice 33 (.int .i64 (n : Int)) (.int .i64 (n : Int))).run Try.prog w = .ok (.slice (some ⟨w.heap.size, 0, none⟩) n n) (w.alloc (.cells (madeCells #[.int .i64 0] n) 3)) := by
  have h := makeOf Try.underlying33 Try.info3 (by omega) n hn w
  rw [Nat.mul_one] at h; exact h

/-! ### The row of ids -/
/-- Four strings at place i of what f tells. -/
def Four (f : Nat → Value) (I : Nat → Nat → ByteArray) (i : Nat) : Prop := f (i * 4) = .string (I i 0) ∧ f (i * 4 + 1) = .string (I i 1) ∧ f (i * 4 + 2) = .string (I i 2) ∧ f (i * 4 + 3) = .string (I i 3)
def Filled4 (w : World) (B n : Nat) (I : Nat → Nat → ByteArray) (k : Nat) : Prop := ∃ f, w.rowIs B 55 (n * 4) f ∧ ∀ i, i < k → Four f I i
theorem fill4_any {w : World} {B n k : Nat} {I : Nat → Nat → ByteArray} (h : Filled4 w B n I k) : AnyRow w B 55 (n * 4) := by obtain ⟨f, h, _⟩ := h; exact ⟨f, h⟩
theorem fill4_start (w : World) (n : Nat) (I : Nat → Nat → ByteArray) (z : Array Value) : Filled4 (w.alloc (.cells (madeCells z (n * 4)) 55)) w.heap.size n I 0 := by
  obtain ⟨f, h⟩ := any_made w z (n * 4) 55
  exact ⟨f, h, fun i h => by omega⟩
theorem fill4_alloc {w : World} {B n k : Nat} {I : Nat → Nat → ByteArray} (h : Filled4 w B n I k) (o : Obj) : Filled4 (w.alloc o) B n I k := by obtain ⟨f, h, h'⟩ := h; exact ⟨f, h.alloc o, h'⟩
theorem fill4_step {w : World} {B n k : Nat} {I : Nat → Nat → ByteArray} (h : Filled4 w B n I k) :
    Filled4 ((((w.setCell ⟨B, k * 4, none⟩ (.string (I k 0))).setCell ⟨B, k * 4 + 1, none⟩ (.string (I k 1))).setCell ⟨B, k * 4 + 2, none⟩ (.string (I k 2))).setCell ⟨B, k * 4 + 3, none⟩ (.string (I k 3))) B n I (k + 1) := by
  obtain ⟨f, hr, hf⟩ := h
  refine ⟨_, (((hr.set _ _).set _ _).set _ _).set _ _, fun i hi => ?_⟩
  by_cases e : i = k
  · subst e
    refine ⟨?_, ?_, ?_, ?_⟩
    · dsimp only; rw [if_neg (by omega), if_neg (by omega), if_neg (by omega), if_pos rfl]
    · dsimp only; rw [if_neg (by omega), if_neg (by omega), if_pos rfl]
    · dsimp only; rw [if_neg (by omega), if_pos rfl]
    · dsimp only; rw [if_pos rfl]
  · obtain ⟨h0, h1, h2, h3⟩ := hf i (by omega)
    refine ⟨?_, ?_, ?_, ?_⟩
    · dsimp only; rw [if_neg (by omega), if_neg (by omega), if_neg (by omega), if_neg (by omega)]; exact h0
    · dsimp only; rw [if_neg (by omega), if_neg (by omega), if_neg (by omega), if_neg (by omega)]; exact h1
    · dsimp only; rw [if_neg (by omega), if_neg (by omega), if_neg (by omega), if_neg (by omega)]; exact h2
    · dsimp only; rw [if_neg (by omega), if_neg (by omega), if_neg (by omega), if_neg (by omega)]; exact h3
/-- The ids, in a block above G. -/
def IdsAbove (G : Nat) (w : World) (a : Option Addr) (n : Nat) (I : Nat → Nat → ByteArray) : Prop :=
  n = 0 ∨ ∃ b, G < b ∧ a = some ⟨b, 0, none⟩ ∧ Filled4 w b n I n
theorem idsAbove_row {G : Nat} {w : World} {a : Option Addr} {n : Nat} {I : Nat → Nat → ByteArray} (h : IdsAbove G w a n I) : IdsRow w a n I := by
  rcases h with h | ⟨b, _, rfl, f, hr, hf⟩
  · exact .inl h
  · refine .inr ⟨b, 0, rfl, fun i hi => ?_⟩
    obtain ⟨h0, h1, h2, h3⟩ := hf i hi
    rw [Nat.zero_add, hr.cell (by omega), hr.cell (by omega), hr.cell (by omega), hr.cell (by omega), h0, h1, h2, h3]
    exact ⟨rfl, rfl, rfl, rfl⟩
theorem idsAbove_set {G : Nat} {w : World} {a : Option Addr} {n : Nat} {I : Nat → Nat → ByteArray} (h : IdsAbove G w a n I) (i : Nat) (v : Value) : IdsAbove G (w.setCell ⟨G, i, none⟩ v) a n I := by
  rcases h with h | ⟨b, hb, rfl, f, hr, hf⟩
  · exact .inl h
  · exact .inr ⟨b, hb, rfl, f, hr.setOther (by show b ≠ G; omega) v, hf⟩
theorem idsAbove_below {G X : Nat} {w w' : World} {a : Option Addr} {n : Nat} {I : Nat → Nat → ByteArray} (h : IdsAbove G w a n I) (hb : Below X w w') (hX : w.heap.size ≤ X) : IdsAbove G w' a n I := by
  rcases h with h | ⟨b, hG, rfl, f, hr, hf⟩
  · exact .inl h
  · have hlt := hr.lt
    exact .inr ⟨b, hG, rfl, f, hr.of_block (hb.block b (by omega)), hf⟩

/-! ### The graph while it is made -/
/-- Behind the ids: the struct's cells as f tells them. -/
def Made (w wc : World) (n : Nat) (I : Nat → Nat → ByteArray) (ne : Nat) : Prop :=
  ∃ f ai ci ae ce, wc.rowIs w.heap.size 54 9 f ∧ f 0 = .slice ai n ci ∧ f 1 = .slice ae ne ce ∧ f 4 = .slice none 0 0 ∧ IdsAbove w.heap.size wc ai n I ∧ Below w.heap.size w wc
theorem made_lt {w wc : World} {n : Nat} {I : Nat → Nat → ByteArray} {ne : Nat} (h : Made w wc n I ne) : w.heap.size < wc.heap.size := by
  obtain ⟨f, ai, ci, ae, ce, hr, _⟩ := h; exact hr.lt

end Go.Proofs.Qxb6631224a
