/-
  WHAT THE WALKS ARE TOLD OF THE ARGUMENTS; the walks of the small functions: zzAdd (14), zzIDBytes (15), zzToID (16).
-/
import Derived.Test.Qxb6631224aRows
import Derived.WalkKit
import Derived.WalkSpells
import Derived.Outline
import Derived.RegionTactic
import Derived.ChangeAlike
import Derived.Deep.QuietTactic
import Derived.BigQuiet
import Derived.Deep.OwnRows
namespace Go.Proofs.Qxb6631224a
open Go.RowKit

/-- A slice of ids: four strings each. -/
def IdsRow (w : World) (a : Option Addr) (n : Nat) (I : Nat → Nat → ByteArray) : Prop :=
  n = 0 ∨ ∃ b off, a = some ⟨b, off, none⟩ ∧ ∀ i, i < n → w.cell? ⟨b, off + i * 4, none⟩ = some (.string (I i 0)) ∧ w.cell? ⟨b, off + i * 4 + 1, none⟩ = some (.string (I i 1)) ∧
    w.cell? ⟨b, off + i * 4 + 2, none⟩ = some (.string (I i 2)) ∧ w.cell? ⟨b, off + i * 4 + 3, none⟩ = some (.string (I i 3))
/-- A slice of edges: thirteen cells each. -/
def EdgesRow (w : World) (a : Option Addr) (n : Nat) : Prop :=
  n = 0 ∨ ∃ b off, a = some ⟨b, off, none⟩ ∧ ∀ i, i < n → ∃ (s : Nat → ByteArray) (x y : Bool),
    (w.cell? ⟨b, off + i * 13, none⟩ = some (.string (s 0)) ∧ w.cell? ⟨b, off + i * 13 + 1, none⟩ = some (.string (s 1)) ∧ w.cell? ⟨b, off + i * 13 + 2, none⟩ = some (.string (s 2)) ∧ w.cell? ⟨b, off + i * 13 + 3, none⟩ = some (.string (s 3))) ∧
    w.cell? ⟨b, off + i * 13 + 4, none⟩ = some (.string (s 4)) ∧
    (w.cell? ⟨b, off + i * 13 + 5, none⟩ = some (.string (s 5)) ∧ w.cell? ⟨b, off + i * 13 + 6, none⟩ = some (.string (s 6)) ∧ w.cell? ⟨b, off + i * 13 + 7, none⟩ = some (.string (s 7)) ∧ w.cell? ⟨b, off + i * 13 + 8, none⟩ = some (.string (s 8))) ∧
    w.cell? ⟨b, off + i * 13 + 9, none⟩ = some (.string (s 9)) ∧ w.cell? ⟨b, off + i * 13 + 10, none⟩ = some (.bool x) ∧ w.cell? ⟨b, off + i * 13 + 11, none⟩ = some (.bool y) ∧ w.cell? ⟨b, off + i * 13 + 12, none⟩ = some (.string (s 12))
/-- A slice of integers. -/
def IntRow (w : World) (a : Option Addr) (n : Nat) (M : Nat → Int) : Prop :=
  n = 0 ∨ ∃ b off, a = some ⟨b, off, none⟩ ∧ ∀ i, i < n → w.cell? ⟨b, off + i, none⟩ = some (.int .i64 (M i))
/-- A slice of heirs: an integer and a string each. -/
def HeirRow (w : World) (a : Option Addr) (n : Nat) (H : Nat → Int) : Prop :=
  n = 0 ∨ ∃ b off, a = some ⟨b, off, none⟩ ∧ ∀ i, i < n → w.cell? ⟨b, off + i * 2, none⟩ = some (.int .i64 (H i)) ∧ ∃ s, w.cell? ⟨b, off + i * 2 + 1, none⟩ = some (.string s)
/-- A slice of bequests: a string, a slice of integers, a slice of heirs each. nil is nil: 'a slice without an address has no element and no room'. -/
def NilOk (a : Option Addr) (n c : Nat) : Prop := a = none → n = 0 ∧ c = 0
def BeqRow (w : World) (a : Option Addr) (n : Nat) (lm : Nat → Nat) (M : Nat → Nat → Int) (lh : Nat → Nat) (H : Nat → Nat → Int) : Prop :=
  n = 0 ∨ ∃ b off, a = some ⟨b, off, none⟩ ∧ ∀ i, i < n → ∃ s am cm ah ch, w.cell? ⟨b, off + i * 3, none⟩ = some (.string s) ∧ w.cell? ⟨b, off + i * 3 + 1, none⟩ = some (.slice am (lm i) cm) ∧ w.cell? ⟨b, off + i * 3 + 2, none⟩ = some (.slice ah (lh i) ch) ∧
    (IntRow w am (lm i) (M i) ∧ NilOk am (lm i) cm ∧ lm i ≤ 9223372036854775807) ∧ HeirRow w ah (lh i) (H i) ∧ NilOk ah (lh i) ch ∧ lh i ≤ 9223372036854775807

/-! ### A row is where it was, whatever was laid or written above it -/
theorem cell_lt {w : World} {b o : Nat} {v : Value} (h : w.cell? ⟨b, o, none⟩ = some v) : b < w.heap.size := by
  refine Classical.byContradiction fun hx => ?_
  have e : w.heap[b]? = none := Array.getElem?_eq_none (by omega)
  simp [World.cell?, e] at h
/-- Every cell of W but those of block X reads in W' as it read. -/
def Keeps (X : Nat → Prop) (W W' : World) : Prop := ∀ b o, b < W.heap.size → ¬ X b → W'.cell? ⟨b, o, none⟩ = W.cell? ⟨b, o, none⟩
theorem keeps_cell {X : Nat → Prop} {W W' : World} (h : Keeps X W W') {b o : Nat} {v : Value} (hX : ¬ X b) (hc : W.cell? ⟨b, o, none⟩ = some v) : W'.cell? ⟨b, o, none⟩ = some v := (h b o (cell_lt hc) hX).trans hc
theorem keeps_below {W W' : World} (h : Below W.heap.size W W') : Keeps (fun _ => False) W W' := fun b o hb _ => h.cell (p := ⟨b, o, none⟩) hb

theorem below_cell {W W' : World} (h : Below W.heap.size W W') {b o : Nat} {v : Value} (hc : W.cell? ⟨b, o, none⟩ = some v) : W'.cell? ⟨b, o, none⟩ = some v := (h.cell (p := ⟨b, o, none⟩) (cell_lt hc)).trans hc
theorem ids_below {w w' : World} {a : Option Addr} {n : Nat} {I : Nat → Nat → ByteArray} (h : IdsRow w a n I) (hb : Below w.heap.size w w') : IdsRow w' a n I := by
  rcases h with h | ⟨b, off, rfl, h⟩
  · exact .inl h
  · refine .inr ⟨b, off, rfl, fun i hi => ?_⟩
    obtain ⟨h0, h1, h2, h3⟩ := h i hi
    exact ⟨below_cell hb h0, below_cell hb h1, below_cell hb h2, below_cell hb h3⟩
theorem edges_below {w w' : World} {a : Option Addr} {n : Nat} (h : EdgesRow w a n) (hb : Below w.heap.size w w') : EdgesRow w' a n := by
  rcases h with h | ⟨b, off, rfl, h⟩
  · exact .inl h
  · refine .inr ⟨b, off, rfl, fun i hi => ?_⟩
    obtain ⟨s, x, y, ⟨h0, h1, h2, h3⟩, h4, ⟨h5, h6, h7, h8⟩, h9, h10, h11, h12⟩ := h i hi
    exact ⟨s, x, y, ⟨below_cell hb h0, below_cell hb h1, below_cell hb h2, below_cell hb h3⟩, below_cell hb h4, ⟨below_cell hb h5, below_cell hb h6, below_cell hb h7, below_cell hb h8⟩, below_cell hb h9, below_cell hb h10, below_cell hb h11, below_cell hb h12⟩
theorem ints_below {w w' : World} {a : Option Addr} {n : Nat} {M : Nat → Int} (h : IntRow w a n M) (hb : Below w.heap.size w w') : IntRow w' a n M := by
  rcases h with h | ⟨b, off, rfl, h⟩
  · exact .inl h
  · exact .inr ⟨b, off, rfl, fun i hi => below_cell hb (h i hi)⟩
theorem heirs_below {w w' : World} {a : Option Addr} {n : Nat} {H : Nat → Int} (h : HeirRow w a n H) (hb : Below w.heap.size w w') : HeirRow w' a n H := by
  rcases h with h | ⟨b, off, rfl, h⟩
  · exact .inl h
  · refine .inr ⟨b, off, rfl, fun i hi => ?_⟩
    obtain ⟨h0, s, h1⟩ := h i hi
    exact ⟨below_cell hb h0, s, below_cell hb h1⟩
theorem beqs_below {w w' : World} {a : Option Addr} {n : Nat} {lm : Nat → Nat} {M : Nat → Nat → Int} {lh : Nat → Nat} {H : Nat → Nat → Int} (h : BeqRow w a n lm M lh H) (hb : Below w.heap.size w w') : BeqRow w' a n lm M lh H := by
  rcases h with h | ⟨b, off, rfl, h⟩
  · exact .inl h
  · refine .inr ⟨b, off, rfl, fun i hi => ?_⟩
    obtain ⟨s, am, cm, ah, ch, h0, h1, h2, ⟨h3, h4, h5⟩, h6, h7, h8⟩ := h i hi
    exact ⟨s, am, cm, ah, ch, below_cell hb h0, below_cell hb h1, below_cell hb h2, ⟨ints_below h3 hb, h4, h5⟩, heirs_below h6 hb, h7, h8⟩
theorem below_drewN {B : Nat} {a w : World} (h : Below B a w) (n : Nat) : Below B a (w.drewN n) := ⟨h.os, h.tape, h.output, h.size, h.block⟩

/-! ### zzAdd, zzIDBytes, zzToID -/
/-- What zzAdd answers: a total within the bound; where it says yes, x * k is within the bound too. -/
def Added (x k : Int) (e : Ending) : Prop := ∃ t' b, e = .returned (.tuple #[.int .i64 t', .bool b]) ∧ 0 ≤ t' ∧ t' ≤ 1048576 ∧ (b = true → x * k ≤ 1048576)
theorem zzadd (t x k : Int) (w : World) (t0 : 0 ≤ t) (t1 : t ≤ 1048576) (x0 : 0 ≤ x) (hk : k = 1 ∨ k = 8) :
    Calls Try.prog 14 #[.int .i64 t, .int .i64 x, .int .i64 k] w fun e w' => Added x k e ∧ w' = w := by
  rcases hk with rfl | rfl
  · by_cases h : 1048576 - t < x
    · go_enter Try.func14, Try.ntmps14
      go_wp2
      go_ret2
      exact ⟨⟨t, false, rfl, t0, t1, fun h => by cases h⟩, rfl⟩
    · go_enter Try.func14, Try.ntmps14
      go_wp2
      go_ret2
      exact ⟨⟨_, true, rfl, by omega, by omega, fun _ => by omega⟩, rfl⟩
  · by_cases h : (1048576 - t) / 8 < x
    · go_enter Try.func14, Try.ntmps14
      go_wp2
      go_ret2
      exact ⟨⟨t, false, rfl, t0, t1, fun h => by cases h⟩, rfl⟩
    · go_enter Try.func14, Try.ntmps14
      go_wp2
      go_ret2
      exact ⟨⟨_, true, rfl, by omega, by omega, fun _ => by omega⟩, rfl⟩

set_option maxHeartbeats 400000 in
theorem idBytes (t : Int) (s0 s1 s2 s3 : ByteArray) (w : World) (t0 : 0 ≤ t) (t1 : t ≤ 1048576) :
    Calls Try.prog 15 #[.int .i64 t, .agg #[.string s0, .string s1, .string s2, .string s3]] w fun e w' => (∃ t' b, e = .returned (.tuple #[.int .i64 t', .bool b]) ∧ 0 ≤ t' ∧ t' ≤ 1048576) ∧ Below w.heap.size w w' := by
  have fin : ∀ c, Below w.heap.size w (w.alloc (.cells c 38)) := fun c => (Below.refl _ _).alloc (Nat.le_refl _) _
  go_enter Try.func15, Try.ntmps15
  go_wp2_with fail
  refine (zzadd _ _ 1 _ t0 t1 (by omega) (.inl rfl)).mono ?_
  rintro e w1 ⟨⟨t2, b, rfl, u0, u1, _⟩, rfl⟩
  cases b
  · go_wp2; go_ret2; exact ⟨⟨_, _, rfl, u0, u1⟩, fin _⟩
  go_wp2_with fail
  refine (zzadd _ _ 1 _ u0 u1 (by omega) (.inl rfl)).mono ?_
  rintro e w1 ⟨⟨t3, b, rfl, v0, v1, _⟩, rfl⟩
  cases b
  · go_wp2; go_ret2; exact ⟨⟨_, _, rfl, v0, v1⟩, fin _⟩
  go_wp2_with fail
  refine (zzadd _ _ 1 _ v0 v1 (by omega) (.inl rfl)).mono ?_
  rintro e w1 ⟨⟨t4, b, rfl, x0, x1, _⟩, rfl⟩
  cases b
  · go_wp2; go_ret2; exact ⟨⟨_, _, rfl, x0, x1⟩, fin _⟩
  go_wp2_with fail
  refine (zzadd _ _ 1 _ x0 x1 (by omega) (.inl rfl)).mono ?_
  rintro e w1 ⟨⟨t5, b, rfl, y0, y1, _⟩, rfl⟩
  go_wp2
  go_ret2
  exact ⟨⟨_, _, rfl, y0, y1⟩, fin _⟩

theorem toID (s0 s1 s2 s3 : ByteArray) (w : World) :
    Calls Try.prog 16 #[.agg #[.string s0, .string s1, .string s2, .string s3]] w fun e w' => e = .returned (.agg #[.string s0, .string s1, .string s2, .string s3]) ∧ ∃ c1 c2 : Array Value, w' = (w.alloc (.cells c1 38)).alloc (.cells c2 55) := by
  go_enter Try.func16, Try.ntmps16
  go_wp2
  simp [bodyPost, results, Try.results16, go_sem]
  exact ⟨_, _, rfl⟩

end Go.Proofs.Qxb6631224a
