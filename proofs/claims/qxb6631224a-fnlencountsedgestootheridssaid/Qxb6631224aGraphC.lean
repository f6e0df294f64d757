/-
  zzGraph (11): the bequests' row while it is made.
-/
import Derived.Test.Qxb6631224aGraphA
import Derived.Test.Qxb6631224aLen
namespace Go.Proofs.Qxb6631224a
open Go.RowKit

/-! ### A row of integers, a row of heirs -/
def FilledI (w : World) (B n : Nat) (M : Nat → Int) (k : Nat) : Prop := ∃ f, w.rowIs B 3 n f ∧ ∀ i, i < k → f i = .int .i64 (M i)
theorem fillI_any {w : World} {B n k : Nat} {M : Nat → Int} (h : FilledI w B n M k) : AnyRow w B 3 n := by obtain ⟨f, h, _⟩ := h; exact ⟨f, h⟩
theorem fillI_start (w : World) (n : Nat) (M : Nat → Int) (z : Array Value) : FilledI (w.alloc (.cells (madeCells z n) 3)) w.heap.size n M 0 := by
  obtain ⟨f, h⟩ := any_made w z n 3
  exact ⟨f, h, fun i h => by omega⟩
theorem fillI_step {w : World} {B n k : Nat} {M : Nat → Int} (h : FilledI w B n M k) : FilledI (w.setCell ⟨B, k, none⟩ (.int .i64 (M k))) B n M (k + 1) := by
  obtain ⟨f, hr, hf⟩ := h
  refine ⟨_, hr.set _ _, fun i hi => ?_⟩
  by_cases e : i = k
  · subst e; rw [if_pos rfl]
  · rw [if_neg e]; exact hf i (by omega)
def FilledH (w : World) (B n : Nat) (H : Nat → Int) (k : Nat) : Prop := ∃ f, w.rowIs B 61 (n * 2) f ∧ ∀ i, i < k → f (i * 2) = .int .i64 (H i) ∧ ∃ s, f (i * 2 + 1) = .string s
theorem fillH_any {w : World} {B n k : Nat} {H : Nat → Int} (h : FilledH w B n H k) : AnyRow w B 61 (n * 2) := by obtain ⟨f, h, _⟩ := h; exact ⟨f, h⟩
theorem fillH_start (w : World) (n : Nat) (H : Nat → Int) (z : Array Value) : FilledH (w.alloc (.cells (madeCells z (n * 2)) 61)) w.heap.size n H 0 := by
  obtain ⟨f, h⟩ := any_made w z (n * 2) 61
  exact ⟨f, h, fun i h => by omega⟩
theorem fillH_step {w : World} {B n k : Nat} {H : Nat → Int} {s : ByteArray} (h : FilledH w B n H k) : FilledH ((w.setCell ⟨B, k * 2, none⟩ (.int .i64 (H k))).setCell ⟨B, k * 2 + 1, none⟩ (.string s)) B n H (k + 1) := by
  obtain ⟨f, hr, hf⟩ := h
  refine ⟨_, (hr.set _ _).set _ _, fun i hi => ?_⟩
  by_cases e : i = k
  · subst e
    refine ⟨?_, s, ?_⟩
    · rw [if_neg (by omega), if_pos rfl]
    · rw [if_pos rfl]
  · obtain ⟨h0, t, h1⟩ := hf i (by omega)
    refine ⟨?_, t, ?_⟩
    · rw [if_neg (by omega), if_neg (by omega)]; exact h0
    · rw [if_neg (by omega), if_neg (by omega)]; exact h1
theorem fillH_drew {w : World} {B n k : Nat} {H : Nat → Int} (h : FilledH w B n H k) : FilledH w.drew B n H k := by obtain ⟨f, h, h'⟩ := h; exact ⟨f, h.drew, h'⟩

/-- .. in a block above B. -/
def IntAbove (B : Nat) (w : World) (a : Option Addr) (n : Nat) (M : Nat → Int) : Prop := n = 0 ∨ ∃ b, B < b ∧ a = some ⟨b, 0, none⟩ ∧ FilledI w b n M n
def HeirAbove (B : Nat) (w : World) (a : Option Addr) (n : Nat) (H : Nat → Int) : Prop := n = 0 ∨ ∃ b, B < b ∧ a = some ⟨b, 0, none⟩ ∧ FilledH w b n H n
theorem intAbove_row {B : Nat} {w : World} {a : Option Addr} {n : Nat} {M : Nat → Int} (h : IntAbove B w a n M) : IntRow w a n M := by
  rcases h with h | ⟨b, _, rfl, f, hr, hf⟩
  · exact .inl h
  · refine .inr ⟨b, 0, rfl, fun i hi => ?_⟩
    rw [Nat.zero_add, hr.cell (by omega), hf i hi]
theorem heirAbove_row {B : Nat} {w : World} {a : Option Addr} {n : Nat} {H : Nat → Int} (h : HeirAbove B w a n H) : HeirRow w a n H := by
  rcases h with h | ⟨b, _, rfl, f, hr, hf⟩
  · exact .inl h
  · refine .inr ⟨b, 0, rfl, fun i hi => ?_⟩
    obtain ⟨h0, s, h1⟩ := hf i hi
    rw [Nat.zero_add, hr.cell (by omega), hr.cell (by omega), h0, h1]
    exact ⟨rfl, s, rfl⟩
theorem intAbove_block {B : Nat} {w w' : World} {a : Option Addr} {n : Nat} {M : Nat → Int} (h : IntAbove B w a n M) (hb : ∀ b, B < b → b < w.heap.size → w'.heap[b]? = w.heap[b]?) : IntAbove B w' a n M := by
  rcases h with h | ⟨b, hB, rfl, f, hr, hf⟩
  · exact .inl h
  · exact .inr ⟨b, hB, rfl, f, hr.of_block (hb b hB hr.lt), hf⟩
theorem heirAbove_block {B : Nat} {w w' : World} {a : Option Addr} {n : Nat} {H : Nat → Int} (h : HeirAbove B w a n H) (hb : ∀ b, B < b → b < w.heap.size → w'.heap[b]? = w.heap[b]?) : HeirAbove B w' a n H := by
  rcases h with h | ⟨b, hB, rfl, f, hr, hf⟩
  · exact .inl h
  · exact .inr ⟨b, hB, rfl, f, hr.of_block (hb b hB hr.lt), hf⟩

/-! ### The bequests' row -/
/-- What place i of the row (told by f) and the memory behind it hold. -/
def BeqCell (B : Nat) (w : World) (f : Nat → Value) (lm : Nat → Nat) (M : Nat → Nat → Int) (lh : Nat → Nat) (H : Nat → Nat → Int) (i : Nat) : Prop :=
  ∃ s am cm ah ch, f (i * 3) = .string s ∧ f (i * 3 + 1) = .slice am (lm i) cm ∧ f (i * 3 + 2) = .slice ah (lh i) ch ∧ (IntAbove B w am (lm i) (M i) ∧ NilOk am (lm i) cm) ∧ HeirAbove B w ah (lh i) (H i) ∧ NilOk ah (lh i) ch
def Filled3 (w : World) (B n : Nat) (lm : Nat → Nat) (M : Nat → Nat → Int) (lh : Nat → Nat) (H : Nat → Nat → Int) (k : Nat) : Prop := ∃ f, w.rowIs B 63 (n * 3) f ∧ ∀ i, i < k → BeqCell B w f lm M lh H i
section
variable {B n : Nat} {w w' : World} {lm : Nat → Nat} {M : Nat → Nat → Int} {lh : Nat → Nat} {H : Nat → Nat → Int} {k : Nat}
theorem fill3_any (h : Filled3 w B n lm M lh H k) : AnyRow w B 63 (n * 3) := by obtain ⟨f, h, _⟩ := h; exact ⟨f, h⟩
theorem fill3_start (w : World) (n : Nat) (z : Array Value) : Filled3 (w.alloc (.cells (madeCells z (n * 3)) 63)) w.heap.size n lm M lh H 0 := by
  obtain ⟨f, h⟩ := any_made w z (n * 3) 63
  exact ⟨f, h, fun i h => by omega⟩
theorem beqCell_block {f : Nat → Value} {i : Nat} (h : BeqCell B w f lm M lh H i) (hb : ∀ b, B < b → b < w.heap.size → w'.heap[b]? = w.heap[b]?) : BeqCell B w' f lm M lh H i := by
  obtain ⟨s, am, cm, ah, ch, h0, h1, h2, ⟨h3, h4⟩, h5, h6⟩ := h
  exact ⟨s, am, cm, ah, ch, h0, h1, h2, ⟨intAbove_block h3 hb, h4⟩, heirAbove_block h5 hb, h6⟩
theorem fill3_below (h : Filled3 w B n lm M lh H k) (hb : Below w.heap.size w w') : Filled3 w' B n lm M lh H k := by
  obtain ⟨f, hr, hf⟩ := h
  exact ⟨f, hr.of_block (hb.block B hr.lt), fun i hi => beqCell_block (hf i hi) (fun b _ hlt => hb.block b hlt)⟩
theorem fill3_step {s : ByteArray} {am : Option Addr} {cm : Nat} {ah : Option Addr} {ch lmk lhk : Nat} (h : Filled3 w B n lm M lh H k) (e1 : lmk = lm k) (e2 : lhk = lh k) (hM : IntAbove B w am (lm k) (M k)) (kM : NilOk am (lm k) cm) (hH : HeirAbove B w ah (lh k) (H k)) (kH : NilOk ah (lh k) ch) :
    Filled3 (((w.setCell ⟨B, k * 3, none⟩ (.string s)).setCell ⟨B, k * 3 + 1, none⟩ (.slice am lmk cm)).setCell ⟨B, k * 3 + 2, none⟩ (.slice ah lhk ch)) B n lm M lh H (k + 1) := by
  subst e1; subst e2
  obtain ⟨f, hr, hf⟩ := h
  have hb : ∀ b, B < b → b < w.heap.size → (((w.setCell ⟨B, k * 3, none⟩ (.string s)).setCell ⟨B, k * 3 + 1, none⟩ (.slice am (lm k) cm)).setCell ⟨B, k * 3 + 2, none⟩ (.slice ah (lh k) ch)).heap[b]? = w.heap[b]? := by
    intro b hB _
    rw [Go.Deep.blk_setCell_other _ _ _ _ (by show b ≠ B; omega), Go.Deep.blk_setCell_other _ _ _ _ (by show b ≠ B; omega), Go.Deep.blk_setCell_other _ _ _ _ (by show b ≠ B; omega)]
  refine ⟨_, ((hr.set _ _).set _ _).set _ _, fun i hi => ?_⟩
  by_cases e : i = k
  · subst e
    refine ⟨s, am, cm, ah, ch, ?_, ?_, ?_, ⟨intAbove_block hM hb, kM⟩, heirAbove_block hH hb, kH⟩
    · dsimp only; rw [if_neg (by omega), if_neg (by omega), if_pos rfl]
    · dsimp only; rw [if_neg (by omega), if_pos rfl]
    · dsimp only; rw [if_pos rfl]
  · obtain ⟨s', am', cm', ah', ch', h0, h1, h2, ⟨h3, h4⟩, h5, h6⟩ := hf i (by omega)
    refine ⟨s', am', cm', ah', ch', ?_, ?_, ?_, ⟨intAbove_block h3 hb, h4⟩, heirAbove_block h5 hb, h6⟩
    · dsimp only; rw [if_neg (by omega), if_neg (by omega), if_neg (by omega)]; exact h0
    · dsimp only; rw [if_neg (by omega), if_neg (by omega), if_neg (by omega)]; exact h1
    · dsimp only; rw [if_neg (by omega), if_neg (by omega), if_neg (by omega)]; exact h2
theorem fill3_row (h : Filled3 w B n lm M lh H n) (hs : Small lm lh n) : BeqRow w (some ⟨B, 0, none⟩) n lm M lh H := by
  obtain ⟨f, hr, hf⟩ := h
  refine .inr ⟨B, 0, rfl, fun i hi => ?_⟩
  obtain ⟨s, am, cm, ah, ch, h0, h1, h2, ⟨h3, h4⟩, h5, h6⟩ := hf i hi
  have hsm := hs i hi
  refine ⟨s, am, cm, ah, ch, ?_, ?_, ?_, ⟨intAbove_row h3, h4, by omega⟩, heirAbove_row h5, h6, by omega⟩
  · rw [Nat.zero_add, hr.cell (by omega), h0]
  · rw [Nat.zero_add, hr.cell (by omega), h1]
  · rw [Nat.zero_add, hr.cell (by omega), h2]
theorem fill3_set {G j : Nat} {v : Value} (h : Filled3 w B n lm M lh H k) (hG : G < B) : Filled3 (w.setCell ⟨G, j, none⟩ v) B n lm M lh H k := by
  obtain ⟨f, hr, hf⟩ := h
  refine ⟨f, hr.setOther (by show B ≠ G; omega) v, fun i hi => beqCell_block (hf i hi) (fun b hB _ => Go.Deep.blk_setCell_other _ _ _ _ (by show b ≠ G; omega))⟩
end

/-! ### The graph, made -/
theorem graph_done {w wc wr : World} {n : Nat} {I : Nat → Nat → ByteArray} {ne nb : Nat} {lm : Nat → Nat} {M : Nat → Nat → Int} {lh : Nat → Nat} {H : Nat → Nat → Int} (h : Made w wc n I ne) (hb : Below wc.heap.size wc wr) (hf : Filled3 wr wc.heap.size nb lm M lh H nb) (hs : Small lm lh nb) :
    (∃ v, wr.cell? ⟨w.heap.size, 4, none⟩ = some v) ∧ wr.frozen? ⟨w.heap.size, 4, none⟩ = false ∧ GraphIs (wr.setCell ⟨w.heap.size, 4, none⟩ (.slice (some ⟨wc.heap.size, 0, none⟩) nb nb)) w.heap.size n I ne nb lm M lh H ∧
      Below w.heap.size w (wr.setCell ⟨w.heap.size, 4, none⟩ (.slice (some ⟨wc.heap.size, 0, none⟩) nb nb)) := by
  obtain ⟨f, ai, ci, ae, ce, hr, h0, h1, h4, hi, hbel⟩ := h
  have hlt := hr.lt
  have hr2 := hr.of_block (hb.block w.heap.size hlt)
  have hr3 := hr2.set 4 (.slice (some ⟨wc.heap.size, 0, none⟩) nb nb)
  refine ⟨⟨_, hr2.cell (by omega)⟩, hr2.frozen 4, ⟨ai, ci, ae, ce, some ⟨wc.heap.size, 0, none⟩, nb, ?_, ?_, ?_, ?_, ?_⟩, ?_⟩
  · rw [hr3.cell (by omega), if_neg (by omega), h0]
  · rw [hr3.cell (by omega), if_neg (by omega), h1]
  · rw [hr3.cell (by omega), if_pos rfl]
  · exact idsAbove_row (idsAbove_set (idsAbove_below hi hb (Nat.le_refl _)) _ _)
  · exact fill3_row (fill3_set hf hlt) hs
  · exact (hbel.trans (hb.mono (Nat.le_of_lt hlt))).setCell (Nat.le_refl _) _
theorem graph_none {w wc : World} {n : Nat} {I : Nat → Nat → ByteArray} {ne : Nat} {lm : Nat → Nat} {M : Nat → Nat → Int} {lh : Nat → Nat} {H : Nat → Nat → Int} (h : Made w wc n I ne) : GraphIs wc w.heap.size n I ne 0 lm M lh H ∧ Below w.heap.size w wc := by
  obtain ⟨f, ai, ci, ae, ce, hr, h0, h1, h4, hi, hbel⟩ := h
  refine ⟨⟨ai, ci, ae, ce, none, 0, ?_, ?_, ?_, idsAbove_row hi, .inl rfl⟩, hbel⟩
  · rw [hr.cell (by omega), h0]
  · rw [hr.cell (by omega), h1]
  · rw [hr.cell (by omega), h4]

end Go.Proofs.Qxb6631224a
