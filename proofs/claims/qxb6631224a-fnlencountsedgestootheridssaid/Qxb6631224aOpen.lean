/-
  WHAT THE READING OF THE ARGUMENTS TELLS: from data to cells.
-/
import Derived.Test.Qxb6631224aBase
import Derived.ProofKit
import Derived.Deep.Slices
import Derived.Deep.SlicePairs
import Derived.Deep.Strs
import Derived.Lib.SmallJoins
namespace Go.Proofs.Qxb6631224a
open Go.ChangeShapes Go.WideShapes Go.ChangeAt Go.RowKit Go.Deep Go.Joins

theorem Try.cells38 : Try.prog.cellsOf 38 = 4 := by kernel_rfl
theorem Try.cells43 : Try.prog.cellsOf 43 = 13 := by kernel_rfl
theorem Try.cells36 : Try.prog.cellsOf 36 = 3 := by kernel_rfl
theorem Try.cells40 : Try.prog.cellsOf 40 = 2 := by kernel_rfl
theorem Try.cells9 : Try.prog.cellsOf 9 = 1 := by kernel_rfl
theorem Try.cells3 : Try.prog.cellsOf 3 = 1 := by kernel_rfl
theorem Try.cells4 : Try.prog.cellsOf 4 = 1 := by kernel_rfl
theorem Try.cells33 : Try.prog.cellsOf 33 = 1 := by kernel_rfl
theorem Try.cells34 : Try.prog.cellsOf 34 = 1 := by kernel_rfl

section
variable {H : Type} {enc : TypeId × Value → H} {W : World} {base : Nat} {spare : Nat → Bool} {held : Bool}

/-- Four strings. -/
theorem four_strings {n : Nat} {cs : List Value} {x : DataW H × List MemPlace} (h : DataW.trod enc Try.prog W base spare held n 38 cs = some x) :
    ∃ s0 s1 s2 s3, cs = [.string s0, .string s1, .string s2, .string s3] := by
  obtain ⟨y0, y1, y2, y3, m, _, hl, t0, t1, t2, t3⟩ := trod_struct4 Try.underlying38 h
  rw [Try.cells38] at hl
  match cs, hl with
  | [c0, c1, c2, c3], _ =>
    simp only [Try.cells9] at t0 t1 t2 t3
    obtain ⟨s0, e0, _⟩ := DataW.trod_string Try.underlying9 t0
    obtain ⟨s1, e1, _⟩ := DataW.trod_string Try.underlying9 t1
    obtain ⟨s2, e2, _⟩ := DataW.trod_string Try.underlying9 t2
    obtain ⟨s3, e3, _⟩ := DataW.trod_string Try.underlying9 t3
    simp at e0 e1 e2 e3
    exact ⟨s0, s1, s2, s3, by rw [e0, e1, e2, e3]⟩

/-- A slice, its elements by their cells. -/
theorem slice_parts {t e : TypeId} {c : Nat} {fuel : Nat} {a : Option Addr} {len cap : Nat} {x : DataW H × List MemPlace} (ht : Try.prog.underlying t = some (.slice e)) (hc : Try.prog.cellsOf e = c) (hpos : 0 < c)
    (h : DataW.trod enc Try.prog W base spare held fuel t [.slice a len cap] = some x) :
    NilOk a len cap ∧ len ≤ cap ∧ cap ≤ maxLen ∧ (len = 0 ∨ ∃ b off, a = some ⟨b, off, none⟩ ∧ ∀ i, i < len → ∃ (cs : List Value) (n : Nat) (y : DataW H × List MemPlace), cs.length = c ∧ (∀ j, j < c → W.cell? ⟨b, off + i * c + j, none⟩ = cs[j]?) ∧ DataW.trod enc Try.prog W base spare held n e cs = some y) := by
  rcases open_slice ht h with ⟨hcs, _⟩ | ⟨ad, len', cap', m, n, D, Pl, hcs, _, hl, hm, hmm, _, hel⟩
  · simp at hcs
    obtain ⟨rfl, rfl, rfl⟩ := hcs
    exact ⟨fun _ => ⟨rfl, rfl⟩, Nat.le_refl _, by unfold maxLen; omega, .inl rfl⟩
  · simp at hcs
    obtain ⟨rfl, rfl, rfl⟩ := hcs
    refine ⟨fun h => (by cases h), hl, hm, ?_⟩
    by_cases h0 : len = 0
    · exact .inl h0
    have hlm : len ≤ m := by rw [hmm]; split <;> omega
    obtain ⟨b, off, spot⟩ := ad
    have hspot : spot = none := by
      obtain ⟨cs, hcells, _⟩ := hel 0 (by omega)
      obtain ⟨_, hln, hcell⟩ := World.cells?_some hcells
      rw [hc] at hln hcell
      have h1 := hcell 0 hpos
      rw [List.getElem?_eq_getElem (by omega)] at h1
      have h2 := World.cell?_spot h1
      simpa [Addr.add] using h2
    subst hspot
    refine .inr ⟨b, off, rfl, fun i hi => ?_⟩
    obtain ⟨cs, hcells, htr⟩ := hel i (by omega)
    obtain ⟨_, hln, hcell⟩ := World.cells?_some hcells
    rw [hc] at hln hcell
    refine ⟨cs, n, _, hln, fun j hj => ?_, htr⟩
    have h1 := hcell j hj
    rw [Go.WideShapes.add_plain, Go.WideShapes.add_plain] at h1
    exact h1

theorem open_ids {fuel : Nat} {a : Option Addr} {len cap : Nat} {x : DataW H × List MemPlace} (h : DataW.trod enc Try.prog W base spare held fuel 22 [.slice a len cap] = some x) :
    NilOk a len cap ∧ len ≤ cap ∧ cap ≤ maxLen ∧ ∃ I, IdsRow W a len I := by
  obtain ⟨h1, h2, h3, h4⟩ := slice_parts Try.underlying22 Try.cells38 (by omega) h
  refine ⟨h1, h2, h3, ?_⟩
  rcases h4 with h4 | ⟨b, off, rfl, h4⟩
  · exact ⟨fun _ _ => ByteArray.empty, .inl h4⟩
  · obtain ⟨I, hI⟩ := choose_lt (α := Nat → ByteArray) (n := len) (p := fun i I => W.cell? ⟨b, off + i * 4, none⟩ = some (.string (I 0)) ∧ W.cell? ⟨b, off + i * 4 + 1, none⟩ = some (.string (I 1)) ∧ W.cell? ⟨b, off + i * 4 + 2, none⟩ = some (.string (I 2)) ∧ W.cell? ⟨b, off + i * 4 + 3, none⟩ = some (.string (I 3))) (by
      intro i hi
      obtain ⟨cs, n, y, _, hc, ht⟩ := h4 i hi
      obtain ⟨s0, s1, s2, s3, rfl⟩ := four_strings ht
      exact ⟨fun t => match t with | 0 => s0 | 1 => s1 | 2 => s2 | _ => s3, hc 0 (by omega), hc 1 (by omega), hc 2 (by omega), hc 3 (by omega)⟩)
    exact ⟨I, .inr ⟨b, off, rfl, hI⟩⟩

theorem one_string {n : Nat} {cs : List Value} {x : DataW H × List MemPlace} (h : DataW.trod enc Try.prog W base spare held n 9 cs = some x) : ∃ s, cs = [.string s] := by
  obtain ⟨s, e, _⟩ := DataW.trod_string Try.underlying9 h
  exact ⟨s, e⟩
theorem one_bool {n : Nat} {cs : List Value} {x : DataW H × List MemPlace} (h : DataW.trod enc Try.prog W base spare held n 4 cs = some x) : ∃ b, cs = [.bool b] := by
  obtain ⟨s, e, _⟩ := DataW.trod_bool Try.underlying4 h
  exact ⟨s, e⟩

theorem edge_cells {n : Nat} {cs : List Value} {x : DataW H × List MemPlace} (h : DataW.trod enc Try.prog W base spare held n 43 cs = some x) :
    ∃ (s : Nat → ByteArray) (p q : Bool), cs = [.string (s 0), .string (s 1), .string (s 2), .string (s 3), .string (s 4), .string (s 5), .string (s 6), .string (s 7), .string (s 8), .string (s 9), .bool p, .bool q, .string (s 12)] := by
  obtain ⟨xs, m, _, _, hl, hlen, hf⟩ := DataW.trod_struct Try.underlying43 h
  rw [Try.cells43] at hl
  match xs, hlen with
  | [y0, y1, y2, y3, y4, y5, y6], _ =>
    match cs, hl with
    | [c0, c1, c2, c3, c4, c5, c6, c7, c8, c9, c10, c11, c12], _ =>
      have t0 := hf 0 { name := "From", type := 38, offset := 0, embedded := false, tag := "", pkgPath := "", byteOffset := 0 } rfl
      have t1 := hf 1 { name := "Relation", type := 9, offset := 4, embedded := false, tag := "", pkgPath := "", byteOffset := 64 } rfl
      have t2 := hf 2 { name := "To", type := 38, offset := 5, embedded := false, tag := "", pkgPath := "", byteOffset := 80 } rfl
      have t3 := hf 3 { name := "Path", type := 9, offset := 9, embedded := false, tag := "", pkgPath := "", byteOffset := 144 } rfl
      have t4 := hf 4 { name := "External", type := 4, offset := 10, embedded := false, tag := "", pkgPath := "", byteOffset := 160 } rfl
      have t5 := hf 5 { name := "Stale", type := 4, offset := 11, embedded := false, tag := "", pkgPath := "", byteOffset := 161 } rfl
      have t6 := hf 6 { name := "UID", type := 9, offset := 12, embedded := false, tag := "", pkgPath := "", byteOffset := 168 } rfl
      simp only [Try.cells9, Try.cells38, Try.cells4] at t0 t1 t2 t3 t4 t5 t6
      obtain ⟨s0, s1, s2, s3, e0⟩ := four_strings t0
      obtain ⟨s4, e1⟩ := one_string t1
      obtain ⟨s5, s6, s7, s8, e2⟩ := four_strings t2
      obtain ⟨s9, e3⟩ := one_string t3
      obtain ⟨p, e4⟩ := one_bool t4
      obtain ⟨q, e5⟩ := one_bool t5
      obtain ⟨s12, e6⟩ := one_string t6
      simp at e0 e1 e2 e3 e4 e5 e6
      obtain ⟨a0, a1, a2, a3⟩ := e0
      obtain ⟨b0, b1, b2, b3⟩ := e2
      exact ⟨fun t => match t with | 0 => s0 | 1 => s1 | 2 => s2 | 3 => s3 | 4 => s4 | 5 => s5 | 6 => s6 | 7 => s7 | 8 => s8 | 9 => s9 | _ => s12, p, q, by subst a0; subst a1; subst a2; subst a3; subst e1; subst b0; subst b1; subst b2; subst b3; subst e3; subst e4; subst e5; subst e6; rfl⟩

theorem open_edges {fuel : Nat} {a : Option Addr} {len cap : Nat} {x : DataW H × List MemPlace} (h : DataW.trod enc Try.prog W base spare held fuel 23 [.slice a len cap] = some x) :
    NilOk a len cap ∧ len ≤ cap ∧ cap ≤ maxLen ∧ EdgesRow W a len := by
  obtain ⟨h1, h2, h3, h4⟩ := slice_parts Try.underlying23 Try.cells43 (by omega) h
  refine ⟨h1, h2, h3, ?_⟩
  rcases h4 with h4 | ⟨b, off, rfl, h4⟩
  · exact .inl h4
  · refine .inr ⟨b, off, rfl, fun i hi => ?_⟩
    obtain ⟨cs, n, y, _, hc, ht⟩ := h4 i hi
    obtain ⟨s, p, q, rfl⟩ := edge_cells ht
    exact ⟨s, p, q, ⟨hc 0 (by omega), hc 1 (by omega), hc 2 (by omega), hc 3 (by omega)⟩, hc 4 (by omega), ⟨hc 5 (by omega), hc 6 (by omega), hc 7 (by omega), hc 8 (by omega)⟩, hc 9 (by omega), hc 10 (by omega), hc 11 (by omega), hc 12 (by omega)⟩

/-- A slice's cell holds a slice. -/
theorem slice_cell {t e : TypeId} {fuel : Nat} {v : Value} {x : DataW H × List MemPlace} (ht : Try.prog.underlying t = some (.slice e)) (h : DataW.trod enc Try.prog W base spare held fuel t [v] = some x) : ∃ a len cap, v = .slice a len cap := by
  rcases open_slice ht h with ⟨hcs, _⟩ | ⟨ad, len', cap', m, n, D, Pl, hcs, _⟩
  · simp at hcs; exact ⟨_, _, _, hcs⟩
  · simp at hcs; exact ⟨_, _, _, hcs⟩

theorem open_ints33 {fuel : Nat} {a : Option Addr} {len cap : Nat} {x : DataW H × List MemPlace} (h : DataW.trod enc Try.prog W base spare held fuel 33 [.slice a len cap] = some x) :
    NilOk a len cap ∧ len ≤ cap ∧ cap ≤ maxLen ∧ ∃ M, IntRow W a len M := by
  obtain ⟨h1, h2, h3, h4⟩ := slice_parts Try.underlying33 Try.cells3 (by omega) h
  refine ⟨h1, h2, h3, ?_⟩
  rcases h4 with h4 | ⟨b, off, rfl, h4⟩
  · exact ⟨fun _ => 0, .inl h4⟩
  · obtain ⟨M, hM⟩ := choose_lt (α := Int) (n := len) (p := fun i z => W.cell? ⟨b, off + i, none⟩ = some (.int .i64 z)) (by
      intro i hi
      obtain ⟨cs, n, y, _, hc, ht⟩ := h4 i hi
      obtain ⟨z, rfl, _⟩ := DataW.trod_int Try.underlying3 ht
      have := hc 0 (by omega)
      rw [Nat.mul_one, Nat.add_zero] at this
      exact ⟨z, this⟩)
    exact ⟨M, .inr ⟨b, off, rfl, hM⟩⟩

theorem open_heirs {fuel : Nat} {a : Option Addr} {len cap : Nat} {x : DataW H × List MemPlace} (h : DataW.trod enc Try.prog W base spare held fuel 34 [.slice a len cap] = some x) :
    NilOk a len cap ∧ len ≤ cap ∧ cap ≤ maxLen ∧ ∃ F, HeirRow W a len F := by
  obtain ⟨h1, h2, h3, h4⟩ := slice_parts Try.underlying34 Try.cells40 (by omega) h
  refine ⟨h1, h2, h3, ?_⟩
  rcases h4 with h4 | ⟨b, off, rfl, h4⟩
  · exact ⟨fun _ => 0, .inl h4⟩
  · obtain ⟨F, hF⟩ := choose_lt (α := Int) (n := len) (p := fun i z => W.cell? ⟨b, off + i * 2, none⟩ = some (.int .i64 z) ∧ ∃ s, W.cell? ⟨b, off + i * 2 + 1, none⟩ = some (.string s)) (by
      intro i hi
      obtain ⟨cs, n, y, hl, hc, ht⟩ := h4 i hi
      obtain ⟨y0, y1, m, _, _, t0, t1⟩ := trod_struct2 Try.underlying40 ht
      match cs, hl with
      | [v0, v1], _ =>
        simp only [Try.cells9, Try.cells3] at t0 t1
        obtain ⟨z, e0, _⟩ := DataW.trod_int Try.underlying3 t0
        obtain ⟨s, e1⟩ := one_string t1
        simp at e0 e1
        subst e0; subst e1
        exact ⟨z, hc 0 (by omega), s, hc 1 (by omega)⟩)
    exact ⟨F, .inr ⟨b, off, rfl, hF⟩⟩

theorem open_beqs {fuel : Nat} {a : Option Addr} {len cap : Nat} {x : DataW H × List MemPlace} (h : DataW.trod enc Try.prog W base spare held fuel 24 [.slice a len cap] = some x) :
    NilOk a len cap ∧ len ≤ cap ∧ cap ≤ maxLen ∧ ∃ lm M lh F, BeqRow W a len lm M lh F := by
  obtain ⟨h1, h2, h3, h4⟩ := slice_parts Try.underlying24 Try.cells36 (by omega) h
  refine ⟨h1, h2, h3, ?_⟩
  rcases h4 with h4 | ⟨b, off, rfl, h4⟩
  · exact ⟨fun _ => 0, fun _ _ => 0, fun _ => 0, fun _ _ => 0, .inl h4⟩
  · obtain ⟨g, hg⟩ := choose_lt (α := Nat × (Nat → Int) × Nat × (Nat → Int)) (n := len) (p := fun i g => ∃ s am cm ah ch, W.cell? ⟨b, off + i * 3, none⟩ = some (.string s) ∧ W.cell? ⟨b, off + i * 3 + 1, none⟩ = some (.slice am g.1 cm) ∧ W.cell? ⟨b, off + i * 3 + 2, none⟩ = some (.slice ah g.2.2.1 ch) ∧
        (IntRow W am g.1 g.2.1 ∧ NilOk am g.1 cm ∧ g.1 ≤ 9223372036854775807) ∧ HeirRow W ah g.2.2.1 g.2.2.2 ∧ NilOk ah g.2.2.1 ch ∧ g.2.2.1 ≤ 9223372036854775807) (by
      intro i hi
      obtain ⟨cs, n, y, hl, hc, ht⟩ := h4 i hi
      obtain ⟨y0, y1, y2, m, _, _, t0, t1, t2⟩ := trod_struct3 Try.underlying36 ht
      match cs, hl with
      | [v0, v1, v2], _ =>
        simp only [Try.cells9, Try.cells33, Try.cells34] at t0 t1 t2
        have u1 : DataW.trod enc Try.prog W base spare held m 33 [v1] = some y1 := t1
        have u2 : DataW.trod enc Try.prog W base spare held m 34 [v2] = some y2 := t2
        obtain ⟨s, e0⟩ := one_string t0
        simp at e0
        obtain ⟨am, lm, cm, rfl⟩ := slice_cell Try.underlying33 u1
        obtain ⟨ah, lh, ch, rfl⟩ := slice_cell Try.underlying34 u2
        obtain ⟨k1, k2, k3, M, hM⟩ := open_ints33 u1
        obtain ⟨q1, q2, q3, F, hF⟩ := open_heirs u2
        subst e0
        unfold maxLen at k3 q3
        exact ⟨(lm, M, lh, F), s, am, cm, ah, ch, hc 0 (by omega), hc 1 (by omega), hc 2 (by omega), ⟨hM, k1, by show lm ≤ _; omega⟩, hF, q1, by show lh ≤ _; omega⟩)
    exact ⟨fun i => (g i).1, fun i => (g i).2.1, fun i => (g i).2.2.1, fun i => (g i).2.2.2, .inr ⟨b, off, rfl, hg⟩⟩
end

end Go.Proofs.Qxb6631224a
