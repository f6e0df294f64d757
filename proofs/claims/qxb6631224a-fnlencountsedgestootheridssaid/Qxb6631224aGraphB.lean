/-
  THE WALK OF zzGraph (11).
-/
import Derived.Test.Qxb6631224aGraphC
import Derived.BigRegion
import Derived.Deep.DeepCutAuto
import Derived.Deep.RegionHeld3
namespace Go.Proofs.Qxb6631224a
open Go.RowKit

def zeroGraph : Array Value := #[.slice none 0 0, .slice none 0 0, .slice none 0 0, .slice none 0 0, .slice none 0 0, .map none, .map none, .slice none 0 0, .bool false]
theorem graph_zero (w : World) : (w.alloc (.cells zeroGraph 54)).rowIs w.heap.size 54 9 (fun i => zeroGraph[i]?.getD (.bool false)) := World.rowIs_alloc w zeroGraph 54 _ (fun i hi => by simp [hi])
theorem size_zero (w : World) : (w.alloc (.cells zeroGraph 54)).heap.size = w.heap.size + 1 := by simp
theorem below_zero (w : World) : Below w.heap.size w (w.alloc (.cells zeroGraph 54)) := (Below.refl _ _).alloc (Nat.le_refl _) _
theorem made_below {w wc : World} {n : Nat} {I : Nat → Nat → ByteArray} {ne : Nat} (h : Made w wc n I ne) : Below w.heap.size w wc := by
  obtain ⟨f, ai, ci, ae, ce, _, _, _, _, _, hb⟩ := h; exact hb
theorem five_cell {w : World} {o0 o1 o2 o3 o4 : Obj} {b i : Nat} {v : Value} (h : w.cell? ⟨b, i, none⟩ = some v) : (((((w.alloc o0).alloc o1).alloc o2).alloc o3).alloc o4).cell? ⟨b, i, none⟩ = some v := by
  have hb : ∀ (w : World) (o : Obj), Below w.heap.size w (w.alloc o) := fun w o => (Below.refl _ _).alloc (Nat.le_refl _) o
  exact below_cell (hb _ _) (below_cell (hb _ _) (below_cell (hb _ _) (below_cell (hb _ _) (below_cell (hb _ _) h))))
theorem five_frozen {w : World} {o0 o1 o2 o3 o4 : Obj} {b i : Nat} (hb : b < w.heap.size) (h : w.frozen? ⟨b, i, none⟩ = false) : (((((w.alloc o0).alloc o1).alloc o2).alloc o3).alloc o4).frozen? ⟨b, i, none⟩ = false := by
  rw [World.frozen?_alloc_past _ _ _ (by simp; omega), World.frozen?_alloc_past _ _ _ (by simp; omega), World.frozen?_alloc_past _ _ _ (by simp; omega), World.frozen?_alloc_past _ _ _ (by simp; omega), World.frozen?_alloc_past _ _ _ hb]
  exact h
theorem five_any {w : World} {B t N : Nat} (h : AnyRow w B t N) (o0 o1 o2 o3 o4 : Obj) : AnyRow (((((w.alloc o0).alloc o1).alloc o2).alloc o3).alloc o4) B t N := any_alloc (any_alloc (any_alloc (any_alloc (any_alloc h _) _) _) _) _
theorem five_below {w0 w : World} {B : Nat} (h : Below B w0 w) (hB : B ≤ w.heap.size) (o0 o1 o2 o3 o4 : Obj) : Below B w0 (((((w.alloc o0).alloc o1).alloc o2).alloc o3).alloc o4) :=
  ((((h.alloc hB _).alloc (by simp; omega) _).alloc (by simp; omega) _).alloc (by simp; omega) _).alloc (by simp; omega) _
theorem any_drew {w : World} {B t N : Nat} (h : AnyRow w B t N) : AnyRow w.drew B t N := by obtain ⟨f, h⟩ := h; exact ⟨_, h.drew⟩
theorem thirteen_any {w : World} {B t N : Nat} {i0 i1 i2 i3 i4 i5 i6 i7 i8 i9 i10 i11 i12 : Nat} {u0 u1 u2 u3 u4 u5 u6 u7 u8 u9 u10 u11 u12 : Value} (h : AnyRow w B t N) : AnyRow (((((((((((((w.setCell ⟨B, i0, none⟩ u0).setCell ⟨B, i1, none⟩ u1).setCell ⟨B, i2, none⟩ u2).setCell ⟨B, i3, none⟩ u3).setCell ⟨B, i4, none⟩ u4).setCell ⟨B, i5, none⟩ u5).setCell ⟨B, i6, none⟩ u6).setCell ⟨B, i7, none⟩ u7).setCell ⟨B, i8, none⟩ u8).setCell ⟨B, i9, none⟩ u9).setCell ⟨B, i10, none⟩ u10).setCell ⟨B, i11, none⟩ u11).setCell ⟨B, i12, none⟩ u12).drew B t N := any_drew (any_set (any_set (any_set (any_set (any_set (any_set (any_set (any_set (any_set (any_set (any_set (any_set (any_set h _ _) _ _) _ _) _ _) _ _) _ _) _ _) _ _) _ _) _ _) _ _) _ _) _ _)
theorem thirteen_below {w0 w : World} {B : Nat} {i0 i1 i2 i3 i4 i5 i6 i7 i8 i9 i10 i11 i12 : Nat} {u0 u1 u2 u3 u4 u5 u6 u7 u8 u9 u10 u11 u12 : Value} (h : Below B w0 w) : Below B w0 (((((((((((((w.setCell ⟨B, i0, none⟩ u0).setCell ⟨B, i1, none⟩ u1).setCell ⟨B, i2, none⟩ u2).setCell ⟨B, i3, none⟩ u3).setCell ⟨B, i4, none⟩ u4).setCell ⟨B, i5, none⟩ u5).setCell ⟨B, i6, none⟩ u6).setCell ⟨B, i7, none⟩ u7).setCell ⟨B, i8, none⟩ u8).setCell ⟨B, i9, none⟩ u9).setCell ⟨B, i10, none⟩ u10).setCell ⟨B, i11, none⟩ u11).setCell ⟨B, i12, none⟩ u12).drew := (((((((((((((h.setCell (Nat.le_refl _) _).setCell (Nat.le_refl _) _).setCell (Nat.le_refl _) _).setCell (Nat.le_refl _) _).setCell (Nat.le_refl _) _).setCell (Nat.le_refl _) _).setCell (Nat.le_refl _) _).setCell (Nat.le_refl _) _).setCell (Nat.le_refl _) _).setCell (Nat.le_refl _) _).setCell (Nat.le_refl _) _).setCell (Nat.le_refl _) _).setCell (Nat.le_refl _) _).drew
/-- Nothing was there to copy. -/
theorem made_none (w : World) (I : Nat → Nat → ByteArray) : Made w (w.alloc (.cells zeroGraph 54)) 0 I 0 :=
  ⟨_, none, 0, none, 0, graph_zero w, rfl, rfl, rfl, .inl rfl, below_zero w⟩
/-- The ids have been copied: the slice is stored. -/
theorem made_ids {w wr : World} {n : Nat} {I : Nat → Nat → ByteArray} (hf : Filled4 wr (w.heap.size + 1) n I n) (hb : Below (w.heap.size + 1) (w.alloc (.cells zeroGraph 54)) wr) :
    Made w (wr.setCell ⟨w.heap.size, 0, none⟩ (.slice (some ⟨w.heap.size + 1, 0, none⟩) n n)) n I 0 := by
  have hr := (graph_zero w).of_block (hb.block w.heap.size (by omega))
  refine ⟨_, _, _, none, 0, hr.set 0 _, if_pos rfl, ?_, ?_, ?_, ?_⟩
  · rw [if_neg (by omega)]; rfl
  · rw [if_neg (by omega)]; rfl
  · exact idsAbove_set (.inr ⟨w.heap.size + 1, by omega, rfl, hf⟩) _ _
  · exact ((below_zero w).trans (hb.mono (by omega))).setCell (Nat.le_refl _) _

/-- A cell of the world that the round began in, behind the new variable and what came after it. -/
theorem below_one {w3 X : World} {c : Array Value} {b i : Nat} {v : Value} (hb : Below (w3.heap.size + 1) (w3.alloc (.cells c 36)) X) (h : w3.cell? ⟨b, i, none⟩ = some v) : X.cell? ⟨b, i, none⟩ = some v := by
  have hlt := cell_lt h
  exact (hb.cell (p := ⟨b, i, none⟩) (by show b < w3.heap.size + 1; omega)).trans (below_cell ((Below.refl _ _).alloc (Nat.le_refl _) _) h)
theorem below_three {w3 X : World} {c : Array Value} (hb : Below (w3.heap.size + 1) (w3.alloc (.cells c 36)) X) : Below w3.heap.size w3 X :=
  ((Below.refl w3.heap.size w3).alloc (Nat.le_refl _) _).trans (hb.mono (by omega))
theorem below_two {w3 X Y : World} {c : Array Value} {s : Nat} (hb : Below (w3.heap.size + 1) (w3.alloc (.cells c 36)) X) (hs : w3.heap.size ≤ s) (hY : Below s X Y) : Below w3.heap.size w3 Y :=
  (below_three hb).trans (hY.mono hs)

/-- The edges have been copied: the slice is stored. -/
theorem made_edges {w wc wr : World} {n : Nat} {I : Nat → Nat → ByteArray} {k : Nat} (h : Made w wc n I 0) (hb : Below wc.heap.size wc wr) :
    (∃ v, wr.cell? ⟨w.heap.size, 1, none⟩ = some v) ∧ wr.frozen? ⟨w.heap.size, 1, none⟩ = false ∧ Made w (wr.setCell ⟨w.heap.size, 1, none⟩ (.slice (some ⟨wc.heap.size, 0, none⟩) k k)) n I k := by
  obtain ⟨f, ai, ci, ae, ce, hr, h0, h1, h4, hi, hbel⟩ := h
  have hlt := hr.lt
  have hr2 := hr.of_block (hb.block w.heap.size hlt)
  refine ⟨⟨_, hr2.cell (by omega)⟩, hr2.frozen 1, _, ai, ci, _, _, hr2.set 1 _, ?_, if_pos rfl, ?_, ?_, ?_⟩
  · rw [if_neg (by omega)]; exact h0
  · rw [if_neg (by omega)]; exact h4
  · exact idsAbove_set (idsAbove_below hi hb (Nat.le_refl _)) _ _
  · exact (hbel.trans (hb.mono (Nat.le_of_lt hlt))).setCell (Nat.le_refl _) _

set_option maxRecDepth 20000 in
set_option maxHeartbeats 8000000 in
theorem graph (a0 a1 a2 : Option Addr) (n0 c0 n1 c1 n2 c2 : Nat) (I : Nat → Nat → ByteArray) (lm : Nat → Nat) (M : Nat → Nat → Int) (lh : Nat → Nat) (H : Nat → Nat → Int) (w : World) (hn0 : n0 ≤ 131072) (r0 : IdsRow w a0 n0 I) (k0 : NilOk a0 n0 c0) (hn1 : n1 ≤ 131072) (r1 : EdgesRow w a1 n1) (k1 : NilOk a1 n1 c1)
    (hn2 : n2 ≤ 131072) (r2 : BeqRow w a2 n2 lm M lh H) (k2 : NilOk a2 n2 c2) (hsm : Small lm lh n2) :
    Calls Try.prog 11 #[.slice a0 n0 c0, .slice a1 n1 c1, .slice a2 n2 c2] w fun e w' => e = .returned (.pointer (some ⟨w.heap.size, 0, none⟩)) ∧ GraphIs w' w.heap.size n0 I n1 n2 lm M lh H ∧ Below w.heap.size w w' := by
  have q0 := fun w => run_neq_slice_nil_any (P := Try.prog) w 22 38 a0 n0 c0 0 0 Try.underlying22
  have q1 := fun w => run_neq_slice_nil_any (P := Try.prog) w 23 43 a1 n1 c1 0 0 Try.underlying23
  have q2 := fun w => run_neq_slice_nil_any (P := Try.prog) w 24 36 a2 n2 c2 0 0 Try.underlying24
  go_enter Try.func11, Try.ntmps11
  go_upto_if 23 with fail
  go_cut [] (fun wc => Made w wc n0 I 0)
  case first =>
    cases a0 with
    | none =>
      obtain ⟨rfl, rfl⟩ := k0 rfl
      go_wp2
      go_meet
      case rel => exact made_none w I
    | some x0 =>
      have hmk := make47 n0 hn0
      simp only [Option.isSome_some]
      go_wp2_with fail
      go_loopw [9] (fun ti wr => ∃ k : Nat, k ≤ n0 ∧ ti = .int .i64 k ∧ Filled4 wr (w.heap.size + 1) n0 I k ∧ Below (w.heap.size + 1) (w.alloc (.cells zeroGraph 54)) wr) (fun ti _ => n0 - (intOf ti).toNat)
      case atStart =>
        refine ⟨0, by omega, rfl, ?_, ?_⟩
        · have h := fill4_start (w.alloc (.cells zeroGraph 54)) n0 I #[.string ⟨#[]⟩, .string ⟨#[]⟩, .string ⟨#[]⟩, .string ⟨#[]⟩]
          rw [size_zero] at h; exact h
        · have h := (Below.refl (w.alloc (.cells zeroGraph 54)).heap.size (w.alloc (.cells zeroGraph 54))).alloc (Nat.le_refl _) (.cells (madeCells #[.string ⟨#[]⟩, .string ⟨#[]⟩, .string ⟨#[]⟩, .string ⟨#[]⟩] (n0 * 4)) 55)
          rw [size_zero] at h; exact h
      case round =>
        obtain ⟨k, hk, rfl, hfil, hbel⟩ := hrel
        by_cases hlt : k < n0
        · obtain ⟨b, o, hx0, h0, h1, h2, h3⟩ := ids_at (ids_below r0 (below_zero w)) hlt
          have hsz := size_zero w
          have hbel' : Below (w.alloc (.cells zeroGraph 54)).heap.size (w.alloc (.cells zeroGraph 54)) wr := by rw [hsz]; exact hbel
          have g0 := below_cell hbel' h0
          have g1 := below_cell hbel' h1
          have g2 := below_cell hbel' h2
          have g3 := below_cell hbel' h3
          have hx1 : x0 = ⟨b, o, none⟩ := by simpa using hx0
          subst hx1
          clear hx0 hsz hbel' h0 h1 h2 h3 r0 q0 q1 q2 k0 hmk
          go_wp2_with fail
          refine (toID _ _ _ _ _).mono ?_
          rintro e w1 ⟨rfl, d1, d2, rfl⟩
          have hf2 := fill4_alloc (fill4_alloc hfil (.cells d1 38)) (.cells d2 55)
          have han := fill4_any hf2
          obtain ⟨v0, y0⟩ := any_cell han (i := k * 4) (by omega)
          obtain ⟨v1, y1⟩ := any_cell han (i := k * 4 + 1) (by omega)
          obtain ⟨v2, y2⟩ := any_cell han (i := k * 4 + 2) (by omega)
          obtain ⟨v3, y3⟩ := any_cell han (i := k * 4 + 3) (by omega)
          have z0 := any_frozen han (k * 4)
          have z1 := any_frozen han (k * 4 + 1)
          have z2 := any_frozen han (k * 4 + 2)
          have z3 := any_frozen han (k * 4 + 3)
          have hb2 := ((hbel.alloc (by have := any_lt (fill4_any hfil); omega) (.cells d1 38)).alloc (by have := any_lt (fill4_any hfil); simp; omega) (.cells d2 55))
          clear han g0 g1 g2 g3 hfil hbel
          go_wp2
          go_roundw
          case rel => exact ⟨k + 1, by omega, by go_num, fill4_step hf2, (((hb2.setCell (Nat.le_refl _) _).setCell (Nat.le_refl _) _).setCell (Nat.le_refl _) _).setCell (Nat.le_refl _) _⟩
          case measure => simp [intOf]; omega
        · have e : k = n0 := by omega
          subst e
          have hr := (graph_zero w).of_block (hbel.block w.heap.size (by omega))
          have hc := hr.cell (i := 0) (by omega)
          have hz := hr.frozen 0
          have hfin := made_ids hfil hbel
          clear hr hfil hbel
          go_wp2
          go_meet
          case rel => exact hfin
  case rest =>
    go_upto_if 46 with fail
    go_cut [] (fun wd => Made w wd n0 I n1)
    case first =>
      cases a1 with
      | none =>
        obtain ⟨rfl, rfl⟩ := k1 rfl
        go_wp2
        go_meet
        case rel => exact hcut
      | some x1 =>
        have hmk := make48 n1 hn1
        simp only [Option.isSome_some]
        have hbw := made_below hcut
        have hGlt := made_lt hcut
        go_wp2_with fail
        go_loopw [11] (fun ti wr => ∃ k : Nat, k ≤ n1 ∧ ti = .int .i64 k ∧ AnyRow wr wc.heap.size 59 (n1 * 13) ∧ Below wc.heap.size wc wr) (fun ti _ => n1 - (intOf ti).toNat)
        case atStart => exact ⟨0, by omega, rfl, any_made wc _ (n1 * 13) 59, (Below.refl _ _).alloc (Nat.le_refl _) _⟩
        case round =>
          obtain ⟨k, hk, rfl, hany, hbel⟩ := hrel
          by_cases hlt : k < n1
          · obtain ⟨b, o, hx0, s, x, y, ⟨h0, h1, h2, h3⟩, h4, ⟨h5, h6, h7, h8⟩, h9, h10, h11, h12⟩ := edge_at (edges_below (edges_below r1 hbw) hbel) hlt
            have hx1 : x1 = ⟨b, o, none⟩ := by simpa using hx0
            subst hx1
            clear hx0 r0 r1 q0 q1 q2 k0 k1 hmk hcut
            have hlt9 := any_lt hany
            obtain ⟨v0, y0⟩ := any_cell hany (i := k * 13) (by omega)
            have y0' := fun o0 o1 o2 o3 o4 => five_cell (o0 := o0) (o1 := o1) (o2 := o2) (o3 := o3) (o4 := o4) y0
            have z0' := fun o0 o1 o2 o3 o4 => five_frozen (o0 := o0) (o1 := o1) (o2 := o2) (o3 := o3) (o4 := o4) hlt9 (any_frozen hany (k * 13))
            obtain ⟨v1, y1⟩ := any_cell hany (i := k * 13 + 1) (by omega)
            have y1' := fun o0 o1 o2 o3 o4 => five_cell (o0 := o0) (o1 := o1) (o2 := o2) (o3 := o3) (o4 := o4) y1
            have z1' := fun o0 o1 o2 o3 o4 => five_frozen (o0 := o0) (o1 := o1) (o2 := o2) (o3 := o3) (o4 := o4) hlt9 (any_frozen hany (k * 13 + 1))
            obtain ⟨v2, y2⟩ := any_cell hany (i := k * 13 + 2) (by omega)
            have y2' := fun o0 o1 o2 o3 o4 => five_cell (o0 := o0) (o1 := o1) (o2 := o2) (o3 := o3) (o4 := o4) y2
            have z2' := fun o0 o1 o2 o3 o4 => five_frozen (o0 := o0) (o1 := o1) (o2 := o2) (o3 := o3) (o4 := o4) hlt9 (any_frozen hany (k * 13 + 2))
            obtain ⟨v3, y3⟩ := any_cell hany (i := k * 13 + 3) (by omega)
            have y3' := fun o0 o1 o2 o3 o4 => five_cell (o0 := o0) (o1 := o1) (o2 := o2) (o3 := o3) (o4 := o4) y3
            have z3' := fun o0 o1 o2 o3 o4 => five_frozen (o0 := o0) (o1 := o1) (o2 := o2) (o3 := o3) (o4 := o4) hlt9 (any_frozen hany (k * 13 + 3))
            obtain ⟨v4, y4⟩ := any_cell hany (i := k * 13 + 4) (by omega)
            have y4' := fun o0 o1 o2 o3 o4 => five_cell (o0 := o0) (o1 := o1) (o2 := o2) (o3 := o3) (o4 := o4) y4
            have z4' := fun o0 o1 o2 o3 o4 => five_frozen (o0 := o0) (o1 := o1) (o2 := o2) (o3 := o3) (o4 := o4) hlt9 (any_frozen hany (k * 13 + 4))
            obtain ⟨v5, y5⟩ := any_cell hany (i := k * 13 + 5) (by omega)
            have y5' := fun o0 o1 o2 o3 o4 => five_cell (o0 := o0) (o1 := o1) (o2 := o2) (o3 := o3) (o4 := o4) y5
            have z5' := fun o0 o1 o2 o3 o4 => five_frozen (o0 := o0) (o1 := o1) (o2 := o2) (o3 := o3) (o4 := o4) hlt9 (any_frozen hany (k * 13 + 5))
            obtain ⟨v6, y6⟩ := any_cell hany (i := k * 13 + 6) (by omega)
            have y6' := fun o0 o1 o2 o3 o4 => five_cell (o0 := o0) (o1 := o1) (o2 := o2) (o3 := o3) (o4 := o4) y6
            have z6' := fun o0 o1 o2 o3 o4 => five_frozen (o0 := o0) (o1 := o1) (o2 := o2) (o3 := o3) (o4 := o4) hlt9 (any_frozen hany (k * 13 + 6))
            obtain ⟨v7, y7⟩ := any_cell hany (i := k * 13 + 7) (by omega)
            have y7' := fun o0 o1 o2 o3 o4 => five_cell (o0 := o0) (o1 := o1) (o2 := o2) (o3 := o3) (o4 := o4) y7
            have z7' := fun o0 o1 o2 o3 o4 => five_frozen (o0 := o0) (o1 := o1) (o2 := o2) (o3 := o3) (o4 := o4) hlt9 (any_frozen hany (k * 13 + 7))
            obtain ⟨v8, y8⟩ := any_cell hany (i := k * 13 + 8) (by omega)
            have y8' := fun o0 o1 o2 o3 o4 => five_cell (o0 := o0) (o1 := o1) (o2 := o2) (o3 := o3) (o4 := o4) y8
            have z8' := fun o0 o1 o2 o3 o4 => five_frozen (o0 := o0) (o1 := o1) (o2 := o2) (o3 := o3) (o4 := o4) hlt9 (any_frozen hany (k * 13 + 8))
            obtain ⟨v9, y9⟩ := any_cell hany (i := k * 13 + 9) (by omega)
            have y9' := fun o0 o1 o2 o3 o4 => five_cell (o0 := o0) (o1 := o1) (o2 := o2) (o3 := o3) (o4 := o4) y9
            have z9' := fun o0 o1 o2 o3 o4 => five_frozen (o0 := o0) (o1 := o1) (o2 := o2) (o3 := o3) (o4 := o4) hlt9 (any_frozen hany (k * 13 + 9))
            obtain ⟨v10, y10⟩ := any_cell hany (i := k * 13 + 10) (by omega)
            have y10' := fun o0 o1 o2 o3 o4 => five_cell (o0 := o0) (o1 := o1) (o2 := o2) (o3 := o3) (o4 := o4) y10
            have z10' := fun o0 o1 o2 o3 o4 => five_frozen (o0 := o0) (o1 := o1) (o2 := o2) (o3 := o3) (o4 := o4) hlt9 (any_frozen hany (k * 13 + 10))
            obtain ⟨v11, y11⟩ := any_cell hany (i := k * 13 + 11) (by omega)
            have y11' := fun o0 o1 o2 o3 o4 => five_cell (o0 := o0) (o1 := o1) (o2 := o2) (o3 := o3) (o4 := o4) y11
            have z11' := fun o0 o1 o2 o3 o4 => five_frozen (o0 := o0) (o1 := o1) (o2 := o2) (o3 := o3) (o4 := o4) hlt9 (any_frozen hany (k * 13 + 11))
            obtain ⟨v12, y12⟩ := any_cell hany (i := k * 13 + 12) (by omega)
            have y12' := fun o0 o1 o2 o3 o4 => five_cell (o0 := o0) (o1 := o1) (o2 := o2) (o3 := o3) (o4 := o4) y12
            have z12' := fun o0 o1 o2 o3 o4 => five_frozen (o0 := o0) (o1 := o1) (o2 := o2) (o3 := o3) (o4 := o4) hlt9 (any_frozen hany (k * 13 + 12))
            clear y0 y1 y2 y3 y4 y5 y6 y7 y8 y9 y10 y11 y12
            have hlt2 := any_lt hany
            go_wp2_with fail
            clear h0 h1 h2 h3 h4 h5 h6 h7 h8 h9 h10 h11 h12
            go_region_held3 (fun w' => w'.cell? ⟨wr.heap.size, 0, none⟩ = some (.string (s 0)) ∧ w'.cell? ⟨wr.heap.size, 1, none⟩ = some (.string (s 1)) ∧ w'.cell? ⟨wr.heap.size, 2, none⟩ = some (.string (s 2)) ∧ w'.cell? ⟨wr.heap.size, 3, none⟩ = some (.string (s 3)) ∧ w'.cell? ⟨wr.heap.size, 4, none⟩ = some (.string (s 4)) ∧ w'.cell? ⟨wr.heap.size, 5, none⟩ = some (.string (s 5)) ∧ w'.cell? ⟨wr.heap.size, 6, none⟩ = some (.string (s 6)) ∧ w'.cell? ⟨wr.heap.size, 7, none⟩ = some (.string (s 7)) ∧ w'.cell? ⟨wr.heap.size, 8, none⟩ = some (.string (s 8)) ∧ w'.cell? ⟨wr.heap.size, 9, none⟩ = some (.string (s 9)) ∧ w'.cell? ⟨wr.heap.size, 10, none⟩ = some (.bool x) ∧ w'.cell? ⟨wr.heap.size, 11, none⟩ = some (.bool y) ∧ w'.cell? ⟨wr.heap.size, 12, none⟩ = some (.string (s 12))) (simp [go_sem, World.cell?_alloc_past]) ((go_at_call 16; refine (toID _ _ _ _ _).mono ?_; rintro e w1 ⟨rfl, d1, d2, rfl⟩))
            go_wp2
            go_roundw
            case rel =>
              exact ⟨k + 1, by omega, by go_num, thirteen_any (five_any hany _ _ _ _ _), thirteen_below (five_below hbel (Nat.le_of_lt hlt9) _ _ _ _ _)⟩
            case measure => simp [intOf]; omega
          · have e : k = n1 := by omega
            subst e
            obtain ⟨⟨vc, hc⟩, hz, hfin⟩ := made_edges (k := k) hcut hbel
            clear hany hbel r0 r1 q0 q1 q2 k0 k1 hmk
            go_wp2
            go_meet
            case rel => exact hfin
    case rest =>
      clear q0 q1 r0 r1 k0 k1
      go_upto_if 85 with fail
      cases a2 with
      | none =>
        obtain ⟨rfl, rfl⟩ := k2 rfl
        obtain ⟨hgr, hbl⟩ := graph_none (lm := lm) (M := M) (lh := lh) (H := H) hcut
        go_wp2
        go_ret
        exact ⟨rfl, hgr, hbl⟩
      | some x2 =>
        have hmk := make49 n2 hn2
        simp only [Option.isSome_some]
        have hbw := made_below hcut
        have hGlt := made_lt hcut
        go_wp2_with fail
        go_loopw [14] (fun ti wr => ∃ k : Nat, k ≤ n2 ∧ ti = .int .i64 k ∧ Filled3 wr wc.heap.size n2 lm M lh H k ∧ Below wc.heap.size wc wr) (fun ti _ => n2 - (intOf ti).toNat)
        case atStart => exact ⟨0, by omega, rfl, fill3_start wc n2 _, (Below.refl _ _).alloc (Nat.le_refl _) _⟩
        case round =>
          obtain ⟨k, hk, rfl, hfil, hbel⟩ := hrel
          by_cases hlt : k < n2
          · obtain ⟨b, o, hx0, s, am, cm, ah, ch, h0, h1, h2, ⟨hM, kM, hl3⟩, hH, kH, hl4⟩ := beq_at (beqs_below (beqs_below r2 hbw) hbel) hlt
            have hx1 : x2 = ⟨b, o, none⟩ := by simpa using hx0
            subst hx1
            have hlm := (hsm k hlt).1
            have hlh := (hsm k hlt).2
            have e1 := fun w => run_neq_slice_nil_any (P := Try.prog) w 33 3 am (lm k) cm 0 0 Try.underlying33
            have e2 := fun w => run_neq_slice_nil_any (P := Try.prog) w 34 40 ah (lh k) ch 0 0 Try.underlying34
            have hBV := any_lt (fill3_any hfil)
            clear hx0 q2 k2 hmk r2 hsm
            rename World => w3
            cases am with
            | none =>
              cases ah with
              | none =>
                have zm : Hid (lm k = 0) := (kM rfl).1
                have hbX : Below (w3.heap.size + 1) (w3.alloc (.cells #[.string s, .slice none (lm k) cm, .slice none (lh k) ch] 36)) (w3.alloc (.cells #[.string s, .slice none (lm k) cm, .slice none (lh k) ch] 36)) := Below.refl _ _
                have hout : IntAbove wc.heap.size (w3.alloc (.cells #[.string s, .slice none (lm k) cm, .slice none (lh k) ch] 36)) none (lm k) (M k) := .inl zm.out
                have hnil : NilOk none (lm k) 0 := fun _ => ⟨zm.out, rfl⟩
                clear hM kM
                have zh : Hid (lh k = 0) := (kH rfl).1
                have zc : Hid (ch = 0) := (kH rfl).2
                have d0 : (w3.alloc (.cells #[.string s, .slice none (lm k) cm, .slice none (lh k) ch] 36)).cell? ⟨w3.heap.size, 0, none⟩ = some (.string s) := (hbX.cell (p := ⟨w3.heap.size, 0, none⟩) (by show w3.heap.size < w3.heap.size + 1; omega)).trans (by simp)
                have d2 : (w3.alloc (.cells #[.string s, .slice none (lm k) cm, .slice none (lh k) ch] 36)).cell? ⟨w3.heap.size, 2, none⟩ = some (.slice none (lh k) ch) := (hbX.cell (p := ⟨w3.heap.size, 2, none⟩) (by show w3.heap.size < w3.heap.size + 1; omega)).trans (by simp)
                have hout2 : HeirAbove wc.heap.size (w3.alloc (.cells #[.string s, .slice none (lm k) cm, .slice none (lh k) ch] 36)) none (lh k) (H k) := .inl zh.out
                have hnil2 : NilOk none (lh k) 0 := fun _ => ⟨zh.out, rfl⟩
                have hbY := below_three (w3 := w3) hbX
                have hfil2 := fill3_below hfil hbY
                have han := fill3_any hfil
                have hbY2 := hbel.trans (hbY.mono hbel.size)
                clear hH hbX hbY kH hcut
                obtain ⟨v0, y0⟩ := any_cell han (i := k * 3) (by omega)
                have z0 := any_frozen han (k * 3)
                obtain ⟨v1, y1⟩ := any_cell han (i := k * 3 + 1) (by omega)
                have z1 := any_frozen han (k * 3 + 1)
                obtain ⟨v2, y2⟩ := any_cell han (i := k * 3 + 2) (by omega)
                have z2 := any_frozen han (k * 3 + 2)
                have hout3 : IntAbove wc.heap.size w3 none (lm k) (M k) := .inl zm.out
                have hout4 : HeirAbove wc.heap.size w3 none (lh k) (H k) := .inl zh.out
                clear han
                go_wp2
                go_roundw
                case rel => exact ⟨k + 1, by omega, by go_num, fill3_below (fill3_step hfil zm.out.symm zh.out.symm hout3 hnil hout4 hnil2) ((Below.refl _ _).alloc (Nat.le_refl _) _), (((hbel.setCell (Nat.le_refl _) _).setCell (Nat.le_refl _) _).setCell (Nat.le_refl _) _).alloc (by simp; omega) _⟩
                case measure => simp [intOf]; omega
              | some xh =>
                have zm : Hid (lm k = 0) := (kM rfl).1
                have hbX : Below (w3.heap.size + 1) (w3.alloc (.cells #[.string s, .slice none (lm k) cm, .slice (some xh) (lh k) ch] 36)) (w3.alloc (.cells #[.string s, .slice none (lm k) cm, .slice (some xh) (lh k) ch] 36)) := Below.refl _ _
                have hout : IntAbove wc.heap.size (w3.alloc (.cells #[.string s, .slice none (lm k) cm, .slice (some xh) (lh k) ch] 36)) none (lm k) (M k) := .inl zm.out
                have hnil : NilOk none (lm k) 0 := fun _ => ⟨zm.out, rfl⟩
                clear hM kM
                have hmk2 := make60 (lh k) hlh
                have d2 : (w3.alloc (.cells #[.string s, .slice none (lm k) cm, .slice (some xh) (lh k) ch] 36)).cell? ⟨w3.heap.size, 2, none⟩ = some (.slice (some xh) (lh k) ch) := (hbX.cell (p := ⟨w3.heap.size, 2, none⟩) (by show w3.heap.size < w3.heap.size + 1; omega)).trans (by simp)
                have d0 : (w3.alloc (.cells #[.string s, .slice none (lm k) cm, .slice (some xh) (lh k) ch] 36)).cell? ⟨w3.heap.size, 0, none⟩ = some (.string s) := (hbX.cell (p := ⟨w3.heap.size, 0, none⟩) (by show w3.heap.size < w3.heap.size + 1; omega)).trans (by simp)
                go_wp2_with fail
                go_loopw [19] (fun ti wh => ∃ j : Nat, j ≤ lh k ∧ ti = .int .i64 j ∧ FilledH wh (w3.heap.size + 1) (lh k) (H k) j ∧ Below (w3.heap.size + 1) (w3.alloc (.cells #[.string s, .slice none (lm k) cm, .slice (some xh) (lh k) ch] 36)) wh) (fun ti _ => lh k - (intOf ti).toNat)
                case atStart =>
                  have hs1 : (w3.alloc (.cells #[.string s, .slice none (lm k) cm, .slice (some xh) (lh k) ch] 36)).heap.size = (w3.heap.size + 1) := by simp
                  refine ⟨0, by omega, rfl, ?_, ?_⟩
                  · have h := fillH_start (w3.alloc (.cells #[.string s, .slice none (lm k) cm, .slice (some xh) (lh k) ch] 36)) (lh k) (H k) #[.int .i64 0, .string ⟨#[]⟩]
                    rw [hs1] at h; exact h
                  · have h := (Below.refl (w3.alloc (.cells #[.string s, .slice none (lm k) cm, .slice (some xh) (lh k) ch] 36)).heap.size (w3.alloc (.cells #[.string s, .slice none (lm k) cm, .slice (some xh) (lh k) ch] 36))).alloc (Nat.le_refl _) (.cells (madeCells #[.int .i64 0, .string ⟨#[]⟩] (lh k * 2)) 61)
                    rw [hs1] at h; exact h
                case round =>
                  obtain ⟨j, hj, rfl, hfi, hbi⟩ := hrel
                  have c2 := (hbi.cell (p := ⟨w3.heap.size, 2, none⟩) (by show w3.heap.size < (w3.heap.size + 1); omega)).trans d2
                  have c0 := (hbi.cell (p := ⟨w3.heap.size, 0, none⟩) (by show w3.heap.size < (w3.heap.size + 1); omega)).trans d0
                  by_cases hltj : j < lh k
                  · obtain ⟨bh, oh, hxa, hHc⟩ := heir_at hH (by omega)
                    have hxb : xh = ⟨bh, oh, none⟩ := by simpa using hxa
                    subst hxb
                    obtain ⟨hh0, sh, hh1⟩ := hHc j hltj
                    have hm0 := (hbi.cell (p := ⟨bh, oh + j * 2, none⟩) (by have := cell_lt hh0; show bh < (w3.heap.size + 1); omega)).trans (below_one (w3 := w3) hbX hh0)
                    have hm1 := (hbi.cell (p := ⟨bh, oh + j * 2 + 1, none⟩) (by have := cell_lt hh0; show bh < (w3.heap.size + 1); omega)).trans (below_one (w3 := w3) hbX hh1)
                    have han := fillH_any hfi
                    obtain ⟨v0, y0⟩ := any_cell han (i := j * 2) (by omega)
                    have z0 := any_frozen han (j * 2)
                    obtain ⟨v1, y1⟩ := any_cell han (i := j * 2 + 1) (by omega)
                    have z1 := any_frozen han (j * 2 + 1)
                    clear han hH hHc hxa hmk2 e1 e2 hfil hbel h0 h1 h2 hout hnil hbX hh0 hh1 d0 d2 c0 hcut
                    go_wp2_with fail
                    go_region
                    go_wp2
                    go_roundw
                    case rel => exact ⟨j + 1, by omega, by go_num, fillH_drew (fillH_step hfi), ((hbi.setCell (Nat.le_refl _) _).setCell (Nat.le_refl _) _).drew⟩
                    case measure => simp [intOf]; omega
                  · have ej : j = lh k := by omega
                    rw [ej] at hfi
                    have hout2 : HeirAbove wc.heap.size wr (some ⟨(w3.heap.size + 1), 0, none⟩) (lh k) (H k) := .inr ⟨(w3.heap.size + 1), by omega, rfl, hfi⟩
                    have hnil2 : NilOk (some ⟨(w3.heap.size + 1), 0, none⟩) (lh k) (lh k) := fun h => by cases h
                    have hbY := below_two (w3 := w3) hbX (by omega) hbi
                    have hout' := intAbove_block (w' := wr) hout (fun b _ hlt => hbi.block b (by simpa using hlt))
                    have hfil2 := fill3_below hfil hbY
                    have han := fill3_any hfil2
                    have hbY2 := hbel.trans (hbY.mono hbel.size)
                    clear hfi hbi ej hmk2 d0 d2 hH hout hbX hbY hcut
                    obtain ⟨v0, y0⟩ := any_cell han (i := k * 3) (by omega)
                    have z0 := any_frozen han (k * 3)
                    obtain ⟨v1, y1⟩ := any_cell han (i := k * 3 + 1) (by omega)
                    have z1 := any_frozen han (k * 3 + 1)
                    obtain ⟨v2, y2⟩ := any_cell han (i := k * 3 + 2) (by omega)
                    have z2 := any_frozen han (k * 3 + 2)
                    clear han hfil hbel
                    go_wp2
                    go_roundw
                    case rel => exact ⟨k + 1, by omega, by go_num, fill3_step hfil2 zm.out.symm rfl hout' hnil hout2 hnil2, ((hbY2.setCell (Nat.le_refl _) _).setCell (Nat.le_refl _) _).setCell (Nat.le_refl _) _⟩
                    case measure => simp [intOf]; omega
            | some xa =>
              cases ah with
              | none =>
                have hmk := make33 (lm k) hlm
                go_wp2_with fail
                go_loopw [17] (fun ti wm => ∃ j : Nat, j ≤ lm k ∧ ti = .int .i64 j ∧ FilledI wm (w3.heap.size + 1) (lm k) (M k) j ∧ Below (w3.heap.size + 1) (w3.alloc (.cells #[.string s, .slice (some xa) (lm k) cm, .slice none (lh k) ch] 36)) wm) (fun ti _ => lm k - (intOf ti).toNat)
                case atStart =>
                  have hs1 : (w3.alloc (.cells #[.string s, .slice (some xa) (lm k) cm, .slice none (lh k) ch] 36)).heap.size = w3.heap.size + 1 := by simp
                  refine ⟨0, by omega, rfl, ?_, ?_⟩
                  · have h := fillI_start (w3.alloc (.cells #[.string s, .slice (some xa) (lm k) cm, .slice none (lh k) ch] 36)) (lm k) (M k) #[.int .i64 0]
                    rw [hs1] at h; exact h
                  · have h := (Below.refl (w3.alloc (.cells #[.string s, .slice (some xa) (lm k) cm, .slice none (lh k) ch] 36)).heap.size (w3.alloc (.cells #[.string s, .slice (some xa) (lm k) cm, .slice none (lh k) ch] 36))).alloc (Nat.le_refl _) (.cells (madeCells #[.int .i64 0] (lm k)) 3)
                    rw [hs1] at h; exact h
                case round =>
                  obtain ⟨j, hj, rfl, hfi, hbi⟩ := hrel
                  have c1 : wr.cell? ⟨w3.heap.size, 1, none⟩ = some (.slice (some xa) (lm k) cm) := (hbi.cell (p := ⟨w3.heap.size, 1, none⟩) (by show w3.heap.size < w3.heap.size + 1; omega)).trans (by simp)
                  by_cases hltj : j < lm k
                  · obtain ⟨bm, om, hxa, hMc⟩ := int_at hM (by omega)
                    have hxb : xa = ⟨bm, om, none⟩ := by simpa using hxa
                    subst hxb
                    have hmc := below_one (w3 := w3) hbi (hMc j hltj)
                    have han := fillI_any hfi
                    obtain ⟨v0, y0⟩ := any_cell han (i := j) (by omega)
                    have z0 := any_frozen han j
                    clear han hM hMc hxa hmk e1 e2 hfil hbel hH h0 h1 h2 hcut
                    go_wp2
                    go_roundw
                    case rel => exact ⟨j + 1, by omega, by go_num, fillI_step hfi, hbi.setCell (Nat.le_refl _) _⟩
                    case measure => simp [intOf]; omega
                  · have ej : j = lm k := by omega
                    rw [ej] at hfi
                    have hout : IntAbove wc.heap.size wr (some ⟨w3.heap.size + 1, 0, none⟩) (lm k) (M k) := .inr ⟨w3.heap.size + 1, by omega, rfl, hfi⟩
                    have hnil : NilOk (some ⟨w3.heap.size + 1, 0, none⟩) (lm k) (lm k) := fun h => by cases h
                    have hbX : Below (w3.heap.size + 1) (w3.alloc (.cells #[.string s, .slice (some xa) (lm k) cm, .slice none (lh k) ch] 36)) wr := hbi
                    have hszX := any_lt (fillI_any hfi)
                    clear hfi hbi ej hmk hM
                    rename World => wm
                    have zh : Hid (lh k = 0) := (kH rfl).1
                    have zc : Hid (ch = 0) := (kH rfl).2
                    have d0 : wm.cell? ⟨w3.heap.size, 0, none⟩ = some (.string s) := (hbX.cell (p := ⟨w3.heap.size, 0, none⟩) (by show w3.heap.size < w3.heap.size + 1; omega)).trans (by simp)
                    have d2 : wm.cell? ⟨w3.heap.size, 2, none⟩ = some (.slice none (lh k) ch) := (hbX.cell (p := ⟨w3.heap.size, 2, none⟩) (by show w3.heap.size < w3.heap.size + 1; omega)).trans (by simp)
                    have hout2 : HeirAbove wc.heap.size wm none (lh k) (H k) := .inl zh.out
                    have hnil2 : NilOk none (lh k) 0 := fun _ => ⟨zh.out, rfl⟩
                    have hbY := below_three (w3 := w3) hbX
                    have hfil2 := fill3_below hfil hbY
                    have han := fill3_any hfil2
                    have hbY2 := hbel.trans (hbY.mono hbel.size)
                    clear hH hbX hbY kH hcut
                    obtain ⟨v0, y0⟩ := any_cell han (i := k * 3) (by omega)
                    have z0 := any_frozen han (k * 3)
                    obtain ⟨v1, y1⟩ := any_cell han (i := k * 3 + 1) (by omega)
                    have z1 := any_frozen han (k * 3 + 1)
                    obtain ⟨v2, y2⟩ := any_cell han (i := k * 3 + 2) (by omega)
                    have z2 := any_frozen han (k * 3 + 2)
                    clear han hfil hbel
                    go_wp2
                    go_roundw
                    case rel => exact ⟨k + 1, by omega, by go_num, fill3_step hfil2 rfl zh.out.symm hout hnil hout2 hnil2, ((hbY2.setCell (Nat.le_refl _) _).setCell (Nat.le_refl _) _).setCell (Nat.le_refl _) _⟩
                    case measure => simp [intOf]; omega
              | some xh =>
                have hmk := make33 (lm k) hlm
                go_wp2_with fail
                go_loopw [17] (fun ti wm => ∃ j : Nat, j ≤ lm k ∧ ti = .int .i64 j ∧ FilledI wm (w3.heap.size + 1) (lm k) (M k) j ∧ Below (w3.heap.size + 1) (w3.alloc (.cells #[.string s, .slice (some xa) (lm k) cm, .slice (some xh) (lh k) ch] 36)) wm) (fun ti _ => lm k - (intOf ti).toNat)
                case atStart =>
                  have hs1 : (w3.alloc (.cells #[.string s, .slice (some xa) (lm k) cm, .slice (some xh) (lh k) ch] 36)).heap.size = w3.heap.size + 1 := by simp
                  refine ⟨0, by omega, rfl, ?_, ?_⟩
                  · have h := fillI_start (w3.alloc (.cells #[.string s, .slice (some xa) (lm k) cm, .slice (some xh) (lh k) ch] 36)) (lm k) (M k) #[.int .i64 0]
                    rw [hs1] at h; exact h
                  · have h := (Below.refl (w3.alloc (.cells #[.string s, .slice (some xa) (lm k) cm, .slice (some xh) (lh k) ch] 36)).heap.size (w3.alloc (.cells #[.string s, .slice (some xa) (lm k) cm, .slice (some xh) (lh k) ch] 36))).alloc (Nat.le_refl _) (.cells (madeCells #[.int .i64 0] (lm k)) 3)
                    rw [hs1] at h; exact h
                case round =>
                  obtain ⟨j, hj, rfl, hfi, hbi⟩ := hrel
                  have c1 : wr.cell? ⟨w3.heap.size, 1, none⟩ = some (.slice (some xa) (lm k) cm) := (hbi.cell (p := ⟨w3.heap.size, 1, none⟩) (by show w3.heap.size < w3.heap.size + 1; omega)).trans (by simp)
                  by_cases hltj : j < lm k
                  · obtain ⟨bm, om, hxa, hMc⟩ := int_at hM (by omega)
                    have hxb : xa = ⟨bm, om, none⟩ := by simpa using hxa
                    subst hxb
                    have hmc := below_one (w3 := w3) hbi (hMc j hltj)
                    have han := fillI_any hfi
                    obtain ⟨v0, y0⟩ := any_cell han (i := j) (by omega)
                    have z0 := any_frozen han j
                    clear han hM hMc hxa hmk e1 e2 hfil hbel hH h0 h1 h2 hcut
                    go_wp2
                    go_roundw
                    case rel => exact ⟨j + 1, by omega, by go_num, fillI_step hfi, hbi.setCell (Nat.le_refl _) _⟩
                    case measure => simp [intOf]; omega
                  · have ej : j = lm k := by omega
                    rw [ej] at hfi
                    have hout : IntAbove wc.heap.size wr (some ⟨w3.heap.size + 1, 0, none⟩) (lm k) (M k) := .inr ⟨w3.heap.size + 1, by omega, rfl, hfi⟩
                    have hnil : NilOk (some ⟨w3.heap.size + 1, 0, none⟩) (lm k) (lm k) := fun h => by cases h
                    have hbX : Below (w3.heap.size + 1) (w3.alloc (.cells #[.string s, .slice (some xa) (lm k) cm, .slice (some xh) (lh k) ch] 36)) wr := hbi
                    have hszX := any_lt (fillI_any hfi)
                    clear hfi hbi ej hmk hM
                    rename World => wm
                    have hmk2 := make60 (lh k) hlh
                    have d2 : wm.cell? ⟨w3.heap.size, 2, none⟩ = some (.slice (some xh) (lh k) ch) := (hbX.cell (p := ⟨w3.heap.size, 2, none⟩) (by show w3.heap.size < w3.heap.size + 1; omega)).trans (by simp)
                    have d0 : wm.cell? ⟨w3.heap.size, 0, none⟩ = some (.string s) := (hbX.cell (p := ⟨w3.heap.size, 0, none⟩) (by show w3.heap.size < w3.heap.size + 1; omega)).trans (by simp)
                    go_wp2_with fail
                    go_loopw [19] (fun ti wh => ∃ j : Nat, j ≤ lh k ∧ ti = .int .i64 j ∧ FilledH wh wm.heap.size (lh k) (H k) j ∧ Below wm.heap.size wm wh) (fun ti _ => lh k - (intOf ti).toNat)
                    case atStart =>
                      have hs1 : wm.heap.size = wm.heap.size := by simp
                      refine ⟨0, by omega, rfl, ?_, ?_⟩
                      · have h := fillH_start wm (lh k) (H k) #[.int .i64 0, .string ⟨#[]⟩]
                        rw [hs1] at h; exact h
                      · have h := (Below.refl wm.heap.size wm).alloc (Nat.le_refl _) (.cells (madeCells #[.int .i64 0, .string ⟨#[]⟩] (lh k * 2)) 61)
                        rw [hs1] at h; exact h
                    case round =>
                      obtain ⟨j, hj, rfl, hfi, hbi⟩ := hrel
                      have c2 := (hbi.cell (p := ⟨w3.heap.size, 2, none⟩) (by show w3.heap.size < wm.heap.size; omega)).trans d2
                      have c0 := (hbi.cell (p := ⟨w3.heap.size, 0, none⟩) (by show w3.heap.size < wm.heap.size; omega)).trans d0
                      by_cases hltj : j < lh k
                      · obtain ⟨bh, oh, hxa, hHc⟩ := heir_at hH (by omega)
                        have hxb : xh = ⟨bh, oh, none⟩ := by simpa using hxa
                        subst hxb
                        obtain ⟨hh0, sh, hh1⟩ := hHc j hltj
                        have hm0 := (hbi.cell (p := ⟨bh, oh + j * 2, none⟩) (by have := cell_lt hh0; show bh < wm.heap.size; omega)).trans (below_one (w3 := w3) hbX hh0)
                        have hm1 := (hbi.cell (p := ⟨bh, oh + j * 2 + 1, none⟩) (by have := cell_lt hh0; show bh < wm.heap.size; omega)).trans (below_one (w3 := w3) hbX hh1)
                        have han := fillH_any hfi
                        obtain ⟨v0, y0⟩ := any_cell han (i := j * 2) (by omega)
                        have z0 := any_frozen han (j * 2)
                        obtain ⟨v1, y1⟩ := any_cell han (i := j * 2 + 1) (by omega)
                        have z1 := any_frozen han (j * 2 + 1)
                        clear han hH hHc hxa hmk2 e1 e2 hfil hbel h0 h1 h2 hout hnil hbX hh0 hh1 d0 d2 c0 hcut
                        go_wp2_with fail
                        go_region
                        go_wp2
                        go_roundw
                        case rel => exact ⟨j + 1, by omega, by go_num, fillH_drew (fillH_step hfi), ((hbi.setCell (Nat.le_refl _) _).setCell (Nat.le_refl _) _).drew⟩
                        case measure => simp [intOf]; omega
                      · have ej : j = lh k := by omega
                        rw [ej] at hfi
                        have hout2 : HeirAbove wc.heap.size wr (some ⟨wm.heap.size, 0, none⟩) (lh k) (H k) := .inr ⟨wm.heap.size, by omega, rfl, hfi⟩
                        have hnil2 : NilOk (some ⟨wm.heap.size, 0, none⟩) (lh k) (lh k) := fun h => by cases h
                        have hbY := below_two (w3 := w3) hbX (by omega) hbi
                        have hout' := intAbove_block (w' := wr) hout (fun b _ hlt => hbi.block b (by simpa using hlt))
                        have hfil2 := fill3_below hfil hbY
                        have han := fill3_any hfil2
                        have hbY2 := hbel.trans (hbY.mono hbel.size)
                        clear hfi hbi ej hmk2 d0 d2 hH hout hbX hbY hcut
                        obtain ⟨v0, y0⟩ := any_cell han (i := k * 3) (by omega)
                        have z0 := any_frozen han (k * 3)
                        obtain ⟨v1, y1⟩ := any_cell han (i := k * 3 + 1) (by omega)
                        have z1 := any_frozen han (k * 3 + 1)
                        obtain ⟨v2, y2⟩ := any_cell han (i := k * 3 + 2) (by omega)
                        have z2 := any_frozen han (k * 3 + 2)
                        clear han hfil hbel
                        go_wp2
                        go_roundw
                        case rel => exact ⟨k + 1, by omega, by go_num, fill3_step hfil2 rfl rfl hout' hnil hout2 hnil2, ((hbY2.setCell (Nat.le_refl _) _).setCell (Nat.le_refl _) _).setCell (Nat.le_refl _) _⟩
                        case measure => simp [intOf]; omega
          · have e : k = n2 := by omega
            subst e
            obtain ⟨⟨vc, hc⟩, hz, hgr, hbl⟩ := graph_done hcut hbel hfil hsm
            clear hfil hbel r2 q2 k2 hmk
            go_wp2
            go_ret
            exact ⟨rfl, hgr, hbl⟩

end Go.Proofs.Qxb6631224a
