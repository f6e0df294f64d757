/-
  THE WALK OF FnLenSplitsOverAnyCutOfBequests (4).
-/
import Derived.Test.Qxb6631224aBytes
import Derived.Test.Qxb6631224aGraphB
namespace Go.Proofs.Qxb6631224a
open Go.RowKit

theorem graph_below {w w' : World} {g n : Nat} {I : Nat → Nat → ByteArray} {ne nb : Nat} {lm : Nat → Nat} {M : Nat → Nat → Int} {lh : Nat → Nat} {H : Nat → Nat → Int} (h : GraphIs w g n I ne nb lm M lh H) (hb : Below w.heap.size w w') : GraphIs w' g n I ne nb lm M lh H := by
  obtain ⟨ai, ci, ae, ce, ab, cb, h0, h1, h4, hi, hq⟩ := h
  exact ⟨ai, ci, ae, ce, ab, cb, below_cell hb h0, below_cell hb h1, below_cell hb h4, ids_below hi hb, beqs_below hq hb⟩
theorem outer_split (I : Nat → Nat → ByteArray) (n : Nat) (lm : Nat → Nat) (M : Nat → Nat → Int) (lh : Nat → Nat) (H : Nat → Nat → Int) (K m : Nat) :
    outerOf I n lm M lh H (K + m) = outerOf I n lm M lh H K + outerOf I n (fun i => lm (K + i)) (fun i => M (K + i)) (fun i => lh (K + i)) (fun i => H (K + i)) m := by
  induction m with
  | zero => show _ = _ + 0; rw [Int.add_zero]; rfl
  | succ m ih =>
    show outerOf I n lm M lh H (K + m) + innerOf I n (M (K + m)) (lm (K + m)) (H (K + m)) (lh (K + m)) = _ + (outerOf I n _ _ _ _ m + innerOf I n (M (K + m)) (lm (K + m)) (H (K + m)) (lh (K + m)))
    rw [ih, Int.add_assoc]
theorem split_sum {I : Nat → Nat → ByteArray} {n ne : Nat} {lm : Nat → Nat} {M : Nat → Nat → Int} {lh : Nat → Nat} {H : Nat → Nat → Int} {K nb : Nat} (hK : K ≤ nb) :
    wrap64 ((ne : Int) + outerOf I n lm M lh H nb) = wrap64 (wrap64 ((ne : Int) + outerOf I n lm M lh H K) + wrap64 (((0 : Nat) : Int) + outerOf I n (fun i => lm (K + i)) (fun i => M (K + i)) (fun i => lh (K + i)) (fun i => H (K + i)) (nb - K))) := by
  have h := outer_split I n lm M lh H K (nb - K)
  rw [show K + (nb - K) = nb by omega] at h
  rw [h]
  generalize outerOf I n lm M lh H K = A
  generalize outerOf I n (fun i => lm (K + i)) (fun i => M (K + i)) (fun i => lh (K + i)) (fun i => H (K + i)) (nb - K) = B
  unfold wrap64; omega
theorem split_end {I : Nat → Nat → ByteArray} {n ne : Nat} {lm : Nat → Nat} {M : Nat → Nat → Int} {lh : Nat → Nat} {H : Nat → Nat → Int} {K : Nat} :
    wrap64 ((ne : Int) + outerOf I n lm M lh H K) = wrap64 (wrap64 ((ne : Int) + outerOf I n lm M lh H K) + wrap64 (((0 : Nat) : Int) + outerOf I n (fun i => lm (K + i)) (fun i => M (K + i)) (fun i => lh (K + i)) (fun i => H (K + i)) 0)) := by
  have h := split_sum (I := I) (n := n) (ne := ne) (lm := lm) (M := M) (lh := lh) (H := H) (K := K) (nb := K) (Nat.le_refl _)
  rw [Nat.sub_self] at h; exact h
theorem bare_sum {I : Nat → Nat → ByteArray} {n ne : Nat} {lm : Nat → Nat} {M : Nat → Nat → Int} {lh : Nat → Nat} {H : Nat → Nat → Int} (h : ne ≤ 131072) : wrap64 ((ne : Int) + outerOf I n lm M lh H 0) = (ne : Int) := by
  show wrap64 ((ne : Int) + 0) = _
  rw [Int.add_zero, ← wrap_small ne h]
theorem len_out {n ne : Nat} {X : Int} {e : Ending} (h : LenAns n ne X e) : ∃ x, e = .returned (.tuple #[.int .i64 n, .int .i64 x]) ∧ Hid (x = wrap64 ((ne : Int) + X)) := ⟨_, h, rfl⟩
/-- The bequests before the cut, and from the cut on. -/
theorem beqs_front {w : World} {a : Option Addr} {n : Nat} {lm : Nat → Nat} {M : Nat → Nat → Int} {lh : Nat → Nat} {H : Nat → Nat → Int} {K : Nat} (h : BeqRow w a n lm M lh H) (hK : K ≤ n) : BeqRow w a K lm M lh H := by
  rcases h with h | ⟨b, off, rfl, h⟩
  · exact .inl (by omega)
  · exact .inr ⟨b, off, rfl, fun i hi => h i (by omega)⟩
theorem beqs_back {w : World} {b off : Nat} {n : Nat} {lm : Nat → Nat} {M : Nat → Nat → Int} {lh : Nat → Nat} {H : Nat → Nat → Int} {K : Nat} (h : BeqRow w (some ⟨b, off, none⟩) n lm M lh H) :
    BeqRow w (some ⟨b, off + K * 3, none⟩) (n - K) (fun i => lm (K + i)) (fun i => M (K + i)) (fun i => lh (K + i)) (fun i => H (K + i)) := by
  rcases h with h | ⟨b', off', hx, h⟩
  · exact .inl (by omega)
  · simp at hx
    obtain ⟨rfl, rfl⟩ := hx
    refine .inr ⟨b, off + K * 3, rfl, fun i hi => ?_⟩
    obtain ⟨s, am, cm, ah, ch, h0, h1, h2, h3, h4, h5, h6⟩ := h (K + i) (by omega)
    have e : off + K * 3 + i * 3 = off + (K + i) * 3 := by omega
    rw [e]
    exact ⟨s, am, cm, ah, ch, h0, h1, h2, h3, h4, h5, h6⟩

set_option maxRecDepth 20000 in
set_option maxHeartbeats 4000000 in
theorem law4 (a0 a1 a2 : Option Addr) (n0 c0 n1 c1 n2 c2 : Nat) (kk : Int) (I : Nat → Nat → ByteArray) (lm : Nat → Nat) (M : Nat → Nat → Int) (lh : Nat → Nat) (H : Nat → Nat → Int) (w : World)
    (hn0 : n0 ≤ 9223372036854775807) (hn1 : n1 ≤ 9223372036854775807) (hn2 : n2 ≤ c2) (hc2 : c2 ≤ 9223372036854775807) (r0 : IdsRow w a0 n0 I) (k0 : NilOk a0 n0 c0) (r1 : EdgesRow w a1 n1) (k1 : NilOk a1 n1 c1) (r2 : BeqRow w a2 n2 lm M lh H) (k2 : NilOk a2 n2 c2) :
    Calls Try.prog 4 #[.slice a0 n0 c0, .slice a1 n1 c1, .slice a2 n2 c2, .int .i64 kk] w fun e w' => e = .returned (.bool true) ∧ Below w.heap.size w w' := by
  go_enter Try.func4, Try.ntmps4
  go_wp2_with fail
  refine (bytes13 a0 a1 a2 n0 c0 n1 c1 n2 c2 kk I lm M lh H _ hn0 hn1 (by omega) r0 r1 r2).mono ?_
  rintro e w ⟨⟨b, rfl⟩, rfl⟩
  cases b
  · go_wp2; go_ret; exact ⟨rfl, Below.refl _ _⟩
  go_wp2_with fail
  refine (fits a0 a1 a2 n0 c0 n1 c1 n2 c2 I lm M lh H _ r0 r1 r2).mono ?_
  rintro e w1 ⟨⟨b, rfl, hfit⟩, hb1⟩
  cases b
  · go_wp2; go_ret; exact ⟨rfl, hb1⟩
  obtain ⟨hm0, hm1, hm2, hsm⟩ := hfit rfl
  clear hfit hn0 hn1
  have r0' := ids_below r0 hb1
  have r1' := edges_below r1 hb1
  have r2' := beqs_below r2 hb1
  clear r0 r1 r2
  by_cases t0 : (4096 : Int) < n0
  · go_wp2; go_ret; exact ⟨rfl, hb1⟩
  by_cases t1 : kk < 0
  · go_wp2; go_ret; exact ⟨rfl, hb1⟩
  by_cases t2 : (n2 : Int) < kk
  · go_wp2; go_ret; exact ⟨rfl, hb1⟩
  obtain ⟨K, rfl⟩ : ∃ K : Nat, kk = (K : Int) := ⟨kk.toNat, by omega⟩
  have hK : K ≤ n2 := by omega
  go_wp2_with fail
  refine (heirsIn n0 a2 n2 c2 lm M lh H _ hm2 r2').mono ?_
  rintro e w1 ⟨⟨b, rfl, hhin⟩, rfl⟩
  cases b
  · go_wp2; go_ret; exact ⟨rfl, hb1⟩
  have hin := hhin rfl
  clear hhin
  go_wp2_with fail
  refine (graph a0 a1 a2 n0 c0 n1 c1 n2 c2 I lm M lh H _ hm0 r0' k0 hm1 r1' k1 hm2 r2' k2 hsm).mono ?_
  rintro e w2 ⟨rfl, hg1, hb2⟩
  have r0'' := ids_below r0' hb2
  have r1'' := edges_below r1' hb2
  have r2'' := beqs_below r2' hb2
  have hb12 := hb1.trans (hb2.mono hb1.size)
  clear r0' r1' r2'
  cases a2 with
  | none =>
    obtain ⟨z2, z3⟩ := k2 rfl
    subst z2; subst z3
    obtain rfl : K = 0 := by omega
    go_wp2_with fail
    refine (graph a0 a1 none n0 c0 n1 c1 0 0 I lm M lh H _ hm0 r0'' k0 hm1 r1'' k1 (by omega) (beqs_front r2'' hK) (fun _ => ⟨rfl, rfl⟩) (fun i hi => hsm i (by omega))).mono ?_
    rintro e w3 ⟨rfl, hg2, hb3⟩
    have r0c := ids_below r0'' hb3
    have r1c := edges_below r1'' hb3
    have r2c := beqs_below r2'' hb3
    have hb13 := hb12.trans (hb3.mono hb12.size)
    have hg1b := graph_below hg1 hb3
    clear r0'' r1'' r2'' hg1 hb1 hb2
    go_wp2_with fail
    refine (graph a0 none none n0 c0 0 0 0 0 I (fun i => lm (0 + i)) (fun i => M (0 + i)) (fun i => lh (0 + i)) (fun i => H (0 + i)) _ hm0 r0c k0 (by omega) (.inl rfl) (fun _ => ⟨rfl, rfl⟩) (by omega) (.inl rfl) (fun _ => ⟨rfl, rfl⟩) (fun i hi => by omega)).mono ?_
    rintro e w4 ⟨rfl, hg3, hb4⟩
    have r0d := ids_below r0c hb4
    have r1d := edges_below r1c hb4
    have hb14 := hb13.trans (hb4.mono hb13.size)
    have hg1c := graph_below hg1b hb4
    have hg2b := graph_below hg2 hb4
    clear r0c r1c r2c hb12 hg1b hg2
    go_wp2_with fail
    refine (graph a0 a1 none n0 c0 n1 c1 0 0 I lm M lh H _ hm0 r0d k0 hm1 r1d k1 (by omega) (.inl rfl) (fun _ => ⟨rfl, rfl⟩) (fun i hi => by omega)).mono ?_
    rintro e w5 ⟨rfl, hg4, hb5⟩
    have hb15 := hb14.trans (hb5.mono hb14.size)
    have hg1d := graph_below hg1c hb5
    have hg2c := graph_below hg2b hb5
    have hg3b := graph_below hg3 hb5
    clear r0d r1d hb13 hb14 hg1c hg2b hg3 hb3 hb4 hb5
    go_wp2_with fail
    refine (len _ n0 I n1 0 lm M lh H _ hm0 hm1 (by omega) hg1d hin hsm).mono ?_
    rintro e w6 ⟨he, hb6⟩
    obtain ⟨x1, rfl, hx1⟩ := len_out he
    have hb16 := hb15.trans (hb6.mono hb15.size)
    have hg2d := graph_below hg2c hb6
    have hg3c := graph_below hg3b hb6
    have hg4b := graph_below hg4 hb6
    clear he hg1d hg2c hg3b hg4 hb15 hb6
    go_wp2_with fail
    refine (len _ n0 I n1 0 lm M lh H _ hm0 hm1 (by omega) hg2d (fun i hi => hin i (by omega)) (fun i hi => hsm i (by omega))).mono ?_
    rintro e w7 ⟨he, hb7⟩
    obtain ⟨x2, rfl, hx2⟩ := len_out he
    have hb17 := hb16.trans (hb7.mono hb16.size)
    have hg3d := graph_below hg3c hb7
    have hg4c := graph_below hg4b hb7
    clear he hg2d hg3c hg4b hb16 hb7
    go_wp2_with fail
    refine (len _ n0 I 0 0 (fun i => lm (0 + i)) (fun i => M (0 + i)) (fun i => lh (0 + i)) (fun i => H (0 + i)) _ hm0 (by omega) (by omega) hg3d (fun i hi => hin (0 + i) (by omega)) (fun i hi => by omega)).mono ?_
    rintro e w8 ⟨he, hb8⟩
    obtain ⟨x3, rfl, hx3⟩ := len_out he
    have hb18 := hb17.trans (hb8.mono hb17.size)
    have hg4d := graph_below hg4c hb8
    clear he hg3d hg4c hb17 hb8
    go_wp2_with fail
    refine (len _ n0 I n1 0 lm M lh H _ hm0 hm1 (by omega) hg4d (fun i hi => by omega) (fun i hi => by omega)).mono ?_
    rintro e w9 ⟨he, hb9⟩
    obtain ⟨x4, rfl, hx4⟩ := len_out he
    have hb19 := hb18.trans (hb9.mono hb18.size)
    clear he hg4d hb18 hb9
    have f1 : (x1 == wrap64 (x2 + x3)) = true := by
      rw [hx1.out, hx2.out, hx3.out]; exact beq_iff_eq.2 (split_sum (K := 0) (nb := 0) (Nat.le_refl _))
    have f2 : (x4 == (n1 : Int)) = true := by
      rw [hx4.out]; exact beq_iff_eq.2 (bare_sum hm1)
    clear hx1 hx2 hx3 hx4 hin hsm
    go_wp2
    go_ret
    exact ⟨rfl, hb19⟩
  | some x2 =>
    by_cases hKn : K < n2
    · have r2b := r2''
      rcases r2b with h | ⟨b, o, hx, _⟩
      · omega
      have hx1 : x2 = ⟨b, o, none⟩ := by simpa using hx
      subst hx1
      clear hx
      go_wp2_with fail
      refine (graph a0 a1 (some ⟨b, o, none⟩) n0 c0 n1 c1 K c2 I lm M lh H _ hm0 r0'' k0 hm1 r1'' k1 (by omega) (beqs_front r2'' hK) (fun h => by cases h) (fun i hi => hsm i (by omega))).mono ?_
      rintro e w3 ⟨rfl, hg2, hb3⟩
      have r0c := ids_below r0'' hb3
      have r1c := edges_below r1'' hb3
      have r2c := beqs_below r2'' hb3
      have hb13 := hb12.trans (hb3.mono hb12.size)
      have hg1b := graph_below hg1 hb3
      clear r0'' r1'' r2'' hg1 hb1 hb2
      go_wp2_with fail
      refine (graph a0 none (some ⟨b, o + K * 3, none⟩) n0 c0 0 0 (n2 - K) (c2 - K) I (fun i => lm (K + i)) (fun i => M (K + i)) (fun i => lh (K + i)) (fun i => H (K + i)) _ hm0 r0c k0 (by omega) (.inl rfl) (fun _ => ⟨rfl, rfl⟩) (by omega) (beqs_back r2c) (fun h => by cases h) (fun i hi => hsm (K + i) (by omega))).mono ?_
      rintro e w4 ⟨rfl, hg3, hb4⟩
      have r0d := ids_below r0c hb4
      have r1d := edges_below r1c hb4
      have hb14 := hb13.trans (hb4.mono hb13.size)
      have hg1c := graph_below hg1b hb4
      have hg2b := graph_below hg2 hb4
      clear r0c r1c r2c hb12 hg1b hg2
      go_wp2_with fail
      refine (graph a0 a1 none n0 c0 n1 c1 0 0 I lm M lh H _ hm0 r0d k0 hm1 r1d k1 (by omega) (.inl rfl) (fun _ => ⟨rfl, rfl⟩) (fun i hi => by omega)).mono ?_
      rintro e w5 ⟨rfl, hg4, hb5⟩
      have hb15 := hb14.trans (hb5.mono hb14.size)
      have hg1d := graph_below hg1c hb5
      have hg2c := graph_below hg2b hb5
      have hg3b := graph_below hg3 hb5
      clear r0d r1d hb13 hb14 hg1c hg2b hg3 hb3 hb4 hb5
      go_wp2_with fail
      refine (len _ n0 I n1 n2 lm M lh H _ hm0 hm1 (by omega) hg1d hin hsm).mono ?_
      rintro e w6 ⟨he, hb6⟩
      obtain ⟨x1, rfl, hx1⟩ := len_out he
      have hb16 := hb15.trans (hb6.mono hb15.size)
      have hg2d := graph_below hg2c hb6
      have hg3c := graph_below hg3b hb6
      have hg4b := graph_below hg4 hb6
      clear he hg1d hg2c hg3b hg4 hb15 hb6
      go_wp2_with fail
      refine (len _ n0 I n1 K lm M lh H _ hm0 hm1 (by omega) hg2d (fun i hi => hin i (by omega)) (fun i hi => hsm i (by omega))).mono ?_
      rintro e w7 ⟨he, hb7⟩
      obtain ⟨x2, rfl, hx2⟩ := len_out he
      have hb17 := hb16.trans (hb7.mono hb16.size)
      have hg3d := graph_below hg3c hb7
      have hg4c := graph_below hg4b hb7
      clear he hg2d hg3c hg4b hb16 hb7
      go_wp2_with fail
      refine (len _ n0 I 0 (n2 - K) (fun i => lm (K + i)) (fun i => M (K + i)) (fun i => lh (K + i)) (fun i => H (K + i)) _ hm0 (by omega) (by omega) hg3d (fun i hi => hin (K + i) (by omega)) (fun i hi => hsm (K + i) (by omega))).mono ?_
      rintro e w8 ⟨he, hb8⟩
      obtain ⟨x3, rfl, hx3⟩ := len_out he
      have hb18 := hb17.trans (hb8.mono hb17.size)
      have hg4d := graph_below hg4c hb8
      clear he hg3d hg4c hb17 hb8
      go_wp2_with fail
      refine (len _ n0 I n1 0 lm M lh H _ hm0 hm1 (by omega) hg4d (fun i hi => by omega) (fun i hi => by omega)).mono ?_
      rintro e w9 ⟨he, hb9⟩
      obtain ⟨x4, rfl, hx4⟩ := len_out he
      have hb19 := hb18.trans (hb9.mono hb18.size)
      clear he hg4d hb18 hb9
      have f1 : (x1 == wrap64 (x2 + x3)) = true := by
        rw [hx1.out, hx2.out, hx3.out]; exact beq_iff_eq.2 (split_sum hK)
      have f2 : (x4 == (n1 : Int)) = true := by
        rw [hx4.out]; exact beq_iff_eq.2 (bare_sum hm1)
      clear hx1 hx2 hx3 hx4 hin hsm
      go_wp2
      go_ret
      exact ⟨rfl, hb19⟩
    · obtain rfl : K = n2 := by omega
      go_wp2_with fail
      refine (graph a0 a1 (some x2) n0 c0 n1 c1 K c2 I lm M lh H _ hm0 r0'' k0 hm1 r1'' k1 (by omega) (beqs_front r2'' hK) (fun h => by cases h) (fun i hi => hsm i (by omega))).mono ?_
      rintro e w3 ⟨rfl, hg2, hb3⟩
      have r0c := ids_below r0'' hb3
      have r1c := edges_below r1'' hb3
      have r2c := beqs_below r2'' hb3
      have hb13 := hb12.trans (hb3.mono hb12.size)
      have hg1b := graph_below hg1 hb3
      clear r0'' r1'' r2'' hg1 hb1 hb2
      go_wp2_with fail
      · refine (graph a0 none (some x2) n0 c0 0 0 0 0 I (fun i => lm (K + i)) (fun i => M (K + i)) (fun i => lh (K + i)) (fun i => H (K + i)) _ hm0 r0c k0 (by omega) (.inl rfl) (fun _ => ⟨rfl, rfl⟩) (by omega) (.inl rfl) (fun h => by cases h) (fun i hi => by omega)).mono ?_
        rintro e w4 ⟨rfl, hg3, hb4⟩
        have r0d := ids_below r0c hb4
        have r1d := edges_below r1c hb4
        have hb14 := hb13.trans (hb4.mono hb13.size)
        have hg1c := graph_below hg1b hb4
        have hg2b := graph_below hg2 hb4
        clear r0c r1c r2c hb12 hg1b hg2
        go_wp2_with fail
        refine (graph a0 a1 none n0 c0 n1 c1 0 0 I lm M lh H _ hm0 r0d k0 hm1 r1d k1 (by omega) (.inl rfl) (fun _ => ⟨rfl, rfl⟩) (fun i hi => by omega)).mono ?_
        rintro e w5 ⟨rfl, hg4, hb5⟩
        have hb15 := hb14.trans (hb5.mono hb14.size)
        have hg1d := graph_below hg1c hb5
        have hg2c := graph_below hg2b hb5
        have hg3b := graph_below hg3 hb5
        clear r0d r1d hb13 hb14 hg1c hg2b hg3 hb3 hb4 hb5
        go_wp2_with fail
        refine (len _ n0 I n1 K lm M lh H _ hm0 hm1 (by omega) hg1d hin hsm).mono ?_
        rintro e w6 ⟨he, hb6⟩
        obtain ⟨x1, rfl, hx1⟩ := len_out he
        have hb16 := hb15.trans (hb6.mono hb15.size)
        have hg2d := graph_below hg2c hb6
        have hg3c := graph_below hg3b hb6
        have hg4b := graph_below hg4 hb6
        clear he hg1d hg2c hg3b hg4 hb15 hb6
        go_wp2_with fail
        refine (len _ n0 I n1 K lm M lh H _ hm0 hm1 (by omega) hg2d (fun i hi => hin i (by omega)) (fun i hi => hsm i (by omega))).mono ?_
        rintro e w7 ⟨he, hb7⟩
        obtain ⟨x2, rfl, hx2⟩ := len_out he
        have hb17 := hb16.trans (hb7.mono hb16.size)
        have hg3d := graph_below hg3c hb7
        have hg4c := graph_below hg4b hb7
        clear he hg2d hg3c hg4b hb16 hb7
        go_wp2_with fail
        refine (len _ n0 I 0 0 (fun i => lm (K + i)) (fun i => M (K + i)) (fun i => lh (K + i)) (fun i => H (K + i)) _ hm0 (by omega) (by omega) hg3d (fun i hi => hin (K + i) (by omega)) (fun i hi => by omega)).mono ?_
        rintro e w8 ⟨he, hb8⟩
        obtain ⟨x3, rfl, hx3⟩ := len_out he
        have hb18 := hb17.trans (hb8.mono hb17.size)
        have hg4d := graph_below hg4c hb8
        clear he hg3d hg4c hb17 hb8
        go_wp2_with fail
        refine (len _ n0 I n1 0 lm M lh H _ hm0 hm1 (by omega) hg4d (fun i hi => by omega) (fun i hi => by omega)).mono ?_
        rintro e w9 ⟨he, hb9⟩
        obtain ⟨x4, rfl, hx4⟩ := len_out he
        have hb19 := hb18.trans (hb9.mono hb18.size)
        clear he hg4d hb18 hb9
        have f1 : (x1 == wrap64 (x2 + x3)) = true := by
          rw [hx1.out, hx2.out, hx3.out]; exact beq_iff_eq.2 (split_end)
        have f2 : (x4 == (n1 : Int)) = true := by
          rw [hx4.out]; exact beq_iff_eq.2 (bare_sum hm1)
        clear hx1 hx2 hx3 hx4 hin hsm
        go_wp2
        go_ret
        exact ⟨rfl, hb19⟩
      · refine (graph a0 none (some (x2.add (K * 3))) n0 c0 0 0 0 (c2 - K) I (fun i => lm (K + i)) (fun i => M (K + i)) (fun i => lh (K + i)) (fun i => H (K + i)) _ hm0 r0c k0 (by omega) (.inl rfl) (fun _ => ⟨rfl, rfl⟩) (by omega) (.inl rfl) (fun h => by cases h) (fun i hi => by omega)).mono ?_
        rintro e w4 ⟨rfl, hg3, hb4⟩
        have r0d := ids_below r0c hb4
        have r1d := edges_below r1c hb4
        have hb14 := hb13.trans (hb4.mono hb13.size)
        have hg1c := graph_below hg1b hb4
        have hg2b := graph_below hg2 hb4
        clear r0c r1c r2c hb12 hg1b hg2
        go_wp2_with fail
        refine (graph a0 a1 none n0 c0 n1 c1 0 0 I lm M lh H _ hm0 r0d k0 hm1 r1d k1 (by omega) (.inl rfl) (fun _ => ⟨rfl, rfl⟩) (fun i hi => by omega)).mono ?_
        rintro e w5 ⟨rfl, hg4, hb5⟩
        have hb15 := hb14.trans (hb5.mono hb14.size)
        have hg1d := graph_below hg1c hb5
        have hg2c := graph_below hg2b hb5
        have hg3b := graph_below hg3 hb5
        clear r0d r1d hb13 hb14 hg1c hg2b hg3 hb3 hb4 hb5
        go_wp2_with fail
        refine (len _ n0 I n1 K lm M lh H _ hm0 hm1 (by omega) hg1d hin hsm).mono ?_
        rintro e w6 ⟨he, hb6⟩
        obtain ⟨x1, rfl, hx1⟩ := len_out he
        have hb16 := hb15.trans (hb6.mono hb15.size)
        have hg2d := graph_below hg2c hb6
        have hg3c := graph_below hg3b hb6
        have hg4b := graph_below hg4 hb6
        clear he hg1d hg2c hg3b hg4 hb15 hb6
        go_wp2_with fail
        refine (len _ n0 I n1 K lm M lh H _ hm0 hm1 (by omega) hg2d (fun i hi => hin i (by omega)) (fun i hi => hsm i (by omega))).mono ?_
        rintro e w7 ⟨he, hb7⟩
        obtain ⟨x2, rfl, hx2⟩ := len_out he
        have hb17 := hb16.trans (hb7.mono hb16.size)
        have hg3d := graph_below hg3c hb7
        have hg4c := graph_below hg4b hb7
        clear he hg2d hg3c hg4b hb16 hb7
        go_wp2_with fail
        refine (len _ n0 I 0 0 (fun i => lm (K + i)) (fun i => M (K + i)) (fun i => lh (K + i)) (fun i => H (K + i)) _ hm0 (by omega) (by omega) hg3d (fun i hi => hin (K + i) (by omega)) (fun i hi => by omega)).mono ?_
        rintro e w8 ⟨he, hb8⟩
        obtain ⟨x3, rfl, hx3⟩ := len_out he
        have hb18 := hb17.trans (hb8.mono hb17.size)
        have hg4d := graph_below hg4c hb8
        clear he hg3d hg4c hb17 hb8
        go_wp2_with fail
        refine (len _ n0 I n1 0 lm M lh H _ hm0 hm1 (by omega) hg4d (fun i hi => by omega) (fun i hi => by omega)).mono ?_
        rintro e w9 ⟨he, hb9⟩
        obtain ⟨x4, rfl, hx4⟩ := len_out he
        have hb19 := hb18.trans (hb9.mono hb18.size)
        clear he hg4d hb18 hb9
        have f1 : (x1 == wrap64 (x2 + x3)) = true := by
          rw [hx1.out, hx2.out, hx3.out]; exact beq_iff_eq.2 (split_end)
        have f2 : (x4 == (n1 : Int)) = true := by
          rw [hx4.out]; exact beq_iff_eq.2 (bare_sum hm1)
        clear hx1 hx2 hx3 hx4 hin hsm
        go_wp2
        go_ret
        exact ⟨rfl, hb19⟩

end Go.Proofs.Qxb6631224a
