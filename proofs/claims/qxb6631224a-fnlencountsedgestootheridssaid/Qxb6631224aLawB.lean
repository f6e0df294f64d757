/-
  THE WALK OF FnLenCountsEdgesToOtherIDs (3).
-/
import Derived.Test.Qxb6631224aBytesB
import Derived.Test.Qxb6631224aGraphB
import Derived.Test.Qxb6631224aChecks
namespace Go.Proofs.Qxb6631224a
open Go.RowKit

theorem len_out {n ne : Nat} {X : Int} {e : Ending} (h : LenAns n ne X e) : ∃ x, e = .returned (.tuple #[.int .i64 n, .int .i64 x]) ∧ Hid (x = wrap64 ((ne : Int) + X)) := ⟨_, h, rfl⟩
theorem c_start {ne : Nat} {I : Nat → Nat → ByteArray} {lm : Nat → Nat} {M : Nat → Nat → Int} {lh : Nat → Nat} {H : Nat → Nat → Int} (h : ne ≤ 131072) : Wrapped (.int .i64 ne) ((ne : Int) + cntOuter I lm M lh H 0) := by
  show Value.int .i64 ne = .int .i64 (wrap64 ((ne : Int) + 0))
  rw [Int.add_zero, ← wrap_small ne h]
theorem c_zero {v : Value} {X Y : Int} (h : Wrapped v X) (hY : Y = 0) : Wrapped v (X + Y) := by
  rw [hY, Int.add_zero]; exact h
theorem c_same {v : Value} {X : Int} {I : Nat → Nat → ByteArray} {M : Nat → Int} {F m Mm : Nat} (h : Wrapped v (X + cntOf I M F m)) (hM : M m = (Mm : Int)) (hs : sameId I Mm F = true) : Wrapped v (X + cntOf I M F (m + 1)) := by
  show Wrapped v (X + (cntOf I M F m + (if sameId I (M m).toNat F = true then 0 else 1)))
  rw [hM, Int.toNat_natCast, if_pos hs, Int.add_zero]; exact h
theorem c_other {X : Int} {I : Nat → Nat → ByteArray} {M : Nat → Int} {F m Mm : Nat} (hM : M m = (Mm : Int)) (hs : sameId I Mm F = false) : Wrapped (.int .i64 (wrap64 (wrap64 (X + cntOf I M F m) + 1))) (X + cntOf I M F (m + 1)) := by
  show _ = Value.int .i64 (wrap64 (X + (cntOf I M F m + (if sameId I (M m).toNat F = true then 0 else 1))))
  rw [hM, Int.toNat_natCast, if_neg (by rw [hs]; decide), wrap_add, Int.add_assoc]
theorem c_inner {v : Value} {X : Int} {I : Nat → Nat → ByteArray} {M : Nat → Int} {l : Nat} {H : Nat → Int} {j F : Nat} (hF : H j = (F : Int)) (h : Wrapped v (X + cntInner I M l H j + cntOf I M F l)) : Wrapped v (X + cntInner I M l H (j + 1)) := by
  show Wrapped v (X + (cntInner I M l H j + cntOf I M (H j).toNat l))
  rw [hF, Int.toNat_natCast, ← Int.add_assoc]; exact h
theorem c_outer {v : Value} {X : Int} {I : Nat → Nat → ByteArray} {lm : Nat → Nat} {M : Nat → Nat → Int} {lh : Nat → Nat} {H : Nat → Nat → Int} {k : Nat} (h : Wrapped v (X + cntOuter I lm M lh H k + cntInner I (M k) (lm k) (H k) (lh k))) : Wrapped v (X + cntOuter I lm M lh H (k + 1)) := by
  show Wrapped v (X + (cntOuter I lm M lh H k + cntInner I (M k) (lm k) (H k) (lh k)))
  rw [← Int.add_assoc]; exact h
theorem ints_drew {w : World} {q : Nat} {a : Option Addr} {n : Nat} {M : Nat → Int} (h : IntRow w a n M) : IntRow (w.drewN q) a n M := h

set_option maxRecDepth 20000 in
set_option maxHeartbeats 4000000 in
theorem law3 (a0 a1 a2 : Option Addr) (n0 c0 n1 c1 n2 c2 : Nat) (I : Nat → Nat → ByteArray) (lm : Nat → Nat) (M : Nat → Nat → Int) (lh : Nat → Nat) (H : Nat → Nat → Int) (w : World)
    (hn0 : n0 ≤ 9223372036854775807) (hn1 : n1 ≤ 9223372036854775807) (hn2 : n2 ≤ 9223372036854775807) (r0 : IdsRow w a0 n0 I) (k0 : NilOk a0 n0 c0) (r1 : EdgesRow w a1 n1) (k1 : NilOk a1 n1 c1) (r2 : BeqRow w a2 n2 lm M lh H) (k2 : NilOk a2 n2 c2) :
    Calls Try.prog 3 #[.slice a0 n0 c0, .slice a1 n1 c1, .slice a2 n2 c2] w fun e w' => e = .returned (.bool true) ∧ Below w.heap.size w w' := by
  go_enter Try.func3, Try.ntmps3
  go_wp2_with fail
  refine (bytes5 a0 a1 a2 n0 c0 n1 c1 n2 c2 I lm M lh H _ hn0 hn1 hn2 r0 r1 r2).mono ?_
  rintro e w ⟨⟨b, rfl⟩, rfl⟩
  cases b
  · go_wp2; go_ret; exact ⟨rfl, Below.refl _ _⟩
  go_wp2_with fail
  refine (fits a0 a1 a2 n0 c0 n1 c1 n2 c2 I lm M lh H _ r0 r1 r2).mono ?_
  rintro e w1 ⟨⟨b, rfl, hfit⟩, hb1⟩
  cases b
  · go_wp2; go_ret; exact ⟨rfl, hb1⟩
  obtain ⟨hm0, hm1, hm2, hsm⟩ := hfit rfl
  clear hfit hn0 hn1 hn2
  have r0' := ids_below r0 hb1
  have r1' := edges_below r1 hb1
  have r2' := beqs_below r2 hb1
  clear r0 r1 r2
  by_cases t0 : (4096 : Int) < n0
  · go_wp2; go_ret; exact ⟨rfl, hb1⟩
  go_wp2_with fail
  refine (pairsFit a2 n2 c2 lm M lh H _ hm2 r2').mono ?_
  rintro e w1 ⟨⟨b, rfl⟩, rfl⟩
  cases b
  · go_wp2; go_ret; exact ⟨rfl, hb1⟩
  go_wp2_with fail
  refine (heirsIn n0 a2 n2 c2 lm M lh H _ hm2 r2').mono ?_
  rintro e w1 ⟨⟨b, rfl, hhin⟩, rfl⟩
  cases b
  · go_wp2; go_ret; exact ⟨rfl, hb1⟩
  have hin := hhin rfl
  clear hhin
  go_wp2_with fail
  refine (makersOrdered n0 a2 n2 c2 lm M lh H _ hm2 hsm r2').mono ?_
  rintro e w2 ⟨⟨b, rfl, hmk⟩, nq, rfl⟩
  cases b
  · go_wp2; go_ret; exact ⟨rfl, below_drewN hb1 _⟩
  have hmi := hmk rfl
  clear hmk
  go_wp2_with fail
  refine (grouped a0 n0 c0 I _ hm0 (by exact r0')).mono ?_
  rintro e w2 ⟨⟨b, rfl, hgr⟩, nq2, rfl⟩
  cases b
  · go_wp2; go_ret; exact ⟨rfl, below_drewN hb1 _⟩
  have hgp := hgr rfl
  clear hgr
  go_wp2_with fail
  refine (graph a0 a1 a2 n0 c0 n1 c1 n2 c2 I lm M lh H _ hm0 (by exact r0') k0 hm1 (by exact r1') k1 hm2 (by exact r2') k2 hsm).mono ?_
  rintro e w2 ⟨rfl, hg1, hb2⟩
  have hb2' : Below w1.heap.size w1 w2 := (below_drewN (Below.refl w1.heap.size w1) (nq + nq2)).trans hb2
  have hb12 := hb1.trans (hb2'.mono hb1.size)
  have r0'' := ids_below r0' hb2'
  have r2'' := beqs_below r2' hb2'
  clear r0' r1' r2' hb1 hb2 hb2' k0 k1 k2
  go_wp2_with fail
  refine (len _ n0 I n1 n2 lm M lh H _ hm0 hm1 hm2 (by exact hg1) hin hsm).mono ?_
  rintro e w3 ⟨he, hb3⟩
  obtain ⟨x1, rfl, hx1⟩ := len_out he
  have hb13 := hb12.trans (hb3.mono hb12.size)
  have r0 := ids_below r0'' hb3
  have r2 := beqs_below r2'' hb3
  clear he hg1 hb12 hb3 r0'' r2''
  go_wp2_with fail
  go_loopw [10, 11] (fun tw ti wr => ∃ k : Nat, k ≤ n2 ∧ ti = .int .i64 k ∧ Wrapped tw ((n1 : Int) + cntOuter I lm M lh H k) ∧ Below w3.heap.size w3 wr) (fun _ ti _ => n2 - (intOf ti).toNat)
  case atStart => exact ⟨0, by omega, rfl, c_start hm1, Below.refl _ _⟩
  case round =>
    obtain ⟨k, hk, rfl, hx, hbel⟩ := hrel
    rename World => w4
    by_cases hlt : k < n2
    · obtain ⟨bb, ob, rfl, s, am, cm, ah, ch, h0, h1, h2, ⟨hM, _, hl3⟩, hH, _, hl4⟩ := beq_at (beqs_below r2 hbel) hlt
      have hlm := (hsm k hlt).1
      have hlh := (hsm k hlt).2
      have hmk := hmi k hlt
      have hhk := hin k hlt
      have r0w := ids_below r0 hbel
      have hcut := hide hx
      clear hx
      go_wp2_with fail
      go_loopw [10, 13] (fun tw tj wr => ∃ j : Nat, j ≤ lh k ∧ tj = .int .i64 j ∧ Wrapped tw ((n1 : Int) + cntOuter I lm M lh H k + cntInner I (M k) (lm k) (H k) j) ∧ Below (w4.heap.size + 1) (w4.alloc (.cells #[.string s, .slice am (lm k) cm, .slice ah (lh k) ch] 36)) wr) (fun _ tj _ => lh k - (intOf tj).toNat)
      case atStart => exact ⟨0, by omega, rfl, c_zero hcut.out rfl, Below.refl _ _⟩
      case round =>
        clear hcut
        obtain ⟨j, hj, rfl, hx, hbel2⟩ := hrel
        rename World => w5
        have hbel3 : Below w4.heap.size w4 w5 := ((Below.refl w4.heap.size w4).alloc (Nat.le_refl _) _).trans (hbel2.mono (by omega))
        have f1 : w5.cell? ⟨w4.heap.size, 1, none⟩ = some (.slice am (lm k) cm) := (hbel2.cell (p := ⟨w4.heap.size, 1, none⟩) (by show w4.heap.size < w4.heap.size + 1; omega)).trans (by simp)
        have f2 : w5.cell? ⟨w4.heap.size, 2, none⟩ = some (.slice ah (lh k) ch) := (hbel2.cell (p := ⟨w4.heap.size, 2, none⟩) (by show w4.heap.size < w4.heap.size + 1; omega)).trans (by simp)
        by_cases hltj : j < lh k
        · obtain ⟨bh, oh, rfl, hh⟩ := heir_at (heirs_below hH hbel3) (by omega)
          obtain ⟨g0, sh, g1⟩ := hh j hltj
          clear hh
          have hfrom := hhk j hltj
          obtain ⟨F, hF⟩ : ∃ F : Nat, H k j = (F : Int) := ⟨(H k j).toNat, by omega⟩
          rw [hF] at g0
          have hFx : Hid (H k j = (F : Int)) := hF
          have hFn : F < n0 := by omega
          have q3 : (F : Int) < (n0 : Int) := by omega
          clear hF
          obtain ⟨bi, oi, rfl, hidc⟩ := ids_all (ids_below r0w hbel3) (by omega)
          obtain ⟨i0, i1, i2, i3⟩ := hidc F hFn
          have hM2 := ints_below hM hbel3
          have hx' := hide hx
          clear hx
          go_wp2_with fail
          have hcM : (w5.alloc (.cells #[.string (I F 0), .string (I F 1), .string (I F 2), .string (I F 3)] 38)).cell? ⟨w4.heap.size, 1, none⟩ = some (.slice am (lm k) cm) := below_cell ((Below.refl _ _).alloc (Nat.le_refl _) _) f1
          have hMw : IntRow (w5.alloc (.cells #[.string (I F 0), .string (I F 1), .string (I F 2), .string (I F 3)] 38)) am (lm k) (M k) := ints_below hM2 ((Below.refl _ _).alloc (Nat.le_refl _) _)
          have hbW : Below (w4.heap.size + 1) (w4.alloc (.cells #[.string s, .slice am (lm k) cm, .slice (some ⟨bh, oh, none⟩) (lh k) ch] 36)) (w5.alloc (.cells #[.string (I F 0), .string (I F 1), .string (I F 2), .string (I F 3)] 38)) := hbel2.trans (((Below.refl w5.heap.size w5).alloc (Nat.le_refl _) _).mono (by have := hbel2.size; simp at this; omega))
          clear f1 f2 g0 g1 hM hM2 hH h0 h1 h2 r0 r2 r0w hin hsm hmi hbel hbel2 hbel3 hb13 hx1 hgp hfrom hhk i0 i1 i2 i3
          go_loopw [10, 15] (fun tw tm wr => ∃ m q : Nat, m ≤ lm k ∧ tm = .int .i64 m ∧ Wrapped tw ((n1 : Int) + cntOuter I lm M lh H k + cntInner I (M k) (lm k) (H k) j + cntOf I (M k) F m) ∧ wr = (w5.alloc (.cells #[.string (I F 0), .string (I F 1), .string (I F 2), .string (I F 3)] 38)).drewN q) (fun _ tm _ => lm k - (intOf tm).toNat)
          case atStart => exact ⟨0, 0, by omega, rfl, c_zero hx'.out rfl, rfl⟩
          case round =>
            clear hx'
            obtain ⟨m, q, hm, rfl, hx, rfl⟩ := hrel
            by_cases hltm : m < lm k
            · obtain ⟨bm, om, rfl, hMc⟩ := int_at hMw (by omega)
              have y0 := hMc m hltm
              have hmr := hmk.1 m hltm
              obtain ⟨Mm, hMm⟩ : ∃ Mm : Nat, M k m = (Mm : Int) := ⟨(M k m).toNat, by omega⟩
              rw [hMm] at y0
              have hMx : Hid (M k m = (Mm : Int)) := hMm
              have q4 : (Mm : Int) < (n0 : Int) := by omega
              obtain ⟨am1, am2, am3, am4⟩ := hidc_alloc (o := .cells #[.string (I F 0), .string (I F 1), .string (I F 2), .string (I F 3)] 38) (hidc Mm (by omega))
              clear hMm hmr hMc hMw hidc hmk hbW
              have heq := neq38 I Mm F
              have hgd := guard38
              by_cases hs : sameId I Mm F = true
              · have hx2 := hide (c_same hx hMx.out hs)
                clear hx hMx
                go_wp2_with fail
                go_big_region
                go_wp2
                go_roundw
                case rel => exact ⟨m + 1, q + 1, by omega, by go_num, hx2.out, rfl⟩
                case measure => simp [intOf]; omega
              · have hs' : sameId I Mm F = false := by simpa using hs
                have hx2 := hide (c_other (X := (n1 : Int) + cntOuter I lm M lh H k + cntInner I (M k) (lm k) (H k) j) hMx.out hs')
                clear hs hMx
                obtain rfl := hx
                go_wp2_with fail
                go_big_region
                go_wp2
                go_roundw
                case rel => exact ⟨m + 1, q + 1, by omega, by go_num, hx2.out, rfl⟩
                case measure => simp [intOf]; omega
            · have em : m = lm k := by omega
              rw [em] at hx
              have hx2 := hide (c_inner hFx.out hx)
              clear em hx hidc hMw hmk
              go_wp2
              go_roundw
              case rel => exact ⟨j + 1, by omega, by go_num, hx2.out, below_drewN hbW _⟩
              case measure => simp [intOf]; omega
        · have ej : j = lh k := by omega
          rw [ej] at hx
          have hx2 := hide (c_outer hx)
          have hbel4 := hbel.trans (hbel3.mono hbel.size)
          clear ej hx
          go_wp2
          go_roundw
          case rel => exact ⟨k + 1, by omega, by go_num, hx2.out, hbel4⟩
          case measure => simp [intOf]; omega
    · have e : k = n2 := by omega
      rw [e] at hx
      obtain rfl := hx
      have f1 : (x1 == wrap64 ((n1 : Int) + cntOuter I lm M lh H n2)) = true := by
        rw [hx1.out, cntOuter_is hgp hmi hin n2 (Nat.le_refl _)]; exact beq_self_eq_true _
      have hfin := hb13.trans (hbel.mono hb13.size)
      clear e hx1 hin hsm hmi r0 r2 hgp
      go_wp2
      go_ret
      exact ⟨rfl, hfin⟩

end Go.Proofs.Qxb6631224a
