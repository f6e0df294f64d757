/-
  THE WALK OF (*Graph).Len (12).
-/
import Derived.Test.Qxb6631224aSearch
import Derived.BigRegion
import Derived.Laws.StructEq
namespace Go.Proofs.Qxb6631224a
open Go.RowKit

/-- A graph in memory, as far as Len reads it: the ids, how many edges, the bequests. -/
def GraphIs (w : World) (g : Nat) (n : Nat) (I : Nat → Nat → ByteArray) (ne : Nat) (nb : Nat) (lm : Nat → Nat) (M : Nat → Nat → Int) (lh : Nat → Nat) (H : Nat → Nat → Int) : Prop :=
  ∃ ai ci ae ce ab cb, w.cell? ⟨g, 0, none⟩ = some (.slice ai n ci) ∧ w.cell? ⟨g, 1, none⟩ = some (.slice ae ne ce) ∧ w.cell? ⟨g, 4, none⟩ = some (.slice ab nb cb) ∧ IdsRow w ai n I ∧ BeqRow w ab nb lm M lh H

/-- Two ids are one: field by field. -/
def sameId (I : Nat → Nat → ByteArray) (a b : Nat) : Bool := ((I a 0).toList == (I b 0).toList) && (((I a 1).toList == (I b 1).toList) && (((I a 2).toList == (I b 2).toList) && ((I a 3).toList == (I b 3).toList)))
theorem guard55 : Try.prog.eqGuardType Try.prog.depth 55 = false := by kernel_rfl
theorem held55 : Try.prog.stoodInHeld 55 = false := by kernel_rfl
theorem eql55 (I : Nat → Nat → ByteArray) (a b : Nat) (w : World) : (binOp .eql 55 (.agg #[.string (I a 0), .string (I a 1), .string (I a 2), .string (I a 3)]) (.agg #[.string (I b 0), .string (I b 1), .string (I b 2), .string (I b 3)])).run Try.prog w = .ok (.bool (sameId I a b)) w := by
  have hu := Try.underlying55
  have hh := held55
  have h9 := Try.underlying9
  rw [run_eql_struct, run_equalIn_struct w 9999 55 _ _ (by rw [Program.fieldsOf, Try.underlying55]) held55]
  simp only [Program.fieldsOf, Try.underlying55, sameId]
  go_simp
  by_cases h0 : (I a 0).toList = (I b 0).toList
  · by_cases h1 : (I a 1).toList = (I b 1).toList
    · by_cases h2 : (I a 2).toList = (I b 2).toList
      · by_cases h3 : (I a 3).toList = (I b 3).toList
        · simp [h0, h1, h2, h3]
        · simp [h0, h1, h2, h3]
      · simp [h0, h1, h2]
    · simp [h0, h1]
  · simp [h0]

theorem hide {p : Prop} (h : p) : Hid p := h
theorem unhide {p : Prop} (h : Hid p) : p := h

/-! ### What Len reckons for one heir -/
def loOf (I : Nat → Nat → ByteArray) (F : Nat) : Nat → Nat
  | 0 => 0
  | l + 1 => if sameId I l F = true then loOf I F l else l + 1
def hiOf (I : Nat → Nat → ByteArray) (F : Nat) : Nat → Nat → Nat
  | 0, h => h
  | d + 1, h => if sameId I h F = true then hiOf I F d (h + 1) else h
def loF (I : Nat → Nat → ByteArray) (F : Nat) : Nat := loOf I F F
def hiF (I : Nat → Nat → ByteArray) (n F : Nat) : Nat := hiOf I F (n - (F + 1)) (F + 1)
/-- What is left of the descent, of the climb, comes to what the whole comes to. -/
def LoAt (I : Nat → Nat → ByteArray) (F l : Nat) : Prop := loOf I F l = loF I F
def HiAt (I : Nat → Nat → ByteArray) (n F h : Nat) : Prop := hiOf I F (n - h) h = hiF I n F
theorem lo_step {I : Nat → Nat → ByteArray} {F l : Nat} (h : LoAt I F l) (h0 : 0 < l) (hs : sameId I (l - 1) F = true) : LoAt I F (l - 1) := by
  obtain ⟨l, rfl⟩ : ∃ m, l = m + 1 := ⟨l - 1, by omega⟩
  rw [Nat.add_sub_cancel] at hs ⊢
  unfold LoAt at h ⊢
  rw [loOf, if_pos hs] at h
  exact h
theorem lo_stop {I : Nat → Nat → ByteArray} {F l : Nat} (h : LoAt I F l) (h0 : 0 < l) (hs : sameId I (l - 1) F = false) : loF I F = l := by
  obtain ⟨l, rfl⟩ : ∃ m, l = m + 1 := ⟨l - 1, by omega⟩
  rw [Nat.add_sub_cancel] at hs
  unfold LoAt at h
  rw [loOf, if_neg (by rw [hs]; decide)] at h
  exact h.symm
theorem lo_zero {I : Nat → Nat → ByteArray} {F l : Nat} (h : LoAt I F l) (h0 : ¬ 0 < l) : loF I F = l := by
  obtain rfl : l = 0 := by omega
  exact h.symm
theorem hi_step {I : Nat → Nat → ByteArray} {n F h : Nat} (hh : HiAt I n F h) (h0 : h < n) (hs : sameId I h F = true) : HiAt I n F (h + 1) := by
  unfold HiAt at hh ⊢
  obtain ⟨d, hd⟩ : ∃ d, n - h = d + 1 := ⟨n - h - 1, by omega⟩
  rw [hd, hiOf, if_pos hs] at hh
  rw [show n - (h + 1) = d by omega]
  exact hh
theorem hi_stop {I : Nat → Nat → ByteArray} {n F h : Nat} (hh : HiAt I n F h) (h0 : h < n) (hs : sameId I h F = false) : hiF I n F = h := by
  unfold HiAt at hh
  obtain ⟨d, hd⟩ : ∃ d, n - h = d + 1 := ⟨n - h - 1, by omega⟩
  rw [hd, hiOf, if_neg (by rw [hs]; decide)] at hh
  exact hh.symm
theorem hi_end {I : Nat → Nat → ByteArray} {n F h : Nat} (hh : HiAt I n F h) (h0 : ¬ h < n) : hiF I n F = h := by
  unfold HiAt at hh
  rw [show n - h = 0 by omega, hiOf] at hh
  exact hh.symm
/-- The edges that one heir at position F inherits. -/
def termOf (I : Nat → Nat → ByteArray) (n : Nat) (M : Nat → Int) (l F : Nat) : Int := (l : Int) - ((bs M l (hiF I n F) : Int) - (bs M l (loF I F) : Int))
def innerOf (I : Nat → Nat → ByteArray) (n : Nat) (M : Nat → Int) (l : Nat) (H : Nat → Int) : Nat → Int
  | 0 => 0
  | j + 1 => innerOf I n M l H j + termOf I n M l (H j).toNat
def outerOf (I : Nat → Nat → ByteArray) (n : Nat) (lm : Nat → Nat) (M : Nat → Nat → Int) (lh : Nat → Nat) (H : Nat → Nat → Int) : Nat → Int
  | 0 => 0
  | k + 1 => outerOf I n lm M lh H k + innerOf I n (M k) (lm k) (H k) (lh k)
/-- A slot that holds a number, wrapped as Go wraps it. -/
def Wrapped (v : Value) (X : Int) : Prop := v = .int .i64 (wrap64 X)
theorem wrap_add (X y : Int) : wrap64 (wrap64 X + y) = wrap64 (X + y) := by unfold wrap64; omega
theorem wrap_small (n : Nat) (h : n ≤ 131072) : ((n : Nat) : Int) = wrap64 (n : Int) := by unfold wrap64; omega
theorem wrapped_start {ne : Nat} {I : Nat → Nat → ByteArray} {n : Nat} {lm : Nat → Nat} {M : Nat → Nat → Int} {lh : Nat → Nat} {H : Nat → Nat → Int} (h : ne ≤ 131072) : Wrapped (.int .i64 ne) ((ne : Int) + outerOf I n lm M lh H 0) := by
  show Value.int .i64 ne = .int .i64 (wrap64 ((ne : Int) + 0))
  rw [Int.add_zero, ← wrap_small ne h]
theorem wrapped_in {v : Value} {X : Int} {I : Nat → Nat → ByteArray} {n : Nat} {M : Nat → Int} {l : Nat} {H : Nat → Int} (h : Wrapped v X) : Wrapped v (X + innerOf I n M l H 0) := by
  show v = .int .i64 (wrap64 (X + 0))
  rw [Int.add_zero]; exact h
theorem wrapped_step {X : Int} {I : Nat → Nat → ByteArray} {n : Nat} {M : Nat → Int} {l : Nat} {H : Nat → Int} {j F : Nat} (hF : H j = (F : Int)) {lo hi : Nat} (hlo : loF I F = lo) (hhi : hiF I n F = hi) :
    Wrapped (.int .i64 (wrap64 (wrap64 (X + innerOf I n M l H j) + ((l : Int) - ((bs M l (hi : Int) : Int) - (bs M l (lo : Int) : Int)))))) (X + innerOf I n M l H (j + 1)) := by
  show _ = Value.int .i64 (wrap64 (X + (innerOf I n M l H j + termOf I n M l (H j).toNat)))
  rw [wrap_add, hF, Int.toNat_natCast, termOf, hlo, hhi, Int.add_assoc]
theorem wrapped_out {v : Value} {ne : Nat} {I : Nat → Nat → ByteArray} {n : Nat} {lm : Nat → Nat} {M : Nat → Nat → Int} {lh : Nat → Nat} {H : Nat → Nat → Int} {k : Nat} (h : Wrapped v ((ne : Int) + outerOf I n lm M lh H k + innerOf I n (M k) (lm k) (H k) (lh k))) :
    Wrapped v ((ne : Int) + outerOf I n lm M lh H (k + 1)) := by
  show v = .int .i64 (wrap64 ((ne : Int) + (outerOf I n lm M lh H k + innerOf I n (M k) (lm k) (H k) (lh k))))
  rw [← Int.add_assoc]; exact h
/-- What Len answers. -/
def LenAns (n ne : Nat) (X : Int) (e : Ending) : Prop := e = .returned (.tuple #[.int .i64 n, .int .i64 (wrap64 ((ne : Int) + X))])

theorem ids_all {w : World} {a : Option Addr} {n : Nat} {I : Nat → Nat → ByteArray} (h : IdsRow w a n I) (hn : 0 < n) : ∃ b off, a = some ⟨b, off, none⟩ ∧ ∀ i, i < n → w.cell? ⟨b, off + i * 4, none⟩ = some (.string (I i 0)) ∧ w.cell? ⟨b, off + i * 4 + 1, none⟩ = some (.string (I i 1)) ∧
    w.cell? ⟨b, off + i * 4 + 2, none⟩ = some (.string (I i 2)) ∧ w.cell? ⟨b, off + i * 4 + 3, none⟩ = some (.string (I i 3)) := by
  rcases h with h | h
  · omega
  · exact h
theorem hidc_alloc {w : World} {o : Obj} {b p : Nat} {s0 s1 s2 s3 : ByteArray} (h : w.cell? ⟨b, p, none⟩ = some (.string s0) ∧ w.cell? ⟨b, p + 1, none⟩ = some (.string s1) ∧ w.cell? ⟨b, p + 2, none⟩ = some (.string s2) ∧ w.cell? ⟨b, p + 3, none⟩ = some (.string s3)) :
    (w.alloc o).cell? ⟨b, p, none⟩ = some (.string s0) ∧ (w.alloc o).cell? ⟨b, p + 1, none⟩ = some (.string s1) ∧ (w.alloc o).cell? ⟨b, p + 2, none⟩ = some (.string s2) ∧ (w.alloc o).cell? ⟨b, p + 3, none⟩ = some (.string s3) := by
  have hb : Below w.heap.size w (w.alloc o) := (Below.refl _ _).alloc (Nat.le_refl _) o
  exact ⟨below_cell hb h.1, below_cell hb h.2.1, below_cell hb h.2.2.1, below_cell hb h.2.2.2⟩

set_option maxRecDepth 20000 in
set_option maxHeartbeats 4000000 in
theorem len (g n : Nat) (I : Nat → Nat → ByteArray) (ne nb : Nat) (lm : Nat → Nat) (M : Nat → Nat → Int) (lh : Nat → Nat) (H : Nat → Nat → Int) (w : World)
    (hn : n ≤ 131072) (hne : ne ≤ 131072) (hnb : nb ≤ 131072) (hg : GraphIs w g n I ne nb lm M lh H) (hin : HeirsIn n lh H nb) (hsm : Small lm lh nb) :
    Calls Try.prog 12 #[.pointer (some ⟨g, 0, none⟩)] w fun e w' => LenAns n ne (outerOf I n lm M lh H nb) e ∧ Below w.heap.size w w' := by
  obtain ⟨ai, ci, ae, ce, ab, cb, hc0, hc1, hc4, hids, hbeq⟩ := hg
  go_enter Try.func12, Try.ntmps12
  go_wp2_with fail
  go_loopw [3, 24] (fun te tk wr => ∃ k : Nat, k ≤ nb ∧ tk = .int .i64 k ∧ Wrapped te ((ne : Int) + outerOf I n lm M lh H k) ∧ Below w.heap.size w wr) (fun _ tk _ => nb - (intOf tk).toNat)
  case atStart => exact ⟨0, by omega, rfl, wrapped_start hne, Below.refl _ _⟩
  case round =>
    obtain ⟨k, hk, rfl, hx, hbel⟩ := hrel
    have d0 := below_cell hbel hc0
    have d1 := below_cell hbel hc1
    have d4 := below_cell hbel hc4
    by_cases hlt : k < nb
    · obtain ⟨bb, ob, rfl, s, am, cm, ah, ch, h0, h1, h2, ⟨hM, _, hl3⟩, hH, _, hl4⟩ := beq_at (beqs_below hbeq hbel) hlt
      have hlmk := (hsm k hlt).1
      have hlhk := (hsm k hlt).2
      go_wp2_with fail
      go_loopw [3, 38] (fun te tj wi => ∃ j : Nat, j ≤ lh k ∧ tj = .int .i64 j ∧ Wrapped te ((ne : Int) + outerOf I n lm M lh H k + innerOf I n (M k) (lm k) (H k) j) ∧ Below wr.heap.size wr wi) (fun _ tj _ => lh k - (intOf tj).toNat)
      case atStart => exact ⟨0, by omega, rfl, wrapped_in hx, Below.refl _ _⟩
      case round =>
        clear hx
        obtain ⟨j, hj, rfl, hx, hbel2⟩ := hrel
        have hbel3 := hbel.trans (hbel2.mono hbel.size)
        have e0 := below_cell hbel2 d0
        have e4 := below_cell hbel2 d4
        have f1 := below_cell hbel2 h1
        have f2 := below_cell hbel2 h2
        by_cases hltj : j < lh k
        · obtain ⟨bh, oh, rfl, hh⟩ := heir_at (heirs_below hH hbel2) (by omega)
          obtain ⟨g0, sh, g1⟩ := hh j hltj
          clear hh
          have hfrom := hin k hlt j hltj
          obtain ⟨F, hF⟩ : ∃ F : Nat, H k j = (F : Int) := ⟨(H k j).toNat, by omega⟩
          rw [hF] at g0
          have hFx : Hid (H k j = (F : Int)) := hF
          have hFn : F < n := by omega
          clear hF
          have hM2 := ints_below hM hbel2
          obtain rfl := hx
          go_wp2_with fail
          go_quiet (fail)
          obtain ⟨bi, oi, hai, hidc⟩ := ids_all (ids_below hids hbel3) (by omega)
          have eF := hidc F hFn
          have al0 : (wr.alloc (.cells #[.int .i64 F, .string sh] 61)).cell? ⟨g, 0, none⟩ = some (.slice (some ⟨bi, oi, none⟩) n ci) := by rw [← hai]; exact below_cell ((Below.refl _ _).alloc (Nat.le_refl _) _) e0
          have af1 : (wr.alloc (.cells #[.int .i64 F, .string sh] 61)).cell? ⟨bb, ob + k * 3 + 1, none⟩ = some (.slice am (lm k) cm) := below_cell ((Below.refl _ _).alloc (Nat.le_refl _) _) f1
          obtain ⟨al1, al2, al3, al4⟩ := hidc_alloc (o := .cells #[.int .i64 F, .string sh] 61) eF
          have hMw : IntRow (wr.alloc (.cells #[.int .i64 F, .string sh] 61)) am (lm k) (M k) := ints_below hM2 ((Below.refl _ _).alloc (Nat.le_refl _) _)
          have hbelW := hbel2.trans (((Below.refl wr.heap.size wr).alloc (Nat.le_refl _) (.cells #[.int .i64 F, .string sh] 61)).mono hbel2.size)
          have q3 : (F : Int) < (n : Int) := by omega
          subst hai
          clear hin hsm hbel hbel2 hbel3 hids hbeq hc0 hc1 hc4 d0 d1 d4 h0 h1 h2 hM hH e0 e4 f2 g0 g1 hfrom hl3 hl4 hk hj hlt eF hM2
          go_wp2_with fail
          go_loopw [8] (fun tl wl => ∃ l q : Nat, l ≤ F ∧ tl = .int .i64 l ∧ wl = (wr.alloc (.cells #[.int .i64 F, .string sh] 61)).drewN q ∧ LoAt I F l) (fun tl _ => (intOf tl).toNat)
          case atStart => exact ⟨F, _, by omega, rfl, rfl, rfl⟩
          case round =>
            obtain ⟨l, q, hl, rfl, rfl, hlo⟩ := hrel
            by_cases hl0 : 0 < l
            · have el := hidc (l - 1) (by omega)
              obtain ⟨am1, am2, am3, am4⟩ := hidc_alloc (o := .cells #[.int .i64 F, .string sh] 61) el
              have q1 : (0 : Int) ≤ (l : Int) - 1 := by omega
              have q2 : (l : Int) - 1 < (n : Int) := by omega
              have qw : IntKind.i64.wrap ((l : Int) - 1) = (l : Int) - 1 := by rw [IntKind.wrap_i64]; omega
              have heq := eql55 I (l - 1) F
              have hgd := guard55
              by_cases hs : sameId I (l - 1) F = true
              · have hlo' := lo_step hlo hl0 hs
                clear el hidc hlo hMw hbelW hFx af1
                go_wp2_with fail
                go_big_region
                go_wp2
                go_roundw
                case rel => exact ⟨l - 1, _, by omega, by go_num, rfl, hlo'⟩
                case measure => simp [intOf]; omega
              · have hs' : sameId I (l - 1) F = false := by simpa using hs
                have hlo' := hide (lo_stop hlo hl0 hs')
                clear hs hlo el
                go_wp2_with fail
                go_big_region
                have hlo := hlo'
                clear hlo' hs' heq hgd am1 am2 am3 am4 qw q1 q2
                go_wp2_with fail
                go_loopw [9] (fun th wl => ∃ h q : Nat, F + 1 ≤ h ∧ h ≤ n ∧ th = .int .i64 h ∧ wl = (wr.alloc (.cells #[.int .i64 F, .string sh] 61)).drewN q ∧ HiAt I n F h) (fun th _ => n - (intOf th).toNat)
                case atStart => exact ⟨F + 1, q + 1, by omega, by omega, by go_num, rfl, rfl⟩
                case round =>
                  obtain ⟨h, q2, hh0, hh1, rfl, rfl, hhi⟩ := hrel
                  by_cases hlh : h < n
                  · have eh := hidc h hlh
                    obtain ⟨am1, am2, am3, am4⟩ := hidc_alloc (o := .cells #[.int .i64 F, .string sh] 61) eh
                    have p1 : (h : Int) < (n : Int) := by omega
                    have heq := eql55 I h F
                    have hgd := guard55
                    by_cases hs : sameId I h F = true
                    · have hhi' := hi_step hhi hlh hs
                      clear hidc eh hlo hhi hMw hbelW hFx
                      go_wp2_with fail
                      go_big_region
                      go_wp2
                      go_roundw
                      case rel => exact ⟨h + 1, _, by omega, by omega, by go_num, rfl, hhi'⟩
                      case measure => simp [intOf]; omega
                    · have hs' : sameId I h F = false := by simpa using hs
                      have hhi' := hide (hi_stop hhi hlh hs')
                      clear hs hhi hidc eh
                      go_wp2_with fail
                      go_big_region
                      have hhi := hhi'
                      clear hhi' heq
                      go_wp2_with fail
                      refine (bsearch am (lm k) cm (M k) (l : Nat) _ hlmk (by exact hMw)).mono ?_
                      rintro e w7 ⟨⟨b7, rfl, hbs1⟩, rfl⟩
                      go_wp2_with fail
                      refine (bsearch am (lm k) cm (M k) (h : Nat) _ hlmk (by exact hMw)).mono ?_
                      rintro e w8 ⟨⟨b8, rfl, hbs2⟩, rfl⟩
                      have hres := wrapped_step (X := (ne : Int) + outerOf I n lm M lh H k) (I := I) (n := n) (M := M k) (l := lm k) hFx.out hlo.out hhi.out
                      have HR := hide hres
                      clear hres
                      go_wp2
                      go_roundw
                      case rel => exact ⟨j + 1, by omega, by go_num, unhide HR, below_drewN hbelW _⟩
                      case measure => simp [intOf]; omega
                  · have hhi' := hide (hi_end hhi hlh)
                    have hld : decide (h < n) = false := decide_eq_false hlh
                    clear hhi hidc
                    go_wp2_with fail
                    go_big_region
                    have hhi := hhi'
                    clear hhi'
                    go_wp2_with fail
                    refine (bsearch am (lm k) cm (M k) (l : Nat) _ hlmk (by exact hMw)).mono ?_
                    rintro e w7 ⟨⟨b7, rfl, hbs1⟩, rfl⟩
                    go_wp2_with fail
                    refine (bsearch am (lm k) cm (M k) (h : Nat) _ hlmk (by exact hMw)).mono ?_
                    rintro e w8 ⟨⟨b8, rfl, hbs2⟩, rfl⟩
                    have hres := wrapped_step (X := (ne : Int) + outerOf I n lm M lh H k) (I := I) (n := n) (M := M k) (l := lm k) hFx.out hlo.out hhi.out
                    have HR := hide hres
                    clear hres
                    go_wp2
                    go_roundw
                    case rel => exact ⟨j + 1, by omega, by go_num, unhide HR, below_drewN hbelW _⟩
                    case measure => simp [intOf]; omega
            · have hlo' := hide (lo_zero hlo hl0)
              have hld : decide (0 < l) = false := decide_eq_false hl0
              have hl9 := hide hl0
              clear hlo hl0
              go_wp2_with fail
              go_big_region
              have hlo := hlo'
              clear hlo' hld hl9
              go_wp2_with fail
              go_loopw [9] (fun th wl => ∃ h q : Nat, F + 1 ≤ h ∧ h ≤ n ∧ th = .int .i64 h ∧ wl = (wr.alloc (.cells #[.int .i64 F, .string sh] 61)).drewN q ∧ HiAt I n F h) (fun th _ => n - (intOf th).toNat)
              case atStart => exact ⟨F + 1, q + 1, by omega, by omega, by go_num, rfl, rfl⟩
              case round =>
                obtain ⟨h, q2, hh0, hh1, rfl, rfl, hhi⟩ := hrel
                by_cases hlh : h < n
                · have eh := hidc h hlh
                  obtain ⟨am1, am2, am3, am4⟩ := hidc_alloc (o := .cells #[.int .i64 F, .string sh] 61) eh
                  have p1 : (h : Int) < (n : Int) := by omega
                  have heq := eql55 I h F
                  have hgd := guard55
                  by_cases hs : sameId I h F = true
                  · have hhi' := hi_step hhi hlh hs
                    clear hidc eh hlo hhi hMw hbelW hFx
                    go_wp2_with fail
                    go_big_region
                    go_wp2
                    go_roundw
                    case rel => exact ⟨h + 1, _, by omega, by omega, by go_num, rfl, hhi'⟩
                    case measure => simp [intOf]; omega
                  · have hs' : sameId I h F = false := by simpa using hs
                    have hhi' := hide (hi_stop hhi hlh hs')
                    clear hs hhi hidc eh
                    go_wp2_with fail
                    go_big_region
                    have hhi := hhi'
                    clear hhi' heq
                    go_wp2_with fail
                    refine (bsearch am (lm k) cm (M k) (l : Nat) _ hlmk (by exact hMw)).mono ?_
                    rintro e w7 ⟨⟨b7, rfl, hbs1⟩, rfl⟩
                    go_wp2_with fail
                    refine (bsearch am (lm k) cm (M k) (h : Nat) _ hlmk (by exact hMw)).mono ?_
                    rintro e w8 ⟨⟨b8, rfl, hbs2⟩, rfl⟩
                    have hres := wrapped_step (X := (ne : Int) + outerOf I n lm M lh H k) (I := I) (n := n) (M := M k) (l := lm k) hFx.out hlo.out hhi.out
                    have HR := hide hres
                    clear hres
                    go_wp2
                    go_roundw
                    case rel => exact ⟨j + 1, by omega, by go_num, unhide HR, below_drewN hbelW _⟩
                    case measure => simp [intOf]; omega
                · have hhi' := hide (hi_end hhi hlh)
                  have hld : decide (h < n) = false := decide_eq_false hlh
                  clear hhi hidc
                  go_wp2_with fail
                  go_big_region
                  have hhi := hhi'
                  clear hhi'
                  go_wp2_with fail
                  refine (bsearch am (lm k) cm (M k) (l : Nat) _ hlmk (by exact hMw)).mono ?_
                  rintro e w7 ⟨⟨b7, rfl, hbs1⟩, rfl⟩
                  go_wp2_with fail
                  refine (bsearch am (lm k) cm (M k) (h : Nat) _ hlmk (by exact hMw)).mono ?_
                  rintro e w8 ⟨⟨b8, rfl, hbs2⟩, rfl⟩
                  have hres := wrapped_step (X := (ne : Int) + outerOf I n lm M lh H k) (I := I) (n := n) (M := M k) (l := lm k) hFx.out hlo.out hhi.out
                  have HR := hide hres
                  clear hres
                  go_wp2
                  go_roundw
                  case rel => exact ⟨j + 1, by omega, by go_num, unhide HR, below_drewN hbelW _⟩
                  case measure => simp [intOf]; omega
        · have ej : j = lh k := by omega
          rw [ej] at hx
          have hx' := wrapped_out hx
          clear ej hx
          go_wp2
          go_roundw
          case rel => exact ⟨k + 1, by omega, by go_num, hx', hbel3⟩
          case measure => simp [intOf]; omega
    · have e : k = nb := by omega
      subst e
      obtain rfl := hx
      go_wp2
      go_ret2
      exact ⟨rfl, hbel⟩

end Go.Proofs.Qxb6631224a
