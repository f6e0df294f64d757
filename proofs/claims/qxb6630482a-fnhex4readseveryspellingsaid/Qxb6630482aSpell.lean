/-
  THE WALK OF hexSpell (9).
-/
import Derived.Test.Qxb6630482aLawA
namespace Go.Proofs.Qxb6630482a
open Go.RowKit Go.Proofs.Qxb6630482a.Plain

/-- Digit i of n, the most significant first. -/
def nib (n : Int) (i : Nat) : Int := match i with | 0 => n / 4096 % 16 | 1 => n / 256 % 16 | 2 => n / 16 % 16 | _ => n % 16

theorem wraps_u16 (n : Int) (h₀ : 0 ≤ n) (h₁ : n < 2 ^ 16) : IntKind.u16.wrap n = n := by
  simp [IntKind.wrap, IntKind.bits, IntKind.signed]; omega
theorem and15u (x : Int) (h0 : 0 ≤ x) (h1 : x ≤ 65535) : bits .and .u16 x 15 = x % 16 := bits_mask .u16 16 (by decide) wraps_u16 4 (by decide) x h0 (by omega)
theorem nibNat (x : Int) (h0 : 0 ≤ x) (h1 : x ≤ 65535) : ∃ D : Nat, bits .and .u16 x 15 = (D : Int) ∧ D ≤ 15 ∧ (D : Int) = x % 16 := by
  refine ⟨(x % 16).toNat, ?_, by omega, by omega⟩
  rw [and15u x h0 h1]; omega

/-- What hexSpell has laid at the head of round k. -/
def Spelt (w : World) (B : Nat) (n : Int) (k : Nat) : Prop := ∃ f, w.rowIs B 5 4 f ∧ ∀ i, i < k → ∃ s, f i = .int .u8 s ∧ 0 ≤ s ∧ s ≤ 255 ∧ dig s = nib n i
theorem spelt_cell {w : World} {B : Nat} {n : Int} {k i : Nat} (h : Spelt w B n k) (hi : i < 4) : (∃ v, w.cell? ⟨B, i, none⟩ = some v) ∧ w.frozen? ⟨B, i, none⟩ = false := by
  obtain ⟨f, hr, _⟩ := h
  exact ⟨⟨_, hr.cell hi⟩, hr.frozen i⟩
theorem spelt_step {w : World} {B : Nat} {n : Int} {k : Nat} {s : Int} (h : Spelt w B n k) (h0 : 0 ≤ s) (h1 : s ≤ 255) (hd : dig s = nib n k) : Spelt (w.setCell ⟨B, k, none⟩ (.int .u8 s)) B n (k + 1) := by
  obtain ⟨f, hr, hf⟩ := h
  refine ⟨_, hr.set _ _, fun i hi => ?_⟩
  by_cases e : i = k
  · subst e; exact ⟨s, if_pos rfl, h0, h1, hd⟩
  · obtain ⟨t, h⟩ := hf i (by omega)
    exact ⟨t, by rw [if_neg e]; exact h.1, h.2⟩

theorem al_byte (k : Nat) (hk : k < 32) : 0 ≤ al k ∧ al k ≤ 255 := by
  have h : ∀ i : Fin 32, 0 ≤ al i.val ∧ al i.val ≤ 255 := by decide +kernel
  exact h ⟨k, hk⟩
theorem spelt_low {w : World} {B : Nat} {n : Int} {k D : Nat} (h : Spelt w B n k) (hD : D ≤ 15) (hd : (D : Int) = nib n k) (hk : D < ({ data := #[48, 49, 50, 51, 52, 53, 54, 55, 56, 57, 97, 98, 99, 100, 101, 102, 48, 49, 50, 51, 52, 53, 54, 55, 56, 57, 65, 66, 67, 68, 69, 70] } : ByteArray).size) :
    Spelt (w.setCell ⟨B, k, none⟩ (.int .u8 ((({ data := #[48, 49, 50, 51, 52, 53, 54, 55, 56, 57, 97, 98, 99, 100, 101, 102, 48, 49, 50, 51, 52, 53, 54, 55, 56, 57, 65, 66, 67, 68, 69, 70] } : ByteArray)[D]'hk).toNat : Int))) B n (k + 1) := by
  have hb := al_byte D (by omega)
  have hx := dig_al D (by omega)
  rw [al_at D hk]
  exact spelt_step h hb.1 hb.2 (by rw [hx, ← hd]; omega)
theorem spelt_up {w : World} {B : Nat} {n : Int} {k D : Nat} (h : Spelt w B n k) (hD : D ≤ 15) (hd : (D : Int) = nib n k) (hk : 16 + D < ({ data := #[48, 49, 50, 51, 52, 53, 54, 55, 56, 57, 97, 98, 99, 100, 101, 102, 48, 49, 50, 51, 52, 53, 54, 55, 56, 57, 65, 66, 67, 68, 69, 70] } : ByteArray).size) :
    Spelt (w.setCell ⟨B, k, none⟩ (.int .u8 ((({ data := #[48, 49, 50, 51, 52, 53, 54, 55, 56, 57, 97, 98, 99, 100, 101, 102, 48, 49, 50, 51, 52, 53, 54, 55, 56, 57, 65, 66, 67, 68, 69, 70] } : ByteArray)[16 + D]'hk).toNat : Int))) B n (k + 1) := by
  have hb := al_byte (16 + D) (by omega)
  have hx := dig_al (16 + D) (by omega)
  rw [al_at (16 + D) hk]
  exact spelt_step h hb.1 hb.2 (by rw [hx, ← hd]; omega)

set_option maxRecDepth 10000 in
set_option maxHeartbeats 1000000 in
theorem spell (n u : Int) (w : World) (hn0 : 0 ≤ n) (hn1 : n ≤ 65535) :
    Calls Try.prog 9 #[.int .u16 n, .int .u8 u] w fun e w' => e = .returned (.slice (some ⟨w.heap.size, 0, none⟩) 4 4) ∧ Spelt w' w.heap.size n 4 ∧ Below w.heap.size w w' ∧ w'.heap.size = w.heap.size + 1 := by
  have hmk : ∀ w, (Instr.makeSlice 22 (.int .i64 4) (.int .i64 4)).run Try.prog w = .ok (.slice (some ⟨w.heap.size, 0, none⟩) 4 4) (w.alloc (.cells (madeCells #[.int .u8 0] 4) 5)) := fun w => make22 4 (by omega) w
  go_enter Try.func9, Try.ntmps9
  go_wp2
  go_loopw [6] (fun ti wr => ∃ k : Nat, k ≤ 4 ∧ ti = .int .i64 k ∧ Spelt wr w.heap.size n k ∧ Below w.heap.size w wr ∧ wr.heap.size = w.heap.size + 1) (fun ti _ => 4 - (intOf ti).toNat)
  case atStart => exact ⟨0, by omega, rfl, ⟨_, World.rowIs_made w _ 4 5, fun i h => by omega⟩, (Below.refl _ _).alloc (Nat.le_refl _) _, by simp⟩
  case round =>
    obtain ⟨k, hk, rfl, hsp, hbel, hsz⟩ := hrel
    have Hsz : Hid (wr.heap.size = w.heap.size + 1) := hsz
    clear hsz
    by_cases hlt : k < 4
    · have hk4 : k = 0 ∨ k = 1 ∨ k = 2 ∨ k = 3 := by omega
      obtain ⟨⟨v0, hv0⟩, hf0⟩ := spelt_cell hsp hlt
      rcases hk4 with rfl | rfl | rfl | rfl
      · obtain ⟨D, hD, hD1, hD2⟩ := nibNat (n / 4096) (by omega) (by omega)
        have HD : Hid ((D : Int) = nib n 0) := hD2
        clear hD2
        go_wp2
        · go_roundw
          case rel => exact ⟨1, by omega, rfl, spelt_up hsp hD1 HD.out _, hbel.setCell (Nat.le_refl _) _, by have := Hsz.out; simpa using this⟩
          case measure => simp [intOf]
        · go_roundw
          case rel => exact ⟨1, by omega, rfl, spelt_low hsp hD1 HD.out _, hbel.setCell (Nat.le_refl _) _, by have := Hsz.out; simpa using this⟩
          case measure => simp [intOf]
      · obtain ⟨D, hD, hD1, hD2⟩ := nibNat (n / 256) (by omega) (by omega)
        have HD : Hid ((D : Int) = nib n 1) := hD2
        clear hD2
        go_wp2
        · go_roundw
          case rel => exact ⟨2, by omega, rfl, spelt_up hsp hD1 HD.out _, hbel.setCell (Nat.le_refl _) _, by have := Hsz.out; simpa using this⟩
          case measure => simp [intOf]
        · go_roundw
          case rel => exact ⟨2, by omega, rfl, spelt_low hsp hD1 HD.out _, hbel.setCell (Nat.le_refl _) _, by have := Hsz.out; simpa using this⟩
          case measure => simp [intOf]
      · obtain ⟨D, hD, hD1, hD2⟩ := nibNat (n / 16) (by omega) (by omega)
        have HD : Hid ((D : Int) = nib n 2) := hD2
        clear hD2
        go_wp2
        · go_roundw
          case rel => exact ⟨3, by omega, rfl, spelt_up hsp hD1 HD.out _, hbel.setCell (Nat.le_refl _) _, by have := Hsz.out; simpa using this⟩
          case measure => simp [intOf]
        · go_roundw
          case rel => exact ⟨3, by omega, rfl, spelt_low hsp hD1 HD.out _, hbel.setCell (Nat.le_refl _) _, by have := Hsz.out; simpa using this⟩
          case measure => simp [intOf]
      · obtain ⟨D, hD, hD1, hD2⟩ := nibNat (n) (by omega) (by omega)
        have HD : Hid ((D : Int) = nib n 3) := hD2
        clear hD2
        go_wp2
        · go_roundw
          case rel => exact ⟨4, by omega, rfl, spelt_up hsp hD1 HD.out _, hbel.setCell (Nat.le_refl _) _, by have := Hsz.out; simpa using this⟩
          case measure => simp [intOf]
        · go_roundw
          case rel => exact ⟨4, by omega, rfl, spelt_low hsp hD1 HD.out _, hbel.setCell (Nat.le_refl _) _, by have := Hsz.out; simpa using this⟩
          case measure => simp [intOf]
    · go_wp2
      go_ret
      have e : k = 4 := by omega
      subst e
      exact ⟨rfl, hsp, hbel, Hsz.out⟩

end Go.Proofs.Qxb6630482a
