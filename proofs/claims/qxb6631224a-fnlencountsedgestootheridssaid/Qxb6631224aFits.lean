/-
  THE WALK OF zzFitsBytes (6).
-/
import Derived.Test.Qxb6631224aBase
namespace Go.Proofs.Qxb6631224a
open Go.RowKit

/-- A total within the bound. -/
def Total (v : Value) : Prop := ∃ t, v = .int .i64 t ∧ 0 ≤ t ∧ t ≤ 1048576
/-- What zzFitsBytes answers: where it says yes, every length is small. -/
def Fits (n0 n1 n2 : Nat) (lm lh : Nat → Nat) (e : Ending) : Prop := ∃ b, e = .returned (.bool b) ∧ (b = true → n0 ≤ 131072 ∧ n1 ≤ 131072 ∧ n2 ≤ 131072 ∧ ∀ k, k < n2 → lm k ≤ 131072 ∧ lh k ≤ 131072)
theorem no_fit (n0 n1 n2 : Nat) (lm lh : Nat → Nat) : Fits n0 n1 n2 lm lh (.returned (.bool false)) := ⟨false, rfl, fun h => by cases h⟩
/-- The first k bequests are small. -/
def Small (lm lh : Nat → Nat) (k : Nat) : Prop := ∀ i, i < k → lm i ≤ 131072 ∧ lh i ≤ 131072
theorem small_step {lm lh : Nat → Nat} {k : Nat} (h : Small lm lh k) (h1 : (lm k : Int) * 8 ≤ 1048576) (h2 : (lh k : Int) * 8 ≤ 1048576) : Small lm lh (k + 1) := by
  intro i hi
  by_cases e : i = k
  · rw [e]; omega
  · exact h i (by omega)
theorem ids_at {w : World} {a : Option Addr} {n : Nat} {I : Nat → Nat → ByteArray} (h : IdsRow w a n I) {k : Nat} (hk : k < n) : ∃ b off, a = some ⟨b, off, none⟩ ∧ w.cell? ⟨b, off + k * 4, none⟩ = some (.string (I k 0)) ∧ w.cell? ⟨b, off + k * 4 + 1, none⟩ = some (.string (I k 1)) ∧
    w.cell? ⟨b, off + k * 4 + 2, none⟩ = some (.string (I k 2)) ∧ w.cell? ⟨b, off + k * 4 + 3, none⟩ = some (.string (I k 3)) := by
  rcases h with h | ⟨b, o, rfl, h⟩
  · omega
  · exact ⟨b, o, rfl, h k hk⟩
theorem edge_at {w : World} {a : Option Addr} {n : Nat} (h : EdgesRow w a n) {i : Nat} (hk : i < n) : ∃ b off, a = some ⟨b, off, none⟩ ∧ ∃ (s : Nat → ByteArray) (x y : Bool),
    (w.cell? ⟨b, off + i * 13, none⟩ = some (.string (s 0)) ∧ w.cell? ⟨b, off + i * 13 + 1, none⟩ = some (.string (s 1)) ∧ w.cell? ⟨b, off + i * 13 + 2, none⟩ = some (.string (s 2)) ∧ w.cell? ⟨b, off + i * 13 + 3, none⟩ = some (.string (s 3))) ∧
    w.cell? ⟨b, off + i * 13 + 4, none⟩ = some (.string (s 4)) ∧
    (w.cell? ⟨b, off + i * 13 + 5, none⟩ = some (.string (s 5)) ∧ w.cell? ⟨b, off + i * 13 + 6, none⟩ = some (.string (s 6)) ∧ w.cell? ⟨b, off + i * 13 + 7, none⟩ = some (.string (s 7)) ∧ w.cell? ⟨b, off + i * 13 + 8, none⟩ = some (.string (s 8))) ∧
    w.cell? ⟨b, off + i * 13 + 9, none⟩ = some (.string (s 9)) ∧ w.cell? ⟨b, off + i * 13 + 10, none⟩ = some (.bool x) ∧ w.cell? ⟨b, off + i * 13 + 11, none⟩ = some (.bool y) ∧ w.cell? ⟨b, off + i * 13 + 12, none⟩ = some (.string (s 12)) := by
  rcases h with h | ⟨b, o, rfl, h⟩
  · omega
  · exact ⟨b, o, rfl, h i hk⟩
theorem int_at {w : World} {a : Option Addr} {n : Nat} {M : Nat → Int} (h : IntRow w a n M) (hk : 0 < n) : ∃ b off, a = some ⟨b, off, none⟩ ∧ ∀ i, i < n → w.cell? ⟨b, off + i, none⟩ = some (.int .i64 (M i)) := by
  rcases h with h | h
  · omega
  · exact h
theorem heir_at {w : World} {a : Option Addr} {n : Nat} {H : Nat → Int} (h : HeirRow w a n H) (hk : 0 < n) : ∃ b off, a = some ⟨b, off, none⟩ ∧ ∀ i, i < n → w.cell? ⟨b, off + i * 2, none⟩ = some (.int .i64 (H i)) ∧ ∃ s, w.cell? ⟨b, off + i * 2 + 1, none⟩ = some (.string s) := by
  rcases h with h | h
  · omega
  · exact h
theorem beq_at {w : World} {a : Option Addr} {n : Nat} {lm : Nat → Nat} {M : Nat → Nat → Int} {lh : Nat → Nat} {H : Nat → Nat → Int} (h : BeqRow w a n lm M lh H) {i : Nat} (hk : i < n) : ∃ b off, a = some ⟨b, off, none⟩ ∧
    ∃ s am cm ah ch, w.cell? ⟨b, off + i * 3, none⟩ = some (.string s) ∧ w.cell? ⟨b, off + i * 3 + 1, none⟩ = some (.slice am (lm i) cm) ∧ w.cell? ⟨b, off + i * 3 + 2, none⟩ = some (.slice ah (lh i) ch) ∧
    (IntRow w am (lm i) (M i) ∧ NilOk am (lm i) cm ∧ lm i ≤ 9223372036854775807) ∧ HeirRow w ah (lh i) (H i) ∧ NilOk ah (lh i) ch ∧ lh i ≤ 9223372036854775807 := by
  rcases h with h | ⟨b, o, rfl, h⟩
  · omega
  · exact ⟨b, o, rfl, h i hk⟩

set_option maxRecDepth 20000 in
set_option maxHeartbeats 4000000 in
theorem fits (a0 a1 a2 : Option Addr) (n0 c0 n1 c1 n2 c2 : Nat) (I : Nat → Nat → ByteArray) (lm : Nat → Nat) (M : Nat → Nat → Int) (lh : Nat → Nat) (H : Nat → Nat → Int) (w : World)
    (r0 : IdsRow w a0 n0 I) (r1 : EdgesRow w a1 n1) (r2 : BeqRow w a2 n2 lm M lh H) :
    Calls Try.prog 6 #[.slice a0 n0 c0, .slice a1 n1 c1, .slice a2 n2 c2] w fun e w' => Fits n0 n1 n2 lm lh e ∧ Below w.heap.size w w' := by
  have z0 : (0 : Int) ≤ 0 := by decide
  have z1 : (0 : Int) ≤ 1048576 := by decide
  go_enter Try.func6, Try.ntmps6
  go_wp2_with fail
  refine (zzadd 0 _ 8 _ z0 z1 (by omega) (.inr rfl)).mono ?_
  rintro e w ⟨⟨t, b, rfl, t0, t1, hx0⟩, rfl⟩
  cases b
  · go_wp2; go_ret; exact ⟨no_fit _ _ _ _ _, Below.refl _ _⟩
  have hx0' := hx0 rfl
  have hn0 : n0 ≤ 131072 := by omega
  clear hx0 hx0' z0 z1
  go_wp2_with fail
  go_loopw [7, 9] (fun z ti wr => ∃ k : Nat, k ≤ n0 ∧ ti = .int .i64 k ∧ Total z ∧ Below w.heap.size w wr) (fun _ ti _ => n0 - (intOf ti).toNat)
  case atStart => exact ⟨0, by omega, rfl, ⟨_, rfl, t0, t1⟩, Below.refl _ _⟩
  case round =>
    clear t0 t1
    obtain ⟨k, hk, rfl, ⟨z, rfl, z0, z1⟩, hbel⟩ := hrel
    by_cases hlt : k < n0
    · obtain ⟨b, o, rfl, h0, h1, h2, h3⟩ := ids_at (ids_below r0 hbel) hlt
      clear r0 r1 r2
      go_wp2_with fail
      refine (idBytes _ _ _ _ _ _ z0 z1).mono ?_
      rintro e w1 ⟨⟨t, b, rfl, t0, t1⟩, hb1⟩
      have hbel' := hbel.trans (hb1.mono hbel.size)
      clear h0 h1 h2 h3
      cases b
      · go_wp2; go_ret; exact ⟨no_fit _ _ _ _ _, hbel'⟩
      go_wp2
      go_roundw
      case rel => exact ⟨k + 1, by omega, by go_num, ⟨_, rfl, t0, t1⟩, hbel'⟩
      case measure => simp [intOf]; omega
    · go_wp2_with fail
      clear hlt hk
      refine (zzadd _ _ 8 _ z0 z1 (by omega) (.inr rfl)).mono ?_
      rintro e wr ⟨⟨t, b, rfl, t0, t1, hx1⟩, rfl⟩
      cases b
      · go_wp2; go_ret; exact ⟨no_fit _ _ _ _ _, hbel⟩
      have hx1' := hx1 rfl
      have hn1 : n1 ≤ 131072 := by omega
      clear hx1 hx1' z0 z1
      go_wp2_with fail
      go_loopw [7, 10] (fun z ti wr => ∃ k : Nat, k ≤ n1 ∧ ti = .int .i64 k ∧ Total z ∧ Below w.heap.size w wr) (fun _ ti _ => n1 - (intOf ti).toNat)
      case atStart => exact ⟨0, by omega, rfl, ⟨_, rfl, t0, t1⟩, hbel⟩
      case round =>
        clear t0 t1 hbel
        obtain ⟨k1, hk, rfl, ⟨z, rfl, z0, z1⟩, hbel⟩ := hrel
        by_cases hlt : k1 < n1
        · obtain ⟨b, o, rfl, s, x, y, ⟨h0, h1, h2, h3⟩, h4, ⟨h5, h6, h7, h8⟩, h9, h10, h11, h12⟩ := edge_at (edges_below r1 hbel) hlt
          clear r0 r1 r2 h10 h11
          go_wp2_with fail
          refine (idBytes _ _ _ _ _ _ z0 z1).mono ?_
          rintro e w1 ⟨⟨t, b, rfl, t0, t1⟩, hb1⟩
          have hbel1 := hbel.trans (hb1.mono hbel.size)
          have g4 := below_cell hb1 h4
          have g5 := below_cell hb1 h5
          have g6 := below_cell hb1 h6
          have g7 := below_cell hb1 h7
          have g8 := below_cell hb1 h8
          have g9 := below_cell hb1 h9
          have g12 := below_cell hb1 h12
          clear h0 h1 h2 h3 h4 h5 h6 h7 h8 h9 h12 hb1 hbel
          cases b
          · go_wp2; go_ret; exact ⟨no_fit _ _ _ _ _, hbel1⟩
          go_wp2_with fail
          refine (idBytes _ _ _ _ _ _ t0 t1).mono ?_
          rintro e w2 ⟨⟨u, b, rfl, u0, u1⟩, hb2⟩
          have hbel2 := hbel1.trans (hb2.mono hbel1.size)
          have k4 := below_cell hb2 g4
          have k9 := below_cell hb2 g9
          have k12 := below_cell hb2 g12
          clear g4 g5 g6 g7 g8 g9 g12 hb2 hbel1
          cases b
          · go_wp2; go_ret; exact ⟨no_fit _ _ _ _ _, hbel2⟩
          go_wp2_with fail
          refine (zzadd _ _ 1 _ u0 u1 (by omega) (.inl rfl)).mono ?_
          rintro e w2 ⟨⟨v, b, rfl, v0, v1, _⟩, rfl⟩
          cases b
          · go_wp2; go_ret; exact ⟨no_fit _ _ _ _ _, hbel2⟩
          go_wp2_with fail
          refine (zzadd _ _ 1 _ v0 v1 (by omega) (.inl rfl)).mono ?_
          rintro e w2 ⟨⟨p, b, rfl, p0, p1, _⟩, rfl⟩
          cases b
          · go_wp2; go_ret; exact ⟨no_fit _ _ _ _ _, hbel2⟩
          go_wp2_with fail
          refine (zzadd _ _ 1 _ p0 p1 (by omega) (.inl rfl)).mono ?_
          rintro e w2 ⟨⟨q, b, rfl, q0, q1, _⟩, rfl⟩
          cases b
          · go_wp2; go_ret; exact ⟨no_fit _ _ _ _ _, hbel2⟩
          go_wp2
          go_roundw
          case rel => exact ⟨k1 + 1, by omega, by go_num, ⟨_, rfl, q0, q1⟩, hbel2⟩
          case measure => simp [intOf]; omega
        · go_wp2_with fail
          clear hlt hk
          refine (zzadd _ _ 8 _ z0 z1 (by omega) (.inr rfl)).mono ?_
          rintro e wr ⟨⟨t, b, rfl, t0, t1, hx1⟩, rfl⟩
          cases b
          · go_wp2; go_ret; exact ⟨no_fit _ _ _ _ _, hbel⟩
          have hx1' := hx1 rfl
          have hn2 : n2 ≤ 131072 := by omega
          clear hx1 hx1' z0 z1
          have r2' := beqs_below r2 hbel
          clear r0 r1 r2
          go_wp2_with fail
          go_loop [7, 11] (fun z ti => ∃ k : Nat, k ≤ n2 ∧ ti = .int .i64 k ∧ Total z ∧ Small lm lh k) (fun _ ti => n2 - (intOf ti).toNat)
          case atStart => exact ⟨0, by omega, rfl, ⟨_, rfl, t0, t1⟩, fun i h => by omega⟩
          case round =>
            clear t0 t1
            obtain ⟨k2, hk, rfl, ⟨z, rfl, z0, z1⟩, hsm⟩ := hrel
            by_cases hlt : k2 < n2
            · obtain ⟨b, o, rfl, s, am, cm, ah, ch, h0, h1, h2, ⟨_, _, hl3⟩, h6, _, hl4⟩ := beq_at r2' hlt
              clear r2'
              go_wp2_with fail
              refine (zzadd _ _ 1 _ z0 z1 (by omega) (.inl rfl)).mono ?_
              rintro e wr ⟨⟨v, b, rfl, v0, v1, _⟩, rfl⟩
              cases b
              · go_wp2; go_ret; exact ⟨no_fit _ _ _ _ _, hbel⟩
              go_wp2_with fail
              refine (zzadd _ _ 8 _ v0 v1 (by omega) (.inr rfl)).mono ?_
              rintro e wr ⟨⟨p, b, rfl, p0, p1, hxm⟩, rfl⟩
              cases b
              · go_wp2; go_ret; exact ⟨no_fit _ _ _ _ _, hbel⟩
              have hxm' := hxm rfl
              clear hxm
              go_wp2_with fail
              refine (zzadd _ _ 8 _ p0 p1 (by omega) (.inr rfl)).mono ?_
              rintro e wr ⟨⟨q, b, rfl, q0, q1, hxh⟩, rfl⟩
              cases b
              · go_wp2; go_ret; exact ⟨no_fit _ _ _ _ _, hbel⟩
              have hxh' := hxh rfl
              clear hxh
              have hsm' := small_step hsm hxm' hxh'
              clear hsm hxm' hxh'
              go_wp2_with fail
              go_loop [7, 12] (fun z ti => ∃ k : Nat, k ≤ lh k2 ∧ ti = .int .i64 k ∧ Total z) (fun _ ti => lh k2 - (intOf ti).toNat)
              case atStart => exact ⟨0, by omega, rfl, ⟨_, rfl, q0, q1⟩⟩
              case round =>
                clear q0 q1 p0 p1 v0 v1 z0 z1
                obtain ⟨k3, hk3, rfl, z, rfl, z0, z1⟩ := hrel
                by_cases hlt3 : k3 < lh k2
                · obtain ⟨b3, o3, rfl, h⟩ := heir_at h6 (by omega)
                  obtain ⟨g0, s3, g1⟩ := h k3 hlt3
                  clear h
                  go_wp2_with fail
                  refine (zzadd _ _ 1 _ z0 z1 (by omega) (.inl rfl)).mono ?_
                  rintro e wr ⟨⟨v, b, rfl, v0, v1, _⟩, rfl⟩
                  cases b
                  · go_wp2; go_ret; exact ⟨no_fit _ _ _ _ _, hbel⟩
                  go_wp2
                  go_round
                  case rel => exact ⟨k3 + 1, by omega, by go_num, ⟨_, rfl, v0, v1⟩⟩
                  case measure => simp [intOf]; omega
                · go_wp2
                  go_round
                  case rel => exact ⟨k2 + 1, by omega, by go_num, ⟨_, rfl, z0, z1⟩, hsm'⟩
                  case measure => simp [intOf]; omega
            · go_wp2
              go_ret
              have e : k2 = n2 := by omega
              subst e
              exact ⟨⟨true, rfl, fun _ => ⟨hn0, hn1, hn2, hsm⟩⟩, hbel⟩

end Go.Proofs.Qxb6631224a
