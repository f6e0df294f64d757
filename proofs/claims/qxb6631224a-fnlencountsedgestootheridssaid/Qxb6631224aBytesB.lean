/-
  THE WALK OF zzBytes_FnLenCountsEdgesToOtherIDs (5): it answers some Bool and turns nothing.
-/
import Derived.Test.Qxb6631224aBytes
namespace Go.Proofs.Qxb6631224a
open Go.RowKit

set_option maxRecDepth 20000 in
set_option maxHeartbeats 4000000 in
theorem bytes5 (a0 a1 a2 : Option Addr) (n0 c0 n1 c1 n2 c2 : Nat) (I : Nat → Nat → ByteArray) (lm : Nat → Nat) (M : Nat → Nat → Int) (lh : Nat → Nat) (H : Nat → Nat → Int) (w : World)
    (hn0 : n0 ≤ 9223372036854775807) (hn1 : n1 ≤ 9223372036854775807) (hn2 : n2 ≤ 9223372036854775807) (r0 : IdsRow w a0 n0 I) (r1 : EdgesRow w a1 n1) (r2 : BeqRow w a2 n2 lm M lh H) :
    Calls Try.prog 5 #[.slice a0 n0 c0, .slice a1 n1 c1, .slice a2 n2 c2] w fun e w' => SomeBool e ∧ w' = w := by
  go_enter Try.func5, Try.ntmps5
  go_wp2_with fail
  · go_ret; exact ⟨⟨_, rfl⟩, rfl⟩
  go_loop [7, 8] (fun z ti => ∃ k : Nat, k ≤ n0 ∧ ti = .int .i64 k ∧ SomeInt z) (fun _ ti => n0 - (intOf ti).toNat)
  case atStart => exact ⟨0, by omega, rfl, ⟨_, rfl⟩⟩
  case round =>
    obtain ⟨k, hk, rfl, z, rfl⟩ := hrel
    by_cases hlt : k < n0
    · have hr0 := r0
      rcases hr0 with h | ⟨b, o, rfl, h⟩
      · omega
      obtain ⟨h0, h1, h2, h3⟩ := h k hlt
      clear h r0 r1 r2
      go_wp2
      all_goals first | (go_ret; exact ⟨⟨_, rfl⟩, rfl⟩) | (go_round; (case rel => exact ⟨k + 1, by omega, by go_num, ⟨_, rfl⟩⟩); (case measure => simp [intOf]; omega))
    · go_wp2_with fail
      all_goals try (go_ret; exact ⟨⟨_, rfl⟩, rfl⟩)
      clear hlt hk
      go_loop [7, 9] (fun z ti => ∃ k : Nat, k ≤ n1 ∧ ti = .int .i64 k ∧ SomeInt z) (fun _ ti => n1 - (intOf ti).toNat)
      case atStart => exact ⟨0, by omega, rfl, ⟨_, rfl⟩⟩
      case round =>
        obtain ⟨k1, hk, rfl, z1, rfl⟩ := hrel
        by_cases hlt : k1 < n1
        · have hr1 := r1
          rcases hr1 with h | ⟨b, o, rfl, h⟩
          · omega
          obtain ⟨s, x, y, ⟨h0, h1, h2, h3⟩, h4, ⟨h5, h6, h7, h8⟩, h9, h10, h11, h12⟩ := h k1 hlt
          clear h r0 r1 r2
          go_wp2
          all_goals first | (go_ret; exact ⟨⟨_, rfl⟩, rfl⟩) | (go_round; (case rel => exact ⟨k1 + 1, by omega, by go_num, ⟨_, rfl⟩⟩); (case measure => simp [intOf]; omega))
        · go_wp2_with fail
          all_goals try (go_ret; exact ⟨⟨_, rfl⟩, rfl⟩)
          clear hlt hk
          go_loop [7, 10] (fun z ti => ∃ k : Nat, k ≤ n2 ∧ ti = .int .i64 k ∧ SomeInt z) (fun _ ti => n2 - (intOf ti).toNat)
          case atStart => exact ⟨0, by omega, rfl, ⟨_, rfl⟩⟩
          case round =>
            obtain ⟨k2, hk, rfl, z2, rfl⟩ := hrel
            by_cases hlt : k2 < n2
            · have hr2 := r2
              rcases hr2 with h | ⟨b, o, rfl, h⟩
              · omega
              obtain ⟨s, am, cm, ah, ch, h0, h1, h2, ⟨_, _, hl3⟩, h6, _, hl4⟩ := h k2 hlt
              clear h r0 r1 r2
              go_wp2_with fail
              all_goals try (go_ret; exact ⟨⟨_, rfl⟩, rfl⟩)
              go_loop [7, 11] (fun z ti => ∃ k : Nat, k ≤ lh k2 ∧ ti = .int .i64 k ∧ SomeInt z) (fun _ ti => lh k2 - (intOf ti).toNat)
              case atStart => exact ⟨0, by omega, rfl, ⟨_, rfl⟩⟩
              case round =>
                obtain ⟨k3, hk3, rfl, z3, rfl⟩ := hrel
                by_cases hlt3 : k3 < lh k2
                · rcases h6 with h | ⟨b3, o3, rfl, h⟩
                  · omega
                  obtain ⟨g0, s3, g1⟩ := h k3 hlt3
                  clear h
                  go_wp2
                  all_goals first | (go_ret; exact ⟨⟨_, rfl⟩, rfl⟩) | (go_round; (case rel => exact ⟨k3 + 1, by omega, by go_num, ⟨_, rfl⟩⟩); (case measure => simp [intOf]; omega))
                · go_wp2
                  go_round
                  case rel => exact ⟨k2 + 1, by omega, by go_num, ⟨_, rfl⟩⟩
                  case measure => simp [intOf]; omega
            · go_wp2
              go_ret; exact ⟨⟨_, rfl⟩, rfl⟩

end Go.Proofs.Qxb6631224a
