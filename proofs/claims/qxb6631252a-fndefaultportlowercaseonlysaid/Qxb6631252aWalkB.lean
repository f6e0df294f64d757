/-
  THE WALK OF zzLowerASCII (9); the law FnDefaultPortLowerCaseOnly (4).
-/
import Derived.Test.Qxb6631252aWalkA
import Derived.Deep.OwnRows
import Derived.Laws.IdiomStrings
namespace Go.Proofs.Qxb6631252a
open Go.RowKit

/-- A byte, its letter folded. -/
def low (c : UInt8) : UInt8 := if 65 ≤ c.toNat ∧ c.toNat ≤ 90 then c + 32 else c
theorem low_up {c : UInt8} (h1 : 65 ≤ (c.toNat : Int)) (h2 : (c.toNat : Int) ≤ 90) : ((low c).toNat : Int) = (c.toNat : Int) + 32 := by
  unfold low
  rw [if_pos (by omega)]
  rw [UInt8.toNat_add]
  have : (32 : UInt8).toNat = 32 := rfl
  rw [this]; omega
theorem low_no {c : UInt8} (h : ¬ (65 ≤ (c.toNat : Int) ∧ (c.toNat : Int) ≤ 90)) : ((low c).toNat : Int) = (c.toNat : Int) := by
  unfold low
  rw [if_neg (by omega)]

theorem Try.info5 : (Try.prog.info? 5).map (fun i => (i.zero, i.size, i.bytes)) = some (some (.int .u8 0), 1, 1) := by kernel_rfl
theorem make28 (n : Nat) (hn : n ≤ 1048576) (w : World) : (Instr.makeSlice 28 (.int .i64 (n : Int)) (.int .i64 (n : Int))).run Try.prog w =
    .ok (.slice (some ⟨w.heap.size, 0, none⟩) n n) (w.alloc (.cells (madeCells #[.int .u8 0] n) 5)) :=
  run_make_row' (P := Try.prog) 28 5 (.int .u8 0) 1 Try.underlying28 Try.info5 rfl .i64 .i64 n (by omega) (by omega) w

/-- A row of n bytes, its first k cells the folded bytes of s. -/
def Filled (w : World) (B : Nat) (s : ByteArray) (k : Nat) : Prop := ∃ f, w.rowIs B 5 s.size f ∧ ∀ i (h : i < s.size), i < k → f i = .int .u8 ((low s[i]).toNat : Int)
theorem fill_start (w : World) (s : ByteArray) : Filled (w.alloc (.cells (madeCells #[.int .u8 0] s.size) 5)) w.heap.size s 0 := ⟨_, World.rowIs_made w _ s.size 5, fun i _ h => by omega⟩
theorem fill_cell {w : World} {B : Nat} {s : ByteArray} {k i : Nat} (h : Filled w B s k) (hi : i < s.size) : (∃ v, w.cell? ⟨B, i, none⟩ = some v) ∧ w.frozen? ⟨B, i, none⟩ = false := by
  obtain ⟨f, hr, _⟩ := h
  exact ⟨⟨_, hr.cell hi⟩, hr.frozen i⟩
theorem fill_step {w : World} {B : Nat} {s : ByteArray} {k : Nat} {v : Int} (h : Filled w B s k) (hk : k < s.size) (hv : v = ((low s[k]).toNat : Int)) : Filled (w.setCell ⟨B, k, none⟩ (.int .u8 v)) B s (k + 1) := by
  obtain ⟨f, hr, hf⟩ := h
  refine ⟨_, hr.set _ _, fun i hi hik => ?_⟩
  by_cases e : i = k
  · subst e; rw [if_pos rfl, hv]
  · rw [if_neg e]; exact hf i hi (by omega)
theorem getElem_data (s : ByteArray) (j : Nat) (h : j < s.data.toList.length) : s.data.toList[j] = s[j]'(by simpa using h) := by rfl
theorem fill_string {w : World} {B : Nat} {s : ByteArray} (h : Filled w B s s.size) (cap : Nat) :
    (convert 28 9 (.slice (some ⟨B, 0, none⟩) s.size cap)).run Try.prog w = .ok (.string ⟨(s.data.toList.map low).toArray⟩) w := by
  obtain ⟨f, hr, hf⟩ := h
  have hl : (s.data.toList.map low).length = s.size := by simp
  have h := run_convert_bytes_back (P := Try.prog) w 28 9 5 ⟨B, 0, none⟩ cap (s.data.toList.map low) Try.underlying28 Try.underlying5 Try.underlying9 (fun j hj => by
    have hj2 : j < s.size := by rw [hl] at hj; exact hj
    have e : (⟨B, 0, none⟩ : Addr).add j = ⟨B, j, none⟩ := by unfold Addr.add; split <;> simp_all
    rw [e, hr.cell hj2, hf j hj2 hj2]
    simp only [List.getElem_map]
    rfl)
  rw [hl] at h
  exact h

/-- What zzLowerASCII answers. -/
def Lowered (s : ByteArray) (e : Ending) : Prop := ∃ l : ByteArray, e = .returned (.string l) ∧ l.toList = s.toList.map low

set_option maxHeartbeats 1000000 in
theorem lower (s : ByteArray) (w : World) (hs : s.size ≤ 1048576) : Calls Try.prog 9 #[.string s] w fun e w' => Lowered s e ∧ Grown w w' := by
  have hmk := make28 s.size hs
  go_enter Try.func9, Try.ntmps9
  go_wp2
  go_loopw [4] (fun ti wr => ∃ k : Nat, k ≤ s.size ∧ ti = .int .i64 k ∧ Filled wr w.heap.size s k ∧ Grown w wr) (fun ti _ => s.size - (intOf ti).toNat)
  case atStart => exact ⟨0, by omega, rfl, fill_start w s, (Grown.refl _).alloc _ _⟩
  case round =>
    obtain ⟨k, hk, rfl, hfil, hgr⟩ := hrel
    by_cases hlt : k < s.size
    · obtain ⟨⟨v0, y0⟩, z0⟩ := fill_cell hfil hlt
      clear hmk
      go_wp2
      · have hv := low_up (c := s[k]) (by assumption) (by assumption)
        go_roundw
        case rel => exact ⟨k + 1, by omega, by go_num, fill_step hfil hlt hv.symm, hgr.setCell (Nat.le_refl _) _⟩
        case measure => simp [intOf]; omega
      · have hv := low_no (c := s[k]) (by omega)
        go_roundw
        case rel => exact ⟨k + 1, by omega, by go_num, fill_step hfil hlt hv.symm, hgr.setCell (Nat.le_refl _) _⟩
        case measure => simp [intOf]; omega
      · have hv := low_no (c := s[k]) (by omega)
        go_roundw
        case rel => exact ⟨k + 1, by omega, by go_num, fill_step hfil hlt hv.symm, hgr.setCell (Nat.le_refl _) _⟩
        case measure => simp [intOf]; omega
    · have e : k = s.size := by omega
      rw [e] at hfil
      have hcv := fill_string hfil s.size
      clear hmk e
      go_wp2
      go_ret
      exact ⟨⟨_, rfl, by rw [ByteArray.toList_eq, ByteArray.toList_eq]⟩, hgr⟩

/-! ### The plain facts on the folded text -/
theorem size_of {l : ByteArray} {x : List UInt8} (h : l.toList = x) : l.size = x.length := by
  rw [← h, ByteArray.toList_eq]; simp
theorem low_http : ([104, 116, 116, 112] : List UInt8).map low = [104, 116, 116, 112] := by decide
theorem low_https : ([104, 116, 116, 112, 115] : List UInt8).map low = [104, 116, 116, 112, 115] := by decide
theorem beq_no {x y : List UInt8} (h : x ≠ y) : (x == y) = false := beq_eq_false_iff_ne.2 h

set_option maxRecDepth 10000 in
set_option maxHeartbeats 2000000 in
theorem law4 (s : ByteArray) (w : World) (hs : s.size ≤ maxLen) : Calls Try.prog 4 #[.string s] w fun e w' => e = .returned (.bool true) ∧ Grown w w' := by
  unfold maxLen at hs
  by_cases t0 : (1048576 : Int) < s.size
  · go_enter Try.func4, Try.ntmps4
    go_wp2_with (go_at_call 8; refine (bytes8 s _).mono ?_; rintro e w' ⟨⟨b, rfl⟩, rfl⟩; cases b)
    all_goals (go_ret; exact ⟨rfl, Grown.refl _⟩)
  go_enter Try.func4, Try.ntmps4
  go_wp2_with fail
  refine (bytes8 s _).mono ?_
  rintro e w ⟨⟨b, rfl⟩, rfl⟩
  cases b
  · go_wp2; go_ret; exact ⟨rfl, Grown.refl _⟩
  go_wp2_with fail
  refine (lower s _ (by omega)).mono ?_
  rintro e w1 ⟨⟨l, rfl, hl⟩, hgr⟩
  by_cases h1 : l.toList = [104, 116, 116, 112]
  · have gl : (l.toList == [104, 116, 116, 112]) = true := by simpa using h1
    have gl2 : (l.toList == [104, 116, 116, 112, 115]) = false := by rw [h1]; rfl
    have gz : ((l.size : Int) == 5) = false := by rw [size_of h1]; rfl
    by_cases h2 : s.toList = [104, 116, 116, 112]
    · have gs : (s.toList == [104, 116, 116, 112]) = true := by simpa using h2
      have ge : (s.toList == l.toList) = true := by rw [h1, h2]; rfl
      clear h1 h2 hl
      go_wp2_with fail
      refine (port_http s _ gs).mono ?_
      rintro e w2 ⟨rfl, rfl⟩
      go_wp2_with fail
      refine (port_http l _ gl).mono ?_
      rintro e w2 ⟨rfl, rfl⟩
      go_wp2_with fail
      refine (value80 _).mono ?_
      rintro e w2 ⟨rfl, rfl⟩
      go_wp2
      go_ret
      exact ⟨rfl, hgr⟩
    · have gs : (s.toList == [104, 116, 116, 112]) = false := beq_no h2
      have gs2 : (s.toList == [104, 116, 116, 112, 115]) = false := beq_no (fun h => by rw [h1, h, low_https] at hl; exact absurd hl (by decide))
      have ge : (s.toList == l.toList) = false := beq_no (fun h => h2 (by rw [h, h1]))
      clear h1 h2 hl
      go_wp2_with fail
      refine (port_none s _ gs gs2).mono ?_
      rintro e w2 ⟨rfl, rfl⟩
      go_wp2_with fail
      refine (port_http l _ gl).mono ?_
      rintro e w2 ⟨rfl, rfl⟩
      go_wp2_with fail
      refine (value80 _).mono ?_
      rintro e w2 ⟨rfl, rfl⟩
      go_wp2
      go_ret
      exact ⟨rfl, hgr⟩
  have gl : (l.toList == [104, 116, 116, 112]) = false := beq_no h1
  by_cases h3 : l.toList = [104, 116, 116, 112, 115]
  · have gl2 : (l.toList == [104, 116, 116, 112, 115]) = true := by simpa using h3
    have gz : ((l.size : Int) == 5) = true := by rw [size_of h3]; rfl
    by_cases h2 : s.toList = [104, 116, 116, 112, 115]
    · have gs2 : (s.toList == [104, 116, 116, 112, 115]) = true := by simpa using h2
      have gs : (s.toList == [104, 116, 116, 112]) = false := by rw [h2]; rfl
      have ge : (s.toList == l.toList) = true := by rw [h3, h2]; exact beq_self_eq_true _
      clear h1 h2 h3 hl
      go_wp2_with fail
      refine (port_https s _ gs gs2).mono ?_
      rintro e w2 ⟨rfl, rfl⟩
      go_wp2_with fail
      refine (port_https l _ gl gl2).mono ?_
      rintro e w2 ⟨rfl, rfl⟩
      go_wp2_with fail
      refine (value443 _).mono ?_
      rintro e w2 ⟨rfl, rfl⟩
      go_wp2
      go_ret
      exact ⟨rfl, hgr⟩
    · have gs2 : (s.toList == [104, 116, 116, 112, 115]) = false := beq_no h2
      have gs : (s.toList == [104, 116, 116, 112]) = false := beq_no (fun h => by rw [h3, h, low_http] at hl; exact absurd hl (by decide))
      have ge : (s.toList == l.toList) = false := beq_no (fun h => h2 (by rw [h, h3]))
      clear h1 h2 h3 hl
      go_wp2_with fail
      refine (port_none s _ gs gs2).mono ?_
      rintro e w2 ⟨rfl, rfl⟩
      go_wp2_with fail
      refine (port_https l _ gl gl2).mono ?_
      rintro e w2 ⟨rfl, rfl⟩
      go_wp2_with fail
      refine (value443 _).mono ?_
      rintro e w2 ⟨rfl, rfl⟩
      go_wp2
      go_ret
      exact ⟨rfl, hgr⟩
  · have gl2 : (l.toList == [104, 116, 116, 112, 115]) = false := beq_no h3
    have gs : (s.toList == [104, 116, 116, 112]) = false := beq_no (fun h => h1 (by rw [hl, h, low_http]))
    have gs2 : (s.toList == [104, 116, 116, 112, 115]) = false := beq_no (fun h => h3 (by rw [hl, h, low_https]))
    clear h1 h3 hl
    go_wp2_with fail
    refine (port_none s _ gs gs2).mono ?_
    rintro e w2 ⟨rfl, rfl⟩
    go_wp2_with fail
    refine (port_none l _ gl gl2).mono ?_
    rintro e w2 ⟨rfl, rfl⟩
    go_wp2
    go_ret
    exact ⟨rfl, hgr⟩

end Go.Proofs.Qxb6631252a
