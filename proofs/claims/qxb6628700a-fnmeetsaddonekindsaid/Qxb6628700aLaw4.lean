/- FnMeetsAddOneKind walked. -/
import Derived.Test.Qxb6628700aCopy
namespace Go.Proofs.Qxb6628700a
open Go.RowKit

theorem neqNil (a : Option Addr) (n c : Nat) (w : World) : (binOp .neq 22 (.slice a n c) (.slice none 0 0)).run Try.prog w = .ok (.bool (!a.isNone)) w :=
  run_neq_slice_nil_any w 22 31 a n c 0 0 Try.underlying22

/-- Where s holds no word. -/
theorem law4_empty (z1 : List Int) (b : Nat) (u1 : ∀ z ∈ z1, U z) : meets [] (withBit z1 b) = hasBit [] b ∧ meets (withBit z1 b) [] = hasBit [] b := by
  have h1 := meets_withBit [] z1 b (fun _ h => by cases h) u1
  have h2 := meets_comm (withBit z1 b) [] (withBit_U z1 b u1) (fun _ h => by cases h)
  have h3 : meets [] z1 = false := rfl
  rw [h3, Bool.false_or] at h1
  exact ⟨h1, h2.trans h1⟩

/-- The ways on which the law says true at once. -/
theorem law4_out (a0 : Option Addr) (n0 c0 : Nat) (a1 : Option Addr) (n1 c1 : Nat) (b : Int) (w : World) (h0 : n0 ≤ 9223372036854775807) (h1 : n1 ≤ 9223372036854775807)
    (h : 4096 < n0 ∨ 4096 < n1 ∨ b < 0 ∨ 262144 ≤ b) :
    Calls Try.prog 4 #[.slice a0 n0 c0, .slice a1 n1 c1, .int .i64 b] w fun e w' => e = .returned (.bool true) ∧ Below w.heap.size w w' := by
  go_enter Try.func4, Try.ntmps4
  go_wp2_with (go_at_call 10; refine (bytes10 _ _ _ _ _ _ _ _ h0 h1).mono ?_; rintro e w' ⟨rfl, rfl⟩)
  all_goals
    go_ret
    exact ⟨rfl, Below.refl _ _⟩

/-- The plain law, in the form in which the walk wants it. -/
theorem law4_plain (z0 z1 : List Int) (b : Nat) (u0 : ∀ z ∈ z0, U z) (u1 : ∀ z ∈ z1, U z) :
    (meets z0 z1 = true ∧ meets z0 (withBit z1 b) = true ∧ meets (withBit z1 b) z0 = true ∧ meets z0 z0 = anyNz z0) ∨
    (meets z0 z1 = false ∧ meets z0 (withBit z1 b) = hasBit z0 b ∧ meets (withBit z1 b) z0 = hasBit z0 b ∧ meets z0 z0 = anyNz z0) := by
  have h1 := meets_withBit z0 z1 b u0 u1
  have h2 := meets_comm (withBit z1 b) z0 (withBit_U z1 b u1) u0
  have h3 := meets_self z0 u0
  cases h : meets z0 z1
  · right
    rw [h] at h1
    simp only [Bool.false_or] at h1
    exact ⟨rfl, h1, h2.trans h1, h3⟩
  · left
    rw [h] at h1
    simp only [Bool.true_or] at h1
    exact ⟨rfl, h1, h2.trans h1, h3⟩

set_option maxHeartbeats 1000000 in
theorem law4_both (x0 : Addr) (n0 c0 : Nat) (z0 : List Int) (x1 : Addr) (n1 c1 : Nat) (z1 : List Int) (b : Nat) (w : World) (hb : b < 262144) (h0 : n0 ≤ 4096) (r0 : Row w (some x0) n0 z0) (u0 : ∀ z ∈ z0, U z) (h1 : n1 ≤ 4096) (r1 : Row w (some x1) n1 z1) (u1 : ∀ z ∈ z1, U z) :
    Calls Try.prog 4 #[.slice (some x0) n0 c0, .slice (some x1) n1 c1, .int .i64 b] w fun e w' => e = .returned (.bool true) ∧ Below w.heap.size w w' := by
  have hf : fits n0 n1 = true := by simp [fits]; omega
  have hm0 := made n0 (by omega)
  have hm1 := made n1 (by omega)
  have hq0 := neqNil (some x0) n0 c0
  have hq1 := neqNil (some x1) n1 c1
  have L0 : Hid (z0.length = n0) := r0.1
  have L1 : Hid (z1.length = n1) := r1.1
  rcases law4_plain z0 z1 b u0 u1 with ⟨g1, g2, g3, g4⟩ | ⟨g1, g2, g3, g4⟩
  all_goals
    go_enter Try.func4, Try.ntmps4
    go_wp2_with (first
      | (go_at_call 10; refine (bytes10 _ _ _ _ _ _ _ _ (by omega) (by omega)).mono ?_; rintro e w' ⟨rfl, rfl⟩)
      | (with_reducible refine copy_at (.tmp 36) (.tmp 37) w.heap.size n0 c0 (some x0) z0 w.heap.size w ?p3 ?p4 ?p6 ?p7 ?p9 ?p10 ?_))
    case p3 => rfl
    case p4 => rfl
    case p6 => exact r0.below ((Below.refl _ _).alloc (Nat.le_refl _) _)
    case p7 => exact Blk.made w n0
    case p9 => exact (Below.refl _ _).alloc (Nat.le_refl _) _
    case p10 => exact Nat.le_refl _
    intro w1 hB0 hb1
    go_wp2_with (with_reducible refine copy_at (.tmp 45) (.tmp 46) w1.heap.size n1 c1 (some x1) z1 w1.heap.size w1 ?q3 ?q4 ?q6 ?q7 ?q9 ?q10 ?_)
    case q3 => rfl
    case q4 => rfl
    case q6 => exact (r1.below hb1).below ((Below.refl _ _).alloc (Nat.le_refl _) _)
    case q7 => exact Blk.made w1 n1
    case q9 => exact (Below.refl _ _).alloc (Nat.le_refl _) _
    case q10 => exact Nat.le_refl _
    intro w2 hB1 hb2
    have hb02 : Below w.heap.size w w2 := hb1.trans (hb2.mono hb1.size)
    have hB02 := hB0.below hb2
    clear hB0
    have R0 : Row w2 (some ⟨w.heap.size, 0, none⟩) n0 z0 := by have := hB02.row; rw [L0.out] at this; exact this
    have R1 : Row w2 (some ⟨w1.heap.size, 0, none⟩) n1 z1 := by have := hB1.row; rw [L1.out] at this; exact this
    go_wp2_with (go_at_call 11; refine (withBit_row _ _ _ _ _ _ R1 (by omega) hb).mono ?_; rintro e w3 ⟨g, N, rfl, hN, R3, hb3⟩)
    have hb03 : Below w.heap.size w w3 := hb02.trans (hb3.mono hb02.size)
    have R03 := R0.below hb3
    have R13 := R1.below hb3
    clear hq0 hq1 hf hm0 hm1 hB1 hb2 hB02 R0 R1 hb02 hb1 hb3
    refine (meets_any _ _ _ _ _ _ _ _ _ R03 R3 (by omega) (by omega)).mono ?_
    rintro e w4 ⟨rfl, m4, rfl⟩
    go_wp2_with fail
    refine (meets_any _ _ _ _ _ _ _ _ _ (R03.drewN _) (R13.drewN _) (by omega) (by omega)).mono ?_
    rintro e w4 ⟨rfl, m5, rfl⟩
    go_wp2_with (go_at_call 12; refine (hasBit_any _ _ _ _ _ _ (R03.drewN _) (by omega) hb).mono ?_; rintro e w' ⟨rfl, rfl⟩)
    refine (meets_any _ _ _ _ _ _ _ _ _ (R3.drewN _) (R03.drewN _) (by omega) (by omega)).mono ?_
    rintro e w4 ⟨rfl, m6, rfl⟩
    go_wp2_with fail
    refine (meets_any _ _ _ _ _ _ _ _ _ (R03.drewN _) (R03.drewN _) (by omega) (by omega)).mono ?_
    rintro e w4 ⟨rfl, m7, rfl⟩
    go_wp2_with (go_at_call 9; refine (anyNz_any _ _ _ _ _ (R03.drewN _) (by omega)).mono ?_; rintro e w' ⟨rfl, rfl⟩)
    go_ret
    exact ⟨rfl, below_drewN hb03 _⟩

set_option maxHeartbeats 1000000 in
theorem law4_left (x0 : Addr) (n0 c0 : Nat) (z0 : List Int) (b : Nat) (w : World) (hb : b < 262144) (h0 : n0 ≤ 4096) (r0 : Row w (some x0) n0 z0) (u0 : ∀ z ∈ z0, U z) :
    Calls Try.prog 4 #[.slice (some x0) n0 c0, .slice none 0 0, .int .i64 b] w fun e w' => e = .returned (.bool true) ∧ Below w.heap.size w w' := by
  have hf : fits n0 0 = true := by simp [fits]; omega
  have hm0 := made n0 (by omega)
  have hq0 := neqNil (some x0) n0 c0
  have hq1 := neqNil none 0 0
  have L0 : Hid (z0.length = n0) := r0.1
  rcases law4_plain z0 [] b u0 (fun _ h => by cases h) with ⟨g1, g2, g3, g4⟩ | ⟨g1, g2, g3, g4⟩
  all_goals
    go_enter Try.func4, Try.ntmps4
    go_wp2_with (first
      | (go_at_call 10; refine (bytes10 _ _ _ _ _ _ _ _ (by omega) (by omega)).mono ?_; rintro e w' ⟨rfl, rfl⟩)
      | (with_reducible refine copy_at (.tmp 36) (.tmp 37) w.heap.size n0 c0 (some x0) z0 w.heap.size w ?p3 ?p4 ?p6 ?p7 ?p9 ?p10 ?_))
    case p3 => rfl
    case p4 => rfl
    case p6 => exact r0.below ((Below.refl _ _).alloc (Nat.le_refl _) _)
    case p7 => exact Blk.made w n0
    case p9 => exact (Below.refl _ _).alloc (Nat.le_refl _) _
    case p10 => exact Nat.le_refl _
    intro w1 hB0 hb1
    have hb02 : Below w.heap.size w w1 := hb1
    have hB02 := hB0
    clear hB0
    have R0 : Row w1 (some ⟨w.heap.size, 0, none⟩) n0 z0 := by have := hB02.row; rw [L0.out] at this; exact this
    have R1 : Row w1 none 0 [] := ⟨rfl, .inl rfl⟩
    go_wp2_with (go_at_call 11; refine (withBit_row _ _ _ _ _ _ R1 (by omega) hb).mono ?_; rintro e w3 ⟨g, N, rfl, hN, R3, hb3⟩)
    have hb03 : Below w.heap.size w w3 := hb02.trans (hb3.mono hb02.size)
    have R03 := R0.below hb3
    have R13 := R1.below hb3
    clear hq0 hq1 hf hm0 hB02 R0 R1 hb02 hb1 hb3
    refine (meets_any _ _ _ _ _ _ _ _ _ R03 R3 (by omega) (by omega)).mono ?_
    rintro e w4 ⟨rfl, m4, rfl⟩
    go_wp2_with fail
    refine (meets_any _ _ _ _ _ _ _ _ _ (R03.drewN _) (R13.drewN _) (by omega) (by omega)).mono ?_
    rintro e w4 ⟨rfl, m5, rfl⟩
    go_wp2_with (go_at_call 12; refine (hasBit_any _ _ _ _ _ _ (R03.drewN _) (by omega) hb).mono ?_; rintro e w' ⟨rfl, rfl⟩)
    refine (meets_any _ _ _ _ _ _ _ _ _ (R3.drewN _) (R03.drewN _) (by omega) (by omega)).mono ?_
    rintro e w4 ⟨rfl, m6, rfl⟩
    go_wp2_with fail
    refine (meets_any _ _ _ _ _ _ _ _ _ (R03.drewN _) (R03.drewN _) (by omega) (by omega)).mono ?_
    rintro e w4 ⟨rfl, m7, rfl⟩
    go_wp2_with (go_at_call 9; refine (anyNz_any _ _ _ _ _ (R03.drewN _) (by omega)).mono ?_; rintro e w' ⟨rfl, rfl⟩)
    go_ret
    exact ⟨rfl, below_drewN hb03 _⟩

set_option maxHeartbeats 1000000 in
theorem law4_right (x1 : Addr) (n1 c1 : Nat) (z1 : List Int) (b : Nat) (w : World) (hb : b < 262144) (h1 : n1 ≤ 4096) (r1 : Row w (some x1) n1 z1) (u1 : ∀ z ∈ z1, U z) :
    Calls Try.prog 4 #[.slice none 0 0, .slice (some x1) n1 c1, .int .i64 b] w fun e w' => e = .returned (.bool true) ∧ Below w.heap.size w w' := by
  have hf : fits 0 n1 = true := by simp [fits]; omega
  have hm1 := made n1 (by omega)
  have hq0 := neqNil none 0 0
  have hq1 := neqNil (some x1) n1 c1
  have L1 : Hid (z1.length = n1) := r1.1
  obtain ⟨g2, g3⟩ := law4_empty z1 b u1
  all_goals
    go_enter Try.func4, Try.ntmps4
    have hb1 : Below w.heap.size w w := Below.refl _ _
    go_wp2_with (first
      | (go_at_call 10; refine (bytes10 _ _ _ _ _ _ _ _ (by omega) (by omega)).mono ?_; rintro e w' ⟨rfl, rfl⟩)
      | (with_reducible refine copy_at (.tmp 45) (.tmp 46) w.heap.size n1 c1 (some x1) z1 w.heap.size w ?q3 ?q4 ?q6 ?q7 ?q9 ?q10 ?_))
    case q3 => rfl
    case q4 => rfl
    case q6 => exact (r1.below hb1).below ((Below.refl _ _).alloc (Nat.le_refl _) _)
    case q7 => exact Blk.made w n1
    case q9 => exact (Below.refl _ _).alloc (Nat.le_refl _) _
    case q10 => exact Nat.le_refl _
    intro w2 hB1 hb2
    have hb02 : Below w.heap.size w w2 := hb1.trans (hb2.mono hb1.size)
    have R0 : Row w2 none 0 [] := ⟨rfl, .inl rfl⟩
    have R1 : Row w2 (some ⟨w.heap.size, 0, none⟩) n1 z1 := by have := hB1.row; rw [L1.out] at this; exact this
    go_wp2_with (go_at_call 11; refine (withBit_row _ _ _ _ _ _ R1 (by omega) hb).mono ?_; rintro e w3 ⟨g, N, rfl, hN, R3, hb3⟩)
    have hb03 : Below w.heap.size w w3 := hb02.trans (hb3.mono hb02.size)
    have R03 := R0.below hb3
    have R13 := R1.below hb3
    clear hq0 hq1 hf hm1 hB1 hb2 R0 R1 hb02 hb1 hb3
    refine (meets_any _ _ _ _ _ _ _ _ _ R03 R3 (by omega) (by omega)).mono ?_
    rintro e w4 ⟨rfl, m4, rfl⟩
    go_wp2_with fail
    refine (meets_any _ _ _ _ _ _ _ _ _ (R03.drewN _) (R13.drewN _) (by omega) (by omega)).mono ?_
    rintro e w4 ⟨rfl, m5, rfl⟩
    go_wp2_with (go_at_call 12; refine (hasBit_any _ _ _ _ _ _ (R03.drewN _) (by omega) hb).mono ?_; rintro e w' ⟨rfl, rfl⟩)
    refine (meets_any _ _ _ _ _ _ _ _ _ (R3.drewN _) (R03.drewN _) (by omega) (by omega)).mono ?_
    rintro e w4 ⟨rfl, m6, rfl⟩
    go_wp2_with fail
    refine (meets_any _ _ _ _ _ _ _ _ _ (R03.drewN _) (R03.drewN _) (by omega) (by omega)).mono ?_
    rintro e w4 ⟨rfl, m7, rfl⟩
    go_wp2_with (go_at_call 9; refine (anyNz_any _ _ _ _ _ (R03.drewN _) (by omega)).mono ?_; rintro e w' ⟨rfl, rfl⟩)
    go_ret
    exact ⟨rfl, below_drewN hb03 _⟩

set_option maxHeartbeats 1000000 in
theorem law4_nils (b : Nat) (w : World) (hb : b < 262144) :
    Calls Try.prog 4 #[.slice none 0 0, .slice none 0 0, .int .i64 b] w fun e w' => e = .returned (.bool true) ∧ Below w.heap.size w w' := by
  have hf : fits 0 0 = true := by simp [fits]
  have hq0 := neqNil none 0 0
  have hq1 := neqNil none 0 0
  obtain ⟨g2, g3⟩ := law4_empty [] b (fun _ h => by cases h)
  all_goals
    go_enter Try.func4, Try.ntmps4
    have hb1 : Below w.heap.size w w := Below.refl _ _
    have hb02 : Below w.heap.size w w := hb1
    have R0 : Row w none 0 [] := ⟨rfl, .inl rfl⟩
    have R1 : Row w none 0 [] := ⟨rfl, .inl rfl⟩
    go_wp2_with (first
      | (go_at_call 10; refine (bytes10 _ _ _ _ _ _ _ _ (by omega) (by omega)).mono ?_; rintro e w' ⟨rfl, rfl⟩)
      | (go_at_call 11; refine (withBit_row _ _ _ _ _ _ R1 (by omega) hb).mono ?_; rintro e w3 ⟨g, N, rfl, hN, R3, hb3⟩))
    have hb03 : Below w.heap.size w w3 := hb02.trans (hb3.mono hb02.size)
    have R03 := R0.below hb3
    have R13 := R1.below hb3
    clear hq0 hq1 hf R0 R1 hb02 hb1 hb3
    refine (meets_any _ _ _ _ _ _ _ _ _ R03 R3 (by omega) (by omega)).mono ?_
    rintro e w4 ⟨rfl, m4, rfl⟩
    go_wp2_with fail
    refine (meets_any _ _ _ _ _ _ _ _ _ (R03.drewN _) (R13.drewN _) (by omega) (by omega)).mono ?_
    rintro e w4 ⟨rfl, m5, rfl⟩
    go_wp2_with (go_at_call 12; refine (hasBit_any _ _ _ _ _ _ (R03.drewN _) (by omega) hb).mono ?_; rintro e w' ⟨rfl, rfl⟩)
    refine (meets_any _ _ _ _ _ _ _ _ _ (R3.drewN _) (R03.drewN _) (by omega) (by omega)).mono ?_
    rintro e w4 ⟨rfl, m6, rfl⟩
    go_wp2_with fail
    refine (meets_any _ _ _ _ _ _ _ _ _ (R03.drewN _) (R03.drewN _) (by omega) (by omega)).mono ?_
    rintro e w4 ⟨rfl, m7, rfl⟩
    go_wp2_with (go_at_call 9; refine (anyNz_any _ _ _ _ _ (R03.drewN _) (by omega)).mono ?_; rintro e w' ⟨rfl, rfl⟩)
    go_ret
    exact ⟨rfl, below_drewN hb03 _⟩

end Go.Proofs.Qxb6628700a
