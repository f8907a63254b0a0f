/- FnMeetsSplitSymmetricIntersection walked. -/
import Derived.Test.Qxb6628700aCopy
namespace Go.Proofs.Qxb6628700a
open Go.RowKit
set_option linter.unusedVariables false

theorem neqNil3 (a : Option Addr) (n c : Nat) (w : World) : (binOp .neq 22 (.slice a n c) (.slice none 0 0)).run Try.prog w = .ok (.bool (!a.isNone)) w :=
  run_neq_slice_nil_any w 22 31 a n c 0 0 Try.underlying22

theorem min_any (a b : Int) (w : World) : Calls Try.prog 6 #[.int .i64 a, .int .i64 b] w fun e w' => e = .returned (.int .i64 (if a < b then a else b)) ∧ w = w' := by
  by_cases h : a < b
  · go_enter Try.func6, Try.ntmps6
    go_wp2
    go_ret
    exact ⟨rfl, rfl⟩
  · go_enter Try.func6, Try.ntmps6
    go_wp2
    go_ret
    exact ⟨rfl, rfl⟩

/-- The lesser of two lengths, under a name that the walk does not open. -/
theorem min_len (n0 n1 n : Nat) (w : World) (h : Hid (n = min n0 n1)) : Calls Try.prog 6 #[.int .i64 n0, .int .i64 n1] w fun e w' => e = .returned (.int .i64 n) ∧ w = w' := by
  refine (min_any n0 n1 w).mono ?_
  rintro e w' ⟨rfl, rfl⟩
  have h' := h.out
  refine ⟨?_, rfl⟩
  have : (if (n0 : Int) < (n1 : Int) then (n0 : Int) else (n1 : Int)) = (n : Int) := by split <;> omega
  rw [this]

/-- A quiet callee in a region that draws, some draws ahead of it. -/
theorem quietM {P : Program} {f : FuncId} {args : Array Value} {w : World} {m x : Nat} {v : Value}
    (h : Calls P f args (w.drewN (m + x)) fun e w' => e = .returned v ∧ ∃ n, w' = (w.drewN (m + x)).drewN n) : Calls P f args (w.drewN (m + x)) fun e w' => e = .returned v ∧ ∃ n, w' = w.drewN (m + n) :=
  h.mono fun _ _ ⟨he, n, hn⟩ => ⟨he, x + n, by rw [hn, World.drewN_drewN, Nat.add_assoc]⟩

/-- The ways on which the law says true at once. -/
theorem law3_out (a0 : Option Addr) (n0 c0 : Nat) (a1 : Option Addr) (n1 c1 : Nat) (k : Int) (w : World) (h0 : n0 ≤ 9223372036854775807) (h1 : n1 ≤ 9223372036854775807)
    (h : 4096 < n0 ∨ 4096 < n1) :
    Calls Try.prog 3 #[.slice a0 n0 c0, .slice a1 n1 c1, .int .i64 k] w fun e w' => e = .returned (.bool true) ∧ Below w.heap.size w w' := by
  go_enter Try.func3, Try.ntmps3
  go_wp2_with (go_at_call 5; refine (bytes5 _ _ _ _ _ _ _ _ h0 h1).mono ?_; rintro e w' ⟨rfl, rfl⟩)
  all_goals
    go_ret
    exact ⟨rfl, Below.refl _ _⟩

/-- The plain law, in the form in which the walk wants it. -/
theorem law3_plain (z0 z1 : List Int) (k : Nat) (u0 : ∀ z ∈ z0, U z) (u1 : ∀ z ∈ z1, U z) :
    meets z1 z0 = meets z0 z1 ∧ meets (andW z0 z1) (andW z0 z1) = meets z0 z1 ∧ anyNz (andW z0 z1) = meets z0 z1 ∧
      ((meets (z0.take k) (z1.take k) = true ∧ meets z0 z1 = true) ∨ (meets (z0.take k) (z1.take k) = false ∧ meets (z0.drop k) (z1.drop k) = meets z0 z1)) := by
  refine ⟨meets_comm z1 z0 u1 u0, ?_, (meets_andW z0 z1).symm, ?_⟩
  · rw [meets_self _ (andW_U z0 z1 u0 u1), ← meets_andW]
  · have h := meets_split z0 z1 k
    cases ht : meets (z0.take k) (z1.take k)
    · rw [ht, Bool.false_or] at h
      exact .inr ⟨rfl, h.symm⟩
    · rw [ht, Bool.true_or] at h
      exact .inl ⟨rfl, h⟩

theorem Row.take {w : World} {a : Option Addr} {n : Nat} {zs : List Int} (h : Row w a n zs) (k : Nat) (hk : k ≤ n) : Row w a k (zs.take k) := by
  obtain ⟨hl, h2⟩ := h
  refine ⟨by simp; omega, ?_⟩
  by_cases h0 : k = 0
  · exact .inl h0
  · rcases h2 with h2 | ⟨b, off, e, hc⟩
    · omega
    · refine .inr ⟨b, off, e, fun i hi => ?_⟩
      have hi' : i < k ∧ i < zs.length := by simp at hi; omega
      rw [hc i hi'.2, List.getElem?_take_of_lt hi'.1]

theorem Row.drop {w : World} {a a' : Option Addr} {n : Nat} {zs : List Int} (h : Row w a n zs) (k : Nat) (hk : k ≤ n) (ha : ∀ b off, a = some ⟨b, off, none⟩ → ¬ n = k → a' = some ⟨b, off + k, none⟩) : Row w a' (n - k) (zs.drop k) := by
  obtain ⟨hl, h2⟩ := h
  refine ⟨by simp; omega, ?_⟩
  by_cases h0 : n = k
  · exact .inl (by omega)
  · rcases h2 with h2 | ⟨b, off, e, hc⟩
    · omega
    · refine .inr ⟨b, off + k, ha b off e h0, fun i hi => ?_⟩
      have hi' : k + i < zs.length := by simp at hi; omega
      have := hc (k + i) hi'
      rw [← Nat.add_assoc] at this
      rw [this, List.getElem?_drop]

theorem row_nil (w : World) (a : Option Addr) : Row w a 0 [] := ⟨rfl, .inl rfl⟩

theorem andWords_nil (a0 : Option Addr) (n0 c0 : Nat) (a1 : Option Addr) (n1 c1 : Nat) (w : World) (hn : n0 = 0 ∨ n1 = 0) (h0 : n0 ≤ 1048576) (h1 : n1 ≤ 1048576) :
    Calls Try.prog 8 #[.slice a0 n0 c0, .slice a1 n1 c1] w fun e w' => ∃ g, e = .returned (.slice (some ⟨g, 0, none⟩) 0 0) ∧ Below w.heap.size w w' := by
  refine (andWords_zero a0 n0 c0 a1 n1 c1 w hn h0 h1).mono ?_
  rintro e w' ⟨g, m, rfl, hm, _, hb⟩
  obtain rfl : m = 0 := by omega
  exact ⟨g, rfl, hb⟩

set_option maxHeartbeats 1000000 in
theorem law3_off_nil_nil (k : Int) (w : World) (hk : k < 0 ∨ ((0 : Nat) : Int) < k ∨ ((0 : Nat) : Int) < k) :
    Calls Try.prog 3 #[.slice none 0 0, .slice none 0 0, .int .i64 k] w fun e w' => e = .returned (.bool true) ∧ Below w.heap.size w w' := by
  have hf : fits 0 0 = true := by simp [fits]
  have hq0 := neqNil3 none 0 0
  have hq1 := neqNil3 none 0 0
  obtain ⟨n, HN, hkn⟩ : ∃ n : Nat, Hid (n = min 0 0) ∧ (k < 0 ∨ (n : Int) < k) := ⟨min 0 0, rfl, by omega⟩
  clear hk
  go_enter Try.func3, Try.ntmps3
  have hb1 : Below w.heap.size w w := Below.refl _ _
  go_wp2_with (first
    | (go_at_call 5; refine (bytes5 _ _ _ _ _ _ _ _ (by omega) (by omega)).mono ?_; rintro e w' ⟨rfl, rfl⟩)
    | (go_at_call 6; refine (min_len _ _ _ _ HN).mono ?_; rintro e w' ⟨rfl, rfl⟩))
  all_goals
    go_ret
    exact ⟨rfl, hb1⟩

set_option maxHeartbeats 1000000 in
theorem law3_off_some_nil (x0 : Addr) (n0 c0 : Nat) (z0 : List Int) (k : Int) (w : World) (h0 : n0 ≤ 4096) (r0 : Row w (some x0) n0 z0) (hk : k < 0 ∨ ((n0 : Nat) : Int) < k ∨ ((0 : Nat) : Int) < k) :
    Calls Try.prog 3 #[.slice (some x0) n0 c0, .slice none 0 0, .int .i64 k] w fun e w' => e = .returned (.bool true) ∧ Below w.heap.size w w' := by
  have hf : fits n0 0 = true := by simp [fits]; omega
  have hm0 := made n0 (by omega)
  have hq0 := neqNil3 (some x0) n0 c0
  have hq1 := neqNil3 none 0 0
  obtain ⟨n, HN, hkn⟩ : ∃ n : Nat, Hid (n = min n0 0) ∧ (k < 0 ∨ (n : Int) < k) := ⟨min n0 0, rfl, by omega⟩
  clear hk
  go_enter Try.func3, Try.ntmps3
  go_wp2_with (first
    | (go_at_call 5; refine (bytes5 _ _ _ _ _ _ _ _ (by omega) (by omega)).mono ?_; rintro e w' ⟨rfl, rfl⟩)
    | (with_reducible refine copy_at (.tmp 33) (.tmp 34) w.heap.size n0 c0 (some x0) z0 w.heap.size w ?p30 ?p40 ?p60 ?p70 ?p90 ?p100 ?_))
  case p30 => rfl
  case p40 => rfl
  case p60 => exact r0.below ((Below.refl _ _).alloc (Nat.le_refl _) _)
  case p70 => exact Blk.made w n0
  case p90 => exact (Below.refl _ _).alloc (Nat.le_refl _) _
  case p100 => exact Nat.le_refl _
  intro w1 hB0 hb1
  clear hB0
  go_wp2_with (go_at_call 6; refine (min_len _ _ _ _ HN).mono ?_; rintro e w' ⟨rfl, rfl⟩)
  all_goals
    go_ret
    exact ⟨rfl, hb1⟩

set_option maxHeartbeats 1000000 in
theorem law3_off_nil_some (x1 : Addr) (n1 c1 : Nat) (z1 : List Int) (k : Int) (w : World) (h1 : n1 ≤ 4096) (r1 : Row w (some x1) n1 z1) (hk : k < 0 ∨ ((0 : Nat) : Int) < k ∨ ((n1 : Nat) : Int) < k) :
    Calls Try.prog 3 #[.slice none 0 0, .slice (some x1) n1 c1, .int .i64 k] w fun e w' => e = .returned (.bool true) ∧ Below w.heap.size w w' := by
  have hf : fits 0 n1 = true := by simp [fits]; omega
  have hm1 := made n1 (by omega)
  have hq0 := neqNil3 none 0 0
  have hq1 := neqNil3 (some x1) n1 c1
  obtain ⟨n, HN, hkn⟩ : ∃ n : Nat, Hid (n = min 0 n1) ∧ (k < 0 ∨ (n : Int) < k) := ⟨min 0 n1, rfl, by omega⟩
  clear hk
  go_enter Try.func3, Try.ntmps3
  have hb1 : Below w.heap.size w w := Below.refl _ _
  go_wp2_with (first
    | (go_at_call 5; refine (bytes5 _ _ _ _ _ _ _ _ (by omega) (by omega)).mono ?_; rintro e w' ⟨rfl, rfl⟩)
    | (with_reducible refine copy_at (.tmp 42) (.tmp 43) w.heap.size n1 c1 (some x1) z1 w.heap.size w ?p31 ?p41 ?p61 ?p71 ?p91 ?p101 ?_))
  case p31 => rfl
  case p41 => rfl
  case p61 => exact r1.below ((Below.refl _ _).alloc (Nat.le_refl _) _)
  case p71 => exact Blk.made w n1
  case p91 => exact (Below.refl _ _).alloc (Nat.le_refl _) _
  case p101 => exact Nat.le_refl _
  intro w1 hB0 hb1
  clear hB0
  go_wp2_with (go_at_call 6; refine (min_len _ _ _ _ HN).mono ?_; rintro e w' ⟨rfl, rfl⟩)
  all_goals
    go_ret
    exact ⟨rfl, hb1⟩

set_option maxHeartbeats 1000000 in
theorem law3_off_some_some (x0 : Addr) (n0 c0 : Nat) (z0 : List Int) (x1 : Addr) (n1 c1 : Nat) (z1 : List Int) (k : Int) (w : World) (h0 : n0 ≤ 4096) (r0 : Row w (some x0) n0 z0) (h1 : n1 ≤ 4096) (r1 : Row w (some x1) n1 z1) (hk : k < 0 ∨ ((n0 : Nat) : Int) < k ∨ ((n1 : Nat) : Int) < k) :
    Calls Try.prog 3 #[.slice (some x0) n0 c0, .slice (some x1) n1 c1, .int .i64 k] w fun e w' => e = .returned (.bool true) ∧ Below w.heap.size w w' := by
  have hf : fits n0 n1 = true := by simp [fits]; omega
  have hm0 := made n0 (by omega)
  have hm1 := made n1 (by omega)
  have hq0 := neqNil3 (some x0) n0 c0
  have hq1 := neqNil3 (some x1) n1 c1
  obtain ⟨n, HN, hkn⟩ : ∃ n : Nat, Hid (n = min n0 n1) ∧ (k < 0 ∨ (n : Int) < k) := ⟨min n0 n1, rfl, by omega⟩
  clear hk
  go_enter Try.func3, Try.ntmps3
  go_wp2_with (first
    | (go_at_call 5; refine (bytes5 _ _ _ _ _ _ _ _ (by omega) (by omega)).mono ?_; rintro e w' ⟨rfl, rfl⟩)
    | (with_reducible refine copy_at (.tmp 33) (.tmp 34) w.heap.size n0 c0 (some x0) z0 w.heap.size w ?p30 ?p40 ?p60 ?p70 ?p90 ?p100 ?_))
  case p30 => rfl
  case p40 => rfl
  case p60 => exact r0.below ((Below.refl _ _).alloc (Nat.le_refl _) _)
  case p70 => exact Blk.made w n0
  case p90 => exact (Below.refl _ _).alloc (Nat.le_refl _) _
  case p100 => exact Nat.le_refl _
  intro w1 hB0 hb1
  clear hB0
  go_wp2_with (with_reducible refine copy_at (.tmp 42) (.tmp 43) w1.heap.size n1 c1 (some x1) z1 w1.heap.size w1 ?p31 ?p41 ?p61 ?p71 ?p91 ?p101 ?_)
  case p31 => rfl
  case p41 => rfl
  case p61 => exact (r1.below hb1).below ((Below.refl _ _).alloc (Nat.le_refl _) _)
  case p71 => exact Blk.made w1 n1
  case p91 => exact (Below.refl _ _).alloc (Nat.le_refl _) _
  case p101 => exact Nat.le_refl _
  intro w2 hB1 hb2
  clear hB1
  replace hb1 := hb1.trans (hb2.mono hb1.size)
  go_wp2_with (go_at_call 6; refine (min_len _ _ _ _ HN).mono ?_; rintro e w' ⟨rfl, rfl⟩)
  all_goals
    go_ret
    exact ⟨rfl, hb1⟩

set_option maxHeartbeats 1000000 in
theorem law3_nil_nil (w : World) :
    Calls Try.prog 3 #[.slice none 0 0, .slice none 0 0, .int .i64 0] w fun e w' => e = .returned (.bool true) ∧ Below w.heap.size w w' := by
  have hf : fits 0 0 = true := by simp [fits]
  have hz : anyNz [] = false := rfl
  have hq0 := neqNil3 none 0 0
  have hq1 := neqNil3 none 0 0
  obtain ⟨n, HN, hkn⟩ : ∃ n, Hid (n = min 0 0) ∧ 0 ≤ n := ⟨min 0 0, rfl, Nat.zero_le _⟩
  go_enter Try.func3, Try.ntmps3
  have hb02 : Below w.heap.size w w := Below.refl _ _
  go_wp2_with (first
    | (go_at_call 5; refine (bytes5 _ _ _ _ _ _ _ _ (by omega) (by omega)).mono ?_; rintro e w' ⟨rfl, rfl⟩)
    | (go_at_call 6; refine (min_len _ _ _ _ HN).mono ?_; rintro e w' ⟨rfl, rfl⟩))
  refine (meets_zero _ 0 _ _ 0 _ _ (.inl rfl) (by omega) (by omega)).mono ?_
  rintro e w4 ⟨rfl, m4, rfl⟩
  go_wp2_with fail
  refine (meets_zero _ 0 _ _ 0 _ _ (.inl rfl) (by omega) (by omega)).mono ?_
  rintro e w4 ⟨rfl, m5, rfl⟩
  go_wp2_with fail
  go_quiet ((go_at_call 7; refine quietM (meets_zero _ 0 _ _ 0 _ _ (.inl rfl) (by omega) (by omega))))
  go_wp2_with fail
  go_quiet ((go_at_call 7; refine quietM (meets_zero _ 0 _ _ 0 _ _ (.inl rfl) (by omega) (by omega))))
  go_wp2_with fail
  refine (andWords_nil _ 0 _ _ 0 _ _ (.inl rfl) (by omega) (by omega)).mono ?_
  rintro e w6 ⟨ga, rfl, hb6⟩
  have hb6' : Below w.heap.size w w6 := (below_drewN (Below.refl _ _) _).trans hb6
  go_wp2_with fail
  refine (meets_zero _ 0 _ _ 0 _ _ (.inl rfl) (by omega) (by omega)).mono ?_
  rintro e w7 ⟨rfl, m7, rfl⟩
  go_wp2_with fail
  refine (andWords_nil _ 0 _ _ 0 _ _ (.inl rfl) (by omega) (by omega)).mono ?_
  rintro e w8 ⟨gb, rfl, hb8⟩
  have hb8' : Below w6.heap.size w6 w8 := (below_drewN (Below.refl _ _) _).trans hb8
  go_wp2_with (go_at_call 9; refine (anyNz_any _ 0 _ [] _ (row_nil _ _) (by omega)).mono ?_; rintro e w' ⟨rfl, rfl⟩)
  go_ret
  exact ⟨rfl, (hb02.trans (hb6'.mono hb02.size)).trans (hb8'.mono (hb02.trans (hb6'.mono hb02.size)).size)⟩

set_option maxHeartbeats 1000000 in
theorem law3_some_nil (x0 : Addr) (n0 c0 : Nat) (z0 : List Int) (w : World) (h0 : n0 ≤ 4096) (r0 : Row w (some x0) n0 z0) :
    Calls Try.prog 3 #[.slice (some x0) n0 c0, .slice none 0 0, .int .i64 0] w fun e w' => e = .returned (.bool true) ∧ Below w.heap.size w w' := by
  have hf : fits n0 0 = true := by simp [fits]; omega
  have hz : anyNz [] = false := rfl
  have hm0 := made n0 (by omega)
  have hq0 := neqNil3 (some x0) n0 c0
  have hq1 := neqNil3 none 0 0
  obtain ⟨n, HN, hkn⟩ : ∃ n, Hid (n = min n0 0) ∧ 0 ≤ n := ⟨min n0 0, rfl, Nat.zero_le _⟩
  go_enter Try.func3, Try.ntmps3
  go_wp2_with (first
    | (go_at_call 5; refine (bytes5 _ _ _ _ _ _ _ _ (by omega) (by omega)).mono ?_; rintro e w' ⟨rfl, rfl⟩)
    | (with_reducible refine copy_at (.tmp 33) (.tmp 34) w.heap.size n0 c0 (some x0) z0 w.heap.size w ?p3 ?p4 ?p6 ?p7 ?p9 ?p10 ?_))
  case p3 => rfl
  case p4 => rfl
  case p6 => exact r0.below ((Below.refl _ _).alloc (Nat.le_refl _) _)
  case p7 => exact Blk.made w n0
  case p9 => exact (Below.refl _ _).alloc (Nat.le_refl _) _
  case p10 => exact Nat.le_refl _
  intro w2 hB0 hb02
  clear hB0
  clear hm0 hf
  go_wp2_with (go_at_call 6; refine (min_len _ _ _ _ HN).mono ?_; rintro e w' ⟨rfl, rfl⟩)
  refine (meets_zero _ n0 _ _ 0 _ _ (.inr rfl) (by omega) (by omega)).mono ?_
  rintro e w4 ⟨rfl, m4, rfl⟩
  go_wp2_with fail
  refine (meets_zero _ 0 _ _ n0 _ _ (.inl rfl) (by omega) (by omega)).mono ?_
  rintro e w4 ⟨rfl, m5, rfl⟩
  go_wp2_with fail
  go_quiet ((go_at_call 7; refine quietM (meets_zero _ 0 _ _ 0 _ _ (.inl rfl) (by omega) (by omega))))
  go_wp2_with fail
  go_quiet ((go_at_call 7; refine quietM (meets_zero _ n0 _ _ 0 _ _ (.inr rfl) (by omega) (by omega))))
  go_wp2_with fail
  refine (andWords_nil _ n0 _ _ 0 _ _ (.inr rfl) (by omega) (by omega)).mono ?_
  rintro e w6 ⟨ga, rfl, hb6⟩
  have hb6' : Below w2.heap.size w2 w6 := (below_drewN (Below.refl _ _) _).trans hb6
  go_wp2_with fail
  refine (meets_zero _ 0 _ _ 0 _ _ (.inl rfl) (by omega) (by omega)).mono ?_
  rintro e w7 ⟨rfl, m7, rfl⟩
  go_wp2_with fail
  refine (andWords_nil _ n0 _ _ 0 _ _ (.inr rfl) (by omega) (by omega)).mono ?_
  rintro e w8 ⟨gb, rfl, hb8⟩
  have hb8' : Below w6.heap.size w6 w8 := (below_drewN (Below.refl _ _) _).trans hb8
  go_wp2_with (go_at_call 9; refine (anyNz_any _ 0 _ [] _ (row_nil _ _) (by omega)).mono ?_; rintro e w' ⟨rfl, rfl⟩)
  go_ret
  exact ⟨rfl, (hb02.trans (hb6'.mono hb02.size)).trans (hb8'.mono (hb02.trans (hb6'.mono hb02.size)).size)⟩

set_option maxHeartbeats 1000000 in
theorem law3_nil_some (x1 : Addr) (n1 c1 : Nat) (z1 : List Int) (w : World) (h1 : n1 ≤ 4096) (r1 : Row w (some x1) n1 z1) :
    Calls Try.prog 3 #[.slice none 0 0, .slice (some x1) n1 c1, .int .i64 0] w fun e w' => e = .returned (.bool true) ∧ Below w.heap.size w w' := by
  have hf : fits 0 n1 = true := by simp [fits]; omega
  have hz : anyNz [] = false := rfl
  have hm1 := made n1 (by omega)
  have hq0 := neqNil3 none 0 0
  have hq1 := neqNil3 (some x1) n1 c1
  obtain ⟨n, HN, hkn⟩ : ∃ n, Hid (n = min 0 n1) ∧ 0 ≤ n := ⟨min 0 n1, rfl, Nat.zero_le _⟩
  go_enter Try.func3, Try.ntmps3
  go_wp2_with (first
    | (go_at_call 5; refine (bytes5 _ _ _ _ _ _ _ _ (by omega) (by omega)).mono ?_; rintro e w' ⟨rfl, rfl⟩)
    | (with_reducible refine copy_at (.tmp 42) (.tmp 43) w.heap.size n1 c1 (some x1) z1 w.heap.size w ?p3 ?p4 ?p6 ?p7 ?p9 ?p10 ?_))
  case p3 => rfl
  case p4 => rfl
  case p6 => exact r1.below ((Below.refl _ _).alloc (Nat.le_refl _) _)
  case p7 => exact Blk.made w n1
  case p9 => exact (Below.refl _ _).alloc (Nat.le_refl _) _
  case p10 => exact Nat.le_refl _
  intro w2 hB0 hb02
  clear hB0
  clear hm1 hf
  go_wp2_with (go_at_call 6; refine (min_len _ _ _ _ HN).mono ?_; rintro e w' ⟨rfl, rfl⟩)
  refine (meets_zero _ 0 _ _ n1 _ _ (.inl rfl) (by omega) (by omega)).mono ?_
  rintro e w4 ⟨rfl, m4, rfl⟩
  go_wp2_with fail
  refine (meets_zero _ n1 _ _ 0 _ _ (.inr rfl) (by omega) (by omega)).mono ?_
  rintro e w4 ⟨rfl, m5, rfl⟩
  go_wp2_with fail
  go_quiet ((go_at_call 7; refine quietM (meets_zero _ 0 _ _ 0 _ _ (.inl rfl) (by omega) (by omega))))
  go_wp2_with fail
  go_quiet ((go_at_call 7; refine quietM (meets_zero _ 0 _ _ n1 _ _ (.inl rfl) (by omega) (by omega))))
  go_wp2_with fail
  refine (andWords_nil _ 0 _ _ n1 _ _ (.inl rfl) (by omega) (by omega)).mono ?_
  rintro e w6 ⟨ga, rfl, hb6⟩
  have hb6' : Below w2.heap.size w2 w6 := (below_drewN (Below.refl _ _) _).trans hb6
  go_wp2_with fail
  refine (meets_zero _ 0 _ _ 0 _ _ (.inl rfl) (by omega) (by omega)).mono ?_
  rintro e w7 ⟨rfl, m7, rfl⟩
  go_wp2_with fail
  refine (andWords_nil _ 0 _ _ n1 _ _ (.inl rfl) (by omega) (by omega)).mono ?_
  rintro e w8 ⟨gb, rfl, hb8⟩
  have hb8' : Below w6.heap.size w6 w8 := (below_drewN (Below.refl _ _) _).trans hb8
  go_wp2_with (go_at_call 9; refine (anyNz_any _ 0 _ [] _ (row_nil _ _) (by omega)).mono ?_; rintro e w' ⟨rfl, rfl⟩)
  go_ret
  exact ⟨rfl, (hb02.trans (hb6'.mono hb02.size)).trans (hb8'.mono (hb02.trans (hb6'.mono hb02.size)).size)⟩

set_option maxHeartbeats 1000000 in
theorem law3_eq_eq (k : Nat) (x0 : Addr) (c0 : Nat) (z0 : List Int) (x1 : Addr) (c1 : Nat) (z1 : List Int) (w : World) (h0 : k ≤ 4096) (r0 : Row w (some x0) k z0) (u0 : ∀ z ∈ z0, U z) (h1 : k ≤ 4096) (r1 : Row w (some x1) k z1) (u1 : ∀ z ∈ z1, U z) :
    Calls Try.prog 3 #[.slice (some x0) k c0, .slice (some x1) k c1, .int .i64 k] w fun e w' => e = .returned (.bool true) ∧ Below w.heap.size w w' := by
  have hf : fits k k = true := by simp [fits]; omega
  have hm0 := made k (by omega)
  have hm1 := made k (by omega)
  have hq0 := neqNil3 (some x0) k c0
  have hq1 := neqNil3 (some x1) k c1
  have L0 : Hid (z0.length = k) := r0.1
  have L1 : Hid (z1.length = k) := r1.1
  obtain ⟨n, HN, hkn⟩ : ∃ n, Hid (n = min k k) ∧ k ≤ n := ⟨_, (show Hid _ from rfl), by omega⟩
  obtain ⟨g1, g2, g3, g45⟩ := law3_plain z0 z1 k u0 u1
  rcases g45 with ⟨g4, g5⟩ | ⟨g4, g5⟩
  all_goals
    go_enter Try.func3, Try.ntmps3
    go_wp2_with (first
      | (go_at_call 5; refine (bytes5 _ _ _ _ _ _ _ _ (by omega) (by omega)).mono ?_; rintro e w' ⟨rfl, rfl⟩)
      | (with_reducible refine copy_at (.tmp 33) (.tmp 34) w.heap.size k c0 (some x0) z0 w.heap.size w ?p3 ?p4 ?p6 ?p7 ?p9 ?p10 ?_))
    case p3 => rfl
    case p4 => rfl
    case p6 => exact r0.below ((Below.refl _ _).alloc (Nat.le_refl _) _)
    case p7 => exact Blk.made w k
    case p9 => exact (Below.refl _ _).alloc (Nat.le_refl _) _
    case p10 => exact Nat.le_refl _
    intro w1 hB0 hb1
    go_wp2_with (with_reducible refine copy_at (.tmp 42) (.tmp 43) w1.heap.size k c1 (some x1) z1 w1.heap.size w1 ?q3 ?q4 ?q6 ?q7 ?q9 ?q10 ?_)
    case q3 => rfl
    case q4 => rfl
    case q6 => exact (r1.below hb1).below ((Below.refl _ _).alloc (Nat.le_refl _) _)
    case q7 => exact Blk.made w1 k
    case q9 => exact (Below.refl _ _).alloc (Nat.le_refl _) _
    case q10 => exact Nat.le_refl _
    intro w2 hB1 hb2
    have hb02 : Below w.heap.size w w2 := hb1.trans (hb2.mono hb1.size)
    have hB02 := hB0.below hb2
    clear hB0
    have R0 : Row w2 (some ⟨w.heap.size, 0, none⟩) k z0 := by have := hB02.row; rw [L0.out] at this; exact this
    have R1 : Row w2 (some ⟨w1.heap.size, 0, none⟩) k z1 := by have := hB1.row; rw [L1.out] at this; exact this
    have D0 : ∀ a, Row w2 a 0 (z0.drop k) := fun a => ⟨by simp [L0.out], .inl rfl⟩
    have D1 : ∀ a, Row w2 a 0 (z1.drop k) := fun a => ⟨by simp [L1.out], .inl rfl⟩
    clear hq0 hq1 hf hm0 hm1 hB1 hb2 hB02 hb1
    go_wp2_with (go_at_call 6; refine (min_len _ _ _ _ HN).mono ?_; rintro e w' ⟨rfl, rfl⟩)
    refine (meets_any _ _ _ _ _ _ _ _ _ R0 R1 (by omega) (by omega)).mono ?_
    rintro e w4 ⟨rfl, m4, rfl⟩
    go_wp2_with fail
    refine (meets_any _ _ _ _ _ _ _ _ _ (R1.drewN _) (R0.drewN _) (by omega) (by omega)).mono ?_
    rintro e w4 ⟨rfl, m5, rfl⟩
    go_wp2_with fail
    go_quiet ((go_at_call 7; refine quietM (meets_any _ _ _ _ _ _ _ _ _ ((R0.take k (by omega)).drewN _) ((R1.take k (by omega)).drewN _) (by omega) (by omega))))
    go_wp2_with fail
    go_quiet ((go_at_call 7; refine quietM (meets_any _ _ _ _ _ _ _ _ _ ((D0 _).drewN _) ((D1 _).drewN _) (by omega) (by omega))))
    go_wp2_with fail
    refine (andWords_row _ _ _ _ _ _ _ _ _ (R0.drewN _) (R1.drewN _) (by omega) (by omega)).mono ?_
    rintro e w6 ⟨ga, ma, rfl, hma, RA, hb6⟩
    have hb6' : Below w2.heap.size w2 w6 := (below_drewN (Below.refl _ _) _).trans hb6
    have R06 := R0.below hb6'
    have R16 := R1.below hb6'
    go_wp2_with fail
    refine (meets_any _ _ _ _ _ _ _ _ _ RA RA (by omega) (by omega)).mono ?_
    rintro e w7 ⟨rfl, m7, rfl⟩
    go_wp2_with fail
    refine (andWords_row _ _ _ _ _ _ _ _ _ (R06.drewN _) (R16.drewN _) (by omega) (by omega)).mono ?_
    rintro e w8 ⟨gb, mb, rfl, hmb, RB, hb8⟩
    have hb8' : Below w6.heap.size w6 w8 := (below_drewN (Below.refl _ _) _).trans hb8
    go_wp2_with (go_at_call 9; refine (anyNz_any _ _ _ _ _ RB (by omega)).mono ?_; rintro e w' ⟨rfl, rfl⟩)
    go_ret
    exact ⟨rfl, (hb02.trans (hb6'.mono hb02.size)).trans (hb8'.mono (hb02.trans (hb6'.mono hb02.size)).size)⟩

set_option maxHeartbeats 1000000 in
theorem law3_eq_lt (k : Nat) (x0 : Addr) (c0 : Nat) (z0 : List Int) (x1 : Addr) (c1 : Nat) (z1 : List Int) (n1 : Nat) (hk1 : k < n1) (w : World) (h0 : k ≤ 4096) (r0 : Row w (some x0) k z0) (u0 : ∀ z ∈ z0, U z) (h1 : n1 ≤ 4096) (r1 : Row w (some x1) n1 z1) (u1 : ∀ z ∈ z1, U z) :
    Calls Try.prog 3 #[.slice (some x0) k c0, .slice (some x1) n1 c1, .int .i64 k] w fun e w' => e = .returned (.bool true) ∧ Below w.heap.size w w' := by
  have hf : fits k n1 = true := by simp [fits]; omega
  have hm0 := made k (by omega)
  have hm1 := made n1 (by omega)
  have hne1 : ¬ n1 = k := by omega
  have hq0 := neqNil3 (some x0) k c0
  have hq1 := neqNil3 (some x1) n1 c1
  have L0 : Hid (z0.length = k) := r0.1
  have L1 : Hid (z1.length = n1) := r1.1
  obtain ⟨n, HN, hkn⟩ : ∃ n, Hid (n = min k n1) ∧ k ≤ n := ⟨_, (show Hid _ from rfl), by omega⟩
  obtain ⟨g1, g2, g3, g45⟩ := law3_plain z0 z1 k u0 u1
  rcases g45 with ⟨g4, g5⟩ | ⟨g4, g5⟩
  all_goals
    go_enter Try.func3, Try.ntmps3
    go_wp2_with (first
      | (go_at_call 5; refine (bytes5 _ _ _ _ _ _ _ _ (by omega) (by omega)).mono ?_; rintro e w' ⟨rfl, rfl⟩)
      | (with_reducible refine copy_at (.tmp 33) (.tmp 34) w.heap.size k c0 (some x0) z0 w.heap.size w ?p3 ?p4 ?p6 ?p7 ?p9 ?p10 ?_))
    case p3 => rfl
    case p4 => rfl
    case p6 => exact r0.below ((Below.refl _ _).alloc (Nat.le_refl _) _)
    case p7 => exact Blk.made w k
    case p9 => exact (Below.refl _ _).alloc (Nat.le_refl _) _
    case p10 => exact Nat.le_refl _
    intro w1 hB0 hb1
    go_wp2_with (with_reducible refine copy_at (.tmp 42) (.tmp 43) w1.heap.size n1 c1 (some x1) z1 w1.heap.size w1 ?q3 ?q4 ?q6 ?q7 ?q9 ?q10 ?_)
    case q3 => rfl
    case q4 => rfl
    case q6 => exact (r1.below hb1).below ((Below.refl _ _).alloc (Nat.le_refl _) _)
    case q7 => exact Blk.made w1 n1
    case q9 => exact (Below.refl _ _).alloc (Nat.le_refl _) _
    case q10 => exact Nat.le_refl _
    intro w2 hB1 hb2
    have hb02 : Below w.heap.size w w2 := hb1.trans (hb2.mono hb1.size)
    have hB02 := hB0.below hb2
    clear hB0
    have R0 : Row w2 (some ⟨w.heap.size, 0, none⟩) k z0 := by have := hB02.row; rw [L0.out] at this; exact this
    have R1 : Row w2 (some ⟨w1.heap.size, 0, none⟩) n1 z1 := by have := hB1.row; rw [L1.out] at this; exact this
    have D0 : ∀ a, Row w2 a 0 (z0.drop k) := fun a => ⟨by simp [L0.out], .inl rfl⟩
    clear hq0 hq1 hf hm0 hm1 hB1 hb2 hB02 hb1
    go_wp2_with (go_at_call 6; refine (min_len _ _ _ _ HN).mono ?_; rintro e w' ⟨rfl, rfl⟩)
    refine (meets_any _ _ _ _ _ _ _ _ _ R0 R1 (by omega) (by omega)).mono ?_
    rintro e w4 ⟨rfl, m4, rfl⟩
    go_wp2_with fail
    refine (meets_any _ _ _ _ _ _ _ _ _ (R1.drewN _) (R0.drewN _) (by omega) (by omega)).mono ?_
    rintro e w4 ⟨rfl, m5, rfl⟩
    go_wp2_with fail
    go_quiet ((go_at_call 7; refine quietM (meets_any _ _ _ _ _ _ _ _ _ ((R0.take k (by omega)).drewN _) ((R1.take k (by omega)).drewN _) (by omega) (by omega))))
    go_wp2_with fail
    go_quiet ((go_at_call 7; refine quietM (meets_any _ _ _ _ _ _ _ _ _ ((D0 _).drewN _) ((R1.drop k (by omega) (by intro b o e h; cases e; simp)).drewN _) (by omega) (by omega))))
    go_wp2_with fail
    refine (andWords_row _ _ _ _ _ _ _ _ _ (R0.drewN _) (R1.drewN _) (by omega) (by omega)).mono ?_
    rintro e w6 ⟨ga, ma, rfl, hma, RA, hb6⟩
    have hb6' : Below w2.heap.size w2 w6 := (below_drewN (Below.refl _ _) _).trans hb6
    have R06 := R0.below hb6'
    have R16 := R1.below hb6'
    go_wp2_with fail
    refine (meets_any _ _ _ _ _ _ _ _ _ RA RA (by omega) (by omega)).mono ?_
    rintro e w7 ⟨rfl, m7, rfl⟩
    go_wp2_with fail
    refine (andWords_row _ _ _ _ _ _ _ _ _ (R06.drewN _) (R16.drewN _) (by omega) (by omega)).mono ?_
    rintro e w8 ⟨gb, mb, rfl, hmb, RB, hb8⟩
    have hb8' : Below w6.heap.size w6 w8 := (below_drewN (Below.refl _ _) _).trans hb8
    go_wp2_with (go_at_call 9; refine (anyNz_any _ _ _ _ _ RB (by omega)).mono ?_; rintro e w' ⟨rfl, rfl⟩)
    go_ret
    exact ⟨rfl, (hb02.trans (hb6'.mono hb02.size)).trans (hb8'.mono (hb02.trans (hb6'.mono hb02.size)).size)⟩

set_option maxHeartbeats 1000000 in
theorem law3_lt_eq (k : Nat) (x0 : Addr) (c0 : Nat) (z0 : List Int) (n0 : Nat) (hk0 : k < n0) (x1 : Addr) (c1 : Nat) (z1 : List Int) (w : World) (h0 : n0 ≤ 4096) (r0 : Row w (some x0) n0 z0) (u0 : ∀ z ∈ z0, U z) (h1 : k ≤ 4096) (r1 : Row w (some x1) k z1) (u1 : ∀ z ∈ z1, U z) :
    Calls Try.prog 3 #[.slice (some x0) n0 c0, .slice (some x1) k c1, .int .i64 k] w fun e w' => e = .returned (.bool true) ∧ Below w.heap.size w w' := by
  have hf : fits n0 k = true := by simp [fits]; omega
  have hm0 := made n0 (by omega)
  have hne0 : ¬ n0 = k := by omega
  have hm1 := made k (by omega)
  have hq0 := neqNil3 (some x0) n0 c0
  have hq1 := neqNil3 (some x1) k c1
  have L0 : Hid (z0.length = n0) := r0.1
  have L1 : Hid (z1.length = k) := r1.1
  obtain ⟨n, HN, hkn⟩ : ∃ n, Hid (n = min n0 k) ∧ k ≤ n := ⟨_, (show Hid _ from rfl), by omega⟩
  obtain ⟨g1, g2, g3, g45⟩ := law3_plain z0 z1 k u0 u1
  rcases g45 with ⟨g4, g5⟩ | ⟨g4, g5⟩
  all_goals
    go_enter Try.func3, Try.ntmps3
    go_wp2_with (first
      | (go_at_call 5; refine (bytes5 _ _ _ _ _ _ _ _ (by omega) (by omega)).mono ?_; rintro e w' ⟨rfl, rfl⟩)
      | (with_reducible refine copy_at (.tmp 33) (.tmp 34) w.heap.size n0 c0 (some x0) z0 w.heap.size w ?p3 ?p4 ?p6 ?p7 ?p9 ?p10 ?_))
    case p3 => rfl
    case p4 => rfl
    case p6 => exact r0.below ((Below.refl _ _).alloc (Nat.le_refl _) _)
    case p7 => exact Blk.made w n0
    case p9 => exact (Below.refl _ _).alloc (Nat.le_refl _) _
    case p10 => exact Nat.le_refl _
    intro w1 hB0 hb1
    go_wp2_with (with_reducible refine copy_at (.tmp 42) (.tmp 43) w1.heap.size k c1 (some x1) z1 w1.heap.size w1 ?q3 ?q4 ?q6 ?q7 ?q9 ?q10 ?_)
    case q3 => rfl
    case q4 => rfl
    case q6 => exact (r1.below hb1).below ((Below.refl _ _).alloc (Nat.le_refl _) _)
    case q7 => exact Blk.made w1 k
    case q9 => exact (Below.refl _ _).alloc (Nat.le_refl _) _
    case q10 => exact Nat.le_refl _
    intro w2 hB1 hb2
    have hb02 : Below w.heap.size w w2 := hb1.trans (hb2.mono hb1.size)
    have hB02 := hB0.below hb2
    clear hB0
    have R0 : Row w2 (some ⟨w.heap.size, 0, none⟩) n0 z0 := by have := hB02.row; rw [L0.out] at this; exact this
    have R1 : Row w2 (some ⟨w1.heap.size, 0, none⟩) k z1 := by have := hB1.row; rw [L1.out] at this; exact this
    have D1 : ∀ a, Row w2 a 0 (z1.drop k) := fun a => ⟨by simp [L1.out], .inl rfl⟩
    clear hq0 hq1 hf hm0 hm1 hB1 hb2 hB02 hb1
    go_wp2_with (go_at_call 6; refine (min_len _ _ _ _ HN).mono ?_; rintro e w' ⟨rfl, rfl⟩)
    refine (meets_any _ _ _ _ _ _ _ _ _ R0 R1 (by omega) (by omega)).mono ?_
    rintro e w4 ⟨rfl, m4, rfl⟩
    go_wp2_with fail
    refine (meets_any _ _ _ _ _ _ _ _ _ (R1.drewN _) (R0.drewN _) (by omega) (by omega)).mono ?_
    rintro e w4 ⟨rfl, m5, rfl⟩
    go_wp2_with fail
    go_quiet ((go_at_call 7; refine quietM (meets_any _ _ _ _ _ _ _ _ _ ((R0.take k (by omega)).drewN _) ((R1.take k (by omega)).drewN _) (by omega) (by omega))))
    go_wp2_with fail
    go_quiet ((go_at_call 7; refine quietM (meets_any _ _ _ _ _ _ _ _ _ ((R0.drop k (by omega) (by intro b o e h; cases e; simp)).drewN _) ((D1 _).drewN _) (by omega) (by omega))))
    go_wp2_with fail
    refine (andWords_row _ _ _ _ _ _ _ _ _ (R0.drewN _) (R1.drewN _) (by omega) (by omega)).mono ?_
    rintro e w6 ⟨ga, ma, rfl, hma, RA, hb6⟩
    have hb6' : Below w2.heap.size w2 w6 := (below_drewN (Below.refl _ _) _).trans hb6
    have R06 := R0.below hb6'
    have R16 := R1.below hb6'
    go_wp2_with fail
    refine (meets_any _ _ _ _ _ _ _ _ _ RA RA (by omega) (by omega)).mono ?_
    rintro e w7 ⟨rfl, m7, rfl⟩
    go_wp2_with fail
    refine (andWords_row _ _ _ _ _ _ _ _ _ (R06.drewN _) (R16.drewN _) (by omega) (by omega)).mono ?_
    rintro e w8 ⟨gb, mb, rfl, hmb, RB, hb8⟩
    have hb8' : Below w6.heap.size w6 w8 := (below_drewN (Below.refl _ _) _).trans hb8
    go_wp2_with (go_at_call 9; refine (anyNz_any _ _ _ _ _ RB (by omega)).mono ?_; rintro e w' ⟨rfl, rfl⟩)
    go_ret
    exact ⟨rfl, (hb02.trans (hb6'.mono hb02.size)).trans (hb8'.mono (hb02.trans (hb6'.mono hb02.size)).size)⟩

set_option maxHeartbeats 1000000 in
theorem law3_lt_lt (k : Nat) (x0 : Addr) (c0 : Nat) (z0 : List Int) (n0 : Nat) (hk0 : k < n0) (x1 : Addr) (c1 : Nat) (z1 : List Int) (n1 : Nat) (hk1 : k < n1) (w : World) (h0 : n0 ≤ 4096) (r0 : Row w (some x0) n0 z0) (u0 : ∀ z ∈ z0, U z) (h1 : n1 ≤ 4096) (r1 : Row w (some x1) n1 z1) (u1 : ∀ z ∈ z1, U z) :
    Calls Try.prog 3 #[.slice (some x0) n0 c0, .slice (some x1) n1 c1, .int .i64 k] w fun e w' => e = .returned (.bool true) ∧ Below w.heap.size w w' := by
  have hf : fits n0 n1 = true := by simp [fits]; omega
  have hm0 := made n0 (by omega)
  have hne0 : ¬ n0 = k := by omega
  have hm1 := made n1 (by omega)
  have hne1 : ¬ n1 = k := by omega
  have hq0 := neqNil3 (some x0) n0 c0
  have hq1 := neqNil3 (some x1) n1 c1
  have L0 : Hid (z0.length = n0) := r0.1
  have L1 : Hid (z1.length = n1) := r1.1
  obtain ⟨n, HN, hkn⟩ : ∃ n, Hid (n = min n0 n1) ∧ k ≤ n := ⟨_, (show Hid _ from rfl), by omega⟩
  obtain ⟨g1, g2, g3, g45⟩ := law3_plain z0 z1 k u0 u1
  rcases g45 with ⟨g4, g5⟩ | ⟨g4, g5⟩
  all_goals
    go_enter Try.func3, Try.ntmps3
    go_wp2_with (first
      | (go_at_call 5; refine (bytes5 _ _ _ _ _ _ _ _ (by omega) (by omega)).mono ?_; rintro e w' ⟨rfl, rfl⟩)
      | (with_reducible refine copy_at (.tmp 33) (.tmp 34) w.heap.size n0 c0 (some x0) z0 w.heap.size w ?p3 ?p4 ?p6 ?p7 ?p9 ?p10 ?_))
    case p3 => rfl
    case p4 => rfl
    case p6 => exact r0.below ((Below.refl _ _).alloc (Nat.le_refl _) _)
    case p7 => exact Blk.made w n0
    case p9 => exact (Below.refl _ _).alloc (Nat.le_refl _) _
    case p10 => exact Nat.le_refl _
    intro w1 hB0 hb1
    go_wp2_with (with_reducible refine copy_at (.tmp 42) (.tmp 43) w1.heap.size n1 c1 (some x1) z1 w1.heap.size w1 ?q3 ?q4 ?q6 ?q7 ?q9 ?q10 ?_)
    case q3 => rfl
    case q4 => rfl
    case q6 => exact (r1.below hb1).below ((Below.refl _ _).alloc (Nat.le_refl _) _)
    case q7 => exact Blk.made w1 n1
    case q9 => exact (Below.refl _ _).alloc (Nat.le_refl _) _
    case q10 => exact Nat.le_refl _
    intro w2 hB1 hb2
    have hb02 : Below w.heap.size w w2 := hb1.trans (hb2.mono hb1.size)
    have hB02 := hB0.below hb2
    clear hB0
    have R0 : Row w2 (some ⟨w.heap.size, 0, none⟩) n0 z0 := by have := hB02.row; rw [L0.out] at this; exact this
    have R1 : Row w2 (some ⟨w1.heap.size, 0, none⟩) n1 z1 := by have := hB1.row; rw [L1.out] at this; exact this
    clear hq0 hq1 hf hm0 hm1 hB1 hb2 hB02 hb1
    go_wp2_with (go_at_call 6; refine (min_len _ _ _ _ HN).mono ?_; rintro e w' ⟨rfl, rfl⟩)
    refine (meets_any _ _ _ _ _ _ _ _ _ R0 R1 (by omega) (by omega)).mono ?_
    rintro e w4 ⟨rfl, m4, rfl⟩
    go_wp2_with fail
    refine (meets_any _ _ _ _ _ _ _ _ _ (R1.drewN _) (R0.drewN _) (by omega) (by omega)).mono ?_
    rintro e w4 ⟨rfl, m5, rfl⟩
    go_wp2_with fail
    go_quiet ((go_at_call 7; refine quietM (meets_any _ _ _ _ _ _ _ _ _ ((R0.take k (by omega)).drewN _) ((R1.take k (by omega)).drewN _) (by omega) (by omega))))
    go_wp2_with fail
    go_quiet ((go_at_call 7; refine quietM (meets_any _ _ _ _ _ _ _ _ _ ((R0.drop k (by omega) (by intro b o e h; cases e; simp)).drewN _) ((R1.drop k (by omega) (by intro b o e h; cases e; simp)).drewN _) (by omega) (by omega))))
    go_wp2_with fail
    refine (andWords_row _ _ _ _ _ _ _ _ _ (R0.drewN _) (R1.drewN _) (by omega) (by omega)).mono ?_
    rintro e w6 ⟨ga, ma, rfl, hma, RA, hb6⟩
    have hb6' : Below w2.heap.size w2 w6 := (below_drewN (Below.refl _ _) _).trans hb6
    have R06 := R0.below hb6'
    have R16 := R1.below hb6'
    go_wp2_with fail
    refine (meets_any _ _ _ _ _ _ _ _ _ RA RA (by omega) (by omega)).mono ?_
    rintro e w7 ⟨rfl, m7, rfl⟩
    go_wp2_with fail
    refine (andWords_row _ _ _ _ _ _ _ _ _ (R06.drewN _) (R16.drewN _) (by omega) (by omega)).mono ?_
    rintro e w8 ⟨gb, mb, rfl, hmb, RB, hb8⟩
    have hb8' : Below w6.heap.size w6 w8 := (below_drewN (Below.refl _ _) _).trans hb8
    go_wp2_with (go_at_call 9; refine (anyNz_any _ _ _ _ _ RB (by omega)).mono ?_; rintro e w' ⟨rfl, rfl⟩)
    go_ret
    exact ⟨rfl, (hb02.trans (hb6'.mono hb02.size)).trans (hb8'.mono (hb02.trans (hb6'.mono hb02.size)).size)⟩

end Go.Proofs.Qxb6628700a
