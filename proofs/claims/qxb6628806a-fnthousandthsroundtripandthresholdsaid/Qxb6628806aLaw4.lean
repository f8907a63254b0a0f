/- Seat b6628806a: the second law walked. -/
import Derived.Test.Qxb6628806aLaws
namespace Go.Proofs.Qxb6628806a
open Go.RowKit
set_option linter.unusedVariables false

/-! ### FnThousandthsRoundTripAndThreshold -/
theorem law4_far (n : Int) (x : Nat) (w : World) (h : n < 0 ∨ 1000000 < n) :
    Calls Try.prog 4 #[.int .i64 n, .float .f64 x] w fun e w' => e = .returned (.bool true) ∧ w = w' := by
  rcases h with h | h
  · go_enter Try.func4, Try.ntmps4
    go_wp2
    go_ret
    exact ⟨rfl, rfl⟩
  · have h0 : ¬ n < 0 := by omega
    go_enter Try.func4, Try.ntmps4
    go_wp2
    go_ret
    exact ⟨rfl, rfl⟩

theorem law4_out (n : Nat) (hn : n ≤ 1000000) (x : Nat) (w : World) (h : geB x = false ∨ (geB x = true ∧ leB x = false)) :
    Calls Try.prog 4 #[.int .i64 n, .float .f64 x] w fun e w' => e = .returned (.bool true) ∧ w = w' := by
  rcases h with h | ⟨h1, h2⟩
  · have hg := run_geq0 x false h
    clear h
    go_enter Try.func4, Try.ntmps4
    go_wp2
    go_ret
    exact ⟨rfl, rfl⟩
  · have hg := run_geq0 x true h1
    have hl := run_leq1000 x false h2
    clear h1 h2
    go_enter Try.func4, Try.ntmps4
    go_wp2
    go_ret
    exact ⟨rfl, rfl⟩

theorem th_own {n m : Nat} (hn : n ≤ 1000000) (hm : m ≤ 1000000) (h1 : qv m ≤ qv n) (h2 : qv n < qv (m + 1)) : m = n := by
  rcases Nat.lt_trichotomy m n with h | h | h
  · have := qv_le (a := m + 1) (b := n) (by omega) (by omega)
    omega
  · exact h
  · have := qv_lt (a := n) (b := m) (by omega) (by omega)
    omega

theorem law4_in (n : Nat) (hn : n ≤ 1000000) (x v : Nat) (w : World) (h1 : geB x = true) (h2 : leB x = true) (hx : Is x v) (hv : v ≤ 1000 * one) :
    Calls Try.prog 4 #[.int .i64 n, .float .f64 x] w fun e w' => e = .returned (.bool true) ∧ w = w' := by
  have hT := thousandths5 x v w hx hv
  have hQ := quot_qb n (by rw [p40]; omega)
  have hS := thousandths5 (qb n) (qv n) w hQ.2.1 (qv_top hn)
  have hg := run_geq0 x true h1
  have hl := run_leq1000 x true h2
  have ho := run_ofInt n
  have hq := run_quo n _ _ hQ
  have hle := run_leq hQ.2.1 hx
  clear hv hx h1 h2 hQ
  obtain ⟨o, HO⟩ : ∃ o, Kept (qb n = o) := ⟨_, ⟨rfl⟩⟩
  obtain ⟨c, HC⟩ : ∃ c, Kept (qv n = c) := ⟨_, ⟨rfl⟩⟩
  rw [HO.out] at hq hle hS
  rw [HC.out] at hle hS
  go_enter Try.func4, Try.ntmps4
  go_wp2_with fail
  refine hS.mono ?_
  rintro e w' ⟨m, rfl, rfl, hm, g1, g2⟩
  obtain rfl : m = n := th_own hn hm (by rw [HC.out]; exact g1) (by rw [HC.out]; exact g2)
  clear g1 g2 hS
  go_wp2_with fail
  refine hT.mono ?_
  rintro e w' ⟨b, rfl, rfl, hb, g1, g2⟩
  have hbn : m ≤ b ↔ c ≤ v := by
    rw [← HC.out]
    constructor
    · intro h
      exact Nat.le_trans (qv_le h (by omega)) g1
    · intro h
      rcases Nat.lt_or_ge b m with h' | h'
      · exact absurd (Nat.lt_of_lt_of_le g2 (Nat.le_trans (qv_le (a := b + 1) (b := m) (by omega) (by omega)) h)) (Nat.lt_irrefl _)
      · exact h'
  clear g1 g2 hT
  by_cases hcv : c ≤ v
  · have hmb : m ≤ b := hbn.2 hcv
    rw [decide_eq_true hcv] at hle
    clear hbn
    go_wp2_with fail
    go_ret
    exact ⟨rfl, rfl⟩
  · have hmb : ¬ m ≤ b := fun h => hcv (hbn.1 h)
    rw [decide_eq_false hcv] at hle
    clear hbn
    go_wp2_with fail
    go_ret
    exact ⟨rfl, rfl⟩

end Go.Proofs.Qxb6628806a
