/- Seat b6628806a: both laws walked. -/
import Derived.Test.Qxb6628806aWalks
namespace Go.Proofs.Qxb6628806a
open Go.RowKit
set_option linter.unusedVariables false

/-- 'x >= 0', 'x <= 1000', of any word. -/
def geB (x : Nat) : Bool := Ieee.double.order x 0 == some .gt || Ieee.double.order x 0 == some .eq
def leB (x : Nat) : Bool := Ieee.double.order x kilo == some .lt || Ieee.double.order x kilo == some .eq
theorem run_geq0 (x : Nat) (c : Bool) (h : geB x = c) (w : World) : (binOp .geq 22 (.float .f64 x) (.float .f64 0)).run Try.prog w = .ok (.bool c) w := by
  have h' : (FloatKind.f64.format.order x 0 == some .gt || FloatKind.f64.format.order x 0 == some .eq) = c := h
  simp only [binOp, Op.floatCmp]
  rw [h']
  rfl
theorem run_leq1000 (x : Nat) (c : Bool) (h : leB x = c) (w : World) : (binOp .leq 22 (.float .f64 x) (.float .f64 4652007308841189376)).run Try.prog w = .ok (.bool c) w := by
  have h' : (FloatKind.f64.format.order x 4652007308841189376 == some .lt || FloatKind.f64.format.order x 4652007308841189376 == some .eq) = c := h
  simp only [binOp, Op.floatCmp]
  rw [h']
  rfl
theorem is_of {x : Nat} (h1 : geB x = true) (h2 : leB x = true) : ∃ v, Is x v ∧ v ≤ 1000 * one := is_of_tests h1 h2

/-! ### FnThousandthsIsGreatestCountNotAbove -/
theorem law3_out (x : Nat) (w : World) (h : geB x = false ∨ (geB x = true ∧ leB x = false)) :
    Calls Try.prog 3 #[.float .f64 x] w fun e w' => e = .returned (.bool true) ∧ w = w' := by
  rcases h with h | ⟨h1, h2⟩
  · have hg := run_geq0 x false h
    clear h
    go_enter Try.func3, Try.ntmps3
    go_wp2
    go_ret
    exact ⟨rfl, rfl⟩
  · have hg := run_geq0 x true h1
    have hl := run_leq1000 x false h2
    clear h1 h2
    go_enter Try.func3, Try.ntmps3
    go_wp2
    go_ret
    exact ⟨rfl, rfl⟩

theorem law3_in (x v : Nat) (w : World) (h1 : geB x = true) (h2 : leB x = true) (hx : Is x v) (hv : v ≤ 1000 * one) :
    Calls Try.prog 3 #[.float .f64 x] w fun e w' => e = .returned (.bool true) ∧ w = w' := by
  have hT := thousandths5 x v w hx hv
  have hg := run_geq0 x true h1
  have hl := run_leq1000 x true h2
  have HX : Kept (Is x v) := ⟨hx⟩
  clear hv hx h1 h2
  go_enter Try.func3, Try.ntmps3
  go_wp2_with (go_at_call 5; refine hT.mono ?_; rintro e w' ⟨n, rfl, rfl, hn, g1, g2⟩; have H1 : Kept (qv n ≤ v) := ⟨g1⟩; have H2 : Kept (v < qv (n + 1)) := ⟨g2⟩; clear g1 g2; have o1 := run_ofInt n; have o2 := run_ofInt (n + 1); rw [show ((n + 1 : Nat) : Int) = (n : Int) + 1 by omega] at o2; have q1 := run_quo n _ _ (quot_qb n (by rw [p40]; omega)); have q2 := run_quo (n + 1) _ _ (quot_qb (n + 1) (by rw [p40]; omega)); have l1 := run_leq (quot_qb n (by rw [p40]; omega)).2.1 HX.out; have l2 := run_gtr (quot_qb (n + 1) (by rw [p40]; omega)).2.1 HX.out; rw [decide_eq_true H1.out] at l1; rw [decide_eq_true H2.out] at l2)
  go_ret
  exact ⟨rfl, rfl⟩

end Go.Proofs.Qxb6628806a
