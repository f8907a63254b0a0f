/- Seat b6628806a: thousandths and both laws walked. -/
import Derived.Test.Qxb6628806aRows
import Derived.Test.Qxb6628806aPlain
import Derived.WalkKit
namespace Go.Proofs.Qxb6628806a
open Go.RowKit
set_option linter.unusedVariables false

/-- A fact kept from the walk: nothing looks behind this name. -/
structure Kept (p : Prop) : Prop where
  out : p

/-! ### The operations, as the walk meets them -/
theorem run_mul (x b : Nat) (h : Ieee.double.mul x kilo = some b) (w : World) : (binOp .mul 22 (.float .f64 x) (.float .f64 4652007308841189376)).run Try.prog w = .ok (.float .f64 b) w := by
  have h' : FloatKind.f64.format.mul x 4652007308841189376 = some b := h
  simp [binOp, Op.floatArith, h']
theorem run_quo (n b v : Nat) (h : Quot n b v) (w : World) : (binOp .quo 22 (.float .f64 (ofNat n)) (.float .f64 4652007308841189376)).run Try.prog w = .ok (.float .f64 b) w := by
  have h' : FloatKind.f64.format.div (ofNat n) 4652007308841189376 = some b := h.1
  simp [binOp, Op.floatArith, h']
theorem run_leq {a b va vb : Nat} (ha : Is a va) (hb : Is b vb) (w : World) : (binOp .leq 22 (.float .f64 a) (.float .f64 b)).run Try.prog w = .ok (.bool (decide (va ≤ vb))) w := by
  have h' : (FloatKind.f64.format.order a b == some .lt || FloatKind.f64.format.order a b == some .eq) = decide (va ≤ vb) := ord_le ha hb
  simp only [binOp, Op.floatCmp]
  rw [h']
  rfl
theorem run_gtr {a b va vb : Nat} (ha : Is a va) (hb : Is b vb) (w : World) : (binOp .gtr 22 (.float .f64 a) (.float .f64 b)).run Try.prog w = .ok (.bool (decide (vb < va))) w := by
  have h' : (FloatKind.f64.format.order a b == some .gt) = decide (vb < va) := ord_gt ha hb
  simp only [binOp, Op.floatCmp]
  rw [h']
  rfl
theorem run_ofInt (n : Nat) (w : World) : (convert 2 22 (.int .i64 (n : Int))).run Try.prog w = .ok (.float .f64 (ofNat n)) w := by
  have e : FloatKind.f64.nearest (n : Int) = ofNat n := by
    show Ieee.double.nearest (decide ((n : Int) < 0)) (n : Int).natAbs 0 = Ieee.double.nearest false n 0
    rw [decide_eq_false (by omega), Int.natAbs_natCast]
  simp [convert, run_underlying Try.underlying2, run_underlying Try.underlying22, Conv.intToFloat, e]
theorem run_toInt (b u : Nat) (h : Is b u) (hu : u / one ≤ 1000000) (w : World) : (convert 22 2 (.float .f64 b)).run Try.prog w = .ok (.int .i64 ((u / one : Nat) : Int)) w := by
  have h' : (FloatKind.f64.decode b).toInt .zero = some ((u / one : Nat) : Int) := toInt_is b u h
  obtain ⟨t, ht⟩ : ∃ t, t = u / one := ⟨_, rfl⟩
  rw [← ht] at h' hu ⊢
  have h1 : IntKind.i64.min ≤ (t : Int) := by show (-9223372036854775808 : Int) ≤ _; omega
  simp [convert, run_underlying Try.underlying2, run_underlying Try.underlying22, Conv.floatToInt, h', h1]
  intro h3
  omega

/-- What thousandths answers for a value v from 0 to 1000. -/
def Th (v : Nat) (w : World) (e : Ending) (w' : World) : Prop := ∃ n : Nat, e = .returned (.int .i64 n) ∧ w = w' ∧ n ≤ 1000000 ∧ qv n ≤ v ∧ v < qv (n + 1)
theorem th_mk {v n : Nat} {w : World} (h1 : n ≤ 1000000) (h2 : qv n ≤ v) (h3 : v < qv (n + 1)) : Th v w (.returned (.int .i64 n)) w := ⟨n, rfl, rfl, h1, h2, h3⟩

set_option maxHeartbeats 400000 in
theorem thousandths_any (x v : Nat) (w : World) (hx : Is x v) (hv : v ≤ 1000 * one) : Calls Try.prog 6 #[.float .f64 x] w fun e w' => Th v w e w' := by
  obtain ⟨b, u, hb, hu, hc⟩ := mul_is x v hx hv
  obtain ⟨g1, g2⟩ := first_guess (b := b) hx hv hc
  obtain ⟨t, HT⟩ : ∃ t, Hid (u / one = t) := ⟨_, rfl⟩
  rw [HT.out] at g1 g2
  have ht : t ≤ 1000001 := by omega
  have hm := run_mul x b hb
  have hi := run_toInt b u hu (by
    rw [HT.out]
    have := hc _ (rep_ones 1000000 (by decide)) (by
      have : 1000 * v ≤ 1000 * (1000 * one) := Nat.mul_le_mul_left _ hv
      rw [← Nat.mul_assoc, show (1000 * 1000 : Nat) = 1000000 from rfl] at this
      exact this)
    rw [← HT.out]
    exact Nat.le_of_mul_le_mul_right (Nat.le_trans (Nat.div_mul_le_self _ _) this) one_pos)
  rw [HT.out] at hi
  have HV : Kept (v ≤ 1000 * one) := ⟨hv⟩
  have HG : Kept (qv (t - 1) ≤ v) := ⟨g2⟩
  have HX : Kept (Is x v) := ⟨hx⟩
  clear hx
  clear hb hu hc hv HT g2
  go_enter Try.func6, Try.ntmps6
  go_wp2
  all_goals
    go_loop [3] (fun i => ∃ k : Nat, k ≤ 1000000 ∧ i = .int .i64 k ∧ Kept (qv k ≤ v)) (fun i => 1000001 - (intOf i).toNat)
    case atStart => exact ⟨t - 1, by omega, by go_num, HG⟩
    case round =>
      obtain ⟨k, hk, rfl, HK⟩ := hrel
      have hof := run_ofInt (k + 1)
      rw [show ((k + 1 : Nat) : Int) = (k : Int) + 1 by omega] at hof
      have hQ := quot_qb (k + 1) (by rw [p40]; omega)
      have hqu := run_quo (k + 1) _ _ hQ
      have hle := run_leq hQ.2.1 HX.out
      clear hQ
      obtain ⟨c, HC⟩ : ∃ c, Kept (qv (k + 1) = c) := ⟨_, ⟨rfl⟩⟩
      obtain ⟨o, HO⟩ : ∃ o, Kept (qb (k + 1) = o) := ⟨_, ⟨rfl⟩⟩
      rw [HC.out, HO.out] at hle
      rw [HO.out] at hqu
      by_cases hcv : c ≤ v
      · have hk1 : k + 1 ≤ 1000000 := by
          rcases Nat.lt_or_ge k 1000000 with h | h
          · exact h
          · exfalso
            obtain rfl : k = 1000000 := by omega
            have h1 := qv_past
            have h2 := HC.out
            have h3 := HV.out
            rw [h2] at h1
            exact absurd (Nat.lt_of_lt_of_le h1 (Nat.le_trans hcv h3)) (Nat.lt_irrefl _)
        go_wp2
        go_round
        case rel => exact ⟨k + 1, hk1, by go_num, ⟨by rw [HC.out]; exact hcv⟩⟩
        case measure => simp [intOf]; omega
      · go_wp2
        go_ret
        exact th_mk hk HK.out (by rw [HC.out]; omega)

theorem thousandths5 (x v : Nat) (w : World) (hx : Is x v) (hv : v ≤ 1000 * one) : Calls Try.prog 5 #[.float .f64 x] w fun e w' => Th v w e w' := by
  have hT := thousandths_any x v w hx hv
  clear hv hx
  go_enter Try.func5, Try.ntmps5
  go_wp2_with (go_at_call 6; refine hT.mono ?_; rintro e w' ⟨n, rfl, rfl, h1, h2, h3⟩)
  go_ret
  exact th_mk h1 h2 h3

end Go.Proofs.Qxb6628806a
