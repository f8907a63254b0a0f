/- Seat b6628806a: the plain law on thousandths. No program here. -/
import Derived.Test.Qxb6628806aArith
namespace Go.Proofs.Qxb6628806a
open Ieee
set_option linter.unusedVariables false

/-- The value of a word, in units. -/
def valOf (b : Nat) : Nat := match double.read b with | .number _ m i => m * 2 ^ (i + 1200).toNat | _ => 0
theorem Is.val {b v : Nat} (h : Is b v) : valOf b = v := by
  obtain ⟨s, m, A, hr, _, _, _, rfl⟩ := h
  unfold valOf
  rw [hr]
  show m * 2 ^ (((A : Int) - 1200) + 1200).toNat = _
  rw [show (((A : Int) - 1200) + 1200).toNat = A by omega]

/-- The word of float64(n)/1000, and its value. -/
def qb (n : Nat) : Nat := (double.div (ofNat n) kilo).getD 0
def qv (n : Nat) : Nat := valOf (qb n)
theorem quot_qb (n : Nat) (hn : n < 2 ^ 40) : Quot n (qb n) (qv n) := by
  obtain ⟨b, v, h⟩ := quot_all n hn
  have e : qb n = b := by unfold qb; rw [h.1]; rfl
  have e2 : qv n = v := by unfold qv; rw [e]; exact h.2.1.val
  rw [e, e2]
  exact h

theorem p40 : (2 : Nat) ^ 40 = 1099511627776 := rfl

/-- n/1000 grows with n. -/
theorem qv_lt {a b : Nat} (h : a < b) (hb : b ≤ 1000001) : qv a < qv b := by
  have ha := (quot_qb a (by rw [p40]; omega)).2.2
  have hb' := (quot_qb b (by rw [p40]; omega)).2.2
  obtain ⟨U, hU⟩ : ∃ U, U = 2 ^ (unitExp - 20) := ⟨_, rfl⟩
  have hUp : 0 < U := by rw [hU]; exact pos _
  have e1 : one = 1048576 * U := by
    have e20 : (2 : Nat) ^ 20 = 1048576 := rfl
    unfold one
    rw [hU, pow_split (unitExp - 20) unitExp (by omega), show unitExp - (unitExp - 20) = 20 by rw [unitExp_eq], e20]
  obtain ⟨C, hC⟩ : ∃ C, C = (a * 1048576 + 999) / 1000 := ⟨_, rfl⟩
  have r1 : Rep (C * U) := ⟨C, unitExp - 20, by omega, by rw [unitExp_eq]; decide, by rw [hU]⟩
  have r2 : Rep ((C + 1) * U) := ⟨C + 1, unitExp - 20, by omega, by rw [unitExp_eq]; decide, by rw [hU]⟩
  have h1 : qv a ≤ C * U := (ha _ r1).1 (by
    rw [e1, ← Nat.mul_assoc, ← Nat.mul_assoc]
    exact Nat.mul_le_mul_right _ (by omega))
  have h2 : (C + 1) * U ≤ qv b := (hb' _ r2).2 (by
    rw [e1, ← Nat.mul_assoc, ← Nat.mul_assoc]
    exact Nat.mul_le_mul_right _ (by omega))
  have h3 : C * U < (C + 1) * U := Nat.mul_lt_mul_of_pos_right (by omega) hUp
  omega
theorem qv_le {a b : Nat} (h : a ≤ b) (hb : b ≤ 1000001) : qv a ≤ qv b := by
  rcases Nat.lt_or_ge a b with h' | h'
  · exact Nat.le_of_lt (qv_lt h' hb)
  · rw [show a = b by omega]; exact Nat.le_refl _

theorem qv_top {n : Nat} (h : n ≤ 1000000) : qv n ≤ 1000 * one := by
  refine ((quot_qb n (by rw [p40]; omega)).2.2 _ (rep_ones 1000 (by decide))).1 ?_
  rw [← Nat.mul_assoc]
  exact Nat.mul_le_mul_right _ (by omega)
theorem qv_past : 1000 * one < qv 1000001 := by
  have h1 : 1000 * one ≤ qv 1000000 := by
    refine ((quot_qb 1000000 (by rw [p40]; omega)).2.2 _ (rep_ones 1000 (by decide))).2 ?_
    rw [← Nat.mul_assoc]
    exact Nat.mul_le_mul_right _ (by omega)
  exact Nat.lt_of_le_of_lt h1 (qv_lt (by omega) (Nat.le_refl _))

/-- The first guess is not above x. -/
theorem first_guess {x v b u : Nat} (hx : Is x v) (hv : v ≤ 1000 * one) (hb : ∀ c, Rep c → 1000 * v ≤ c → u ≤ c) : u / one - 1 ≤ 1000000 ∧ qv (u / one - 1) ≤ v := by
  obtain ⟨t, ht⟩ : ∃ t, t = u / one := ⟨_, rfl⟩
  rw [← ht]
  have hp := one_pos
  have htu : t * one ≤ u := by rw [ht]; exact Nat.div_mul_le_self _ _
  -- t is not too great
  have hu : u ≤ 1000000 * one := hb _ (rep_ones 1000000 (by decide)) (by
    have : 1000 * v ≤ 1000 * (1000 * one) := Nat.mul_le_mul_left _ hv
    rw [← Nat.mul_assoc, show (1000 * 1000 : Nat) = 1000000 from rfl] at this
    exact this)
  have ht2 : t ≤ 1000000 := Nat.le_of_mul_le_mul_right (Nat.le_trans htu hu) hp
  refine ⟨by omega, ?_⟩
  have hle : (t - 1) * one ≤ 1000 * v := by
    rcases Nat.lt_or_ge (1000 * v) ((t - 1) * one) with h | h
    · exfalso
      have h1 := hb _ (rep_ones (t - 1) (by omega)) (Nat.le_of_lt h)
      have h2 : t ≤ t - 1 := Nat.le_of_mul_le_mul_right (Nat.le_trans htu h1) hp
      have h3 : t = 0 := by omega
      rw [h3] at h
      simp at h
    · exact h
  exact ((quot_qb (t - 1) (by rw [p40]; omega)).2.2 v hx.rep).1 hle

end Go.Proofs.Qxb6628806a
