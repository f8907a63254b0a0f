/- Seat b6628806a: the operations on words that the road comes to: order, float64(n), n/1000, x*1000, int64(y). No program here. -/
import Derived.Test.Qxb6628806aRound
namespace Go.Proofs.Qxb6628806a
open Ieee
set_option linter.unusedVariables false

def unitExp : Nat := 1200
theorem unitExp_eq : unitExp = 1200 := rfl
/-- The number 1, in units. -/
def one : Nat := 2 ^ unitExp
theorem one_pos : 0 < one := pos _
/-- The word of 1000. -/
def kilo : Nat := 4652007308841189376

theorem rep_ones (n : Nat) (h : n < 9007199254740992) : Rep (n * one) := ⟨n, unitExp, h, by rw [unitExp_eq]; decide, rfl⟩

theorem read_kilo : double.read kilo = .number false 8796093022208000 (-43) := by decide +kernel
theorem read_zero : double.read 0 = .number false 0 (-1074) := by decide +kernel
theorem read_negZero : double.read 9223372036854775808 = .number true 0 (-1074) := by decide +kernel

theorem kilo_units (A : Nat) (h : 43 ≤ A) : 8796093022208000 * 2 ^ (A - 43) = 1000 * 2 ^ A := by
  have e := pow_split 43 A h
  have e2 : (2 : Nat) ^ 43 = 8796093022208 := rfl
  rw [e2] at e
  omega

theorem is_zero : Is 0 0 := ⟨false, 0, 126, by rw [read_zero]; rfl, (fun h => by cases h), by decide, Nat.le_refl _, (Nat.zero_mul _).symm⟩
theorem is_negZero : Is 9223372036854775808 0 := ⟨true, 0, 126, by rw [read_negZero]; rfl, fun _ => rfl, by decide, Nat.le_refl _, (Nat.zero_mul _).symm⟩
theorem is_kilo : Is kilo (1000 * one) := by
  refine ⟨false, 8796093022208000, unitExp - 43, ?_, (fun h => by cases h), by decide, by rw [unitExp_eq]; decide, ?_⟩
  · rw [read_kilo]; rfl
  · unfold one
    rw [kilo_units unitExp (by rw [unitExp_eq]; decide)]

/-! ### Order -/
theorem signed_of {s : Bool} {m : Nat} (h : s = true → m = 0) (u : Nat) : signed s m u = ((m * 2 ^ u : Nat) : Int) := by
  unfold signed
  rw [Nat.shiftLeft_eq]
  cases s with
  | false => rfl
  | true =>
    rw [h rfl, Nat.zero_mul]
    rfl

theorem order_is {a b va vb : Nat} (ha : Is a va) (hb : Is b vb) :
    ∃ p q μ : Nat, double.order a b = some (compare (p : Int) (q : Int)) ∧ va = p * 2 ^ μ ∧ vb = q * 2 ^ μ := by
  obtain ⟨s, m, A, h1, h2, h3, h4, rfl⟩ := ha
  obtain ⟨t, n, B, g1, g2, g3, g4, rfl⟩ := hb
  refine ⟨m * 2 ^ (A - min A B), n * 2 ^ (B - min A B), min A B, ?_, ?_, ?_⟩
  · unfold Format.order
    rw [h1, g1]
    unfold Datum.order
    simp only
    have e1 : (((A : Int) - 1200) - min ((A : Int) - 1200) ((B : Int) - 1200)).toNat = A - min A B := by omega
    have e2 : (((B : Int) - 1200) - min ((A : Int) - 1200) ((B : Int) - 1200)).toNat = B - min A B := by omega
    rw [e1, e2, signed_of h2, signed_of g2]
  · rw [Nat.mul_assoc, ← pow_split _ _ (Nat.min_le_left _ _)]
  · rw [Nat.mul_assoc, ← pow_split _ _ (Nat.min_le_right _ _)]

theorem cmp_cases (p q : Nat) : (p < q ∧ compare (p : Int) (q : Int) = .lt) ∨ (p = q ∧ compare (p : Int) (q : Int) = .eq) ∨ (q < p ∧ compare (p : Int) (q : Int) = .gt) := by
  rcases Nat.lt_trichotomy p q with h | h | h
  · refine .inl ⟨h, ?_⟩
    have : (p : Int) < (q : Int) := by omega
    simp [compare, compareOfLessAndEq, this]
  · refine .inr (.inl ⟨h, ?_⟩)
    simp [compare, compareOfLessAndEq, h]
  · refine .inr (.inr ⟨h, ?_⟩)
    have h1 : ¬ (p : Int) < (q : Int) := by omega
    have h2 : ¬ (p : Int) = (q : Int) := by omega
    simp [compare, compareOfLessAndEq, h1, h2]

theorem cmp_tri {a b va vb : Nat} (ha : Is a va) (hb : Is b vb) : (va < vb ∧ double.order a b = some .lt) ∨ (va = vb ∧ double.order a b = some .eq) ∨ (vb < va ∧ double.order a b = some .gt) := by
  obtain ⟨p, q, μ, h, rfl, rfl⟩ := order_is ha hb
  rcases cmp_cases p q with ⟨h1, h2⟩ | ⟨h1, h2⟩ | ⟨h1, h2⟩
  · exact .inl ⟨Nat.mul_lt_mul_of_pos_right h1 (pos μ), by rw [h, h2]⟩
  · exact .inr (.inl ⟨by rw [h1], by rw [h, h2]⟩)
  · exact .inr (.inr ⟨Nat.mul_lt_mul_of_pos_right h1 (pos μ), by rw [h, h2]⟩)

theorem ord_le {a b va vb : Nat} (ha : Is a va) (hb : Is b vb) : (double.order a b == some .lt || double.order a b == some .eq) = decide (va ≤ vb) := by
  rcases cmp_tri ha hb with ⟨h1, h2⟩ | ⟨h1, h2⟩ | ⟨h1, h2⟩ <;> rw [h2]
  · rw [decide_eq_true (by omega)]; rfl
  · rw [decide_eq_true (by omega)]; rfl
  · rw [decide_eq_false (by omega)]; rfl
theorem ord_ge {a b va vb : Nat} (ha : Is a va) (hb : Is b vb) : (double.order a b == some .gt || double.order a b == some .eq) = decide (vb ≤ va) := by
  rcases cmp_tri ha hb with ⟨h1, h2⟩ | ⟨h1, h2⟩ | ⟨h1, h2⟩ <;> rw [h2]
  · rw [decide_eq_false (by omega)]; rfl
  · rw [decide_eq_true (by omega)]; rfl
  · rw [decide_eq_true (by omega)]; rfl
theorem ord_gt {a b va vb : Nat} (ha : Is a va) (hb : Is b vb) : (double.order a b == some .gt) = decide (vb < va) := by
  rcases cmp_tri ha hb with ⟨h1, h2⟩ | ⟨h1, h2⟩ | ⟨h1, h2⟩ <;> rw [h2]
  · rw [decide_eq_false (by omega)]; rfl
  · rw [decide_eq_false (by omega)]; rfl
  · rw [decide_eq_true (by omega)]; rfl

/-! ### What lies from 0 to 1000 -/
theorem read_bounds {b : Nat} {s : Bool} {m : Nat} {i : Int} (h : double.read b = .number s m i) : m < 9007199254740992 ∧ ∃ A : Nat, 126 ≤ A ∧ i = (A : Int) - 1200 := by
  have hbin := dbl_binade
  have hleast := dbl_least
  unfold Format.read at h
  dsimp only at h
  by_cases h1 : b % double.signWeight < double.binade
  · rw [if_pos h1] at h
    simp only [Datum.number.injEq] at h
    obtain ⟨_, rfl, rfl⟩ := h
    exact ⟨by omega, 126, Nat.le_refl _, by omega⟩
  · rw [if_neg h1] at h
    by_cases h2 : b % double.signWeight < double.infRung
    · rw [if_pos h2] at h
      simp only [Datum.number.injEq] at h
      obtain ⟨_, rfl, rfl⟩ := h
      have hmod : b % double.signWeight % double.binade < double.binade := Nat.mod_lt _ (by omega)
      exact ⟨by omega, 126 + (b % double.signWeight / double.binade - 1), by omega, by omega⟩
    · rw [if_neg h2] at h
      by_cases h3 : b % double.signWeight = double.infRung
      · rw [if_pos h3] at h
        cases h
      · rw [if_neg h3] at h
        cases h

theorem is_of_tests {b : Nat} (h1 : (double.order b 0 == some .gt || double.order b 0 == some .eq) = true) (h2 : (double.order b kilo == some .lt || double.order b kilo == some .eq) = true) : ∃ v, Is b v ∧ v ≤ 1000 * one := by
  cases hb : double.read b with
  | nan s t =>
    unfold Format.order at h1
    rw [hb] at h1
    simp [Datum.order] at h1
  | infinity s =>
    unfold Format.order at h1 h2
    rw [hb, read_zero] at h1
    rw [hb, read_kilo] at h2
    cases s
    · simp [Datum.order] at h2
    · simp [Datum.order] at h1
  | number s m i =>
    obtain ⟨hm, A, hA, rfl⟩ := read_bounds hb
    have hs : s = true → m = 0 := by
      intro e
      subst e
      cases m with
      | zero => rfl
      | succ m =>
        exfalso
        unfold Format.order at h1
        rw [hb, read_zero] at h1
        unfold Datum.order at h1
        simp only at h1
        obtain ⟨u, hu⟩ : ∃ u, u = (((A : Int) - 1200) - min ((A : Int) - 1200) (-1074)).toNat := ⟨_, rfl⟩
        rw [← hu] at h1
        have e1 : signed true (m + 1) u = -(((m + 1) * 2 ^ u : Nat) : Int) := by unfold signed; rw [Nat.shiftLeft_eq]; rfl
        have e2 : ∀ x, signed false 0 x = 0 := fun x => by unfold signed; rw [Nat.shiftLeft_eq, Nat.zero_mul]; rfl
        rw [e1, e2] at h1
        have hp : 0 < (m + 1) * 2 ^ u := Nat.mul_pos (by omega) (pos u)
        have hlt : -(((m + 1) * 2 ^ u : Nat) : Int) < 0 := by omega
        rw [show compare (-(((m + 1) * 2 ^ u : Nat) : Int)) 0 = .lt by unfold compare instOrdInt; simp only [compareOfLessAndEq]; rw [if_pos hlt]] at h1
        simp at h1
    have hI : Is b (m * 2 ^ A) := ⟨s, m, A, hb, hs, hm, hA, rfl⟩
    refine ⟨_, hI, ?_⟩
    rw [ord_le hI is_kilo] at h2
    exact of_decide_eq_true h2

end Go.Proofs.Qxb6628806a
