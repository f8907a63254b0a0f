/- Seat b6628806a: rounding to nearest, in whole numbers of units of 2 ^ -1200. No program here. -/
import Ieee.Arith
namespace Go.Proofs.Qxb6628806a
open Ieee
set_option linter.unusedVariables false

/-! ### Powers -/
theorem pow_split (a b : Nat) (h : a ≤ b) : 2 ^ b = 2 ^ (b - a) * 2 ^ a := by rw [← Nat.pow_add]; congr 1; omega
theorem pos (a : Nat) : 0 < 2 ^ a := Nat.two_pow_pos a
theorem le_of_pow {x y a : Nat} (h : x * 2 ^ a ≤ y * 2 ^ a) : x ≤ y := Nat.le_of_mul_le_mul_right h (pos a)
theorem pow_le {a b : Nat} (h : a ≤ b) : 2 ^ a ≤ 2 ^ b := Nat.pow_le_pow_right (by decide) h

/-! ### The cut -/
theorem cut_zero (neg : Bool) (n drop : Nat) : Toward.zero.cut neg n drop = n / 2 ^ drop := by
  unfold Toward.cut
  simp only [Nat.shiftLeft_eq, Nat.one_mul, Bool.toNat_false, Nat.add_zero]
  by_cases h : drop ≤ n.log2 + 2
  · rw [Nat.min_eq_left h]
  · have hn : n < 2 ^ (n.log2 + 1) := Nat.lt_log2_self
    have h1 : 2 ^ (n.log2 + 1) ≤ 2 ^ (n.log2 + 2) := pow_le (by omega)
    have h2 : 2 ^ (n.log2 + 1) ≤ 2 ^ drop := pow_le (by omega)
    rw [Nat.min_eq_right (by omega), Nat.div_eq_of_lt (by omega), Nat.div_eq_of_lt (by omega)]

theorem cut_even (neg : Bool) (n drop : Nat) : ∀ C, (n ≤ C * 2 ^ drop → Toward.even.cut neg n drop ≤ C) ∧ (C * 2 ^ drop ≤ n → C ≤ Toward.even.cut neg n drop) := by
  intro C
  unfold Toward.cut
  simp only [Nat.shiftLeft_eq, Nat.one_mul]
  by_cases h : drop ≤ n.log2 + 2
  · rw [Nat.min_eq_left h]
    obtain ⟨g, hg⟩ : ∃ g, g = 2 ^ drop := ⟨_, rfl⟩
    have hgp : 0 < g := by rw [hg]; exact pos _
    rw [← hg]
    have hdm := Nat.div_add_mod n g
    have hmod := Nat.mod_lt n hgp
    refine ⟨fun hC => ?_, fun hC => ?_⟩
    · by_cases hlt : n / g < C
      · have : (decide (g < 2 * (n % g)) || (g == 2 * (n % g) && n / g % 2 == 1)).toNat ≤ 1 := Bool.toNat_le _
        omega
      · have hge : C ≤ n / g := by omega
        have h1 : C * g ≤ n / g * g := Nat.mul_le_mul_right g hge
        have h2 : n / g * g = g * (n / g) := Nat.mul_comm _ _
        have hr : n % g = 0 := by omega
        have hCg : n / g ≤ C := by
          have h3 : n / g * g ≤ C * g := by omega
          exact Nat.le_of_mul_le_mul_right h3 hgp
        rw [hr]
        have hno : (decide (g < 2 * 0) || (g == 2 * 0 && n / g % 2 == 1)) = false := by
          have : ¬ g = 0 := by omega
          simp [this]
        rw [hno]
        simp only [Bool.toNat_false]
        omega
    · have : C ≤ n / g := (Nat.le_div_iff_mul_le hgp).2 hC
      omega
  · rw [Nat.min_eq_right (by omega)]
    have hn : n < 2 ^ (n.log2 + 1) := Nat.lt_log2_self
    have h1 : 2 ^ (n.log2 + 2) = 2 * 2 ^ (n.log2 + 1) := by rw [Nat.pow_succ, Nat.mul_comm]
    have h2 : 2 ^ (n.log2 + 2) ≤ 2 ^ drop := pow_le (by omega)
    obtain ⟨p, hp⟩ : ∃ p, p = 2 ^ (n.log2 + 1) := ⟨_, rfl⟩
    rw [← hp] at hn h1
    rw [h1]
    rw [h1] at h2
    have hd : n / (2 * p) = 0 := Nat.div_eq_of_lt (by omega)
    have hm : n % (2 * p) = n := Nat.mod_eq_of_lt (by omega)
    rw [hd, hm]
    have hno : (decide (2 * p < 2 * n) || (2 * p == 2 * n && 0 % 2 == 1)) = false := by
      have : ¬ 2 * p < 2 * n := by omega
      simp [this]
    rw [hno]
    simp only [Bool.toNat_false, Nat.add_zero]
    refine ⟨fun _ => Nat.zero_le _, fun hC => ?_⟩
    cases C with
    | zero => exact Nat.le_refl _
    | succ C =>
      exfalso
      have h3 : 1 * 2 ^ drop ≤ (C + 1) * 2 ^ drop := Nat.mul_le_mul_right _ (by omega)
      omega

/-! ### The format -/
theorem dbl_binade : double.binade = 4503599627370496 := rfl
theorem dbl_frac : double.fractionBits = 52 := rfl
theorem dbl_inf : double.infRung = 9218868437227405312 := rfl
theorem dbl_sign : double.signWeight = 9223372036854775808 := rfl
theorem dbl_least : double.leastPlace = -1074 := rfl
theorem p52 : (2 : Nat) ^ 52 = 4503599627370496 := rfl
theorem p53 : (2 : Nat) ^ 53 = 9007199254740992 := rfl

/-- What a rung stands for: 'kept' units of 2 ^ (P - 1074). -/
theorem read_rung (P kept : Nat) (hk : kept ≤ 9007199254740992) (hl : 4503599627370496 ≤ kept ∨ P = 0) (hP : P ≤ 2000) :
    ∃ m A : Nat, double.read (P * 4503599627370496 + kept) = .number false m ((A : Int) - 1200) ∧ m < 9007199254740992 ∧ 126 ≤ A ∧ A ≤ P + 127 ∧ m * 2 ^ A = kept * 2 ^ (P + 126) := by
  have hneg : ((P * 4503599627370496 + kept) / 9223372036854775808 % 2 == 1) = false := by
    have : (P * 4503599627370496 + kept) / 9223372036854775808 = 0 := by omega
    rw [this]; rfl
  have hmod : (P * 4503599627370496 + kept) % 9223372036854775808 = P * 4503599627370496 + kept := Nat.mod_eq_of_lt (by omega)
  by_cases h1 : kept < 4503599627370496
  · have hP0 : P = 0 := by omega
    subst hP0
    refine ⟨kept, 126, ?_, by omega, by omega, by omega, by rw [Nat.zero_add]⟩
    unfold Format.read
    simp only [dbl_sign, dbl_binade, dbl_inf, dbl_least, hneg, hmod]
    rw [if_pos (by omega)]
    simp
  · by_cases h2 : kept = 9007199254740992
    · refine ⟨4503599627370496, P + 127, ?_, by omega, by omega, by omega, ?_⟩
      · unfold Format.read
        simp only [dbl_sign, dbl_binade, dbl_inf, dbl_least, hneg, hmod]
        rw [if_neg (by omega), if_pos (by omega)]
        have e1 : (P * 4503599627370496 + kept) % 4503599627370496 = 0 := by omega
        have e2 : (P * 4503599627370496 + kept) / 4503599627370496 - 1 = P + 1 := by omega
        have e3 : (-1074 : Int) + ((P + 1 : Nat) : Int) = ((P + 127 : Nat) : Int) - 1200 := by omega
        rw [e1, e2, e3, Nat.add_zero]
      · rw [h2, show P + 127 = (P + 126) + 1 by omega, Nat.pow_succ]
        omega
    · refine ⟨kept, P + 126, ?_, by omega, by omega, by omega, rfl⟩
      unfold Format.read
      simp only [dbl_sign, dbl_binade, dbl_inf, dbl_least, hneg, hmod]
      rw [if_neg (by omega), if_pos (by omega)]
      have e1 : 4503599627370496 + (P * 4503599627370496 + kept) % 4503599627370496 = kept := by omega
      have e2 : (P * 4503599627370496 + kept) / 4503599627370496 - 1 = P := by omega
      have e3 : (-1074 : Int) + ((P : Nat) : Int) = ((P + 126 : Nat) : Int) - 1200 := by omega
      rw [e1, e2, e3]

/-- A value that the format has: fewer than 2 ^ 53 units of 2 ^ k. -/
def Rep (v : Nat) : Prop := ∃ c k : Nat, c < 9007199254740992 ∧ 126 ≤ k ∧ v = c * 2 ^ k

/-- A word that stands for a number that is not negative: 'v' units of 2 ^ -1200. -/
def Is (b v : Nat) : Prop := ∃ (s : Bool) (m A : Nat), double.read b = .number s m ((A : Int) - 1200) ∧ (s = true → m = 0) ∧ m < 9007199254740992 ∧ 126 ≤ A ∧ v = m * 2 ^ A

theorem Is.rep {b v : Nat} (h : Is b v) : Rep v := by
  obtain ⟨_, m, A, _, _, h1, h2, h3⟩ := h
  exact ⟨m, A, h1, h2, h3⟩

/-- TO ROUND IS MONOTONE against what the format has. -/
theorem near (mag a : Nat) (hm : 0 < mag) (hs : a + mag.log2 ≤ 2000) :
    ∃ v, Is (double.nearest false mag ((a : Int) - 1200)) v ∧ ∀ c, Rep c → (mag * 2 ^ a ≤ c → v ≤ c) ∧ (c ≤ mag * 2 ^ a → c ≤ v) := by
  obtain ⟨B, hB⟩ : ∃ B, B = max (a + mag.log2 - 52) 126 := ⟨_, rfl⟩
  obtain ⟨kept, hkept⟩ : ∃ kept, kept = Toward.even.cut false (mag <<< (a - B)) (B - a) := ⟨_, rfl⟩
  have lo : 2 ^ mag.log2 ≤ mag := Nat.log2_self_le (by omega)
  have hi : mag < 2 ^ (mag.log2 + 1) := Nat.lt_log2_self
  -- the cut, in units of 2 ^ B
  have key : ∀ C, (mag * 2 ^ a ≤ C * 2 ^ B → kept ≤ C) ∧ (C * 2 ^ B ≤ mag * 2 ^ a → C ≤ kept) := by
    intro C
    have hc := cut_even false (mag <<< (a - B)) (B - a) C
    rw [← hkept, Nat.shiftLeft_eq] at hc
    by_cases hab : B ≤ a
    · have e0 : B - a = 0 := by omega
      rw [e0, Nat.pow_zero, Nat.mul_one] at hc
      have e1 : mag * 2 ^ a = mag * 2 ^ (a - B) * 2 ^ B := by rw [Nat.mul_assoc, ← pow_split B a hab]
      rw [e1]
      exact ⟨fun h => hc.1 (le_of_pow h), fun h => hc.2 (le_of_pow h)⟩
    · have e0 : a - B = 0 := by omega
      rw [e0, Nat.pow_zero, Nat.mul_one] at hc
      have e1 : C * 2 ^ B = C * 2 ^ (B - a) * 2 ^ a := by rw [Nat.mul_assoc, ← pow_split a B (by omega)]
      rw [e1]
      exact ⟨fun h => hc.1 (le_of_pow h), fun h => hc.2 (le_of_pow h)⟩
  have hk2 : kept ≤ 9007199254740992 := by
    refine (key _).1 ?_
    rw [← p53, ← Nat.pow_add]
    have h1 : mag * 2 ^ a ≤ 2 ^ (mag.log2 + 1) * 2 ^ a := Nat.mul_le_mul_right _ (Nat.le_of_lt hi)
    rw [← Nat.pow_add] at h1
    exact Nat.le_trans h1 (pow_le (by omega))
  have hbig : 126 < B → 2 ^ (52 + B) ≤ mag * 2 ^ a := by
    intro h
    have h1 : 2 ^ mag.log2 * 2 ^ a ≤ mag * 2 ^ a := Nat.mul_le_mul_right _ lo
    rw [← Nat.pow_add] at h1
    exact Nat.le_trans (pow_le (by omega)) h1
  have hk1 : 126 < B → 4503599627370496 ≤ kept := by
    intro h
    refine (key _).2 ?_
    rw [← p52, ← Nat.pow_add]
    exact hbig h
  obtain ⟨m, A, hr, hm1, hA, _, hv⟩ := read_rung (B - 126) kept hk2 (by by_cases h : 126 < B; exact .inl (hk1 h); exact .inr (by omega)) (by omega)
  have hw : double.nearest false mag ((a : Int) - 1200) = (B - 126) * 4503599627370496 + kept := by
    unfold Format.nearest
    rw [if_neg (by omega)]
    simp only [dbl_frac, dbl_least, dbl_binade, dbl_inf]
    have e1 : max (((a : Int) - 1200) + (mag.log2 : Int) - ((52 : Nat) : Int)) (-1074) = (B : Int) - 1200 := by omega
    rw [e1]
    have e2 : (((a : Int) - 1200) - ((B : Int) - 1200)).toNat = a - B := by omega
    have e3 : (((B : Int) - 1200) - ((a : Int) - 1200)).toNat = B - a := by omega
    have e4 : (((B : Int) - 1200) - (-1074)).toNat = B - 126 := by omega
    rw [e2, e3, e4, ← hkept, Nat.min_eq_left (by omega)]
    rfl
  have hBe : B - 126 + 126 = B := by omega
  rw [hBe] at hv
  refine ⟨m * 2 ^ A, ⟨false, m, A, by rw [hw]; exact hr, (fun h => by cases h), hm1, hA, rfl⟩, ?_⟩
  rintro c ⟨d, k, hd, hk, rfl⟩
  rw [hv]
  by_cases hkB : B ≤ k
  · have e : d * 2 ^ k = d * 2 ^ (k - B) * 2 ^ B := by rw [Nat.mul_assoc, ← pow_split B k hkB]
    rw [e]
    exact ⟨fun h => Nat.mul_le_mul_right _ ((key _).1 h), fun h => Nat.mul_le_mul_right _ ((key _).2 h)⟩
  · have hB1 : 126 < B := by omega
    have h1 : d * 2 ^ k < 2 ^ (52 + B) := by
      have h2 : d * 2 ^ k < 2 ^ 53 * 2 ^ k := by rw [p53]; exact Nat.mul_lt_mul_of_pos_right hd (pos k)
      rw [← Nat.pow_add] at h2
      exact Nat.lt_of_lt_of_le h2 (pow_le (by omega))
    have h3 := hbig hB1
    have h4 : 2 ^ (52 + B) ≤ kept * 2 ^ B := by
      rw [Nat.pow_add, p52]
      exact Nat.mul_le_mul_right _ (hk1 hB1)
    exact ⟨fun h => by omega, fun h => by omega⟩

end Go.Proofs.Qxb6628806a
