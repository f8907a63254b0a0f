/- Seat b6628806a: float64(n), n/1000, x*1000, int64(y), as values. No program here. -/
import Derived.Test.Qxb6628806aOps
namespace Go.Proofs.Qxb6628806a
open Ieee
set_option linter.unusedVariables false

/-- The word of float64(n). -/
def ofNat (n : Nat) : Nat := double.nearest false n 0

theorem ofNat_is (n : Nat) (hn : n < 2 ^ 40) : Is (ofNat n) (n * one) := by
  by_cases h0 : n = 0
  · subst h0
    rw [Nat.zero_mul]
    exact is_zero
  · have hl : n.log2 < 40 := (Nat.log2_lt h0).2 hn
    obtain ⟨v, hv, hc⟩ := near n unitExp (by omega) (by rw [unitExp_eq]; omega)
    have e : ((unitExp : Nat) : Int) - 1200 = 0 := by rw [unitExp_eq]; rfl
    rw [e] at hv
    have p40 : (2 : Nat) ^ 40 = 1099511627776 := rfl
    have hr := hc (n * one) (rep_ones n (by omega))
    have h1 : v ≤ n * one := hr.1 (Nat.le_refl _)
    have h2 : n * one ≤ v := hr.2 (Nat.le_refl _)
    rw [show n * one = v by omega]
    exact hv

theorem log2_kilo : Nat.log2 8796093022208000 = 52 := by decide +kernel

/-- What n/1000 comes to: b, with the value v: monotone against what the format has. -/
def Quot (n b v : Nat) : Prop := double.div (ofNat n) kilo = some b ∧ Is b v ∧ ∀ c, Rep c → (n * one ≤ 1000 * c → v ≤ c) ∧ (1000 * c ≤ n * one → c ≤ v)

theorem quot_zero : Quot 0 0 0 := by
  refine ⟨by decide +kernel, is_zero, fun c _ => ⟨fun _ => Nat.zero_le _, fun h => ?_⟩⟩
  rw [Nat.zero_mul] at h
  omega

theorem quot_pos (n : Nat) (h0 : 0 < n) (hn : n < 2 ^ 40) : ∃ b v, Quot n b v := by
  obtain ⟨s, m, A, hr, hs, hm, hA, hv⟩ := ofNat_is n hn
  have hvp : 0 < n * one := Nat.mul_pos h0 one_pos
  have hm0 : 0 < m := by
    rcases Nat.eq_zero_or_pos m with h | h
    · rw [h, Nat.zero_mul] at hv; omega
    · exact h
  obtain rfl : s = false := by
    cases s
    · rfl
    · have := hs rfl; omega
  have lo : 2 ^ m.log2 ≤ m := Nat.log2_self_le (by omega)
  have hi : m < 2 ^ (m.log2 + 1) := Nat.lt_log2_self
  have hl : m.log2 < 53 := (Nat.log2_lt (by omega)).2 (by rw [p53]; exact hm)
  -- A is not too great
  have hA2 : A ≤ 1240 := by
    rcases Nat.lt_or_ge 1240 A with h | h
    · exfalso
      have h1 : 1 * 2 ^ A ≤ m * 2 ^ A := Nat.mul_le_mul_right _ hm0
      rw [← hv, Nat.one_mul] at h1
      have h2 : n * one < 2 ^ 40 * one := Nat.mul_lt_mul_of_pos_right hn one_pos
      unfold one at h1 h2
      rw [← Nat.pow_add] at h2
      have h3 : 2 ^ (40 + unitExp) ≤ 2 ^ A := pow_le (by rw [unitExp_eq]; omega)
      exact absurd (Nat.lt_of_lt_of_le (Nat.lt_of_le_of_lt h1 h2) h3) (Nat.lt_irrefl _)
    · exact h
  obtain ⟨more, hmore⟩ : ∃ more, more = 106 - m.log2 := ⟨_, rfl⟩
  obtain ⟨D, hD⟩ : ∃ D, D = m * 2 ^ more := ⟨_, rfl⟩
  obtain ⟨g, hg⟩ : ∃ g, g = A - more := ⟨_, rfl⟩
  have hgA : A = more + g := by omega
  have eD : n * one = D * 2 ^ g := by rw [hv, hD, hgA, Nat.pow_add, Nat.mul_assoc]
  have p106 : (2 : Nat) ^ 106 = 81129638414606681695789005144064 := rfl
  have p107 : (2 : Nat) ^ 107 = 162259276829213363391578010288128 := rfl
  have hDlo : 2 ^ 106 ≤ D := by
    rw [hD, show 106 = m.log2 + more by omega, Nat.pow_add]
    exact Nat.mul_le_mul_right _ lo
  have hDhi : D < 2 ^ 107 := by
    rw [hD, show 107 = (m.log2 + 1) + more by omega, Nat.pow_add]
    exact Nat.mul_lt_mul_of_pos_right hi (pos _)
  obtain ⟨q, hq⟩ : ∃ q, q = D / 8796093022208000 := ⟨_, rfl⟩
  obtain ⟨r, hr2⟩ : ∃ r, r = D % 8796093022208000 := ⟨_, rfl⟩
  have hdm : D = 8796093022208000 * q + r := by rw [hq, hr2]; exact (Nat.div_add_mod _ _).symm
  have hrlt : r < 8796093022208000 := by rw [hr2]; exact Nat.mod_lt _ (by decide)
  obtain ⟨mag, hmag⟩ : ∃ mag, mag = 2 * q + (r != 0).toNat := ⟨_, rfl⟩
  have hsticky : (r != 0).toNat = if r = 0 then 0 else 1 := by
    by_cases h : r = 0 <;> simp [h]
  have hqlo : 9007199254740992 ≤ q := by omega
  have hqhi : q < 2 * 18014398509481984 := by omega
  have hmagpos : 0 < mag := by omega
  have hmaglog : mag.log2 < 57 := (Nat.log2_lt (by omega)).2 (by
    have p57 : (2 : Nat) ^ 57 = 144115188075855872 := rfl
    rw [p57, hmag, hsticky]
    split <;> omega)
  obtain ⟨v, hvI, hc⟩ := near mag (g + 42) hmagpos (by omega)
  have hplace : (((A : Int) - 1200) - (-43) - (more : Int) - 1) = ((g + 42 : Nat) : Int) - 1200 := by omega
  refine ⟨_, v, ?_, hvI, fun c hcr => ?_⟩
  · unfold Format.div
    rw [hr, read_kilo]
    unfold Datum.quotient
    simp only [dbl_frac, log2_kilo]
    rw [if_neg (by decide)]
    have e1 : 52 + 2 + 52 - m.log2 = more := by omega
    rw [e1, Nat.shiftLeft_eq, ← hD, ← hq, ← hr2, ← hmag, hplace]
    rfl
  · have hck := hc c hcr
    obtain ⟨d, k, hd, hk, rfl⟩ := hcr
    by_cases hkg : g + 43 ≤ k
    · -- c is a whole number of units of 2 ^ (g + 43)
      obtain ⟨C, hC⟩ : ∃ C, C = d * 2 ^ (k - (g + 43)) := ⟨_, rfl⟩
      have ec : d * 2 ^ k = C * 2 ^ (g + 43) := by rw [hC, Nat.mul_assoc, ← pow_split _ _ hkg]
      have ec2 : d * 2 ^ k = 2 * C * 2 ^ (g + 42) := by
        rw [ec, show g + 43 = (g + 42) + 1 by omega, Nat.pow_succ, Nat.mul_comm (2 ^ (g + 42)) 2, ← Nat.mul_assoc, Nat.mul_comm C 2]
      have e43 : 1000 * (C * 2 ^ (g + 43)) = 8796093022208000 * C * 2 ^ g := by
        have e2 : (2 : Nat) ^ 43 = 8796093022208 := rfl
        rw [Nat.pow_add, e2]
        obtain ⟨p, hp⟩ : ∃ p, p = C * 2 ^ g := ⟨_, rfl⟩
        have e3 : C * (2 ^ g * 8796093022208) = p * 8796093022208 := by rw [hp, Nat.mul_assoc]
        have e4 : 8796093022208000 * C * 2 ^ g = 8796093022208000 * p := by rw [hp, Nat.mul_assoc]
        rw [e3, e4]
        omega
      rw [ec2] at hck ⊢
      refine ⟨fun h => hck.1 (Nat.mul_le_mul_right _ ?_), fun h => hck.2 (Nat.mul_le_mul_right _ ?_)⟩
      · rw [← ec2, ec, e43, eD] at h
        have h1 := le_of_pow h
        rw [hmag, hsticky]
        split <;> omega
      · rw [← ec2, ec, e43, eD] at h
        have h1 := le_of_pow h
        rw [hmag]
        omega
    · have h1 : d * 2 ^ k < 2 ^ (g + 95) := by
        have h2 : d * 2 ^ k < 2 ^ 53 * 2 ^ k := by rw [p53]; exact Nat.mul_lt_mul_of_pos_right hd (pos k)
        rw [← Nat.pow_add] at h2
        exact Nat.lt_of_lt_of_le h2 (pow_le (by omega))
      have h3 : 2 ^ (g + 106) ≤ n * one := by
        rw [eD, Nat.add_comm g 106, Nat.pow_add]
        exact Nat.mul_le_mul_right _ hDlo
      have e11 : 2 ^ (g + 106) = 2048 * 2 ^ (g + 95) := by
        rw [show g + 106 = 11 + (g + 95) by omega, Nat.pow_add]
      have h5 : 2 ^ (g + 95) ≤ mag * 2 ^ (g + 42) := by
        rw [show g + 95 = 53 + (g + 42) by omega, Nat.pow_add, p53]
        exact Nat.mul_le_mul_right _ (by omega)
      refine ⟨fun h => ?_, fun _ => hck.2 (by omega)⟩
      exfalso
      omega

theorem quot_all (n : Nat) (hn : n < 2 ^ 40) : ∃ b v, Quot n b v := by
  rcases Nat.eq_zero_or_pos n with h | h
  · subst h
    exact ⟨0, 0, quot_zero⟩
  · exact quot_pos n h hn

/-- What x*1000 comes to. -/
theorem mul_is (x v : Nat) (h : Is x v) (hv : v ≤ 1000 * one) : ∃ b u, double.mul x kilo = some b ∧ Is b u ∧ ∀ c, Rep c → 1000 * v ≤ c → u ≤ c := by
  obtain ⟨s, m, A, hr, hs, hm, hA, rfl⟩ := h
  rcases Nat.eq_zero_or_pos m with h0 | h0
  · subst h0
    have e : double.mul x kilo = some (if s then 9223372036854775808 else 0) := by
      unfold Format.mul
      rw [hr, read_kilo]
      unfold Datum.product
      simp only [Nat.zero_mul, Bool.xor_false]
      show some (double.nearest s 0 _) = _
      unfold Format.nearest
      rw [if_pos rfl]
      unfold Format.word
      rw [dbl_sign]
    refine ⟨_, 0, e, ?_, fun c _ _ => Nat.zero_le _⟩
    cases s
    · exact is_zero
    · exact is_negZero
  · obtain rfl : s = false := by
      cases s
      · rfl
      · have := hs rfl; omega
    have hA2 : A ≤ 1240 := by
      rcases Nat.lt_or_ge 1240 A with h | h
      · exfalso
        have h1 : 1 * 2 ^ A ≤ m * 2 ^ A := Nat.mul_le_mul_right _ h0
        rw [Nat.one_mul] at h1
        have h2 : 1000 * one ≤ 2 ^ 10 * one := Nat.mul_le_mul_right _ (by decide)
        unfold one at h2 hv
        rw [← Nat.pow_add] at h2
        have h3 : 2 ^ (10 + unitExp) < 2 ^ A := Nat.pow_lt_pow_right (by decide) (by rw [unitExp_eq]; omega)
        exact absurd (Nat.lt_of_le_of_lt (Nat.le_trans (Nat.le_trans h1 hv) h2) h3) (Nat.lt_irrefl _)
      · exact h
    have hl : (m * 8796093022208000).log2 < 106 := (Nat.log2_lt (by omega)).2 (by
      have p106 : (2 : Nat) ^ 106 = 81129638414606681695789005144064 := rfl
      omega)
    obtain ⟨u, hu, hc⟩ := near (m * 8796093022208000) (A - 43) (by omega) (by omega)
    have he : m * 8796093022208000 * 2 ^ (A - 43) = 1000 * (m * 2 ^ A) := by
      rw [Nat.mul_assoc, kilo_units A (by omega), ← Nat.mul_assoc, Nat.mul_comm m 1000, Nat.mul_assoc]
    have hp : ((A : Int) - 1200) + (-43) = ((A - 43 : Nat) : Int) - 1200 := by omega
    refine ⟨_, u, ?_, hu, fun c hcr h => (hc c hcr).1 (by rw [he]; exact h)⟩
    unfold Format.mul
    rw [hr, read_kilo]
    unfold Datum.product
    simp only [Bool.xor_false, hp]
    rfl

/-- What int64(y) comes to: the whole number below. -/
theorem toInt_is (b u : Nat) (h : Is b u) : (double.read b).toInt .zero = some ((u / one : Nat) : Int) := by
  obtain ⟨s, m, A, hr, hs, hm, hA, rfl⟩ := h
  unfold Datum.toInt
  rw [hr]
  unfold Datum.integral
  simp only [cut_zero, Nat.shiftLeft_eq]
  have key : m * 2 ^ ((A : Int) - 1200).toNat / 2 ^ (-((A : Int) - 1200)).toNat = m * 2 ^ A / one := by
    by_cases h : 1200 ≤ A
    · have e1 : ((A : Int) - 1200).toNat = A - unitExp := by rw [unitExp_eq]; omega
      have e2 : (-((A : Int) - 1200)).toNat = 0 := by omega
      rw [e1, e2, Nat.pow_zero, Nat.div_one]
      unfold one
      rw [pow_split unitExp A (by rw [unitExp_eq]; exact h), ← Nat.mul_assoc, Nat.mul_div_cancel _ (pos _)]
    · have e1 : ((A : Int) - 1200).toNat = 0 := by omega
      have e2 : (-((A : Int) - 1200)).toNat = unitExp - A := by rw [unitExp_eq]; omega
      rw [e1, e2, Nat.pow_zero, Nat.mul_one]
      unfold one
      rw [pow_split A unitExp (by rw [unitExp_eq]; omega), Nat.mul_div_mul_right _ _ (pos A)]
  rw [key, signed_of (fun e => by rw [hs e, Nat.zero_mul, Nat.zero_div]), Nat.pow_zero, Nat.mul_one]

end Go.Proofs.Qxb6628806a
