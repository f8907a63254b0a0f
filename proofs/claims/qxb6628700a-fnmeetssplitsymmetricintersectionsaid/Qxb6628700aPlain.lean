/- The plain side of seat b6628700a: words, lists of words; no program in sight. -/
import Derived.Laws.BitsAllLaws
namespace Go.Proofs.Qxb6628700a

/-- Two words have a bit in common. -/
def hit (x y : Int) : Bool := bits .and .u64 x y != 0

/-- What 'Meets' computes. -/
def meets : List Int → List Int → Bool
  | x :: xs, y :: ys => hit x y || meets xs ys
  | _, _ => false

/-- What 'zzAnyNonzero' computes. -/
def anyNz : List Int → Bool
  | x :: xs => x != 0 || anyNz xs
  | [] => false

/-- What 'zzAndWords' computes. -/
def andW : List Int → List Int → List Int
  | x :: xs, y :: ys => bits .and .u64 x y :: andW xs ys
  | _, _ => []

/-- A word that fits. -/
def U (x : Int) : Prop := 0 ≤ x ∧ x < 18446744073709551616

theorem meets_nil_r (xs : List Int) : meets xs [] = false := by cases xs <;> rfl
theorem andW_nil_r (xs : List Int) : andW xs [] = [] := by cases xs <;> rfl

theorem meets_take_succ (xs ys : List Int) (k : Nat) (hx : k < xs.length) (hy : k < ys.length) :
    meets (xs.take (k + 1)) (ys.take (k + 1)) = (meets (xs.take k) (ys.take k) || hit (xs[k]?.getD 0) (ys[k]?.getD 0)) := by
  induction k generalizing xs ys with
  | zero =>
    match xs, ys, hx, hy with
    | x :: xs, y :: ys, _, _ => simp [meets]
  | succ k ih =>
    match xs, ys, hx, hy with
    | x :: xs, y :: ys, hx, hy =>
      simp only [List.take_succ_cons, meets, List.getElem?_cons_succ]
      rw [ih xs ys (by simpa using hx) (by simpa using hy), Bool.or_assoc]

theorem meets_min (xs ys : List Int) (k : Nat) (h : min xs.length ys.length ≤ k) : meets (xs.take k) (ys.take k) = meets xs ys := by
  induction k generalizing xs ys with
  | zero =>
    match xs, ys, h with
    | [], _, _ => rfl
    | _ :: _, [], _ => rfl
    | _ :: _, _ :: _, h => simp at h
  | succ k ih =>
    match xs, ys, h with
    | [], _, _ => rfl
    | _ :: _, [], _ => rfl
    | x :: xs, y :: ys, h =>
      simp only [List.take_succ_cons, meets]
      rw [ih xs ys (by simp at h; omega)]

theorem meets_hit (xs ys : List Int) (k : Nat) (hx : k < xs.length) (hy : k < ys.length) (h : hit (xs[k]?.getD 0) (ys[k]?.getD 0) = true) : meets xs ys = true := by
  induction k generalizing xs ys with
  | zero =>
    match xs, ys, hx, hy with
    | x :: xs, y :: ys, _, _ => simp at h; simp [meets, h]
  | succ k ih =>
    match xs, ys, hx, hy with
    | x :: xs, y :: ys, hx, hy =>
      simp only [meets]
      rw [ih xs ys (by simpa using hx) (by simpa using hy) (by simpa using h), Bool.or_true]

theorem anyNz_take_succ (xs : List Int) (k : Nat) (hx : k < xs.length) : anyNz (xs.take (k + 1)) = (anyNz (xs.take k) || (xs[k]?.getD 0 != 0)) := by
  induction k generalizing xs with
  | zero =>
    match xs, hx with
    | x :: xs, _ => simp [anyNz]
  | succ k ih =>
    match xs, hx with
    | x :: xs, hx =>
      simp only [List.take_succ_cons, anyNz, List.getElem?_cons_succ]
      rw [ih xs (by simpa using hx), Bool.or_assoc]

theorem anyNz_hit (xs : List Int) (k : Nat) (hx : k < xs.length) (h : (xs[k]?.getD 0 != 0) = true) : anyNz xs = true := by
  induction k generalizing xs with
  | zero =>
    match xs, hx with
    | x :: xs, _ => simp at h; simp [anyNz, h]
  | succ k ih =>
    match xs, hx with
    | x :: xs, hx =>
      simp only [anyNz]
      rw [ih xs (by simpa using hx) (by simpa using h), Bool.or_true]

/-! ### The laws -/
theorem and_comm64 {x y : Int} (hx : U x) (hy : U y) : bits .and .u64 x y = bits .and .u64 y x := by
  rw [u64_and x y hx.1 hx.2 hy.1 hy.2, u64_and y x hy.1 hy.2 hx.1 hx.2, Nat.and_comm]

theorem and_self64 {x : Int} (hx : U x) : bits .and .u64 x x = x := by
  rw [u64_and x x hx.1 hx.2 hx.1 hx.2, Nat.and_self]
  exact Int.toNat_of_nonneg hx.1

theorem and_U {x y : Int} (hx : U x) (hy : U y) : U (bits .and .u64 x y) := by
  rw [u64_and x y hx.1 hx.2 hy.1 hy.2]
  have h : x.toNat &&& y.toNat ≤ x.toNat := Nat.and_le_left
  have := hx.1
  have := hx.2
  constructor <;> omega

theorem hit_comm {x y : Int} (hx : U x) (hy : U y) : hit x y = hit y x := by unfold hit; rw [and_comm64 hx hy]
theorem hit_self {x : Int} (hx : U x) : hit x x = (x != 0) := by unfold hit; rw [and_self64 hx]

theorem meets_comm (xs ys : List Int) (hx : ∀ x ∈ xs, U x) (hy : ∀ y ∈ ys, U y) : meets xs ys = meets ys xs := by
  induction xs generalizing ys with
  | nil => rw [meets_nil_r]; rfl
  | cons x xs ih =>
    cases ys with
    | nil => rfl
    | cons y ys =>
      simp only [meets]
      rw [hit_comm (hx x (by simp)) (hy y (by simp)), ih ys (fun z hz => hx z (by simp [hz])) (fun z hz => hy z (by simp [hz]))]

theorem meets_self (xs : List Int) (hx : ∀ x ∈ xs, U x) : meets xs xs = anyNz xs := by
  induction xs with
  | nil => rfl
  | cons x xs ih =>
    simp only [meets, anyNz]
    rw [hit_self (hx x (by simp)), ih (fun z hz => hx z (by simp [hz]))]

theorem meets_andW (xs ys : List Int) : meets xs ys = anyNz (andW xs ys) := by
  induction xs generalizing ys with
  | nil => rfl
  | cons x xs ih =>
    cases ys with
    | nil => rfl
    | cons y ys => simp only [meets, andW, anyNz]; rw [ih]; rfl

theorem andW_U (xs ys : List Int) (hx : ∀ x ∈ xs, U x) (hy : ∀ y ∈ ys, U y) : ∀ z ∈ andW xs ys, U z := by
  induction xs generalizing ys with
  | nil => intro z hz; cases hz
  | cons x xs ih =>
    cases ys with
    | nil => intro z hz; cases hz
    | cons y ys =>
      intro z hz
      simp only [andW, List.mem_cons] at hz
      rcases hz with rfl | hz
      · exact and_U (hx x (by simp)) (hy y (by simp))
      · exact ih ys (fun z hz => hx z (by simp [hz])) (fun z hz => hy z (by simp [hz])) z hz

theorem length_andW (xs ys : List Int) : (andW xs ys).length = min xs.length ys.length := by
  induction xs generalizing ys with
  | nil => simp [andW]
  | cons x xs ih =>
    cases ys with
    | nil => simp [andW]
    | cons y ys => simp only [andW, List.length_cons]; rw [ih]; omega

theorem getElem?_andW (xs ys : List Int) (k : Nat) (hx : k < xs.length) (hy : k < ys.length) : (andW xs ys)[k]? = some (bits .and .u64 (xs[k]?.getD 0) (ys[k]?.getD 0)) := by
  induction k generalizing xs ys with
  | zero =>
    match xs, ys, hx, hy with
    | x :: xs, y :: ys, _, _ => simp [andW]
  | succ k ih =>
    match xs, ys, hx, hy with
    | x :: xs, y :: ys, hx, hy =>
      simp only [andW, List.getElem?_cons_succ]
      exact ih xs ys (by simpa using hx) (by simpa using hy)

theorem meets_split (xs ys : List Int) (k : Nat) : meets xs ys = (meets (xs.take k) (ys.take k) || meets (xs.drop k) (ys.drop k)) := by
  induction k generalizing xs ys with
  | zero => simp [meets]
  | succ k ih =>
    match xs, ys with
    | [], _ => simp [meets]
    | x :: xs, [] => simp [meets, meets_nil_r]
    | x :: xs, y :: ys =>
      simp only [List.take_succ_cons, List.drop_succ_cons, meets]
      rw [ih xs ys, Bool.or_assoc]


/-! ### A row that is filled from its head: the first k words of xs, noughts behind them -/
def part (xs : List Int) (k : Nat) : List Int := xs.take k ++ List.replicate (xs.length - k) 0

theorem length_part (xs : List Int) (k : Nat) (h : k ≤ xs.length) : (part xs k).length = xs.length := by simp [part]; omega
theorem part_zero (xs : List Int) : part xs 0 = List.replicate xs.length 0 := by simp [part]
theorem part_all (xs : List Int) : part xs xs.length = xs := by simp [part]
theorem part_set (xs : List Int) (k : Nat) (h : k < xs.length) : (part xs k).set k (xs[k]?.getD 0) = part xs (k + 1) := by
  have e : xs.length - k = (xs.length - (k + 1)) + 1 := by omega
  unfold part
  rw [e, List.replicate_succ, List.set_append_right _ _ (by simp; omega), List.length_take, Nat.min_eq_left (by omega), Nat.sub_self, List.set_cons_zero,
    List.take_succ_eq_append_getElem h, List.append_assoc, List.getElem?_eq_getElem h]
  rfl
theorem part_pad (xs : List Int) (m : Nat) : part (xs ++ List.replicate m 0) xs.length = xs ++ List.replicate m 0 := by simp [part]

/-! ### One bit put in -/
def hasBit (zs : List Int) (b : Nat) : Bool := bits .and .u64 ((zs[b / 64]?.getD 0) / 2 ^ (b % 64)) 1 == 1

theorem hasBit_none (zs : List Int) (b : Nat) (h : zs.length ≤ b / 64) : hasBit zs b = false := by
  unfold hasBit
  rw [List.getElem?_eq_none h]
  simp only [Option.getD_none, Int.zero_ediv]
  rw [u64_and 0 1 (by decide) (by decide) (by decide) (by decide)]
  rfl

def padded (zs : List Int) (b : Nat) : List Int := zs ++ List.replicate (b / 64 + 1 - zs.length) 0
def bitOf (b : Nat) : Int := IntKind.u64.wrap (2 ^ (b % 64))
def withBit (zs : List Int) (b : Nat) : List Int := (padded zs b).set (b / 64) (bits .or .u64 ((padded zs b)[b / 64]?.getD 0) (bitOf b))

theorem length_padded (zs : List Int) (b : Nat) : (padded zs b).length = max zs.length (b / 64 + 1) := by unfold padded; simp; omega
theorem length_withBit (zs : List Int) (b : Nat) : (withBit zs b).length = max zs.length (b / 64 + 1) := by unfold withBit; rw [List.length_set, length_padded]
theorem part_padded (zs : List Int) (b : Nat) : part (padded zs b) zs.length = padded zs b := part_pad zs _
theorem padded_at (zs : List Int) (b k : Nat) (h : k < zs.length) : (padded zs b)[k]? = some (zs[k]?.getD 0) := by
  unfold padded
  rw [List.getElem?_append_left h]
  simp [h]

theorem two_pow_lt (i : Nat) (h : i < 64) : (2 : Nat) ^ i < 18446744073709551616 := by
  have : (2 : Nat) ^ i < 2 ^ 64 := Nat.pow_lt_pow_right (by decide) h
  simpa using this
theorem bitOf_eq (b : Nat) : bitOf b = ((2 ^ (b % 64) : Nat) : Int) := by
  unfold bitOf
  have h := two_pow_lt (b % 64) (Nat.mod_lt _ (by decide))
  rw [IntKind.wrap_u64]
  have e : (2 : Int) ^ (b % 64) = ((2 ^ (b % 64) : Nat) : Int) := by simp
  rw [e]
  obtain ⟨m, hm⟩ : ∃ m, m = 2 ^ (b % 64) := ⟨_, rfl⟩
  rw [← hm] at h ⊢
  omega
theorem bitOf_U (b : Nat) : U (bitOf b) := by
  rw [bitOf_eq]
  have h := two_pow_lt (b % 64) (Nat.mod_lt _ (by decide))
  obtain ⟨m, hm⟩ : ∃ m, m = 2 ^ (b % 64) := ⟨_, rfl⟩
  rw [← hm] at h ⊢
  constructor <;> omega

theorem or_U {x y : Int} (hx : U x) (hy : U y) : U (bits .or .u64 x y) := by
  rw [u64_or x y hx.1 hx.2 hy.1 hy.2]
  have h1 := hx.1
  have h2 := hx.2
  have h3 := hy.1
  have h4 := hy.2
  have h : x.toNat ||| y.toNat < 2 ^ 64 := Nat.or_lt_two_pow (by omega) (by omega)
  constructor <;> omega

theorem hit_iff {x y : Int} (hx : U x) (hy : U y) : hit x y = decide (x.toNat &&& y.toNat ≠ 0) := by
  unfold hit
  rw [u64_and x y hx.1 hx.2 hy.1 hy.2]
  by_cases h : x.toNat &&& y.toNat = 0
  · simp [h]
  · simp only [ne_eq, h, not_false_eq_true, decide_true, bne_iff_ne]
    omega

theorem hit_or {x y z : Int} (hx : U x) (hy : U y) (hz : U z) : hit x (bits .or .u64 y z) = (hit x y || hit x z) := by
  rw [hit_iff hx (or_U hy hz), hit_iff hx hy, hit_iff hx hz, u64_or y z hy.1 hy.2 hz.1 hz.2, Int.toNat_natCast, Nat.and_or_distrib_left]
  by_cases h1 : x.toNat &&& y.toNat = 0
  · simp [h1]
  · have : (x.toNat &&& y.toNat) ||| (x.toNat &&& z.toNat) ≠ 0 := fun h => h1 (Nat.or_eq_zero_iff.1 h).1
    simp [h1, this]

theorem hit_zero {x : Int} (hx : U x) : hit x 0 = false := by
  rw [hit_iff hx ⟨by decide, by decide⟩]
  simp

theorem hit_bit {x : Int} (hx : U x) (b : Nat) : hit x (bitOf b) = (bits .and .u64 (x / 2 ^ (b % 64)) 1 == 1) := by
  have hp := two_pow_lt (b % 64) (Nat.mod_lt _ (by decide))
  have hpos : 0 < 2 ^ (b % 64) := Nat.two_pow_pos _
  obtain ⟨n, rfl⟩ := Int.eq_ofNat_of_zero_le hx.1
  have hn := hx.2
  rw [hit_iff hx (bitOf_U b), bitOf_eq, Int.toNat_natCast, Int.toNat_natCast, nat_bit]
  have e : (n : Int) / 2 ^ (b % 64) = ((n / 2 ^ (b % 64) : Nat) : Int) := by simp
  have hle : n / 2 ^ (b % 64) ≤ n := Nat.div_le_self _ _
  rw [e, show (1 : Int) = ((1 : Nat) : Int) from rfl, u64_and_nat _ 1 (by omega) (by decide), nat_mask1]
  have h2 : n / 2 ^ (b % 64) % 2 = 0 ∨ n / 2 ^ (b % 64) % 2 = 1 := by omega
  rcases h2 with h2 | h2 <;> rw [h2]
  · simp
  · simp

theorem meets_zeros (xs : List Int) (hx : ∀ x ∈ xs, U x) (m : Nat) : meets xs (List.replicate m 0) = false := by
  induction xs generalizing m with
  | nil => rfl
  | cons x xs ih =>
    cases m with
    | zero => rfl
    | succ m =>
      rw [List.replicate_succ]
      simp only [meets]
      rw [hit_zero (hx x (by simp)), ih (fun z hz => hx z (by simp [hz]))]
      rfl

theorem meets_pad (xs ys : List Int) (hx : ∀ x ∈ xs, U x) (m : Nat) : meets xs (ys ++ List.replicate m 0) = meets xs ys := by
  induction xs generalizing ys with
  | nil => rfl
  | cons x xs ih =>
    cases ys with
    | nil => rw [List.nil_append, meets_zeros _ hx, meets_nil_r]
    | cons y ys => simp only [List.cons_append, meets]; rw [ih ys (fun z hz => hx z (by simp [hz]))]

theorem meets_set (xs ys : List Int) (j : Nat) (z : Int) (hx : ∀ x ∈ xs, U x) (hy : ∀ y ∈ ys, U y) (hz : U z) (hj : j < ys.length) :
    meets xs (ys.set j (bits .or .u64 (ys[j]?.getD 0) z)) = (meets xs ys || (decide (j < xs.length) && hit (xs[j]?.getD 0) z)) := by
  induction j generalizing xs ys with
  | zero =>
    match xs, ys, hj with
    | [], _, _ => simp [meets]
    | x :: xs, y :: ys, _ =>
      simp only [List.set_cons_zero, meets, List.getElem?_cons_zero, Option.getD_some, List.length_cons]
      rw [hit_or (hx x (by simp)) (hy y (by simp)) hz]
      cases hit x y <;> cases hit x z <;> simp
  | succ j ih =>
    match xs, ys, hj with
    | [], _, _ => simp [meets]
    | x :: xs, y :: ys, hj =>
      simp only [List.set_cons_succ, meets, List.getElem?_cons_succ, List.length_cons]
      rw [ih xs ys (fun z hz => hx z (by simp [hz])) (fun z hz => hy z (by simp [hz])) (by simpa using hj), Bool.or_assoc]
      simp

theorem padded_U (ys : List Int) (b : Nat) (hy : ∀ y ∈ ys, U y) : ∀ y ∈ padded ys b, U y := by
  intro y h
  rcases List.mem_append.1 h with h | h
  · exact hy y h
  · rw [(List.mem_replicate.1 h).2]; exact ⟨by decide, by decide⟩

theorem withBit_U (ys : List Int) (b : Nat) (hy : ∀ y ∈ ys, U y) : ∀ y ∈ withBit ys b, U y := by
  intro y h
  rcases List.mem_or_eq_of_mem_set h with h | rfl
  · exact padded_U ys b hy y h
  · refine or_U ?_ (bitOf_U b)
    have hl := length_padded ys b
    have hj : b / 64 < (padded ys b).length := by omega
    rw [List.getElem?_eq_getElem hj]
    exact padded_U ys b hy _ (List.getElem_mem hj)

theorem meets_withBit (xs ys : List Int) (b : Nat) (hx : ∀ x ∈ xs, U x) (hy : ∀ y ∈ ys, U y) : meets xs (withBit ys b) = (meets xs ys || hasBit xs b) := by
  unfold withBit
  have hl := length_padded ys b
  rw [meets_set xs (padded ys b) (b / 64) (bitOf b) hx (padded_U ys b hy) (bitOf_U b) (by omega)]
  congr 1
  · exact meets_pad xs ys hx _
  · by_cases h : b / 64 < xs.length
    · have hu : U (xs[b / 64]?.getD 0) := by rw [List.getElem?_eq_getElem h]; exact hx _ (List.getElem_mem h)
      rw [hit_bit hu]
      simp [h, hasBit]
    · rw [hasBit_none xs b (by omega)]
      simp [h]

end Go.Proofs.Qxb6628700a
