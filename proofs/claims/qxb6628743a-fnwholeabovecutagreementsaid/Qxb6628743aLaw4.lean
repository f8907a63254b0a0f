/- Seat b6628743a: FnWholeAboveCutAgreement walked. -/
import Derived.Test.Qxb6628743aLaw3
namespace Go.Proofs.Qxb6628743a
open Go.RowKit Go.ChangeMaps
set_option linter.unusedVariables false

theorem law4_big (a0 : Option Addr) (n0 c0 : Nat) (G : List (List ByteArray)) (a1 : Option Addr) (n1 c1 : Nat) (ss : List ByteArray) (k : Int) (w : World) (h0 : Grid w a0 n0 G) (h1 : StrRow w a1 n1 ss) (h : 1048576 < n1 ∨ 1048576 < n0) :
    Calls Try.prog 4 #[.slice a0 n0 c0, .slice a1 n1 c1, .int .i64 k] w fun e w' => e = .returned (.bool true) ∧ Below w.heap.size w w' := by
  go_enter Try.func4, Try.ntmps4
  go_wp2_with (first
    | (go_at_call 10; refine (bytes10 _ _ _ _ _ _ _ _ _ _ h0 h1).mono ?_; rintro e w' ⟨b, rfl, rfl⟩)
    | (go_at_call 6; refine (tooBig_out _ _ _ _ _ _ _ h).mono ?_; rintro e w' ⟨rfl, rfl⟩))
  all_goals
    go_ret
    exact ⟨rfl, Below.refl _ _⟩

set_option maxHeartbeats 400000 in
theorem law4_off (a0 : Option Addr) (n0 c0 : Nat) (G : List (List ByteArray)) (a1 : Option Addr) (n1 c1 : Nat) (ss : List ByteArray) (k : Int) (w : World) (h0 : Grid w a0 n0 G) (h1 : StrRow w a1 n1 ss) (hn0 : n0 ≤ 1048576) (hn1 : n1 ≤ 1048576)
    (h : n1 = 0 ∨ k < 1 ∨ (n1 : Int) < k) :
    Calls Try.prog 4 #[.slice a0 n0 c0, .slice a1 n1 c1, .int .i64 k] w fun e w' => e = .returned (.bool true) ∧ Below w.heap.size w w' := by
  have hm1 := h1.2.1
  go_enter Try.func4, Try.ntmps4
  go_wp2_with (first
    | (go_at_call 10; refine (bytes10 _ _ _ _ _ _ _ _ _ _ h0 h1).mono ?_; rintro e w' ⟨b, rfl, rfl⟩)
    | (go_at_call 6; refine (tooBig_in _ _ _ _ _ _ _ _ _ h0 h1 hn0 hn1).mono ?_; rintro e w' ⟨b, rfl, rfl⟩))
  all_goals
    go_ret
    exact ⟨rfl, Below.refl _ _⟩

theorem StrRow.take {w : World} {a : Option Addr} {n : Nat} {ss : List ByteArray} (h : StrRow w a n ss) (k : Nat) (hk : k ≤ n) : StrRow w a k (ss.take k) := by
  obtain ⟨hl, hm, h2⟩ := h
  refine ⟨by simp; omega, by omega, ?_⟩
  by_cases h0 : k = 0
  · exact .inl h0
  · rcases h2 with h2 | ⟨b, off, e, hc⟩
    · omega
    · refine .inr ⟨b, off, e, fun i hi => ?_⟩
      have hi' : i < k ∧ i < ss.length := by simp at hi; omega
      rw [hc i hi'.2, List.getElem?_take_of_lt hi'.1]

/-- The plain law: the answer for the path cut at k, and what either answer says of the list. -/
theorem cut_plain {G : List (List ByteArray)} {n0 : Nat} {Wh : List ByteArray → Bool} (hM : Marks G n0 Wh) (hG : G.length = n0) (ss : List ByteArray) (n1 k : Nat) (hn : ss.length = n1) (hk1 : 1 ≤ k) (hk : k ≤ n1) :
    (top (fun d => Wh (ss.take (d + 1))) (n1 - 1) = -1 ∧ top (fun d => Wh ((ss.take k).take (d + 1))) (k - 1) = -1 ∧ ∀ d, d < n1 - 1 → inG G (ss.take (d + 1)) = false) ∨
    ∃ d : Nat, top (fun d => Wh (ss.take (d + 1))) (n1 - 1) = d ∧ d < n1 - 1 ∧ inG G (ss.take (d + 1)) = true ∧
      ((d < k - 1 ∧ top (fun d => Wh ((ss.take k).take (d + 1))) (k - 1) = d) ∨ (k - 1 ≤ d ∧ top (fun d => Wh ((ss.take k).take (d + 1))) (k - 1) = -1)) := by
  rw [top_same hM hG ss (n1 - 1) (by omega), top_same hM hG (ss.take k) (k - 1) (by rw [List.length_take]; omega)]
  have et : ∀ d, d < k - 1 → (ss.take k).take (d + 1) = ss.take (d + 1) := fun d hd => by rw [List.take_take, Nat.min_eq_left (by omega)]
  rcases top_cases (fun d => inG G (ss.take (d + 1))) (n1 - 1) with ⟨h1, h2⟩ | ⟨d, h1, h2, h3, h4⟩
  · refine .inl ⟨h1, top_none fun d hd => ?_, h2⟩
    show inG G ((ss.take k).take (d + 1)) = false
    rw [et d hd]
    exact h2 d (by omega)
  · refine .inr ⟨d, h1, h2, h3, ?_⟩
    by_cases hd : d < k - 1
    · refine .inl ⟨hd, top_some hd ?_ fun e he => ?_⟩
      · show inG G ((ss.take k).take (d + 1)) = true
        rw [et d hd]
        exact h3
      · show inG G ((ss.take k).take (e + 1)) = false
        rw [et e (by omega)]
        exact h4 e he
    · refine .inr ⟨by omega, top_none fun e he => ?_⟩
      show inG G ((ss.take k).take (e + 1)) = false
      rw [et e he]
      exact h4 e (by omega)

set_option maxHeartbeats 1000000 in
theorem law4_main (a0 : Option Addr) (n0 c0 : Nat) (G : List (List ByteArray)) (x1 : Addr) (n1 c1 : Nat) (ss : List ByteArray) (k : Nat) (w : World) (h0 : Grid w a0 n0 G) (h1 : StrRow w (some x1) n1 ss) (hn0 : n0 ≤ 1048576) (hn1 : n1 ≤ 1048576) (hp : 1 ≤ n1) (hk1 : 1 ≤ k) (hkn : k ≤ n1) :
    Calls Try.prog 4 #[.slice a0 n0 c0, .slice (some x1) n1 c1, .int .i64 k] w fun e w' => e = .returned (.bool true) ∧ Below w.heap.size w w' := by
  have hq := neqNil (some x1) n1 c1
  have hmk := mk23 n1 hn1
  have L1 : Hid (ss.length = n1) := h1.1
  have hz0 : ((n1 : Int) == 0) = false := by simp; omega
  have hz1 : decide ((k : Int) < 1) = false := decide_eq_false (by omega)
  have hz2 : decide (n1 < k) = false := decide_eq_false (by omega)
  go_enter Try.func4, Try.ntmps4
  go_wp2_with (first
    | (go_at_call 10; refine (bytes10 _ _ _ _ _ _ _ _ _ _ h0 h1).mono ?_; rintro e w' ⟨b, rfl, rfl⟩)
    | (go_at_call 6; refine (tooBig_in _ _ _ _ _ _ _ _ _ h0 h1 hn0 hn1).mono ?_; rintro e w' ⟨b, rfl, rfl⟩)
    | (with_reducible refine copy_at (.tmp 39) (.tmp 40) w.heap.size n1 c1 (some x1) ss w.heap.size w ?p3 ?p4 ?p6 ?p7 ?p9 ?p10 ?_))
  case p3 => rfl
  case p4 => rfl
  case p6 => exact h1.below ((Below.refl _ _).alloc (Nat.le_refl _) _)
  case p7 => exact SBlk.made w n1
  case p9 => exact (Below.refl _ _).alloc (Nat.le_refl _) _
  case p10 => exact Nat.le_refl _
  · go_ret
    exact ⟨rfl, Below.refl _ _⟩
  · go_ret
    exact ⟨rfl, Below.refl _ _⟩
  intro w1 hB hb1
  have R1 : StrRow w1 (some ⟨w.heap.size, 0, none⟩) n1 ss := by have := hB.row (by rw [L1.out]; exact hn1); rw [L1.out] at this; exact this
  have G1 := h0.below hb1
  clear hq hmk hB h0 h1 hz0 hz1 hz2
  go_wp2_with (go_at_call 7; refine (build_any _ _ _ _ _ G1).mono ?_; rintro e w2 ⟨v, N, Wh, rfl, hV, hI, hb2, hM⟩)
  have R2 := R1.below hb2
  have G2 := G1.below hb2
  have hb02 : Below w.heap.size w w2 := hb1.trans (hb2.mono hb1.size)
  have hA := above8 v _ n1 n1 ss w2 _ N Wh hV hI R2 hp (Nat.le_refl _)
  have hAk := above8 v _ k n1 (ss.take k) w2 _ N Wh hV hI (R2.take k hkn) hk1 hkn
  have hpl := cut_plain hM G2.1 ss n1 k L1.out hk1 hkn
  clear G1 R1 hb1 hb2 hM hV hI
  rcases hpl with ⟨e1, e2, h3⟩ | ⟨d, e1, hd, h3, ⟨h4, e2⟩ | ⟨h4, e2⟩⟩
  · rw [e1] at hA
    rw [e2] at hAk
    have HC : Clear (fun d => inG G (ss.take (d + 1))) (n1 - 1) := h3
    clear e1 e2 h3
    refine hA.mono ?_
    clear hA
    rintro e w' ⟨rfl, rfl⟩
    go_wp2_with (go_at_call 8; refine hAk.mono ?_; rintro e w' ⟨rfl, rfl⟩)
    go_loopw [12] (fun i wr => ∃ d m : Nat, d ≤ n1 - 1 ∧ i = .int .i64 d ∧ wr = w2.drewN m) (fun i _ => n1 - (intOf i).toNat)
    case atStart => exact ⟨0, 0, Nat.zero_le _, rfl, rfl⟩
    case round =>
      obtain ⟨d, m, hd, rfl, rfl⟩ := hrel
      by_cases hlt : d < n1 - 1
      · have hlt' : (d : Int) < (n1 : Int) - 1 := by omega
        have hW := inWhole_any a0 n0 c0 G _ n1 n1 ss (d + 1) (w2.drewN m) (G2.drewN m) (R2.drewN m) (by omega)
        rw [show ((d + 1 : Nat) : Int) = (d : Int) + 1 by omega, show inG G (ss.take (d + 1)) = false from HC d hlt] at hW
        go_wp2_with (go_at_call 9; refine hW.mono ?_; rintro e w' ⟨rfl, m', rfl⟩)
        go_roundw
        case rel => exact ⟨d + 1, m + m', by omega, by go_num, by simp⟩
        case measure => simp [intOf]; omega
      · have hge : (n1 : Int) - 1 ≤ (d : Int) := by omega
        go_wp2
        go_ret
        exact ⟨rfl, below_drewN hb02 _⟩
  · rw [e1] at hA
    rw [e2] at hAk
    have hW := inWhole_any a0 n0 c0 G _ n1 n1 ss (d + 1) w2 G2 R2 (by omega)
    rw [show ((d + 1 : Nat) : Int) = (d : Int) + 1 by omega, h3] at hW
    clear e1 e2 h3
    have hlt' : (d : Int) < (n1 : Int) - 1 := by omega
    have hlk : (d : Int) < (k : Int) - 1 := by omega
    refine hA.mono ?_
    clear hA
    rintro e w' ⟨rfl, rfl⟩
    go_wp2_with (first
      | (go_at_call 8; refine hAk.mono ?_; rintro e w' ⟨rfl, rfl⟩)
      | (go_at_call 9; refine hW.mono ?_; rintro e w' ⟨rfl, m', rfl⟩))
    go_ret
    exact ⟨rfl, below_drewN hb02 _⟩
  · rw [e1] at hA
    rw [e2] at hAk
    have hW := inWhole_any a0 n0 c0 G _ n1 n1 ss (d + 1) w2 G2 R2 (by omega)
    rw [show ((d + 1 : Nat) : Int) = (d : Int) + 1 by omega, h3] at hW
    clear e1 e2 h3
    have hlt' : (d : Int) < (n1 : Int) - 1 := by omega
    have hlk : (k : Int) - 1 ≤ (d : Int) := by omega
    refine hA.mono ?_
    clear hA
    rintro e w' ⟨rfl, rfl⟩
    go_wp2_with (first
      | (go_at_call 8; refine hAk.mono ?_; rintro e w' ⟨rfl, rfl⟩)
      | (go_at_call 9; refine hW.mono ?_; rintro e w' ⟨rfl, m', rfl⟩))
    go_ret
    exact ⟨rfl, below_drewN hb02 _⟩

end Go.Proofs.Qxb6628743a
