/- Seat b6628743a: wholeAbove walked. -/
import Derived.Test.Qxb6628743aBuild
namespace Go.Proofs.Qxb6628743a
open Go.RowKit Go.ChangeMaps
set_option linter.unusedVariables false

/-- The least d below n with f d; -1 where there is none. -/
def top (f : Nat → Bool) (n : Nat) : Int := match (List.range n).find? f with | some d => d | none => -1

theorem top_none {f : Nat → Bool} {n : Nat} (h : ∀ d, d < n → f d = false) : top f n = -1 := by
  unfold top
  rw [List.find?_eq_none.2]
  intro d hd
  rw [h d (List.mem_range.1 hd)]
  decide
theorem top_some {f : Nat → Bool} {n d : Nat} (hd : d < n) (h : f d = true) (hn : ∀ e, e < d → f e = false) : top f n = d := by
  unfold top
  have : (List.range n).find? f = some d := by
    have e1 : List.range n = List.range d ++ (List.range (n - d)).map (d + ·) := by
      have := @List.range_add d (n - d)
      rwa [show d + (n - d) = n by omega] at this
    have e2 : (List.range (n - d)).map (d + ·) = d :: ((List.range (n - d - 1)).map (d + 1 + ·)) := by
      rw [show n - d = (n - d - 1) + 1 by omega, List.range_succ_eq_map]
      simp [Function.comp_def, Nat.add_comm, Nat.add_left_comm]
    rw [e1, List.find?_append, List.find?_eq_none.2, e2]
    · simp [h]
    · intro e he
      rw [hn e (List.mem_range.1 he)]
      decide
  rw [this]
theorem top_cases (f : Nat → Bool) (n : Nat) : (top f n = -1 ∧ ∀ d, d < n → f d = false) ∨ ∃ d : Nat, top f n = d ∧ d < n ∧ f d = true ∧ ∀ e, e < d → f e = false := by
  by_cases h : ∃ d, d < n ∧ f d = true
  · right
    obtain ⟨d, hd, hf⟩ := h
    induction d using Nat.strongRecOn with
    | _ d ih =>
      by_cases h2 : ∃ e, e < d ∧ f e = true
      · obtain ⟨e, he, hfe⟩ := h2
        exact ih e he (by omega) hfe
      · have hn : ∀ e, e < d → f e = false := fun e he => by
          cases hfe : f e
          · rfl
          · exact absurd ⟨e, he, hfe⟩ h2
        exact ⟨d, top_some hd hf hn, hd, hf, hn⟩
  · left
    have hn : ∀ d, d < n → f d = false := fun d hd => by
      cases hfe : f d
      · rfl
      · exact absurd ⟨d, hd, hfe⟩ h
    exact ⟨top_none hn, hn⟩

theorem ret_int {k : IntKind} {a b : Int} (h : a = b) : Ending.returned (.int k a) = .returned (.int k b) := by rw [h]

/-- No path of the first d is marked. -/
def Clear (f : Nat → Bool) (d : Nat) : Prop := ∀ e, e < d → f e = false

theorem look_none {B : Nat} {w : World} {N : List ByteArray → Option (Nat × Nat)} {Wh : List ByteArray → Bool} (h : Inv B w N Wh) {q : List ByteArray} {b m : Nat} (hq : Hid (N q = some (b, m))) (k : ByteArray)
    (hk : Hid (N (q ++ [k]) = none)) : w.cell? ⟨b, 1, none⟩ = some (.map (some m)) ∧ (Instr.lookup 35 (.map (some m)) (.string k) false).run Try.prog w = .ok (.pointer none) w := by
  obtain ⟨_, _, g3, es, clock, g4, g5⟩ := h.node q b m hq.out
  have := run_lookup g4 g5 k
  rw [hk.out] at this
  exact ⟨by rw [cell_of_row w b 1 _ 37 (0, 0) g3]; rfl, this⟩
theorem look_some {B : Nat} {w : World} {N : List ByteArray → Option (Nat × Nat)} {Wh : List ByteArray → Bool} (h : Inv B w N Wh) {q : List ByteArray} {b m : Nat} (hq : Hid (N q = some (b, m))) (k : ByteArray)
    {b' m' : Nat} (hk : Hid (N (q ++ [k]) = some (b', m'))) : w.cell? ⟨b, 1, none⟩ = some (.map (some m)) ∧ (Instr.lookup 35 (.map (some m)) (.string k) false).run Try.prog w = .ok (.pointer (some ⟨b', 0, none⟩)) w ∧
      w.cell? ⟨b', 0, none⟩ = some (.bool (Wh (q ++ [k]))) := by
  obtain ⟨_, _, g3, es, clock, g4, g5⟩ := h.node q b m hq.out
  have := run_lookup g4 g5 k
  rw [hk.out] at this
  obtain ⟨_, _, j3, _⟩ := h.node _ b' m' hk.out
  exact ⟨by rw [cell_of_row w b 1 _ 37 (0, 0) g3]; rfl, this, by rw [cell_of_row w b' 0 _ 37 (0, 0) j3]; rfl⟩

theorem clear_rest {B : Nat} {w : World} {N : List ByteArray → Option (Nat × Nat)} {Wh : List ByteArray → Bool} (h : Inv B w N Wh) (ss : List ByteArray) (d n : Nat) (hd : N (ss.take d) = none) (hc : Clear (fun d => Wh (ss.take (d + 1))) d) :
    top (fun d => Wh (ss.take (d + 1))) n = -1 := by
  refine top_none fun e he => ?_
  by_cases hed : e < d
  · exact hc e hed
  · show Wh (ss.take (e + 1)) = false
    cases hw : Wh (ss.take (e + 1))
    · rfl
    · exact absurd (h.none_on ss d hd (e + 1) (by omega)) (h.wh _ hw)

set_option maxHeartbeats 1000000 in
theorem above_any (v : Value) (a1 : Option Addr) (n1 c1 : Nat) (ss : List ByteArray) (w : World) (B : Nat) (N : List ByteArray → Option (Nat × Nat)) (Wh : List ByteArray → Bool) (hv : NodeIs (N []) v) (hI : Inv B w N Wh)
    (h1 : StrRow w a1 n1 ss) (hn : 1 ≤ n1) (hc1 : n1 ≤ c1) :
    Calls Try.prog 15 #[v, .slice a1 n1 c1] w fun e w' => e = .returned (.int .i64 (top (fun d => Wh (ss.take (d + 1))) (n1 - 1))) ∧ w = w' := by
  have hm1 := h1.2.1
  obtain ⟨pb, poff, _, rfl, _, _⟩ := h1.at 0 (by omega)
  go_enter Try.func15, Try.ntmps15
  go_wp2
  go_loop [0, 13] (fun s i => ∃ d : Nat, d ≤ n1 - 1 ∧ i = .int .i64 d ∧ NodeIs (N (ss.take d)) s ∧ Clear (fun d => Wh (ss.take (d + 1))) d) (fun _ i => n1 - (intOf i).toNat)
  case atStart => exact ⟨0, Nat.zero_le _, rfl, hv, fun e he => by omega⟩
  case round =>
    obtain ⟨d, hd, rfl, hs, hC⟩ := hrel
    by_cases hlt : d < n1 - 1
    · obtain ⟨_, _, t, e1, HT, hct⟩ := h1.at d (by omega)
      obtain ⟨rfl, rfl⟩ : pb = _ ∧ poff = _ := by simpa using e1
      clear e1
      have hlt' : (d : Int) < (n1 : Int) - 1 := by omega
      rcases hs with ⟨hN, rfl⟩ | ⟨b, m, hN, rfl⟩
      · have HN : Hid (N (ss.take d) = none) := hN
        clear hN
        go_wp2
        go_ret
        exact ⟨ret_int (clear_rest hI ss d _ HN.out hC).symm, rfl⟩
      · have HN : Hid (N (ss.take d) = some (b, m)) := hN
        clear hN
        have hnext : Hid (ss.take (d + 1) = ss.take d ++ [t]) := take_next HT.out
        cases hk : N (ss.take d ++ [t]) with
        | none =>
          have HK : Hid (N (ss.take d ++ [t]) = none) := hk
          clear hk
          obtain ⟨hcm, hlk⟩ := look_none hI HN t HK
          go_wp2
          go_round
          case rel =>
            refine ⟨d + 1, by omega, by go_num, .inl ⟨by rw [hnext.out]; exact HK, rfl⟩, fun e he => ?_⟩
            by_cases hed : e < d
            · exact hC e hed
            · obtain rfl : e = d := by omega
              show Wh (ss.take (e + 1)) = false
              rw [hnext.out]
              cases hw : Wh (ss.take e ++ [t])
              · rfl
              · exact absurd HK.out (hI.wh _ hw)
          case measure => simp [intOf]; omega
        | some bm =>
          obtain ⟨b', m'⟩ := bm
          have HK : Hid (N (ss.take d ++ [t]) = some (b', m')) := hk
          clear hk
          obtain ⟨hcm, hlk, hcw⟩ := look_some hI HN t HK
          cases hw : Wh (ss.take d ++ [t])
          · rw [hw] at hcw
            have HW : Hid (Wh (ss.take d ++ [t]) = false) := hw
            clear hw
            go_wp2
            go_round
            case rel =>
              refine ⟨d + 1, by omega, by go_num, .inr ⟨b', m', by rw [hnext.out]; exact HK, rfl⟩, fun e he => ?_⟩
              by_cases hed : e < d
              · exact hC e hed
              · obtain rfl : e = d := by omega
                show Wh (ss.take (e + 1)) = false
                rw [hnext.out]
                exact HW
            case measure => simp [intOf]; omega
          · rw [hw] at hcw
            have HW : Hid (Wh (ss.take d ++ [t]) = true) := hw
            clear hw
            go_wp2
            go_ret
            refine ⟨ret_int (top_some (f := fun d => Wh (ss.take (d + 1))) (by omega) ?_ hC).symm, rfl⟩
            show Wh (ss.take (d + 1)) = true
            rw [hnext.out]
            exact HW
    · go_wp2
      go_ret
      obtain rfl : d = n1 - 1 := by omega
      exact ⟨ret_int (top_none (fun e he => hC e he)).symm, rfl⟩

theorem above8 (v : Value) (a1 : Option Addr) (n1 c1 : Nat) (ss : List ByteArray) (w : World) (B : Nat) (N : List ByteArray → Option (Nat × Nat)) (Wh : List ByteArray → Bool) (hv : NodeIs (N []) v) (hI : Inv B w N Wh)
    (h1 : StrRow w a1 n1 ss) (hn : 1 ≤ n1) (hc1 : n1 ≤ c1) :
    Calls Try.prog 8 #[v, .slice a1 n1 c1] w fun e w' => e = .returned (.int .i64 (top (fun d => Wh (ss.take (d + 1))) (n1 - 1))) ∧ w = w' := by
  go_enter Try.func8, Try.ntmps8
  go_wp2_with (go_at_call 15; refine (above_any _ _ _ _ _ _ _ _ _ hv hI h1 hn hc1).mono ?_; rintro e w' ⟨rfl, rfl⟩)
  go_ret
  exact ⟨rfl, rfl⟩

end Go.Proofs.Qxb6628743a
