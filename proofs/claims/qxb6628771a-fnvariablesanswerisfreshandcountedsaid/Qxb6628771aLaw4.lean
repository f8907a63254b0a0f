/- Seat b6628771a: FnVariablesAnswerIsFreshAndCounted walked. -/
import Derived.Test.Qxb6628771aLaw3
namespace Go.Proofs.Qxb6628771a
open Go.RowKit
set_option linter.unusedVariables false

set_option maxHeartbeats 400000 in
set_option maxRecDepth 4000 in
theorem law4_out (raw : ByteArray) (a0 : Option Addr) (n0 c0 : Nat) (G : List (List ByteArray)) (a1 : Option Addr) (n1 c1 : Nat) (w : World) (h0 : Grid w a0 n0 G) (hm1 : n1 ≤ 9223372036854775807)
    (h : 1048576 < raw.size ∨ 65536 < n0 ∨ 65536 < n1) :
    Calls Try.prog 4 #[.string raw, .slice a0 n0 c0, .slice a1 n1 c1] w fun e w' => e = .returned (.bool true) ∧ Below w.heap.size w w' := by
  have hm0 := h0.2.1
  go_enter Try.func4, Try.ntmps4
  go_wp2_with (go_at_call 11; refine (bytes11 _ _ _ _ _ _ _ _ _ h0 hm1).mono ?_; rintro e w' ⟨b, rfl, rfl⟩)
  all_goals
    go_ret
    exact ⟨rfl, Below.refl _ _⟩

set_option maxRecDepth 4000 in
theorem law4_odd (raw : ByteArray) (a0 : Option Addr) (n0 c0 : Nat) (G : List (List ByteArray)) (a1 : Option Addr) (n1 c1 : Nat) (w : World) (h0 : Grid w a0 n0 G) (hr : raw.size ≤ 1048576) (hm0 : n0 ≤ 65536) (hm1 : n1 ≤ 65536) (h : ¬ n1 = n0) :
    Calls Try.prog 4 #[.string raw, .slice a0 n0 c0, .slice a1 n1 c1] w fun e w' => e = .returned (.bool true) ∧ Below w.heap.size w w' := by
  have hz0 : decide (1048576 < (raw.size : Int)) = false := decide_eq_false (by omega)
  have hz1 : decide (65536 < (n0 : Int)) = false := decide_eq_false (by omega)
  have hz2 : decide (65536 < (n1 : Int)) = false := decide_eq_false (by omega)
  have hne : ((n1 : Int) != (n0 : Int)) = true := by simp; omega
  go_enter Try.func4, Try.ntmps4
  go_wp2_with (first
    | (go_at_call 11; refine (bytes11 _ _ _ _ _ _ _ _ _ h0 (by omega)).mono ?_; rintro e w' ⟨b, rfl, rfl⟩)
    | (go_at_call 6; refine (sizeOK _ _ _ _ _ _ _ _ _ h0 hr hm0 hm1).mono ?_; rintro e w' ⟨b, rfl, rfl, _⟩))
  all_goals
    go_ret
    exact ⟨rfl, Below.refl _ _⟩

/-- Variables, its answer as a row of the call's own. -/
theorem vars_own (b : Nat) (Ps : List (List ByteArray × Int)) (w : World) (M : Nat) (hT : Tmpl w b Ps) (hM : (varsOf Ps).length = M) (hN : M ≤ 65536) :
    Calls Try.prog 10 #[.pointer (some ⟨b, 0, none⟩)] w fun e w' => ∃ a c, e = .returned (.slice a M c) ∧ w'.ownsRow w.heap.size 34 2 (.slice a M c) M (vcells (varsOf Ps)) ∧ Below w.heap.size w w' := by
  subst hM
  refine (vars_any b Ps w hT hN).mono ?_
  rintro e w' ⟨a, c, rfl, h1, h2⟩
  exact ⟨a, c, rfl, h1, h2⟩

theorem own_form {w : World} {base n c : Nat} {a : Option Addr} {xs : List Value} (h : w.ownsRow base 34 2 (.slice a n c) n xs) (hn : 0 < n) : ∃ g, a = some ⟨g, 0, none⟩ ∧ base ≤ g ∧ g < w.heap.size := by
  rcases h.2 with ⟨_, h0⟩ | ⟨g, cap', cur, e, hb, hh, _⟩
  · omega
  · simp only [Value.slice.injEq, true_and] at e
    exact ⟨g, e.1, hb, (Array.getElem?_eq_some_iff.1 hh).1⟩

theorem own_below {w w' : World} {base n : Nat} {v : Value} {xs : List Value} (h : w.ownsRow base 34 2 v n xs) (hb : Below w.heap.size w w') : w'.ownsRow base 34 2 v n xs := by
  obtain ⟨h1, h2⟩ := h
  refine ⟨h1, ?_⟩
  rcases h2 with h2 | ⟨g, cap, cur, hv, hg, hh, r⟩
  · exact .inl h2
  · exact .inr ⟨g, cap, cur, hv, hg, by rw [hb.block g (Array.getElem?_eq_some_iff.1 hh).1]; exact hh, r⟩

theorem shorts_vars {G : List (List ByteArray)} {zs : List Int} (h : Shorts G) {i : Nat} {v : ByteArray × Int} (hv : (varsOf (G.zip zs))[i]? = some v) : v.1.size ≤ 1048576 := by
  have hm := List.mem_of_getElem? hv
  obtain ⟨p, hp, hq⟩ := List.mem_flatMap.1 hm
  obtain ⟨s, hs, rfl⟩ := List.mem_map.1 hq
  obtain ⟨g, z⟩ := p
  exact h g (List.of_mem_zip hp).1 s hs

/-- Behind the first k elements the row still reads as it did. -/
def Tail (V : List (ByteArray × Int)) (k : Nat) (xs : List Value) : Prop := ∀ j, k * 2 ≤ j → xs[j]? = (vcells V)[j]?
theorem Tail.at {V : List (ByteArray × Int)} {k : Nat} {xs : List Value} (h : Tail V k xs) {v : ByteArray × Int} (hv : V[k]? = some v) : xs[k * 2]? = some (.string v.1) ∧ xs[k * 2 + 1]? = some (.int .i64 v.2) := by
  obtain ⟨h1, h2⟩ := vcells_at V k v hv
  exact ⟨(h _ (Nat.le_refl _)).trans h1, (h _ (by omega)).trans h2⟩
theorem Tail.step {V : List (ByteArray × Int)} {k : Nat} {xs : List Value} (h : Tail V k xs) (u v : Value) : Tail V (k + 1) ((xs.set (k * 2) u).set (k * 2 + 1) v) := fun j hj => by
  rw [List.getElem?_set_ne (by omega), List.getElem?_set_ne (by omega)]
  exact h j (by omega)

def nameCells (V : List (ByteArray × Int)) : List Value := V.map fun v => .string v.1
def compCells (V : List (ByteArray × Int)) : List Value := V.map fun v => .int .i64 v.2

set_option maxHeartbeats 2000000 in
set_option maxRecDepth 4000 in
theorem law4_main (raw : ByteArray) (a0 : Option Addr) (n c0 : Nat) (G : List (List ByteArray)) (a1 : Option Addr) (c1 : Nat) (zs : List Int) (w : World) (h0 : Grid w a0 n G) (h1 : IntRow w a1 n zs) (e0 : a0 = none → n = 0 ∧ c0 = 0) (e1 : a1 = none → n = 0 ∧ c1 = 0)
    (hr : raw.size ≤ 1048576) (hm : n ≤ 65536) :
    Calls Try.prog 4 #[.string raw, .slice a0 n c0, .slice a1 n c1] w fun e w' => e = .returned (.bool true) ∧ Below w.heap.size w w' := by
  have hz0 : decide (1048576 < (raw.size : Int)) = false := decide_eq_false (by omega)
  have hz1 : decide (65536 < (n : Int)) = false := decide_eq_false (by omega)
  go_enter Try.func4, Try.ntmps4
  go_wp2_with (go_at_call 11; refine (bytes11 _ _ _ _ _ _ _ _ _ h0 (by omega)).mono ?_; rintro e w' ⟨b, rfl, rfl⟩)
  · go_ret
    exact ⟨rfl, Below.refl _ _⟩
  refine (sizeOK _ _ _ _ _ _ _ _ _ h0 hr hm hm).mono ?_
  rintro e w' ⟨b, rfl, rfl, hsm⟩
  cases b with
  | false =>
    go_wp2
    go_ret
    exact ⟨rfl, Below.refl _ _⟩
  | true =>
    obtain ⟨hcnt, hsh⟩ := hsm rfl
    clear hsm
    have HCnt : Hid (count G ≤ 65536) := hcnt
    clear hcnt
    go_wp2_with (go_at_call 7; refine (copyVars _ _ _ _ _ h0 (by omega) (lens_of_count HCnt.out) e0).mono ?_; rintro e w2 ⟨a2, c2, rfl, hc2, G2, hb2⟩)
    refine (copyInts _ _ _ _ _ (h1.below hb2) (by omega) e1).mono ?_
    rintro e w3 ⟨a3, c3, rfl, hc3, Z3, hb3⟩
    have G3 := G2.below hb3
    have hb03 : Below w.heap.size w w3 := hb2.trans (hb3.mono hb2.size)
    clear G2 hb2 hb3 h0 h1 e0 e1 hz0 hz1
    obtain ⟨N, HN⟩ : ∃ N, Hid ((varsOf (G.zip zs)).length = N) := ⟨_, rfl⟩
    have HNc : Hid (count G = N) := by
      have := HN.out
      rw [length_vars_zip G zs (by rw [G3.1, Z3.1])] at this
      exact this
    have hN : N ≤ 65536 := by rw [← HNc.out]; exact HCnt.out
    go_wp2
    go_loop [7, 8] (fun z i => ∃ (k q : Nat), k ≤ n ∧ q ≤ N ∧ i = .int .i64 k ∧ z = .int .i64 q ∧ Hid (q = count (G.take k))) (fun _ i => n - (intOf i).toNat)
    case atStart => exact ⟨0, 0, Nat.zero_le _, Nat.zero_le _, rfl, rfl, rfl⟩
    case round =>
      obtain ⟨k, q, hk, hq, rfl, rfl, HQ⟩ := hrel
      by_cases hlt : k < n
      · obtain ⟨b2, off2, ai, ni, ci, gi, rfl, HG, hcg, hrow⟩ := G3.at k hlt
        have hmi := hrow.2.1
        have hqn : q + ni ≤ N := by
          have h1 := count_take HG.out
          rw [← HQ.out, hrow.1] at h1
          rw [← h1, ← HNc.out]
          have e : count G = count (G.take (k + 1)) + count (G.drop (k + 1)) := by
            unfold count
            rw [← List.sum_append, ← List.map_append, List.take_append_drop]
          omega
        go_wp2
        go_round
        case rel => exact ⟨k + 1, q + ni, by omega, hqn, by go_num, by go_num, by show _ = _; rw [count_take HG.out, ← HQ.out, hrow.1]⟩
        case measure => simp [intOf]; omega
      · obtain rfl : q = N := by
          rw [HQ.out, ← HNc.out, List.take_of_length_le (by rw [G3.1]; omega)]
        have hmk1 := mk31 q (by omega)
        have hmk2 := mk35 q (by omega)
        go_wp2_with (go_at_call 9; refine (tmpl_any _ _ _ _ _ _ _ _ _ G3 Z3 hm).mono ?_; rintro e w5 ⟨tb, rfl, hT, hb5⟩)
        refine (vars_own _ _ _ q hT HN.out hN).mono ?_
        rintro e w6 ⟨aw, cw, rfl, hO, hb6⟩
        have hb05 : Below w.heap.size w w5 := hb03.trans (hb5.mono hb03.size)
        clear hb5 hb03 G3 Z3
        obtain ⟨V, HV⟩ : ∃ V, Hid (varsOf (G.zip zs) = V) := ⟨_, rfl⟩
        have HLV : Hid (V.length = q) := by have := HN.out; rw [HV.out] at this; exact this
        have HSV : Hid (∀ (i : Nat) (v : ByteArray × Int), V[i]? = some v → v.1.size ≤ 1048576) := fun i v hv => shorts_vars (zs := zs) hsh (by rw [HV.out]; exact hv)
        have HT2 : Hid (∀ wx, Below w5.heap.size w5 wx → Tmpl wx tb (G.zip zs)) := fun wx hx => hT.below hx
        rw [HV.out] at hO
        have hVR := VRow.of_own hO HLV.out
        have hs56 := hb6.size
        clear hT hsh
        go_wp2
        go_loopw [13] (fun i wr => ∃ k2 : Nat, k2 ≤ q ∧ i = .int .i64 k2 ∧ VBlk wr w6.heap.size 9 (part (.string ByteArray.empty) (nameCells V) k2) ∧ VBlk wr (w6.heap.size + 1) 32 (part (.int .i64 0) (compCells V) k2) ∧ Below w6.heap.size w6 wr) (fun i _ => q - (intOf i).toNat)
        case atStart =>
          refine ⟨0, Nat.zero_le _, rfl, ?_, ?_, ((Below.refl _ _).alloc (Nat.le_refl _) _).alloc (by simp) _⟩
          · rw [part_zero, nameCells, List.length_map, HLV.out]
            exact (VBlk.made w6 _ q 9).below ((Below.refl _ _).alloc (Nat.le_refl _) _) (VBlk.made w6 _ q 9).lt
          · rw [part_zero, compCells, List.length_map, HLV.out]
            have := VBlk.made (w6.alloc (.cells (madeCells #[Value.string ByteArray.empty] q) 9)) (.int .i64 0) q 32
            simpa using this
        case round =>
          obtain ⟨k2, hk2, rfl, hBn, hBc, hn6⟩ := hrel
          by_cases hl2 : k2 < q
          · obtain ⟨⟨t, z⟩, HX⟩ : ∃ v, Hid (V[k2]? = some v) := ⟨_, List.getElem?_eq_getElem (by rw [HLV.out]; exact hl2)⟩
            obtain ⟨g, rfl, f1, f2⟩ := (hVR.below hn6).at k2 (t, z) HX.out
            simp only at f1 f2
            have hcn := hBn.cell (part_at _ _ k2 (by rw [nameCells, List.length_map, HLV.out]; exact hl2))
            have hfn := hBn.free k2
            have hcc := hBc.cell (part_at _ _ k2 (by rw [compCells, List.length_map, HLV.out]; exact hl2))
            have hfc := hBc.free k2
            have hik : (k2 : Int) < (q : Int) := by omega
            have hgl : g < w6.heap.size := by
              obtain ⟨g', e, _, hlt'⟩ := own_form hO (by omega)
              cases e
              exact hlt'
            go_wp2
            go_roundw
            case rel =>
              refine ⟨k2 + 1, by omega, by go_num, ?_, ?_, (hn6.setCell (Nat.le_refl _) _).setCell (Nat.le_succ _) _⟩
              · rw [← part_set _ _ k2 (.string t) (by rw [nameCells, List.getElem?_map, HX.out]; rfl)]
                exact (hBn.store k2 _).other (by simp) _
              · rw [← part_set _ _ k2 (.int .i64 z) (by rw [compCells, List.getElem?_map, HX.out]; rfl)]
                exact (hBc.other (by simp) _).store k2 _
            case measure => simp [intOf]; omega
          · have hBn' : VBlk wr w6.heap.size 9 (nameCells V) := by
              obtain rfl : k2 = q := by omega
              rw [show k2 = (nameCells V).length by rw [nameCells, List.length_map, HLV.out], part_all] at hBn
              exact hBn
            have hBc' : VBlk wr (w6.heap.size + 1) 32 (compCells V) := by
              obtain rfl : k2 = q := by omega
              rw [show k2 = (compCells V).length by rw [compCells, List.length_map, HLV.out], part_all] at hBc
              exact hBc
            have hO2 := own_below hO hn6
            have hn5 : Below w5.heap.size w5 wr := hb6.trans (hn6.mono hs56)
            clear hBn hBc hVR
            go_wp2
            go_loopw [14] (fun i wx => ∃ (k3 : Nat) (xs : List Value), k3 ≤ q ∧ i = .int .i64 k3 ∧ wx.ownsRow w5.heap.size 34 2 (.slice aw q cw) q xs ∧ Tail V k3 xs ∧ VBlk wx w6.heap.size 9 (nameCells V) ∧ VBlk wx (w6.heap.size + 1) 32 (compCells V) ∧ Below w5.heap.size w5 wx) (fun i _ => q - (intOf i).toNat)
            case atStart => exact ⟨0, _, Nat.zero_le _, rfl, hO2, fun j _ => rfl, hBn', hBc', hn5⟩
            case round =>
              obtain ⟨k3, xs, hk3, rfl, hO3, hTl, hBn3, hBc3, hn3⟩ := hrel
              by_cases hl3 : k3 < q
              · obtain ⟨⟨t, z⟩, HX⟩ : ∃ v, Hid (V[k3]? = some v) := ⟨_, List.getElem?_eq_getElem (by rw [HLV.out]; exact hl3)⟩
                obtain ⟨g, rfl, hgb, hgl⟩ := own_form hO (by omega)
                obtain ⟨x1, x2⟩ := hTl.at HX.out
                have f1 : wr.cell? ⟨g, k3 * 2, none⟩ = some (.string t) := by rw [hO3.cellAt (k3 * 2) (by omega)]; exact x1
                have f2 : wr.cell? ⟨g, k3 * 2 + 1, none⟩ = some (.int .i64 z) := by rw [hO3.cellAt (k3 * 2 + 1) (by omega)]; exact x2
                have r1 := hO3.frozenAt (k3 * 2)
                have r2 := hO3.frozenAt (k3 * 2 + 1)
                have hik : (k3 : Int) < (q : Int) := by omega
                have hts : t.size ≤ 1048576 := HSV.out k3 (t, z) HX.out
                clear x1 x2
                go_wp2
                go_roundw
                case rel =>
                  refine ⟨k3 + 1, _, by omega, by go_num, ((hO3.stored (k3 * 2) _).1.stored (k3 * 2 + 1) _).1, hTl.step _ _, (hBn3.other ?_ _).other ?_ _, (hBc3.other ?_ _).other ?_ _, (hn3.setCell hgb _).setCell hgb _⟩
                  all_goals
                    show _ ≠ g
                    omega
                case measure => simp [intOf]; omega
              · have hT3 := HT2.out _ hn3
                go_wp2_with (go_at_call 10; refine (vars_row _ _ _ q hT3 HN.out hN).mono ?_; rintro e w10 ⟨ab, cb, rfl, hVb, hb10⟩)
                rw [HV.out] at hVb
                have hBn10 := hBn3.below hb10 hBn3.lt
                have hBc10 := hBc3.below hb10 hBc3.lt
                have hn10 : Below w.heap.size w w10 := (hb05.trans (hn3.mono hb05.size)).trans (hb10.mono (hb05.trans (hn3.mono hb05.size)).size)
                clear hT3 hO3 hTl hBn3 hBc3 hBn' hBc' hO hO2 hb10
                go_loopw [18] (fun i wx => ∃ k4 m : Nat, k4 ≤ q ∧ i = .int .i64 k4 ∧ wx = w10.drewN m) (fun i _ => q - (intOf i).toNat)
                case atStart => exact ⟨0, 0, Nat.zero_le _, rfl, rfl⟩
                case round =>
                  obtain ⟨k4, m, hk4, rfl, rfl⟩ := hrel
                  by_cases hl4 : k4 < q
                  · obtain ⟨⟨t, z⟩, HX⟩ : ∃ v, Hid (V[k4]? = some v) := ⟨_, List.getElem?_eq_getElem (by rw [HLV.out]; exact hl4)⟩
                    obtain ⟨g, rfl, f1, f2⟩ := hVb.at k4 (t, z) HX.out
                    simp only at f1 f2
                    have f3 := hBn10.cell (j := k4) (v := .string t) (by rw [nameCells, List.getElem?_map, HX.out]; rfl)
                    have f4 := hBc10.cell (j := k4) (v := .int .i64 z) (by rw [compCells, List.getElem?_map, HX.out]; rfl)
                    have hik : (k4 : Int) < (q : Int) := by omega
                    go_wp2
                    go_quiet (fail)
                    go_wp2
                    go_roundw
                    case rel => exact ⟨k4 + 1, _, by omega, by go_num, rfl⟩
                    case measure => simp [intOf]; omega
                  · go_wp2
                    go_ret
                    exact ⟨rfl, below_drewN hn10 _⟩

end Go.Proofs.Qxb6628771a
