/- Seat b6628771a: FnVariablesIsConcatenationOfParts walked. -/
import Derived.Test.Qxb6628771aVars
import Derived.Deep.RegionWith
namespace Go.Proofs.Qxb6628771a
open Go.RowKit
set_option linter.unusedVariables false

/-- The variables vs can be read through a slice at a. -/
def VRow (w : World) (a : Option Addr) (vs : List (ByteArray × Int)) : Prop := vs.length = 0 ∨ ∃ g, a = some ⟨g, 0, none⟩ ∧ ∀ j u, (vcells vs)[j]? = some u → w.cell? ⟨g, j, none⟩ = some u

theorem vcells_at (vs : List (ByteArray × Int)) (i : Nat) (v : ByteArray × Int) (h : vs[i]? = some v) : (vcells vs)[i * 2]? = some (.string v.1) ∧ (vcells vs)[i * 2 + 1]? = some (.int .i64 v.2) := by
  induction vs generalizing i with
  | nil => simp at h
  | cons x xs ih =>
    cases i with
    | zero =>
      obtain rfl : x = v := by simpa using h
      exact ⟨rfl, rfl⟩
    | succ i =>
      have := ih i (by simpa using h)
      have e : vcells (x :: xs) = .string x.1 :: .int .i64 x.2 :: vcells xs := rfl
      rw [e, show (i + 1) * 2 = i * 2 + 2 by omega]
      exact this
theorem VRow.at {w : World} {a : Option Addr} {vs : List (ByteArray × Int)} (h : VRow w a vs) (i : Nat) (v : ByteArray × Int) (hv : vs[i]? = some v) :
    ∃ g, a = some ⟨g, 0, none⟩ ∧ w.cell? ⟨g, i * 2, none⟩ = some (.string v.1) ∧ w.cell? ⟨g, i * 2 + 1, none⟩ = some (.int .i64 v.2) := by
  rcases h with h | ⟨g, e, h⟩
  · have := (List.getElem?_eq_some_iff.1 hv).1
    omega
  · obtain ⟨h1, h2⟩ := vcells_at vs i v hv
    exact ⟨g, e, h _ _ h1, h _ _ h2⟩
theorem VRow.below {w w' : World} {a : Option Addr} {vs : List (ByteArray × Int)} (h : VRow w a vs) (hb : Below w.heap.size w w') : VRow w' a vs := by
  rcases h with h | ⟨g, e, h⟩
  · exact .inl h
  · exact .inr ⟨g, e, fun j u hu => by rw [hb.cell (World.block_lt_of_cell? w _ (h j u hu))]; exact h j u hu⟩
theorem VRow.of_own {w : World} {base n c : Nat} {a : Option Addr} {vs : List (ByteArray × Int)} (h : w.ownsRow base 34 2 (.slice a n c) n (vcells vs)) (hn : vs.length = n) : VRow w a vs := by
  rcases h.2 with ⟨_, h0⟩ | ⟨g, cap', cur, e, _⟩
  · exact .inl (hn.trans h0)
  · simp only [Value.slice.injEq, true_and] at e
    obtain ⟨rfl, rfl⟩ := e
    refine .inr ⟨g, rfl, fun j u hu => ?_⟩
    have hj : j < n * 2 := by
      have := (List.getElem?_eq_some_iff.1 hu).1
      rw [length_vcells, hn] at this
      exact this
    rw [h.cellAt j hj, hu]

/-- Variables, its answer as a row that can be read. -/
theorem vars_row (b : Nat) (Ps : List (List ByteArray × Int)) (w : World) (M : Nat) (hT : Tmpl w b Ps) (hM : (varsOf Ps).length = M) (hN : M ≤ 65536) :
    Calls Try.prog 10 #[.pointer (some ⟨b, 0, none⟩)] w fun e w' => ∃ a c, e = .returned (.slice a M c) ∧ VRow w' a (varsOf Ps) ∧ Below w.heap.size w w' := by
  subst hM
  refine (vars_any b Ps w hT hN).mono ?_
  rintro e w' ⟨a, c, rfl, h1, h2⟩
  exact ⟨a, c, rfl, VRow.of_own h1 rfl, h2⟩

theorem length_vars_zip (G : List (List ByteArray)) (zs : List Int) (h : G.length = zs.length) : (varsOf (G.zip zs)).length = count G := by
  induction G generalizing zs with
  | nil => rfl
  | cons g G ih =>
    match zs, h with
    | z :: zs, h =>
      have e : varsOf ((g :: G).zip (z :: zs)) = occ (g, z) ++ varsOf (G.zip zs) := rfl
      rw [e, List.length_append, length_occ, ih zs (by simpa using h)]
      simp [count]
theorem length_le_count (G : List (List ByteArray)) (g : List ByteArray) (hg : g ∈ G) : g.length ≤ count G := by
  induction G with
  | nil => cases hg
  | cons x G ih =>
    have e : count (x :: G) = x.length + count G := by simp [count]
    rcases List.mem_cons.1 hg with rfl | hg
    · omega
    · have := ih hg
      omega
theorem lens_of_count {G : List (List ByteArray)} (h : count G ≤ 65536) : Lens G := by
  intro g hg
  have := length_le_count G g hg
  omega
theorem varsOf_at {Ps : List (List ByteArray × Int)} {k l : Nat} {p : List ByteArray × Int} {t : ByteArray} (hp : Ps[k]? = some p) (ht : p.1[l]? = some t) : (varsOf Ps)[(varsOf (Ps.take k)).length + l]? = some (t, p.2) := by
  have hk : k < Ps.length := (List.getElem?_eq_some_iff.1 hp).1
  have e : varsOf Ps = varsOf (Ps.take k) ++ (occ p ++ varsOf (Ps.drop (k + 1))) := by
    have : Ps = Ps.take k ++ (p :: Ps.drop (k + 1)) := by
      obtain ⟨_, rfl⟩ := List.getElem?_eq_some_iff.1 hp
      rw [List.getElem_cons_drop, List.take_append_drop]
    rw [show varsOf Ps = varsOf (Ps.take k ++ (p :: Ps.drop (k + 1))) by rw [← this]]
    unfold varsOf
    rw [List.flatMap_append, List.flatMap_cons]
  have hl : l < p.1.length := (List.getElem?_eq_some_iff.1 ht).1
  rw [e, List.getElem?_append_right (by omega), show (varsOf (Ps.take k)).length + l - (varsOf (Ps.take k)).length = l by omega, List.getElem?_append_left (by rw [length_occ]; exact hl)]
  simp [occ, ht]
theorem occ_at {p : List ByteArray × Int} {l : Nat} {t : ByteArray} (ht : p.1[l]? = some t) : (varsOf [p])[l]? = some (t, p.2) := by simp [varsOf, occ, ht]
theorem varsOf_one (p : List ByteArray × Int) : (varsOf [p]).length = p.1.length := by simp [varsOf, occ]

set_option maxHeartbeats 400000 in
theorem law3_out (raw : ByteArray) (a0 : Option Addr) (n0 c0 : Nat) (G : List (List ByteArray)) (a1 : Option Addr) (n1 c1 : Nat) (w : World) (h0 : Grid w a0 n0 G) (hm1 : n1 ≤ 9223372036854775807)
    (h : 1048576 < raw.size ∨ 65536 < n0 ∨ 65536 < n1) :
    Calls Try.prog 3 #[.string raw, .slice a0 n0 c0, .slice a1 n1 c1] w fun e w' => e = .returned (.bool true) ∧ Below w.heap.size w w' := by
  have hm0 := h0.2.1
  go_enter Try.func3, Try.ntmps3
  go_wp2_with (go_at_call 5; refine (bytes5 _ _ _ _ _ _ _ _ _ h0 hm1).mono ?_; rintro e w' ⟨b, rfl, rfl⟩)
  all_goals
    go_ret
    exact ⟨rfl, Below.refl _ _⟩

theorem law3_odd (raw : ByteArray) (a0 : Option Addr) (n0 c0 : Nat) (G : List (List ByteArray)) (a1 : Option Addr) (n1 c1 : Nat) (w : World) (h0 : Grid w a0 n0 G) (hr : raw.size ≤ 1048576) (hm0 : n0 ≤ 65536) (hm1 : n1 ≤ 65536) (h : ¬ n1 = n0) :
    Calls Try.prog 3 #[.string raw, .slice a0 n0 c0, .slice a1 n1 c1] w fun e w' => e = .returned (.bool true) ∧ Below w.heap.size w w' := by
  have hz0 : decide (1048576 < (raw.size : Int)) = false := decide_eq_false (by omega)
  have hz1 : decide (65536 < (n0 : Int)) = false := decide_eq_false (by omega)
  have hz2 : decide (65536 < (n1 : Int)) = false := decide_eq_false (by omega)
  have hne : ((n1 : Int) != (n0 : Int)) = true := by simp; omega
  go_enter Try.func3, Try.ntmps3
  go_wp2_with (first
    | (go_at_call 5; refine (bytes5 _ _ _ _ _ _ _ _ _ h0 (by omega)).mono ?_; rintro e w' ⟨b, rfl, rfl⟩)
    | (go_at_call 6; refine (sizeOK _ _ _ _ _ _ _ _ _ h0 hr hm0 hm1).mono ?_; rintro e w' ⟨b, rfl, rfl, _⟩))
  all_goals
    go_ret
    exact ⟨rfl, Below.refl _ _⟩

theorem Grid.one {w : World} {b off n : Nat} {G : List (List ByteArray)} {i : Nat} {g : List ByteArray} (h : Grid w (some ⟨b, off, none⟩) n G) (hg : G[i]? = some g) : Grid w (some ⟨b, off + i, none⟩) 1 [g] := by
  have hi : i < G.length := (List.getElem?_eq_some_iff.1 hg).1
  obtain ⟨hl, hm, h0 | ⟨b', off', e, hc⟩⟩ := h
  · omega
  · cases e
    refine ⟨rfl, by omega, .inr ⟨b, off + i, rfl, fun j hj => ?_⟩⟩
    obtain rfl : j = 0 := by simpa using hj
    have := hc i hi
    rw [hg] at this
    exact this
theorem IntRow.one {w : World} {b off n : Nat} {zs : List Int} {i : Nat} {z : Int} (h : IntRow w (some ⟨b, off, none⟩) n zs) (hz : zs[i]? = some z) : IntRow w (some ⟨b, off + i, none⟩) 1 [z] := by
  have hi : i < zs.length := (List.getElem?_eq_some_iff.1 hz).1
  obtain ⟨hl, hm, h0 | ⟨b', off', e, hc⟩⟩ := h
  · omega
  · cases e
    refine ⟨rfl, by omega, .inr ⟨b, off + i, rfl, fun j hj => ?_⟩⟩
    obtain rfl : j = 0 := by simpa using hj
    have := hc i hi
    rw [hz] at this
    exact this

/-- The template of one part. -/
theorem tmpl_one (raw : ByteArray) (b0 off0 n c0 : Nat) (G : List (List ByteArray)) (b1 off1 c1 : Nat) (zs : List Int) (w : World) (i : Nat) (g : List ByteArray) (z : Int) (hG : Grid w (some ⟨b0, off0, none⟩) n G) (hZ : IntRow w (some ⟨b1, off1, none⟩) n zs) (hg : Hid (G[i]? = some g)) (hz : Hid (zs[i]? = some z)) :
    Calls Try.prog 9 #[.string raw, .slice (some ⟨b0, off0 + i, none⟩) 1 c0, .slice (some ⟨b1, off1 + i, none⟩) 1 c1] w fun e w' => TmplBack [(g, z)] w e w' :=
  tmpl_any raw _ 1 c0 [g] _ c1 [z] w (hG.one hg.out) (hZ.one hz.out) (by decide)

theorem cut22 (b off n c k : Nat) (hk : k < c) (w : World) : (Instr.slice 22 (.slice (some ⟨b, off, none⟩) n c) (some (.int .i64 (k : Int))) (some (.int .i64 ((k : Int) + 1))) none).run Try.prog w = .ok (.slice (some ⟨b, off + k, none⟩) 1 (c - k)) w := by
  have h1 : (k : Int) + 1 ≤ (c : Int) := by omega
  have h2 : ¬ c = k := by omega
  have h3 : ((k : Int) + 1).toNat = k + 1 := by omega
  rw [run_slice_lh w 22 _ n c (by kernel_rfl) .i64 .i64 k (k + 1) (by omega) (by omega) h1]
  have hs : (sizeOf (Try.prog.elem 22)).run Try.prog w = .ok 1 w := by kernel_rfl
  rw [hs, h3]
  simp [Result.andThen, sliced, h2, Addr.add_lit]

theorem cut23 (b off n c k : Nat) (hk : k < c) (w : World) : (Instr.slice 23 (.slice (some ⟨b, off, none⟩) n c) (some (.int .i64 (k : Int))) (some (.int .i64 ((k : Int) + 1))) none).run Try.prog w = .ok (.slice (some ⟨b, off + k, none⟩) 1 (c - k)) w := by
  have h1 : (k : Int) + 1 ≤ (c : Int) := by omega
  have h2 : ¬ c = k := by omega
  have h3 : ((k : Int) + 1).toNat = k + 1 := by omega
  rw [run_slice_lh w 23 _ n c (by kernel_rfl) .i64 .i64 k (k + 1) (by omega) (by omega) h1]
  have hs : (sizeOf (Try.prog.elem 23)).run Try.prog w = .ok 1 w := by kernel_rfl
  rw [hs, h3]
  simp [Result.andThen, sliced, h2, Addr.add_lit]

set_option maxHeartbeats 2000000 in
set_option maxRecDepth 4000 in
theorem law3_main (raw : ByteArray) (a0 : Option Addr) (n c0 : Nat) (G : List (List ByteArray)) (a1 : Option Addr) (c1 : Nat) (zs : List Int) (w : World) (h0 : Grid w a0 n G) (h1 : IntRow w a1 n zs) (e0 : a0 = none → n = 0 ∧ c0 = 0) (e1 : a1 = none → n = 0 ∧ c1 = 0)
    (hr : raw.size ≤ 1048576) (hm : n ≤ 65536) :
    Calls Try.prog 3 #[.string raw, .slice a0 n c0, .slice a1 n c1] w fun e w' => e = .returned (.bool true) ∧ Below w.heap.size w w' := by
  have hz0 : decide (1048576 < (raw.size : Int)) = false := decide_eq_false (by omega)
  have hz1 : decide (65536 < (n : Int)) = false := decide_eq_false (by omega)
  go_enter Try.func3, Try.ntmps3
  go_wp2_with (go_at_call 5; refine (bytes5 _ _ _ _ _ _ _ _ _ h0 (by omega)).mono ?_; rintro e w' ⟨b, rfl, rfl⟩)
  · go_ret
    exact ⟨rfl, Below.refl _ _⟩
  refine (sizeOK _ _ _ _ _ _ _ _ _ h0 hr hm hm).mono ?_
  rintro e w' ⟨b, rfl, rfl, hsm⟩
  cases b with
  | false =>
    go_wp2
    go_ret
    exact ⟨rfl, Below.refl _ _⟩
  | true =>
    obtain ⟨hcnt, hsh⟩ := hsm rfl
    clear hsm
    have HCnt : Hid (count G ≤ 65536) := hcnt
    clear hcnt
    go_wp2_with (go_at_call 7; refine (copyVars _ _ _ _ _ h0 (by omega) (lens_of_count HCnt.out) e0).mono ?_; rintro e w2 ⟨a2, c2, rfl, hc2, G2, hb2⟩)
    refine (copyInts _ _ _ _ _ (h1.below hb2) (by omega) e1).mono ?_
    rintro e w3 ⟨a3, c3, rfl, hc3, Z3, hb3⟩
    have G3 := G2.below hb3
    have hb03 : Below w.heap.size w w3 := hb2.trans (hb3.mono hb2.size)
    clear G2 hb2 hb3 h0 h1 e0 e1
    go_wp2_with fail
    refine (tmpl_any _ _ _ _ _ _ _ _ _ G3 Z3 hm).mono ?_
    rintro e w4 ⟨tb, rfl, hT, hb4⟩
    obtain ⟨N, HN⟩ : ∃ N, Hid ((varsOf (G.zip zs)).length = N) := ⟨_, rfl⟩
    have hN : N ≤ 65536 := by
      rw [← HN.out, length_vars_zip G zs (by rw [G3.1, Z3.1])]
      exact HCnt.out
    go_wp2_with fail
    refine (vars_row _ _ _ N hT HN.out hN).mono ?_
    rintro e w5 ⟨aw, cw, rfl, hV, hb5⟩
    have hb35 : Below w3.heap.size w3 w5 := hb4.trans (hb5.mono hb4.size)
    have G5 := G3.below hb35
    have Z5 := Z3.below hb35
    have hb05 : Below w.heap.size w w5 := hb03.trans (hb35.mono hb03.size)
    clear hT hb4 hb5 hb35 G3 Z3 hb03 hz0 hz1
    go_wp2
    go_loopw [8, 9] (fun z i wr => ∃ (k K : Nat), k ≤ n ∧ i = .int .i64 k ∧ z = .int .i64 K ∧ Hid (K = (varsOf ((G.zip zs).take k)).length) ∧ Below w5.heap.size w5 wr) (fun _ i _ => n - (intOf i).toNat)
    case atStart => exact ⟨0, 0, Nat.zero_le _, rfl, rfl, rfl, Below.refl _ _⟩
    case round =>
      obtain ⟨k, K, hk, rfl, rfl, HK, hbr⟩ := hrel
      by_cases hlt : k < n
      · obtain ⟨b2, off2, ai, ni, ci, gi, rfl, HG, hcg5, hrow⟩ := G5.at k hlt
        obtain ⟨b3, off3, z, rfl, HZ, hcz5⟩ := Z5.at k hlt
        have hcg : wr.cell? ⟨b2, off2 + k, none⟩ = some (.slice ai ni ci) := by rw [hbr.cell (World.block_lt_of_cell? w5 _ hcg5)]; exact hcg5
        have hcz : wr.cell? ⟨b3, off3 + k, none⟩ = some (.int .i64 z) := by rw [hbr.cell (World.block_lt_of_cell? w5 _ hcz5)]; exact hcz5
        clear hcg5 hcz5
        have GR := G5.below hbr.drew
        have ZR := Z5.below hbr.drew
        have hmi := hrow.2.1
        have HL1 : Hid ((varsOf [(gi, z)]).length = ni) := by show _ = _; rw [varsOf_one]; exact hrow.1
        have hni : ni ≤ 65536 := by
          rw [← hrow.1]
          exact Nat.le_trans (length_le_count G gi (List.mem_of_getElem? HG.out)) HCnt.out
        have hs2 := cut22 b2 off2 n c2 k (by omega)
        have hs3 := cut23 b3 off3 n c3 k (by omega)
        have hw2 : IntKind.i64.wrap ((k : Int) + 1) = (k : Int) + 1 := IntWalk.i64_in _ ⟨by omega, by omega⟩
        go_wp2
        go_region_with (first
          | (go_at_call 9; refine (tmpl_one raw b2 off2 n _ G b3 off3 _ zs _ k gi z GR ZR HG HZ).mono ?_; rintro e w6 ⟨tb6, rfl, hT6, hb6⟩)
          | (go_at_call 10; refine (vars_row _ [(gi, z)] _ ni (by assumption) HL1.out hni).mono ?_; rintro e w7 ⟨ao, co, rfl, hV7, hb7⟩))
        have hbr7 : Below wr.heap.size wr w7 := (show Below wr.heap.size wr w6 from ⟨hb6.os, hb6.tape, hb6.output, hb6.size, hb6.block⟩).trans (hb7.mono hb6.size)
        have hb57 : Below w5.heap.size w5 w7 := hbr.trans (hbr7.mono hbr.size)
        have hcg7 : w7.cell? ⟨b2, off2 + k, none⟩ = some (.slice ai ni ci) := by rw [hbr7.cell (World.block_lt_of_cell? wr _ hcg)]; exact hcg
        have hcz7 : w7.cell? ⟨b3, off3 + k, none⟩ = some (.int .i64 z) := by rw [hbr7.cell (World.block_lt_of_cell? wr _ hcz)]; exact hcz
        have hrow7 := hrow.below hb57
        have hVw := hV.below hb57
        have HP : Hid ((G.zip zs)[k]? = some (gi, z)) := by
          show _ = _
          rw [List.getElem?_zip_eq_some]
          exact ⟨HG.out, HZ.out⟩
        have hKN0 : K ≤ N := by rw [HK.out, ← HN.out]; exact length_varsOf_le _ _
        clear hcg hcz hs2 hs3 hw2 hb6 hb7 hT6 GR ZR
        go_wp2
        go_loopw [8, 11] (fun v j wj => ∃ l q m : Nat, l ≤ ni ∧ q ≤ N ∧ j = .int .i64 l ∧ v = .int .i64 q ∧ Hid (q = K + l) ∧ wj = w7.drewN m) (fun _ j _ => ni - (intOf j).toNat)
        case atStart => exact ⟨0, K, 0, Nat.zero_le _, hKN0, rfl, rfl, rfl, rfl⟩
        case round =>
          obtain ⟨l, q, m, hl, hqN, rfl, rfl, HQ, rfl⟩ := hrel
          by_cases hlj : l < ni
          · obtain ⟨bi, offi, t, rfl, HT, hct⟩ := hrow7.at l hlj
            obtain ⟨go, rfl, ho1, ho2⟩ := hV7.at l (t, z) (occ_at HT.out)
            have HX : Hid ((varsOf (G.zip zs))[q]? = some (t, z)) := by
              show _ = _
              rw [HQ.out, HK.out]
              exact varsOf_at HP.out HT.out
            obtain ⟨gw, rfl, hw1, hw2⟩ := hVw.at q (t, z) HX.out
            have hKl : q < N := by rw [← HN.out]; exact (List.getElem?_eq_some_iff.1 HX.out).1
            have hi1 : (l : Int) < (ni : Int) := by omega
            have hi2 : (k : Int) < (n : Int) := by omega
            simp only at ho1 ho2 hw1 hw2
            have hi3 : (q : Int) < (N : Int) := by omega
            have hd : decide ((N : Int) ≤ (q : Int)) = false := decide_eq_false (by omega)
            have hd' : decide (N ≤ q) = false := decide_eq_false (by omega)
            go_wp2
            go_quiet (fail)
            go_wp2
            go_quiet (fail)
            go_wp2
            go_roundw
            case rel => exact ⟨l + 1, q + 1, _, by omega, by omega, by go_num, by go_num, by have := HQ.out; show _ = _; omega, rfl⟩
            case measure => simp [intOf]; omega
          · go_wp2
            go_roundw
            case rel =>
              obtain rfl : l = ni := by omega
              refine ⟨k + 1, q, by omega, by go_num, rfl, ?_, below_drewN hb57 _⟩
              show _ = _
              rw [varsOf_take HP.out, List.length_append, length_occ, ← HK.out, HQ.out]
              have := hrow.1
              simp only
              omega
            case measure => simp [intOf]; omega
      · have hKN : K = N := by
          obtain rfl : k = n := by omega
          rw [HK.out, ← HN.out, List.take_of_length_le]
          rw [List.length_zip, G5.1, Z5.1]
          omega
        go_wp2
        go_ret
        exact ⟨by simp, hb05.trans (hbr.mono hb05.size)⟩

end Go.Proofs.Qxb6628771a
