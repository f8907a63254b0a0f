/- The walks of seat b6628700a: each function that the two laws call, by a contract. -/
import Derived.Test.Qxb6628700aRows
import Derived.Test.Qxb6628700aPlain
import Derived.WalkKit
import Derived.WalkSpells
import Derived.Deep.QuietTactic
import Derived.BigQuiet
import Derived.WalkSmall
import Derived.Deep.OwnRows
import Derived.RegionTactic
import Derived.ChangeAlike
namespace Go.Proofs.Qxb6628700a
open Go.RowKit

/-- The cells from '⟨b, off⟩' on hold the words zs. -/
def Cells (w : World) (b off : Nat) (zs : List Int) : Prop := ∀ i, i < zs.length → w.cell? ⟨b, off + i, none⟩ = some (.int .u64 (zs[i]?.getD 0))
/-- A slice of words that can be read in w: 'n' elements, the numbers 'zs'. -/
def Row (w : World) (a : Option Addr) (n : Nat) (zs : List Int) : Prop :=
  zs.length = n ∧ (n = 0 ∨ ∃ b off, a = some ⟨b, off, none⟩ ∧ Cells w b off zs)

theorem Cells.at {w : World} {b off : Nat} {zs : List Int} (h : Cells w b off zs) (i : Nat) (hi : i < zs.length) :
    ∃ x, Hid (zs[i]?.getD 0 = x) ∧ w.cell? ⟨b, off + i, none⟩ = some (.int .u64 x) := ⟨_, rfl, h i hi⟩
theorem Row.drewN {w : World} {a : Option Addr} {n : Nat} {zs : List Int} (h : Row w a n zs) (m : Nat) : Row (w.drewN m) a n zs := h

theorem ret_bool {a b : Bool} (h : a = b) : Ending.returned (.bool a) = .returned (.bool b) := by rw [h]

set_option maxHeartbeats 400000 in
theorem anyNz_any (a : Option Addr) (n c : Nat) (zs : List Int) (w : World) (h : Row w a n zs) (hn : n ≤ 1048576) :
    Calls Try.prog 9 #[.slice a n c] w fun e w' => e = .returned (.bool (anyNz zs)) ∧ w = w' := by
  obtain ⟨hl, h0 | ⟨b, off, rfl, hc⟩⟩ := h
  · subst h0
    have e : zs = [] := List.eq_nil_of_length_eq_zero hl
    subst e
    go_enter Try.func9, Try.ntmps9
    go_wp2
    refine wp_loop_rounds 1 ?_
    rw [rounds_succ]
    go_wp2
    go_ret
    exact ⟨rfl, rfl⟩
  · go_enter Try.func9, Try.ntmps9
    go_wp2
    go_loop [3] (fun i => ∃ k : Nat, k ≤ n ∧ i = .int .i64 k ∧ Hid (anyNz (zs.take k) = false)) (fun i => n - (intOf i).toNat)
    case atStart => exact ⟨0, Nat.zero_le _, rfl, by simp [Hid, anyNz]⟩
    case round =>
      obtain ⟨k, hk, rfl, hz⟩ := hrel
      by_cases hlt : k < n
      · obtain ⟨x, HX, hcell⟩ := hc.at k (by omega)
        go_wp2
        · have ht : (x != 0) = true := by assumption
          go_ret
          exact ⟨ret_bool (anyNz_hit zs k (by omega) (by rw [HX.out]; exact ht)).symm, rfl⟩
        · have ht : (x != 0) = false := by assumption
          go_round
          case rel => exact ⟨k + 1, by omega, by go_num, by show _ = _; rw [anyNz_take_succ zs k (by omega), hz.out, HX.out, ht]; rfl⟩
          case measure => simp [intOf]; omega
      · go_wp2
        go_ret
        have e : zs.take k = zs := List.take_of_length_le (by omega)
        have hz' := hz.out
        rw [e] at hz'
        exact ⟨ret_bool hz'.symm, rfl⟩

theorem meets_zero (a0 : Option Addr) (n0 c0 : Nat) (a1 : Option Addr) (n1 c1 : Nat) (w : World) (hn : n0 = 0 ∨ n1 = 0) (h0 : n0 ≤ 1048576) (h1 : n1 ≤ 1048576) :
    Calls Try.prog 7 #[.slice a0 n0 c0, .slice a1 n1 c1] w fun e w' => e = .returned (.bool false) ∧ ∃ n, w' = w.drewN n := by
  go_enter Try.func7, Try.ntmps7
  go_wp2
  all_goals
    refine wp_loop_rounds 1 ?_
    rw [rounds_succ]
    go_wp2
    go_ret
    exact ⟨rfl, 0, rfl⟩

set_option maxHeartbeats 400000 in
theorem meets_some (b0 off0 n0 c0 : Nat) (z0 : List Int) (b1 off1 n1 c1 : Nat) (z1 : List Int) (w : World) (hl0 : z0.length = n0) (hl1 : z1.length = n1) (h0 : n0 ≤ 1048576) (h1 : n1 ≤ 1048576)
    (hc0 : Cells w b0 off0 z0) (hc1 : Cells w b1 off1 z1) :
    Calls Try.prog 7 #[.slice (some ⟨b0, off0, none⟩) n0 c0, .slice (some ⟨b1, off1, none⟩) n1 c1] w fun e w' => e = .returned (.bool (meets z0 z1)) ∧ ∃ n, w' = w.drewN n := by
  go_enter Try.func7, Try.ntmps7
  go_wp2
  all_goals
    go_loopw [11] (fun i wr => ∃ k m : Nat, k ≤ n0 ∧ k ≤ n1 ∧ i = .int .i64 k ∧ wr = w.drewN m ∧ Hid (meets (z0.take k) (z1.take k) = false)) (fun i _ => n0 - (intOf i).toNat)
    case atStart => exact ⟨0, 0, Nat.zero_le _, Nat.zero_le _, rfl, rfl, by simp [Hid, meets]⟩
    case round =>
      obtain ⟨k, m, hk0, hk1, rfl, rfl, hz⟩ := hrel
      by_cases hlt : k < n0 ∧ k < n1
      · obtain ⟨hlt0, hlt1⟩ := hlt
        obtain ⟨x, HX, hcx⟩ := hc0.at k (by omega)
        obtain ⟨y, HY, hcy⟩ := hc1.at k (by omega)
        have hi0 : (k : Int) < (n0 : Int) := by omega
        have hi1 : (k : Int) < (n1 : Int) := by omega
        go_wp2
        go_quiet (fail)
        go_wp2
        · have ht : (bits BinOp.and IntKind.u64 x y != 0) = true := by assumption
          go_ret
          exact ⟨ret_bool (meets_hit z0 z1 k (by omega) (by omega) (by rw [HX.out, HY.out]; exact ht)).symm, m + nq, by simp⟩
        · have ht : (bits BinOp.and IntKind.u64 x y != 0) = false := by assumption
          go_roundw
          case rel => exact ⟨k + 1, _, by omega, by omega, by go_num, rfl, by show _ = _; rw [meets_take_succ z0 z1 k (by omega) (by omega), hz.out, HX.out, HY.out]; exact ht⟩
          case measure => simp [intOf]; omega
      · have hge : n0 ≤ k ∨ n1 ≤ k := by omega
        go_wp2
        go_ret
        have hz' := hz.out
        rw [meets_min z0 z1 k (by omega)] at hz'
        exact ⟨ret_bool hz'.symm, _, rfl⟩

theorem meets_any (a0 : Option Addr) (n0 c0 : Nat) (z0 : List Int) (a1 : Option Addr) (n1 c1 : Nat) (z1 : List Int) (w : World) (h0 : Row w a0 n0 z0) (h1 : Row w a1 n1 z1) (hn0 : n0 ≤ 1048576) (hn1 : n1 ≤ 1048576) :
    Calls Try.prog 7 #[.slice a0 n0 c0, .slice a1 n1 c1] w fun e w' => e = .returned (.bool (meets z0 z1)) ∧ ∃ n, w' = w.drewN n := by
  obtain ⟨hl0, e0 | ⟨b0, off0, rfl, hc0⟩⟩ := h0
  · have e : z0 = [] := List.eq_nil_of_length_eq_zero (hl0.trans e0)
    subst e
    exact meets_zero a0 n0 c0 a1 n1 c1 w (.inl e0) hn0 hn1
  · obtain ⟨hl1, e1 | ⟨b1, off1, rfl, hc1⟩⟩ := h1
    · have e : z1 = [] := List.eq_nil_of_length_eq_zero (hl1.trans e1)
      subst e
      rw [meets_nil_r]
      exact meets_zero _ n0 c0 a1 n1 c1 w (.inr e1) hn0 hn1
    · exact meets_some b0 off0 n0 c0 z0 b1 off1 n1 c1 z1 w hl0 hl1 hn0 hn1 hc0 hc1

/-! ### Memory: a row of words that the call itself has made -/
/-- Block g is the row of the words xs. -/
def Blk (w : World) (g : Nat) (xs : List Int) : Prop := w.heap[g]? = some (.cells (xs.map (Value.int .u64)).toArray 31 (0, 0))

theorem Blk.cell {w : World} {g : Nat} {xs : List Int} (h : Blk w g xs) (j : Nat) (hj : j < xs.length) : w.cell? ⟨g, j, none⟩ = some (.int .u64 (xs[j]?.getD 0)) := by
  rw [cell_of_row w g j _ 31 (0, 0) h]
  simp [hj]
theorem Blk.free {w : World} {g : Nat} {xs : List Int} (h : Blk w g xs) (j : Nat) : w.frozen? ⟨g, j, none⟩ = false := frozen_of_row w g j _ 31 h
theorem Blk.store {w : World} {g : Nat} {xs : List Int} (h : Blk w g xs) (j : Nat) (x : Int) : Blk (w.setCell ⟨g, j, none⟩ (.int .u64 x)) g (xs.set j x) := by
  have := heap_setCell_same w g j _ 31 (.int .u64 x) h
  unfold Blk
  rw [this]
  simp [List.map_set]
theorem Blk.drewN {w : World} {g : Nat} {xs : List Int} (h : Blk w g xs) (n : Nat) : Blk (w.drewN n) g xs := h
theorem Blk.lt {w : World} {g : Nat} {xs : List Int} (h : Blk w g xs) : g < w.heap.size := (Array.getElem?_eq_some_iff.1 h).1
theorem Blk.below {w w' : World} {g : Nat} {xs : List Int} (h : Blk w g xs) (hb : Below w.heap.size w w') : Blk w' g xs := (hb.block g h.lt).trans h
theorem Blk.row {w : World} {g : Nat} {xs : List Int} (h : Blk w g xs) : Row w (some ⟨g, 0, none⟩) xs.length xs :=
  ⟨rfl, .inr ⟨g, 0, rfl, fun i hi => by rw [Nat.zero_add]; exact h.cell i hi⟩⟩
theorem Blk.made (w : World) (n : Nat) : Blk (w.alloc (.cells (madeCells #[Value.int .u64 0] n) 31)) w.heap.size (List.replicate n 0) := by
  unfold Blk
  rw [heap_alloc_new]
  have e : madeCells #[Value.int .u64 0] n = ((List.replicate n 0).map (Value.int .u64)).toArray := by
    apply Array.toList_inj.1
    rw [toList_madeCells_one]
    simp
  rw [e]

theorem Cells.below {w w' : World} {b off : Nat} {zs : List Int} (h : Cells w b off zs) (hb : Below w.heap.size w w') : Cells w' b off zs := fun i hi => by
  rw [hb.cell (World.block_lt_of_cell? w _ (h i hi))]
  exact h i hi
theorem Row.below {w w' : World} {a : Option Addr} {n : Nat} {zs : List Int} (h : Row w a n zs) (hb : Below w.heap.size w w') : Row w' a n zs :=
  ⟨h.1, match h.2 with
    | .inl e => .inl e
    | .inr ⟨b, off, e, hc⟩ => .inr ⟨b, off, e, hc.below hb⟩⟩

theorem Try.info31 : (Try.prog.info? 31).map (fun i => (i.zero, i.size, i.bytes)) = some (some (.int .u64 0), 1, 8) := by kernel_rfl

/-! ### zzAndWords -/
theorem made (n : Nat) (hn : n ≤ 1048576) (w : World) : (Instr.makeSlice 22 (.int .i64 (n : Int)) (.int .i64 (n : Int))).run Try.prog w = .ok (.slice (some ⟨w.heap.size, 0, none⟩) n n) (w.alloc (.cells (madeCells #[Value.int .u64 0] n) 31)) :=
  run_make_row' (P := Try.prog) 22 31 (.int .u64 0) 8 Try.underlying22 Try.info31 rfl .i64 .i64 n (by omega) (by omega) w

theorem andWords_zero (a0 : Option Addr) (n0 c0 : Nat) (a1 : Option Addr) (n1 c1 : Nat) (w : World) (hn : n0 = 0 ∨ n1 = 0) (h0 : n0 ≤ 1048576) (h1 : n1 ≤ 1048576) :
    Calls Try.prog 8 #[.slice a0 n0 c0, .slice a1 n1 c1] w fun e w' => ∃ g m, e = .returned (.slice (some ⟨g, 0, none⟩) m m) ∧ m = min n0 n1 ∧ Blk w' g [] ∧ Below w.heap.size w w' := by
  have hm0 := made n0 h0
  have hm1 := made n1 h1
  go_enter Try.func8, Try.ntmps8
  go_wp2
  all_goals
    refine wp_loop_rounds 1 ?_
    rw [rounds_succ]
    go_wp2
    go_ret
    refine ⟨_, _, rfl, by omega, ?_, (Below.refl _ _).alloc (Nat.le_refl _) _⟩
    have hb := Blk.made w 0
    first
    | rw [show n0 = 0 by omega]; exact hb
    | rw [show n1 = 0 by omega]; exact hb

set_option maxHeartbeats 400000 in
theorem andWords_some (b0 off0 n0 c0 : Nat) (z0 : List Int) (b1 off1 n1 c1 : Nat) (z1 : List Int) (w : World) (hl0 : z0.length = n0) (hl1 : z1.length = n1) (h0 : n0 ≤ 1048576) (h1 : n1 ≤ 1048576)
    (hc0 : Cells w b0 off0 z0) (hc1 : Cells w b1 off1 z1) :
    Calls Try.prog 8 #[.slice (some ⟨b0, off0, none⟩) n0 c0, .slice (some ⟨b1, off1, none⟩) n1 c1] w fun e w' => ∃ g m, e = .returned (.slice (some ⟨g, 0, none⟩) m m) ∧ m = min n0 n1 ∧ Blk w' g (andW z0 z1) ∧ Below w.heap.size w w' := by
  have hm0 := made n0 h0
  have hm1 := made n1 h1
  have hlen := length_andW z0 z1
  have HL : Hid ((andW z0 z1).length = min z0.length z1.length) := hlen
  clear hlen
  go_enter Try.func8, Try.ntmps8
  go_wp2
  all_goals
    go_loopw [7] (fun i wr => ∃ k : Nat, k ≤ n0 ∧ k ≤ n1 ∧ i = .int .i64 k ∧ Blk wr w.heap.size (part (andW z0 z1) k) ∧ Below w.heap.size w wr) (fun i _ => n0 - (intOf i).toNat)
    case atStart =>
      refine ⟨0, Nat.zero_le _, Nat.zero_le _, rfl, ?_, (Below.refl _ _).alloc (Nat.le_refl _) _⟩
      rw [part_zero, HL.out]
      first
      | rw [show min z0.length z1.length = n0 by omega]; exact Blk.made w n0
      | rw [show min z0.length z1.length = n1 by omega]; exact Blk.made w n1
    case round =>
      obtain ⟨k, hk0, hk1, rfl, hB, hnx⟩ := hrel
      by_cases hlt : k < n0 ∧ k < n1
      · obtain ⟨hlt0, hlt1⟩ := hlt
        obtain ⟨x, HX, hcx⟩ := (hc0.below hnx).at k (by omega)
        obtain ⟨y, HY, hcy⟩ := (hc1.below hnx).at k (by omega)
        have hi0 : (k : Int) < (n0 : Int) := by omega
        have hi1 : (k : Int) < (n1 : Int) := by omega
        have hcg := hB.cell k (by rw [length_part _ _ (by rw [HL.out]; omega), HL.out]; omega)
        have hfg := hB.free k
        go_wp2
        go_region
        go_wp2
        go_roundw
        case rel =>
          refine ⟨k + 1, by omega, by omega, by go_num, ?_, (hnx.setCell (Nat.le_refl _) _).drew⟩
          have hs := (hB.store k (bits .and .u64 x y)).drewN 1
          rw [← part_set _ k (by rw [HL.out]; omega), getElem?_andW z0 z1 k (by omega) (by omega), HX.out, HY.out]
          exact hs
        case measure => simp [intOf]; omega
      · have hge : n0 ≤ k ∨ n1 ≤ k := by omega
        go_wp2
        go_ret
        refine ⟨_, _, rfl, by omega, ?_, hnx⟩
        have e : k = (andW z0 z1).length := by rw [HL.out]; omega
        rw [e, part_all] at hB
        exact hB

theorem andWords_any (a0 : Option Addr) (n0 c0 : Nat) (z0 : List Int) (a1 : Option Addr) (n1 c1 : Nat) (z1 : List Int) (w : World) (h0 : Row w a0 n0 z0) (h1 : Row w a1 n1 z1) (hn0 : n0 ≤ 1048576) (hn1 : n1 ≤ 1048576) :
    Calls Try.prog 8 #[.slice a0 n0 c0, .slice a1 n1 c1] w fun e w' => ∃ g m, e = .returned (.slice (some ⟨g, 0, none⟩) m m) ∧ m = min n0 n1 ∧ Blk w' g (andW z0 z1) ∧ Below w.heap.size w w' := by
  obtain ⟨hl0, e0 | ⟨b0, off0, rfl, hc0⟩⟩ := h0
  · have e : z0 = [] := List.eq_nil_of_length_eq_zero (hl0.trans e0)
    subst e
    exact andWords_zero a0 n0 c0 a1 n1 c1 w (.inl e0) hn0 hn1
  · obtain ⟨hl1, e1 | ⟨b1, off1, rfl, hc1⟩⟩ := h1
    · have e : z1 = [] := List.eq_nil_of_length_eq_zero (hl1.trans e1)
      subst e
      rw [andW_nil_r]
      exact andWords_zero _ n0 c0 a1 n1 c1 w (.inr e1) hn0 hn1
    · exact andWords_some b0 off0 n0 c0 z0 b1 off1 n1 c1 z1 w hl0 hl1 hn0 hn1 hc0 hc1

/-! ### zzHasBit -/
theorem hasBit_out (a : Option Addr) (n c : Nat) (b : Nat) (w : World) (hn : n ≤ b / 64) (hb : b < 262144) :
    Calls Try.prog 12 #[.slice a n c, .int .i64 b] w fun e w' => e = .returned (.bool false) ∧ w = w' := by
  go_enter Try.func12, Try.ntmps12
  go_wp2
  go_ret
  exact ⟨rfl, rfl⟩

theorem hasBit_in (b0 off n c : Nat) (b : Nat) (zs : List Int) (w : World) (hl : zs.length = n) (hn : b / 64 < n) (hn' : n ≤ 1048576) (hb : b < 262144) (hc : Cells w b0 off zs) :
    Calls Try.prog 12 #[.slice (some ⟨b0, off, none⟩) n c, .int .i64 b] w fun e w' => e = .returned (.bool (hasBit zs b)) ∧ w = w' := by
  obtain ⟨x, HX, hcx⟩ := hc.at (b / 64) (by omega)
  go_enter Try.func12, Try.ntmps12
  go_wp2
  go_ret
  exact ⟨ret_bool (by unfold hasBit; rw [HX.out]), rfl⟩

theorem hasBit_any (a : Option Addr) (n c : Nat) (b : Nat) (zs : List Int) (w : World) (h : Row w a n zs) (hn' : n ≤ 1048576) (hb : b < 262144) :
    Calls Try.prog 12 #[.slice a n c, .int .i64 b] w fun e w' => e = .returned (.bool (hasBit zs b)) ∧ w = w' := by
  by_cases hn : n ≤ b / 64
  · rw [hasBit_none zs b (by rw [h.1]; exact hn)]
    exact hasBit_out a n c b w hn hb
  · obtain ⟨hl, e0 | ⟨b0, off, rfl, hc⟩⟩ := h
    · omega
    · exact hasBit_in b0 off n c b zs w hl (by omega) hn' hb hc

/-! ### zzWithBit -/
set_option maxHeartbeats 400000 in
theorem withBit_some (b0 off n c : Nat) (b : Nat) (zs : List Int) (w : World) (hl : zs.length = n) (hc : Cells w b0 off zs) (hn : n ≤ 1048576) (hb : b < 262144) :
    Calls Try.prog 11 #[.slice (some ⟨b0, off, none⟩) n c, .int .i64 b] w fun e w' => ∃ g N, e = .returned (.slice (some ⟨g, 0, none⟩) N N) ∧ N = max n (b / 64 + 1) ∧ Blk w' g (withBit zs b) ∧ Below w.heap.size w w' := by
  have hm0 := made n hn
  have hm1 := made (b / 64 + 1) (by omega)
  have HL : Hid ((padded zs b).length = max zs.length (b / 64 + 1)) := length_padded zs b
  simp only [Int.natCast_add, Int.natCast_ediv, Int.cast_ofNat_Int] at hm1
  go_enter Try.func11, Try.ntmps11
  go_wp2
  all_goals
    go_loopw [8] (fun i wr => ∃ k : Nat, k ≤ n ∧ i = .int .i64 k ∧ Blk wr w.heap.size (part (padded zs b) k) ∧ Below w.heap.size w wr) (fun i _ => n - (intOf i).toNat)
    case atStart =>
      refine ⟨0, Nat.zero_le _, rfl, ?_, (Below.refl _ _).alloc (Nat.le_refl _) _⟩
      rw [part_zero, HL.out]
      first
      | rw [show max zs.length (b / 64 + 1) = n by omega]; exact Blk.made w n
      | rw [show max zs.length (b / 64 + 1) = b / 64 + 1 by omega]; exact Blk.made w (b / 64 + 1)
    case round =>
      obtain ⟨k, hk0, rfl, hB, hnx⟩ := hrel
      by_cases hlt : k < n
      · obtain ⟨x, HX, hcx⟩ := (hc.below hnx).at k (by omega)
        have hi0 : (k : Int) < (n : Int) := by omega
        have hcg := hB.cell k (by rw [length_part _ _ (by rw [HL.out]; omega), HL.out]; omega)
        have hfg := hB.free k
        go_wp2
        go_roundw
        case rel =>
          refine ⟨k + 1, by omega, by go_num, ?_, hnx.setCell (Nat.le_refl _) _⟩
          have hs := hB.store k x
          rw [← part_set _ k (by rw [HL.out]; omega), padded_at zs b k (by omega), HX.out]
          exact hs
        case measure => simp [intOf]; omega
      · have e : k = n := by omega
        subst e
        have hB' : Blk wr w.heap.size (padded zs b) := by rw [← part_padded, hl]; exact hB
        clear hB
        obtain ⟨y, HY⟩ : ∃ y, Hid ((padded zs b)[b / 64]?.getD 0 = y) := ⟨_, rfl⟩
        have hcg := hB'.cell (b / 64) (by rw [HL.out]; omega)
        rw [HY.out] at hcg
        have hfg := hB'.free (b / 64)
        go_wp2
        go_ret
        refine ⟨_, _, rfl, by omega, ?_, hnx.setCell (Nat.le_refl _) _⟩
        have hs := hB'.store (b / 64) (bits .or .u64 y (bitOf b))
        rw [← HY.out] at hs ⊢
        exact hs

set_option maxHeartbeats 400000 in
theorem withBit_zero (a : Option Addr) (c : Nat) (b : Nat) (w : World) (hb : b < 262144) :
    Calls Try.prog 11 #[.slice a 0 c, .int .i64 b] w fun e w' => ∃ g N, e = .returned (.slice (some ⟨g, 0, none⟩) N N) ∧ N = max 0 (b / 64 + 1) ∧ Blk w' g (withBit [] b) ∧ Below w.heap.size w w' := by
  have hm1 := made (b / 64 + 1) (by omega)
  have hl := length_padded [] b
  simp only [List.length_nil] at hl
  have HP : Hid (padded [] b = List.replicate (b / 64 + 1) 0) := by simp [Hid, padded]
  simp only [Int.natCast_add, Int.natCast_ediv, Int.cast_ofNat_Int] at hm1
  have hB' : Blk (w.alloc (.cells (madeCells #[Value.int .u64 0] (b / 64 + 1)) 31)) w.heap.size (padded [] b) := by rw [HP.out]; exact Blk.made w _
  obtain ⟨y, HY⟩ : ∃ y, Hid ((padded [] b)[b / 64]?.getD 0 = y) := ⟨_, rfl⟩
  have hcg := hB'.cell (b / 64) (by omega)
  rw [HY.out] at hcg
  have hfg := hB'.free (b / 64)
  go_enter Try.func11, Try.ntmps11
  go_wp2
  refine wp_loop_rounds 1 ?_
  rw [rounds_succ]
  go_wp2
  go_ret
  refine ⟨_, _, rfl, by omega, ?_, (Below.refl _ _).alloc (Nat.le_refl _) _⟩
  have hs := hB'.store (b / 64) (bits .or .u64 y (bitOf b))
  rw [World.setCell_alloc_at _ _ _ _ _ rfl, ← HY.out] at hs
  rw [← HY.out]
  exact hs

theorem withBit_any (a : Option Addr) (n c : Nat) (b : Nat) (zs : List Int) (w : World) (h : Row w a n zs) (hn : n ≤ 1048576) (hb : b < 262144) :
    Calls Try.prog 11 #[.slice a n c, .int .i64 b] w fun e w' => ∃ g N, e = .returned (.slice (some ⟨g, 0, none⟩) N N) ∧ N = max n (b / 64 + 1) ∧ Blk w' g (withBit zs b) ∧ Below w.heap.size w w' := by
  obtain ⟨hl, e0 | ⟨b0, off, rfl, hc⟩⟩ := h
  · subst e0
    obtain rfl : zs = [] := List.eq_nil_of_length_eq_zero hl
    exact withBit_zero a c b w hb
  · exact withBit_some b0 off n c b zs w hl hc hn hb

end Go.Proofs.Qxb6628700a
