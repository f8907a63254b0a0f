/- Seat b6628771a: strings, parts and numbers in memory; the bounds that the laws ask for first. -/
import Derived.Test.Qxb6628771aRows
import Derived.WalkKit
import Derived.WalkSpells
import Derived.Deep.QuietTactic
import Derived.BigQuiet
import Derived.WalkSmall
import Derived.Deep.OwnRows
namespace Go.Proofs.Qxb6628771a
open Go.RowKit
set_option linter.unusedVariables false

/-- The cells from '⟨b, off⟩' on hold the strings ss. -/
def StrCells (w : World) (b off : Nat) (ss : List ByteArray) : Prop := ∀ i, i < ss.length → w.cell? ⟨b, off + i, none⟩ = some (.string (ss[i]?.getD ByteArray.empty))
/-- A slice of strings that can be read in w. -/
def StrRow (w : World) (a : Option Addr) (n : Nat) (ss : List ByteArray) : Prop :=
  ss.length = n ∧ n ≤ 9223372036854775807 ∧ (n = 0 ∨ ∃ b off, a = some ⟨b, off, none⟩ ∧ StrCells w b off ss)
/-- A slice of slices of strings that can be read in w. -/
def GridCells (w : World) (b off : Nat) (G : List (List ByteArray)) : Prop :=
  ∀ i, i < G.length → ∃ a n c, w.cell? ⟨b, off + i, none⟩ = some (.slice a n c) ∧ StrRow w a n (G[i]?.getD [])
def Grid (w : World) (a : Option Addr) (n : Nat) (G : List (List ByteArray)) : Prop :=
  G.length = n ∧ n ≤ 9223372036854775807 ∧ (n = 0 ∨ ∃ b off, a = some ⟨b, off, none⟩ ∧ GridCells w b off G)

theorem StrCells.at {w : World} {b off : Nat} {ss : List ByteArray} (h : StrCells w b off ss) (i : Nat) (hi : i < ss.length) :
    ∃ s, Hid (ss[i]? = some s) ∧ w.cell? ⟨b, off + i, none⟩ = some (.string s) := by
  refine ⟨ss[i], List.getElem?_eq_getElem hi, ?_⟩
  rw [h i hi, List.getElem?_eq_getElem hi]
  rfl
theorem StrRow.at {w : World} {a : Option Addr} {n : Nat} {ss : List ByteArray} (h : StrRow w a n ss) (i : Nat) (hi : i < n) :
    ∃ b off s, a = some ⟨b, off, none⟩ ∧ Hid (ss[i]? = some s) ∧ w.cell? ⟨b, off + i, none⟩ = some (.string s) := by
  obtain ⟨hl, _, h0 | ⟨b, off, e, hc⟩⟩ := h
  · omega
  · obtain ⟨s, h1, h2⟩ := hc.at i (by omega)
    exact ⟨b, off, s, e, h1, h2⟩
theorem Grid.at {w : World} {a : Option Addr} {n : Nat} {G : List (List ByteArray)} (h : Grid w a n G) (i : Nat) (hi : i < n) :
    ∃ b off ai ni ci ss, a = some ⟨b, off, none⟩ ∧ Hid (G[i]? = some ss) ∧ w.cell? ⟨b, off + i, none⟩ = some (.slice ai ni ci) ∧ StrRow w ai ni ss := by
  obtain ⟨hl, _, h0 | ⟨b, off, e, hc⟩⟩ := h
  · omega
  · obtain ⟨ai, ni, ci, h1, h2⟩ := hc i (by omega)
    refine ⟨b, off, ai, ni, ci, G[i], e, List.getElem?_eq_getElem (by omega), h1, ?_⟩
    rw [List.getElem?_eq_getElem (by omega)] at h2
    exact h2

theorem StrRow.below {w w' : World} {a : Option Addr} {n : Nat} {ss : List ByteArray} (h : StrRow w a n ss) (hb : Below w.heap.size w w') : StrRow w' a n ss := by
  obtain ⟨hl, hm, h0 | ⟨b, off, e, hc⟩⟩ := h
  · exact ⟨hl, hm, .inl h0⟩
  · exact ⟨hl, hm, .inr ⟨b, off, e, fun i hi => by rw [hb.cell (World.block_lt_of_cell? w _ (hc i hi))]; exact hc i hi⟩⟩
theorem Grid.below {w w' : World} {a : Option Addr} {n : Nat} {G : List (List ByteArray)} (h : Grid w a n G) (hb : Below w.heap.size w w') : Grid w' a n G := by
  obtain ⟨hl, hm, h0 | ⟨b, off, e, hc⟩⟩ := h
  · exact ⟨hl, hm, .inl h0⟩
  · refine ⟨hl, hm, .inr ⟨b, off, e, fun i hi => ?_⟩⟩
    obtain ⟨ai, ni, ci, h1, h2⟩ := hc i hi
    exact ⟨ai, ni, ci, by rw [hb.cell (World.block_lt_of_cell? w _ h1)]; exact h1, h2.below hb⟩
theorem StrRow.drewN {w : World} {a : Option Addr} {n : Nat} {ss : List ByteArray} (h : StrRow w a n ss) (m : Nat) : StrRow (w.drewN m) a n ss := h
theorem Grid.drewN {w : World} {a : Option Addr} {n : Nat} {G : List (List ByteArray)} (h : Grid w a n G) (m : Nat) : Grid (w.drewN m) a n G := h

/-- A slice of ints that can be read in w. -/
def IntCells (w : World) (b off : Nat) (zs : List Int) : Prop := ∀ i, i < zs.length → w.cell? ⟨b, off + i, none⟩ = some (.int .i64 (zs[i]?.getD 0))
def IntRow (w : World) (a : Option Addr) (n : Nat) (zs : List Int) : Prop :=
  zs.length = n ∧ n ≤ 9223372036854775807 ∧ (n = 0 ∨ ∃ b off, a = some ⟨b, off, none⟩ ∧ IntCells w b off zs)
theorem IntRow.at {w : World} {a : Option Addr} {n : Nat} {zs : List Int} (h : IntRow w a n zs) (i : Nat) (hi : i < n) :
    ∃ b off z, a = some ⟨b, off, none⟩ ∧ Hid (zs[i]? = some z) ∧ w.cell? ⟨b, off + i, none⟩ = some (.int .i64 z) := by
  obtain ⟨hl, _, h0 | ⟨b, off, e, hc⟩⟩ := h
  · omega
  · refine ⟨b, off, zs[i]'(by omega), e, List.getElem?_eq_getElem (by omega), ?_⟩
    rw [hc i (by omega), List.getElem?_eq_getElem (by omega)]
    rfl
theorem IntRow.below {w w' : World} {a : Option Addr} {n : Nat} {zs : List Int} (h : IntRow w a n zs) (hb : Below w.heap.size w w') : IntRow w' a n zs := by
  obtain ⟨hl, hm, h0 | ⟨b, off, e, hc⟩⟩ := h
  · exact ⟨hl, hm, .inl h0⟩
  · exact ⟨hl, hm, .inr ⟨b, off, e, fun i hi => by rw [hb.cell (World.block_lt_of_cell? w _ (hc i hi))]; exact hc i hi⟩⟩
theorem IntRow.drewN {w : World} {a : Option Addr} {n : Nat} {zs : List Int} (h : IntRow w a n zs) (m : Nat) : IntRow (w.drewN m) a n zs := h

/-! ### The bounds: they end, and say true or false -/
def Ended (w : World) (e : Ending) (w' : World) : Prop := ∃ b, e = .returned (.bool b) ∧ w = w'
theorem ended (b : Bool) (w : World) : Ended w (.returned (.bool b)) w := ⟨b, rfl, rfl⟩

set_option maxHeartbeats 1000000 in
theorem bytes5 (raw : ByteArray) (a0 : Option Addr) (n0 c0 : Nat) (G : List (List ByteArray)) (a1 : Option Addr) (n1 c1 : Nat) (w : World) (h0 : Grid w a0 n0 G) (hm1 : n1 ≤ 9223372036854775807) :
    Calls Try.prog 5 #[.string raw, .slice a0 n0 c0, .slice a1 n1 c1] w fun e w' => Ended w e w' := by
  have hm0 := h0.2.1
  go_enter Try.func5, Try.ntmps5
  go_wp2
  · go_ret
    exact ended _ _
  · go_ret
    exact ended _ _
  · go_ret
    exact ended _ _
  go_loop [7, 8] (fun z i => ∃ (x : Int) (k : Nat), k ≤ n0 ∧ z = .int .i64 x ∧ i = .int .i64 k) (fun _ i => n0 - (intOf i).toNat)
  case atStart => exact ⟨_, 0, Nat.zero_le _, rfl, rfl⟩
  case round =>
    obtain ⟨x, k, hk, rfl, rfl⟩ := hrel
    by_cases hlt : k < n0
    · obtain ⟨b, off, ai, ni, ci, si, rfl, HG, hcell, hrow⟩ := h0.at k hlt
      have hmi := hrow.2.1
      go_wp2
      · go_ret
        exact ended _ _
      · go_ret
        exact ended _ _
      go_loop [7, 9] (fun z j => ∃ (y : Int) (l : Nat), l ≤ ni ∧ z = .int .i64 y ∧ j = .int .i64 l) (fun _ j => ni - (intOf j).toNat)
      case atStart => exact ⟨_, 0, Nat.zero_le _, rfl, rfl⟩
      case round =>
        obtain ⟨y, l, hl, rfl, rfl⟩ := hrel
        by_cases hlj : l < ni
        · obtain ⟨bi, offi, t, rfl, HT, hcj⟩ := hrow.at l hlj
          go_wp2
          · go_ret
            exact ended _ _
          · go_ret
            exact ended _ _
          · go_round
            case rel => exact ⟨_, l + 1, by omega, rfl, by go_num⟩
            case measure => simp [intOf]; omega
        · go_wp2
          go_round
          case rel => exact ⟨_, k + 1, by omega, rfl, by go_num⟩
          case measure => simp [intOf]; omega
    · go_wp2
      all_goals
        go_ret
        exact ended _ _

set_option maxHeartbeats 1000000 in
theorem bytes11 (raw : ByteArray) (a0 : Option Addr) (n0 c0 : Nat) (G : List (List ByteArray)) (a1 : Option Addr) (n1 c1 : Nat) (w : World) (h0 : Grid w a0 n0 G) (hm1 : n1 ≤ 9223372036854775807) :
    Calls Try.prog 11 #[.string raw, .slice a0 n0 c0, .slice a1 n1 c1] w fun e w' => Ended w e w' := by
  have hm0 := h0.2.1
  go_enter Try.func11, Try.ntmps11
  go_wp2
  · go_ret
    exact ended _ _
  · go_ret
    exact ended _ _
  · go_ret
    exact ended _ _
  go_loop [7, 8] (fun z i => ∃ (x : Int) (k : Nat), k ≤ n0 ∧ z = .int .i64 x ∧ i = .int .i64 k) (fun _ i => n0 - (intOf i).toNat)
  case atStart => exact ⟨_, 0, Nat.zero_le _, rfl, rfl⟩
  case round =>
    obtain ⟨x, k, hk, rfl, rfl⟩ := hrel
    by_cases hlt : k < n0
    · obtain ⟨b, off, ai, ni, ci, si, rfl, HG, hcell, hrow⟩ := h0.at k hlt
      have hmi := hrow.2.1
      go_wp2
      · go_ret
        exact ended _ _
      · go_ret
        exact ended _ _
      go_loop [7, 9] (fun z j => ∃ (y : Int) (l : Nat), l ≤ ni ∧ z = .int .i64 y ∧ j = .int .i64 l) (fun _ j => ni - (intOf j).toNat)
      case atStart => exact ⟨_, 0, Nat.zero_le _, rfl, rfl⟩
      case round =>
        obtain ⟨y, l, hl, rfl, rfl⟩ := hrel
        by_cases hlj : l < ni
        · obtain ⟨bi, offi, t, rfl, HT, hcj⟩ := hrow.at l hlj
          go_wp2
          · go_ret
            exact ended _ _
          · go_ret
            exact ended _ _
          · go_round
            case rel => exact ⟨_, l + 1, by omega, rfl, by go_num⟩
            case measure => simp [intOf]; omega
        · go_wp2
          go_round
          case rel => exact ⟨_, k + 1, by omega, rfl, by go_num⟩
          case measure => simp [intOf]; omega
    · go_wp2
      all_goals
        go_ret
        exact ended _ _

/-! ### zzUriSizeOK: where it says true the names are few and short -/
/-- How many names there are. -/
def count (G : List (List ByteArray)) : Nat := (G.map List.length).sum
def Short (g : List ByteArray) : Prop := ∀ s ∈ g, s.size ≤ 1048576
def Shorts (G : List (List ByteArray)) : Prop := ∀ g ∈ G, Short g

theorem count_take {G : List (List ByteArray)} {k : Nat} {g : List ByteArray} (h : G[k]? = some g) : count (G.take (k + 1)) = count (G.take k) + g.length := by
  obtain ⟨hk, rfl⟩ := List.getElem?_eq_some_iff.1 h
  unfold count
  rw [List.take_succ_eq_append_getElem hk]
  simp only [List.map_append, List.sum_append, List.map_cons, List.map_nil, List.sum_cons, List.sum_nil, Nat.add_zero]
theorem Shorts.step {G : List (List ByteArray)} {k : Nat} {g : List ByteArray} (h : G[k]? = some g) (h1 : Shorts (G.take k)) (h2 : Short g) : Shorts (G.take (k + 1)) := by
  obtain ⟨hk, rfl⟩ := List.getElem?_eq_some_iff.1 h
  intro x hx
  rw [List.take_succ_eq_append_getElem hk] at hx
  rcases List.mem_append.1 hx with hx | hx
  · exact h1 x hx
  · rw [List.mem_singleton.1 hx]; exact h2
theorem Short.step {g : List ByteArray} {l : Nat} {t : ByteArray} (h : g[l]? = some t) (h1 : Short (g.take l)) (h2 : t.size ≤ 1048576) : Short (g.take (l + 1)) := by
  obtain ⟨hk, rfl⟩ := List.getElem?_eq_some_iff.1 h
  intro x hx
  rw [List.take_succ_eq_append_getElem hk] at hx
  rcases List.mem_append.1 hx with hx | hx
  · exact h1 x hx
  · rw [List.mem_singleton.1 hx]; exact h2

def Sized (G : List (List ByteArray)) (w : World) (e : Ending) (w' : World) : Prop := ∃ b, e = .returned (.bool b) ∧ w = w' ∧ (b = true → count G ≤ 65536 ∧ Shorts G)
theorem sized_no (G : List (List ByteArray)) (w : World) : Sized G w (.returned (.bool false)) w := ⟨false, rfl, rfl, fun h => by cases h⟩

set_option maxHeartbeats 1000000 in
theorem sizeOK (raw : ByteArray) (a0 : Option Addr) (n0 c0 : Nat) (G : List (List ByteArray)) (a1 : Option Addr) (n1 c1 : Nat) (w : World) (h0 : Grid w a0 n0 G) (hr : raw.size ≤ 1048576) (hm0 : n0 ≤ 65536) (hm1 : n1 ≤ 65536) :
    Calls Try.prog 6 #[.string raw, .slice a0 n0 c0, .slice a1 n1 c1] w fun e w' => Sized G w e w' := by
  have hz0 : decide (1048576 < (raw.size : Int)) = false := decide_eq_false (by omega)
  have hz1 : decide (65536 < (n0 : Int)) = false := decide_eq_false (by omega)
  have hz2 : decide (65536 < (n1 : Int)) = false := decide_eq_false (by omega)
  go_enter Try.func6, Try.ntmps6
  go_wp2
  · go_ret
    exact sized_no _ _
  clear hz0 hz1 hz2
  go_loop [7, 8] (fun z i => ∃ (x : Int) (k : Nat), k ≤ n0 ∧ z = .int .i64 x ∧ i = .int .i64 k ∧ 16 * (count (G.take k) : Int) ≤ x ∧ x ≤ 1048576 ∧ Shorts (G.take k)) (fun _ i => n0 - (intOf i).toNat)
  case atStart => exact ⟨_, 0, Nat.zero_le _, rfl, rfl, by simp [count]; omega, by omega, fun g hg => by simp at hg⟩
  case round =>
    obtain ⟨x, k, hk, rfl, rfl, hx1, hx2, hS⟩ := hrel
    by_cases hlt : k < n0
    · obtain ⟨b, off, ai, ni, ci, si, rfl, HG, hcell, hrow⟩ := h0.at k hlt
      have hmi := hrow.2.1
      go_wp2
      · go_ret
        exact sized_no _ _
      · go_ret
        exact sized_no _ _
      have HC : Hid (count (G.take (k + 1)) = count (G.take k) + ni) := by show _ = _; rw [count_take HG.out, hrow.1]
      go_loop [7, 9] (fun z j => ∃ (y : Int) (l : Nat), l ≤ ni ∧ z = .int .i64 y ∧ j = .int .i64 l ∧ 16 * (count (G.take k) : Int) + 16 * (ni : Int) ≤ y ∧ y ≤ 1048576 ∧ Short (si.take l)) (fun _ j => ni - (intOf j).toNat)
      case atStart => exact ⟨_, 0, Nat.zero_le _, rfl, rfl, by omega, by omega, fun s hs => by simp at hs⟩
      case round =>
        obtain ⟨y, l, hl, rfl, rfl, hy1, hy2, hS2⟩ := hrel
        by_cases hlj : l < ni
        · obtain ⟨bi, offi, t, rfl, HT, hcj⟩ := hrow.at l hlj
          go_wp2
          · go_ret
            exact sized_no _ _
          · go_ret
            exact sized_no _ _
          · go_round
            case rel => exact ⟨_, l + 1, by omega, rfl, by go_num, by omega, by omega, hS2.step HT.out (by omega)⟩
            case measure => simp [intOf]; omega
        · have e : si.take l = si := List.take_of_length_le (by have := hrow.1; omega)
          have hS3 : Short si := by rw [e] at hS2; exact hS2
          clear e hS2
          go_wp2
          go_round
          case rel => exact ⟨_, k + 1, by omega, rfl, by go_num, by rw [HC.out]; omega, by omega, hS.step HG.out hS3⟩
          case measure => simp [intOf]; omega
    · go_wp2
      go_ret
      refine ⟨true, rfl, rfl, fun _ => ?_⟩
      have e : G.take k = G := List.take_of_length_le (by rw [h0.1]; omega)
      rw [e] at hx1 hS
      exact ⟨by omega, hS⟩

end Go.Proofs.Qxb6628771a
