/- Seat b6628743a: strings and paths in memory; the bounds that the laws ask for first. -/
import Derived.Test.Qxb6628743aRows
import Derived.WalkKit
import Derived.WalkSpells
import Derived.Deep.QuietTactic
import Derived.BigQuiet
import Derived.WalkSmall
import Derived.Deep.OwnRows
namespace Go.Proofs.Qxb6628743a
open Go.RowKit
set_option linter.unusedVariables false

/-- The cells from '⟨b, off⟩' on hold the strings ss. -/
def StrCells (w : World) (b off : Nat) (ss : List ByteArray) : Prop := ∀ i, i < ss.length → w.cell? ⟨b, off + i, none⟩ = some (.string (ss[i]?.getD ByteArray.empty))
/-- A slice of strings that can be read in w. -/
def StrRow (w : World) (a : Option Addr) (n : Nat) (ss : List ByteArray) : Prop :=
  ss.length = n ∧ n ≤ 9223372036854775807 ∧ (n = 0 ∨ ∃ b off, a = some ⟨b, off, none⟩ ∧ StrCells w b off ss)
/-- A slice of slices of strings that can be read in w. -/
def GridCells (w : World) (b off : Nat) (G : List (List ByteArray)) : Prop :=
  ∀ i, i < G.length → ∃ a n c, w.cell? ⟨b, off + i, none⟩ = some (.slice a n c) ∧ StrRow w a n (G[i]?.getD [])
def Grid (w : World) (a : Option Addr) (n : Nat) (G : List (List ByteArray)) : Prop :=
  G.length = n ∧ n ≤ 9223372036854775807 ∧ (n = 0 ∨ ∃ b off, a = some ⟨b, off, none⟩ ∧ GridCells w b off G)

theorem StrCells.at {w : World} {b off : Nat} {ss : List ByteArray} (h : StrCells w b off ss) (i : Nat) (hi : i < ss.length) :
    ∃ s, Hid (ss[i]? = some s) ∧ w.cell? ⟨b, off + i, none⟩ = some (.string s) := by
  refine ⟨ss[i], List.getElem?_eq_getElem hi, ?_⟩
  rw [h i hi, List.getElem?_eq_getElem hi]
  rfl
theorem StrRow.at {w : World} {a : Option Addr} {n : Nat} {ss : List ByteArray} (h : StrRow w a n ss) (i : Nat) (hi : i < n) :
    ∃ b off s, a = some ⟨b, off, none⟩ ∧ Hid (ss[i]? = some s) ∧ w.cell? ⟨b, off + i, none⟩ = some (.string s) := by
  obtain ⟨hl, _, h0 | ⟨b, off, e, hc⟩⟩ := h
  · omega
  · obtain ⟨s, h1, h2⟩ := hc.at i (by omega)
    exact ⟨b, off, s, e, h1, h2⟩
theorem Grid.at {w : World} {a : Option Addr} {n : Nat} {G : List (List ByteArray)} (h : Grid w a n G) (i : Nat) (hi : i < n) :
    ∃ b off ai ni ci ss, a = some ⟨b, off, none⟩ ∧ Hid (G[i]? = some ss) ∧ w.cell? ⟨b, off + i, none⟩ = some (.slice ai ni ci) ∧ StrRow w ai ni ss := by
  obtain ⟨hl, _, h0 | ⟨b, off, e, hc⟩⟩ := h
  · omega
  · obtain ⟨ai, ni, ci, h1, h2⟩ := hc i (by omega)
    refine ⟨b, off, ai, ni, ci, G[i], e, List.getElem?_eq_getElem (by omega), h1, ?_⟩
    rw [List.getElem?_eq_getElem (by omega)] at h2
    exact h2

theorem StrRow.below {w w' : World} {a : Option Addr} {n : Nat} {ss : List ByteArray} (h : StrRow w a n ss) (hb : Below w.heap.size w w') : StrRow w' a n ss := by
  obtain ⟨hl, hm, h0 | ⟨b, off, e, hc⟩⟩ := h
  · exact ⟨hl, hm, .inl h0⟩
  · exact ⟨hl, hm, .inr ⟨b, off, e, fun i hi => by rw [hb.cell (World.block_lt_of_cell? w _ (hc i hi))]; exact hc i hi⟩⟩
theorem Grid.below {w w' : World} {a : Option Addr} {n : Nat} {G : List (List ByteArray)} (h : Grid w a n G) (hb : Below w.heap.size w w') : Grid w' a n G := by
  obtain ⟨hl, hm, h0 | ⟨b, off, e, hc⟩⟩ := h
  · exact ⟨hl, hm, .inl h0⟩
  · refine ⟨hl, hm, .inr ⟨b, off, e, fun i hi => ?_⟩⟩
    obtain ⟨ai, ni, ci, h1, h2⟩ := hc i hi
    exact ⟨ai, ni, ci, by rw [hb.cell (World.block_lt_of_cell? w _ h1)]; exact h1, h2.below hb⟩
theorem StrRow.drewN {w : World} {a : Option Addr} {n : Nat} {ss : List ByteArray} (h : StrRow w a n ss) (m : Nat) : StrRow (w.drewN m) a n ss := h
theorem Grid.drewN {w : World} {a : Option Addr} {n : Nat} {G : List (List ByteArray)} (h : Grid w a n G) (m : Nat) : Grid (w.drewN m) a n G := h

/-! ### The bounds: they end, and say true or false -/
def Ended (w : World) (e : Ending) (w' : World) : Prop := ∃ b, e = .returned (.bool b) ∧ w = w'
theorem ended (b : Bool) (w : World) : Ended w (.returned (.bool b)) w := ⟨b, rfl, rfl⟩

set_option maxHeartbeats 1000000 in
theorem bytes5 (a0 : Option Addr) (n0 c0 : Nat) (G : List (List ByteArray)) (a1 : Option Addr) (n1 c1 : Nat) (ss : List ByteArray) (w : World) (h0 : Grid w a0 n0 G) (h1 : StrRow w a1 n1 ss) :
    Calls Try.prog 5 #[.slice a0 n0 c0, .slice a1 n1 c1] w fun e w' => Ended w e w' := by
  have hm0 := h0.2.1
  have hm1 := h1.2.1
  go_enter Try.func5, Try.ntmps5
  go_wp2
  · go_ret
    exact ended _ _
  go_loop [5, 6] (fun z i => ∃ (x : Int) (k : Nat), k ≤ n0 ∧ z = .int .i64 x ∧ i = .int .i64 k) (fun _ i => n0 - (intOf i).toNat)
  case atStart => exact ⟨_, 0, Nat.zero_le _, rfl, rfl⟩
  case round =>
    obtain ⟨x, k, hk, rfl, rfl⟩ := hrel
    by_cases hlt : k < n0
    · obtain ⟨b, off, ai, ni, ci, si, rfl, HG, hcell, hrow⟩ := h0.at k hlt
      have hmi := hrow.2.1
      go_wp2
      · go_ret
        exact ended _ _
      · go_ret
        exact ended _ _
      go_loop [5, 7] (fun z j => ∃ (y : Int) (l : Nat), l ≤ ni ∧ z = .int .i64 y ∧ j = .int .i64 l) (fun _ j => ni - (intOf j).toNat)
      case atStart => exact ⟨_, 0, Nat.zero_le _, rfl, rfl⟩
      case round =>
        obtain ⟨y, l, hl, rfl, rfl⟩ := hrel
        by_cases hlj : l < ni
        · obtain ⟨bi, offi, t, rfl, HT, hcj⟩ := hrow.at l hlj
          go_wp2
          · go_ret
            exact ended _ _
          · go_ret
            exact ended _ _
          · go_round
            case rel => exact ⟨_, l + 1, by omega, rfl, by go_num⟩
            case measure => simp [intOf]; omega
        · go_wp2
          go_round
          case rel => exact ⟨_, k + 1, by omega, rfl, by go_num⟩
          case measure => simp [intOf]; omega
    · go_wp2
      · go_ret
        exact ended _ _
      · go_ret
        exact ended _ _
      go_loop [5, 8] (fun z j => ∃ (y : Int) (l : Nat), l ≤ n1 ∧ z = .int .i64 y ∧ j = .int .i64 l) (fun _ j => n1 - (intOf j).toNat)
      case atStart => exact ⟨_, 0, Nat.zero_le _, rfl, rfl⟩
      case round =>
        obtain ⟨y, l, hl, rfl, rfl⟩ := hrel
        by_cases hlj : l < n1
        · obtain ⟨bi, offi, t, rfl, HT, hcj⟩ := h1.at l hlj
          go_wp2
          · go_ret
            exact ended _ _
          · go_ret
            exact ended _ _
          · go_round
            case rel => exact ⟨_, l + 1, by omega, rfl, by go_num⟩
            case measure => simp [intOf]; omega
        · go_wp2
          go_ret
          exact ended _ _

set_option maxHeartbeats 1000000 in
theorem bytes10 (a0 : Option Addr) (n0 c0 : Nat) (G : List (List ByteArray)) (a1 : Option Addr) (n1 c1 : Nat) (ss : List ByteArray) (k2 : Int) (w : World) (h0 : Grid w a0 n0 G) (h1 : StrRow w a1 n1 ss) :
    Calls Try.prog 10 #[.slice a0 n0 c0, .slice a1 n1 c1, .int .i64 k2] w fun e w' => Ended w e w' := by
  have hm0 := h0.2.1
  have hm1 := h1.2.1
  go_enter Try.func10, Try.ntmps10
  go_wp2
  · go_ret
    exact ended _ _
  go_loop [7, 8] (fun z i => ∃ (x : Int) (k : Nat), k ≤ n0 ∧ z = .int .i64 x ∧ i = .int .i64 k) (fun _ i => n0 - (intOf i).toNat)
  case atStart => exact ⟨_, 0, Nat.zero_le _, rfl, rfl⟩
  case round =>
    obtain ⟨x, k, hk, rfl, rfl⟩ := hrel
    by_cases hlt : k < n0
    · obtain ⟨b, off, ai, ni, ci, si, rfl, HG, hcell, hrow⟩ := h0.at k hlt
      have hmi := hrow.2.1
      go_wp2
      · go_ret
        exact ended _ _
      · go_ret
        exact ended _ _
      go_loop [7, 9] (fun z j => ∃ (y : Int) (l : Nat), l ≤ ni ∧ z = .int .i64 y ∧ j = .int .i64 l) (fun _ j => ni - (intOf j).toNat)
      case atStart => exact ⟨_, 0, Nat.zero_le _, rfl, rfl⟩
      case round =>
        obtain ⟨y, l, hl, rfl, rfl⟩ := hrel
        by_cases hlj : l < ni
        · obtain ⟨bi, offi, t, rfl, HT, hcj⟩ := hrow.at l hlj
          go_wp2
          · go_ret
            exact ended _ _
          · go_ret
            exact ended _ _
          · go_round
            case rel => exact ⟨_, l + 1, by omega, rfl, by go_num⟩
            case measure => simp [intOf]; omega
        · go_wp2
          go_round
          case rel => exact ⟨_, k + 1, by omega, rfl, by go_num⟩
          case measure => simp [intOf]; omega
    · go_wp2
      · go_ret
        exact ended _ _
      · go_ret
        exact ended _ _
      go_loop [7, 10] (fun z j => ∃ (y : Int) (l : Nat), l ≤ n1 ∧ z = .int .i64 y ∧ j = .int .i64 l) (fun _ j => n1 - (intOf j).toNat)
      case atStart => exact ⟨_, 0, Nat.zero_le _, rfl, rfl⟩
      case round =>
        obtain ⟨y, l, hl, rfl, rfl⟩ := hrel
        by_cases hlj : l < n1
        · obtain ⟨bi, offi, t, rfl, HT, hcj⟩ := h1.at l hlj
          go_wp2
          · go_ret
            exact ended _ _
          · go_ret
            exact ended _ _
          · go_round
            case rel => exact ⟨_, l + 1, by omega, rfl, by go_num⟩
            case measure => simp [intOf]; omega
        · go_wp2
          go_ret
          exact ended _ _

theorem tooBig_out (a0 : Option Addr) (n0 c0 : Nat) (a1 : Option Addr) (n1 c1 : Nat) (w : World) (h : 1048576 < n1 ∨ 1048576 < n0) :
    Calls Try.prog 6 #[.slice a0 n0 c0, .slice a1 n1 c1] w fun e w' => e = .returned (.bool true) ∧ w = w' := by
  go_enter Try.func6, Try.ntmps6
  go_wp2
  all_goals
    go_ret
    exact ⟨rfl, rfl⟩

set_option maxHeartbeats 1000000 in
theorem tooBig_in (a0 : Option Addr) (n0 c0 : Nat) (G : List (List ByteArray)) (a1 : Option Addr) (n1 c1 : Nat) (ss : List ByteArray) (w : World) (h0 : Grid w a0 n0 G) (h1 : StrRow w a1 n1 ss) (hm0 : n0 ≤ 1048576) (hm1 : n1 ≤ 1048576) :
    Calls Try.prog 6 #[.slice a0 n0 c0, .slice a1 n1 c1] w fun e w' => Ended w e w' := by
  go_enter Try.func6, Try.ntmps6
  go_wp2
  · go_ret
    exact ended _ _
  go_loop [5, 6] (fun z j => ∃ (y : Int) (l : Nat), l ≤ n1 ∧ z = .int .i64 y ∧ j = .int .i64 l) (fun _ j => n1 - (intOf j).toNat)
  case atStart => exact ⟨_, 0, Nat.zero_le _, rfl, rfl⟩
  case round =>
    obtain ⟨y, l, hl, rfl, rfl⟩ := hrel
    by_cases hlj : l < n1
    · obtain ⟨bi, offi, t, rfl, HT, hcj⟩ := h1.at l hlj
      go_wp2
      · go_ret
        exact ended _ _
      · go_round
        case rel => exact ⟨_, l + 1, by omega, rfl, by go_num⟩
        case measure => simp [intOf]; omega
    · go_wp2
      go_loop [5, 7] (fun z i => ∃ (x : Int) (k : Nat), k ≤ n0 ∧ z = .int .i64 x ∧ i = .int .i64 k) (fun _ i => n0 - (intOf i).toNat)
      case atStart => exact ⟨_, 0, Nat.zero_le _, rfl, rfl⟩
      case round =>
        obtain ⟨x, k, hk, rfl, rfl⟩ := hrel
        by_cases hlt : k < n0
        · obtain ⟨b, off, ai, ni, ci, si, rfl, HG, hcell, hrow⟩ := h0.at k hlt
          have hmi := hrow.2.1
          go_wp2
          · go_ret
            exact ended _ _
          · go_ret
            exact ended _ _
          go_loop [5, 9] (fun z j => ∃ (y : Int) (l : Nat), l ≤ ni ∧ z = .int .i64 y ∧ j = .int .i64 l) (fun _ j => ni - (intOf j).toNat)
          case atStart => exact ⟨_, 0, Nat.zero_le _, rfl, rfl⟩
          case round =>
            obtain ⟨y, l, hl, rfl, rfl⟩ := hrel
            by_cases hlj : l < ni
            · obtain ⟨bi, offi, t, rfl, HT, hcj⟩ := hrow.at l hlj
              go_wp2
              · go_ret
                exact ended _ _
              · go_round
                case rel => exact ⟨_, l + 1, by omega, rfl, by go_num⟩
                case measure => simp [intOf]; omega
            · go_wp2
              go_round
              case rel => exact ⟨_, k + 1, by omega, rfl, by go_num⟩
              case measure => simp [intOf]; omega
        · go_wp2
          go_ret
          exact ended _ _

end Go.Proofs.Qxb6628743a
