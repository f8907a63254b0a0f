/- Seat b6628743a: zzBuild walked. -/
import Derived.Test.Qxb6628743aTree
namespace Go.Proofs.Qxb6628743a
open Go.RowKit Go.ChangeMaps
set_option linter.unusedVariables false

/-- The value of a pointer to a node that may lack. -/
def NodeIs (o : Option (Nat × Nat)) (v : Value) : Prop := (o = none ∧ v = .pointer none) ∨ ∃ b m, o = some (b, m) ∧ v = .pointer (some ⟨b, 0, none⟩)

theorem node_new (w : World) : Calls Try.prog 11 #[.bool false] w fun e w' => e = .returned (.pointer (some ⟨w.heap.size + 1, 0, none⟩)) ∧ made w = w' := node_any w

theorem child_none {B : Nat} {w : World} {N : List ByteArray → Option (Nat × Nat)} {Wh : List ByteArray → Bool} (h : Inv B w N Wh) {q : List ByteArray} {b m : Nat} (hq : Hid (N q = some (b, m))) (k : ByteArray) (hk : Hid (N (q ++ [k]) = none)) : Calls Try.prog 12 #[.pointer (some ⟨b, 0, none⟩), .string k] w fun e w' => e = .returned (.pointer none) ∧ w = w' := by
  obtain ⟨_, _, g3, es, clock, g4, g5⟩ := h.node q b m hq.out
  have := child_any w b m _ es clock _ k g3 g4 g5
  rw [hk.out] at this
  exact this

theorem child_some {B : Nat} {w : World} {N : List ByteArray → Option (Nat × Nat)} {Wh : List ByteArray → Bool} (h : Inv B w N Wh) {q : List ByteArray} {b m : Nat} (hq : Hid (N q = some (b, m))) (k : ByteArray) {b' m' : Nat} (hk : Hid (N (q ++ [k]) = some (b', m'))) : Calls Try.prog 12 #[.pointer (some ⟨b, 0, none⟩), .string k] w fun e w' => e = .returned (.pointer (some ⟨b', 0, none⟩)) ∧ w = w' := by
  obtain ⟨_, _, g3, es, clock, g4, g5⟩ := h.node q b m hq.out
  have := child_any w b m _ es clock _ k g3 g4 g5
  rw [hk.out] at this
  exact this

theorem child_set {B : Nat} {w : World} {N : List ByteArray → Option (Nat × Nat)} {Wh : List ByteArray → Bool} (h : Inv B w N Wh) {q : List ByteArray} {b m : Nat} (hq : Hid (N q = some (b, m))) (k : ByteArray) (hB : B ≤ w.heap.size) (hk : Hid (N (q ++ [k]) = none)) :
    Calls Try.prog 13 #[.pointer (some ⟨b, 0, none⟩), .string k, .pointer (some ⟨w.heap.size + 1, 0, none⟩)] (made w) fun e w' => e = .returned (.tuple #[]) ∧
      Inv B w' (fun x => if x = q ++ [k] then some (w.heap.size + 1, w.heap.size) else N x) Wh ∧ Below B w w' := by
  have h1 := h.below (made_below w)
  obtain ⟨_, g2, g3, es, clock, g4, g5⟩ := h1.node q b m hq.out
  have := setChild_any (made w) b m _ es clock _ k (w.heap.size + 1) g3 g4 g5 (by simp [hk.out])
  refine this.mono ?_
  rintro e w' ⟨rfl, rfl⟩
  refine ⟨rfl, h.child hB hq.out k hk.out g4 g5, ?_⟩
  refine ((made_below w).mono hB).trans ⟨rfl, rfl, rfl, by simp [setBlock], fun i hi => heap_setBlock_other g4 _ (by omega)⟩

theorem mark_node {B : Nat} {w : World} {N : List ByteArray → Option (Nat × Nat)} {Wh : List ByteArray → Bool} (h : Inv B w N Wh) {q : List ByteArray} {b m : Nat} (hq : Hid (N q = some (b, m))) : Calls Try.prog 14 #[.pointer (some ⟨b, 0, none⟩)] w fun e w' => e = .returned (.tuple #[]) ∧ Inv B w' N (fun x => decide (x = q) || Wh x) ∧ Below B w w' := by
  obtain ⟨g1, g2, g3, es, clock, g4, g5⟩ := h.node q b m hq.out
  refine (setWhole_any w b m _ g3).mono ?_
  rintro e w' ⟨rfl, rfl⟩
  exact ⟨rfl, h.mark hq.out, (Below.refl _ _).setCell g1 _⟩

/-- Behind k paths: the marked ones are those paths (the empty one apart). -/
def Marks (G : List (List ByteArray)) (k : Nat) (Wh : List ByteArray → Bool) : Prop := ∀ q, q ≠ [] → Wh q = inG (G.take k) q

theorem Marks.skip {G : List (List ByteArray)} {k : Nat} {Wh : List ByteArray → Bool} (h : Marks G k Wh) (hk : G[k]? = some []) : Marks G (k + 1) Wh := fun q hq => by
  rw [inG_take G q k [] hk, ← h q hq]
  have : decide ([] = q) = false := decide_eq_false fun e => hq e.symm
  rw [this, Bool.or_false]
theorem Marks.step {G : List (List ByteArray)} {k : Nat} {Wh : List ByteArray → Bool} (h : Marks G k Wh) {s : List ByteArray} (hk : G[k]? = some s) : Marks G (k + 1) (fun x => decide (x = s) || Wh x) := fun q hq => by
  show (decide (q = s) || Wh q) = _
  rw [inG_take G q k s hk, ← h q hq, Bool.or_comm]
  congr 1
  by_cases e : q = s
  · simp [e]
  · have e' : ¬ s = q := fun x => e x.symm
    simp [e, e']

theorem take_next {ss : List ByteArray} {l : Nat} {t : ByteArray} (h : ss[l]? = some t) : ss.take (l + 1) = ss.take l ++ [t] := by
  obtain ⟨g, e⟩ := List.getElem?_eq_some_iff.1 h
  rw [List.take_succ_eq_append_getElem g, e]

set_option maxHeartbeats 1000000 in
theorem build_any (a0 : Option Addr) (n0 c0 : Nat) (G : List (List ByteArray)) (w : World) (h0 : Grid w a0 n0 G) :
    Calls Try.prog 7 #[.slice a0 n0 c0] w fun e w' => ∃ v N Wh, e = .returned v ∧ NodeIs (N []) v ∧ Inv w.heap.size w' N Wh ∧ Below w.heap.size w w' ∧ Marks G n0 Wh := by
  have hm0 := h0.2.1
  go_enter Try.func7, Try.ntmps7
  go_wp2
  go_loopw [3, 4] (fun r i wr => ∃ (k : Nat) (N : List ByteArray → Option (Nat × Nat)) (Wh : List ByteArray → Bool), k ≤ n0 ∧ i = .int .i64 k ∧ NodeIs (N []) r ∧ Inv w.heap.size wr N Wh ∧ Below w.heap.size w wr ∧ Marks G k Wh) (fun _ i _ => n0 - (intOf i).toNat)
  case atStart => exact ⟨0, _, _, Nat.zero_le _, rfl, .inl ⟨rfl, rfl⟩, Inv.empty _ _, Below.refl _ _, fun q _ => rfl⟩
  case round =>
    obtain ⟨k, N, Wh, hk, rfl, hR, hI, hnx, hM⟩ := hrel
    by_cases hlt : k < n0
    · obtain ⟨b, off, ai, ni, ci, si, rfl, HG, hcell0, hrow⟩ := h0.at k hlt
      have hcell : wr.cell? ⟨b, off + k, none⟩ = some (.slice ai ni ci) := by rw [hnx.cell (World.block_lt_of_cell? w _ hcell0)]; exact hcell0
      clear hcell0
      have hmi := hrow.2.1
      by_cases hz : ni = 0
      · have hs : si = [] := List.eq_nil_of_length_eq_zero (hrow.1.trans hz)
        have HZ : Hid (si = []) := hs
        clear hs
        go_wp2
        go_roundw
        case rel => exact ⟨k + 1, N, Wh, by omega, by go_num, hR, hI, hnx, hM.skip (by rw [HG.out, HZ.out])⟩
        case measure => simp [intOf]; omega
      · have hzb : ((ni : Int) == 0) = false := by simp; omega
        have hsz := hnx.size
        rcases hR with ⟨hN, rfl⟩ | ⟨rb, rm, hN, rfl⟩
        · have HN : Hid (N [] = none) := hN
          clear hN
          go_wp2_with (go_at_call 11; refine (node_new _).mono ?_; rintro e w' ⟨rfl, rfl⟩)
          have hI1 := hI.root HN.out hsz
          have hnx1 := hnx.trans ((made_below wr).mono hsz)
          have HN1 : Hid ((fun q => if q = [] then some (wr.heap.size + 1, wr.heap.size) else N q) [] = some (wr.heap.size + 1, wr.heap.size)) := rfl
          go_loopw [6, 7] (fun nd j wj => ∃ (l : Nat) (N2 : List ByteArray → Option (Nat × Nat)) (b2 m2 : Nat), l ≤ ni ∧ j = .int .i64 l ∧ nd = .pointer (some ⟨b2, 0, none⟩) ∧ Hid (N2 [] = some (wr.heap.size + 1, wr.heap.size)) ∧ Hid (N2 (si.take l) = some (b2, m2)) ∧ Inv w.heap.size wj N2 Wh ∧ Below w.heap.size w wj ) (fun _ j _ => ni - (intOf j).toNat)
          case atStart => exact ⟨0, _, wr.heap.size + 1, wr.heap.size, Nat.zero_le _, rfl, rfl, HN1, HN1, hI1, hnx1⟩
          case round =>
            obtain ⟨l, N2, b2, m2, hl, rfl, rfl, HR2, HN2, hI2, hnx2⟩ := hrel
            have hsz2 := hnx2.size
            by_cases hlj : l < ni
            · obtain ⟨bi, offi, t, rfl, HT, hcj⟩ := (hrow.below hnx2).at l hlj
              cases hc : N2 (si.take l ++ [t]) with
              | some bm =>
                obtain ⟨b3, m3⟩ := bm
                have HC : Hid (N2 (si.take l ++ [t]) = some (b3, m3)) := hc
                clear hc
                go_wp2_with (go_at_call 12; refine (child_some hI2 HN2 t HC).mono ?_; rintro e w' ⟨rfl, rfl⟩)
                go_roundw
                case rel => exact ⟨l + 1, N2, b3, m3, by omega, by go_num, rfl, HR2, by rw [take_next HT.out]; exact HC, hI2, hnx2⟩
                case measure => simp [intOf]; omega
              | none =>
                have HC : Hid (N2 (si.take l ++ [t]) = none) := hc
                clear hc
                have hcm : (made wr).cell? ⟨bi, offi + l, none⟩ = some (.string t) := by rw [(made_below wr).cell (World.block_lt_of_cell? wr _ hcj)]; exact hcj
                go_wp2_with (first
                  | (go_at_call 12; refine (child_none hI2 HN2 t HC).mono ?_; rintro e w' ⟨rfl, rfl⟩)
                  | (go_at_call 11; refine (node_new _).mono ?_; rintro e w' ⟨rfl, rfl⟩)
                  | (go_at_call 13; refine (child_set hI2 HN2 t hsz2 HC).mono ?_; rintro e w3 ⟨rfl, hI3, hb3⟩))
                go_roundw
                case rel =>
                  refine ⟨l + 1, _, wr.heap.size + 1, wr.heap.size, by omega, by go_num, rfl, ?_, ?_, hI3, hnx2.trans hb3⟩
                  · show _ = _
                    rw [if_neg (by simp)]
                    exact HR2
                  · show _ = _
                    rw [take_next HT.out, if_pos rfl]
                case measure => simp [intOf]; omega
            · have el : si.take l = si := List.take_of_length_le (by have := hrow.1; omega)
              have HN3 : Hid (N2 si = some (b2, m2)) := by have := HN2.out; rw [el] at this; exact this
              clear el
              go_wp2_with (go_at_call 14; refine (mark_node hI2 HN3).mono ?_; rintro e w3 ⟨rfl, hI3, hb3⟩)
              go_roundw
              case rel => exact ⟨k + 1, N2, _, by omega, by go_num, .inr ⟨_, _, HR2, rfl⟩, hI3, hnx2.trans hb3, hM.step HG.out⟩
              case measure => simp [intOf]; omega
        · have HN1 : Hid (N [] = some (rb, rm)) := hN
          clear hN
          go_wp2
          have hI1 := hI
          have hnx1 := hnx
          go_loopw [6, 7] (fun nd j wj => ∃ (l : Nat) (N2 : List ByteArray → Option (Nat × Nat)) (b2 m2 : Nat), l ≤ ni ∧ j = .int .i64 l ∧ nd = .pointer (some ⟨b2, 0, none⟩) ∧ Hid (N2 [] = some (rb, rm)) ∧ Hid (N2 (si.take l) = some (b2, m2)) ∧ Inv w.heap.size wj N2 Wh ∧ Below w.heap.size w wj ) (fun _ j _ => ni - (intOf j).toNat)
          case atStart => exact ⟨0, N, rb, rm, Nat.zero_le _, rfl, rfl, HN1, HN1, hI1, hnx1⟩
          case round =>
            obtain ⟨l, N2, b2, m2, hl, rfl, rfl, HR2, HN2, hI2, hnx2⟩ := hrel
            have hsz2 := hnx2.size
            by_cases hlj : l < ni
            · obtain ⟨bi, offi, t, rfl, HT, hcj⟩ := (hrow.below hnx2).at l hlj
              cases hc : N2 (si.take l ++ [t]) with
              | some bm =>
                obtain ⟨b3, m3⟩ := bm
                have HC : Hid (N2 (si.take l ++ [t]) = some (b3, m3)) := hc
                clear hc
                go_wp2_with (go_at_call 12; refine (child_some hI2 HN2 t HC).mono ?_; rintro e w' ⟨rfl, rfl⟩)
                go_roundw
                case rel => exact ⟨l + 1, N2, b3, m3, by omega, by go_num, rfl, HR2, by rw [take_next HT.out]; exact HC, hI2, hnx2⟩
                case measure => simp [intOf]; omega
              | none =>
                have HC : Hid (N2 (si.take l ++ [t]) = none) := hc
                clear hc
                have hcm : (made wr).cell? ⟨bi, offi + l, none⟩ = some (.string t) := by rw [(made_below wr).cell (World.block_lt_of_cell? wr _ hcj)]; exact hcj
                go_wp2_with (first
                  | (go_at_call 12; refine (child_none hI2 HN2 t HC).mono ?_; rintro e w' ⟨rfl, rfl⟩)
                  | (go_at_call 11; refine (node_new _).mono ?_; rintro e w' ⟨rfl, rfl⟩)
                  | (go_at_call 13; refine (child_set hI2 HN2 t hsz2 HC).mono ?_; rintro e w3 ⟨rfl, hI3, hb3⟩))
                go_roundw
                case rel =>
                  refine ⟨l + 1, _, wr.heap.size + 1, wr.heap.size, by omega, by go_num, rfl, ?_, ?_, hI3, hnx2.trans hb3⟩
                  · show _ = _
                    rw [if_neg (by simp)]
                    exact HR2
                  · show _ = _
                    rw [take_next HT.out, if_pos rfl]
                case measure => simp [intOf]; omega
            · have el : si.take l = si := List.take_of_length_le (by have := hrow.1; omega)
              have HN3 : Hid (N2 si = some (b2, m2)) := by have := HN2.out; rw [el] at this; exact this
              clear el
              go_wp2_with (go_at_call 14; refine (mark_node hI2 HN3).mono ?_; rintro e w3 ⟨rfl, hI3, hb3⟩)
              go_roundw
              case rel => exact ⟨k + 1, N2, _, by omega, by go_num, .inr ⟨_, _, HR2, rfl⟩, hI3, hnx2.trans hb3, hM.step HG.out⟩
              case measure => simp [intOf]; omega
    · go_wp2
      go_ret
      obtain rfl : k = n0 := by omega
      exact ⟨_, N, Wh, rfl, hR, hI, hnx, hM⟩

end Go.Proofs.Qxb6628743a
