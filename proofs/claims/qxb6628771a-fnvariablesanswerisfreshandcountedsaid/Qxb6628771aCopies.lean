/- Seat b6628771a: rows that the call itself makes; zzUriCopyInts, zzUriCopyVars walked. -/
import Derived.Test.Qxb6628771aMem
namespace Go.Proofs.Qxb6628771a
open Go.RowKit
set_option linter.unusedVariables false

/-- Block g is the row of the values L. -/
def VBlk (w : World) (g : Nat) (t : TypeId) (L : List Value) : Prop := w.heap[g]? = some (.cells L.toArray t (0, 0))

section
variable {w : World} {g : Nat} {t : TypeId} {L : List Value}
theorem VBlk.cell (h : VBlk w g t L) {j : Nat} {v : Value} (hv : L[j]? = some v) : w.cell? ⟨g, j, none⟩ = some v := by
  rw [cell_of_row w g j _ t (0, 0) h]
  simpa using hv
theorem VBlk.free (h : VBlk w g t L) (j : Nat) : w.frozen? ⟨g, j, none⟩ = false := frozen_of_row w g j _ t h
theorem VBlk.store (h : VBlk w g t L) (j : Nat) (v : Value) : VBlk (w.setCell ⟨g, j, none⟩ v) g t (L.set j v) := by
  have := heap_setCell_same w g j _ t v h
  unfold VBlk
  rw [this]
  simp
theorem VBlk.other (h : VBlk w g t L) {a : Addr} (hne : g ≠ a.block) (v : Value) : VBlk (w.setCell a v) g t L := (heap_setCell_other w a g v hne).trans h
theorem VBlk.lt (h : VBlk w g t L) : g < w.heap.size := (Array.getElem?_eq_some_iff.1 h).1
theorem VBlk.below {w' : World} {B : Nat} (h : VBlk w g t L) (hb : Below B w w') (hB : g < B) : VBlk w' g t L := (hb.block g hB).trans h
theorem VBlk.drewN (h : VBlk w g t L) (n : Nat) : VBlk (w.drewN n) g t L := h
end
theorem VBlk.made (w : World) (z : Value) (n : Nat) (t : TypeId) : VBlk (w.alloc (.cells (madeCells #[z] n) t)) w.heap.size t (List.replicate n z) := by
  unfold VBlk
  rw [heap_alloc_new]
  have e : madeCells #[z] n = (List.replicate n z).toArray := by
    apply Array.toList_inj.1
    rw [toList_madeCells_one]
  rw [e]

/-! ### A row that is filled from its head -/
def part (z : Value) (xs : List Value) (k : Nat) : List Value := xs.take k ++ List.replicate (xs.length - k) z
theorem part_zero (z : Value) (xs : List Value) : part z xs 0 = List.replicate xs.length z := by simp [part]
theorem part_all (z : Value) (xs : List Value) : part z xs xs.length = xs := by simp [part]
theorem part_at (z : Value) (xs : List Value) (k : Nat) (h : k < xs.length) : (part z xs k)[k]? = some z := by
  unfold part
  have e : xs.length - k = (xs.length - k - 1) + 1 := by omega
  rw [List.getElem?_append_right (by simp; omega), List.length_take, Nat.min_eq_left (by omega), Nat.sub_self, e, List.replicate_succ]
  rfl
theorem part_set (z : Value) (xs : List Value) (k : Nat) (v : Value) (h : xs[k]? = some v) : (part z xs k).set k v = part z xs (k + 1) := by
  obtain ⟨hk, rfl⟩ := List.getElem?_eq_some_iff.1 h
  have e : xs.length - k = (xs.length - (k + 1)) + 1 := by omega
  unfold part
  rw [e, List.replicate_succ, List.set_append_right _ _ (by simp; omega), List.length_take, Nat.min_eq_left (by omega), Nat.sub_self, List.set_cons_zero,
    List.take_succ_eq_append_getElem hk, List.append_assoc]
  rfl

/-! ### make -/
theorem Try.info3 : (Try.prog.info? 3).map (fun i => (i.zero, i.size, i.bytes)) = some (some (.int .i64 0), 1, 8) := by kernel_rfl
theorem Try.info9 : (Try.prog.info? 9).map (fun i => (i.zero, i.size, i.bytes)) = some (some (.string ByteArray.empty), 1, 16) := by kernel_rfl
theorem Try.info31 : (Try.prog.info? 31).map (fun i => (i.zero, i.size, i.bytes)) = some (some (.slice none 0 0), 1, 24) := by kernel_rfl
theorem Try.info32 : (Try.prog.info? 32).map (fun i => (i.zero, i.size, i.bytes)) = some (some (.int .i64 0), 1, 8) := by kernel_rfl
theorem mk23 (n : Nat) (hn : n ≤ 1048576) (w : World) : (Instr.makeSlice 23 (.int .i64 (n : Int)) (.int .i64 (n : Int))).run Try.prog w = .ok (.slice (some ⟨w.heap.size, 0, none⟩) n n) (w.alloc (.cells (madeCells #[Value.int .i64 0] n) 3)) :=
  run_make_row' (P := Try.prog) 23 3 _ 8 Try.underlying23 Try.info3 rfl .i64 .i64 n (by omega) (by omega) w
theorem mk31 (n : Nat) (hn : n ≤ 1048576) (w : World) : (Instr.makeSlice 31 (.int .i64 (n : Int)) (.int .i64 (n : Int))).run Try.prog w = .ok (.slice (some ⟨w.heap.size, 0, none⟩) n n) (w.alloc (.cells (madeCells #[Value.string ByteArray.empty] n) 9)) :=
  run_make_row' (P := Try.prog) 31 9 _ 16 Try.underlying31 Try.info9 rfl .i64 .i64 n (by omega) (by omega) w
theorem mk22 (n : Nat) (hn : n ≤ 1048576) (w : World) : (Instr.makeSlice 22 (.int .i64 (n : Int)) (.int .i64 (n : Int))).run Try.prog w = .ok (.slice (some ⟨w.heap.size, 0, none⟩) n n) (w.alloc (.cells (madeCells #[Value.slice none 0 0] n) 31)) :=
  run_make_row' (P := Try.prog) 22 31 _ 24 Try.underlying22 Try.info31 rfl .i64 .i64 n (by omega) (by omega) w
theorem mk35 (n : Nat) (hn : n ≤ 1048576) (w : World) : (Instr.makeSlice 35 (.int .i64 (n : Int)) (.int .i64 (n : Int))).run Try.prog w = .ok (.slice (some ⟨w.heap.size, 0, none⟩) n n) (w.alloc (.cells (madeCells #[Value.int .i64 0] n) 32)) :=
  run_make_row' (P := Try.prog) 35 32 _ 8 Try.underlying35 Try.info32 rfl .i64 .i64 n (by omega) (by omega) w

/-! ### zzUriCopyInts -/
theorem VBlk.ints {w : World} {g : Nat} {t : TypeId} {zs : List Int} (h : VBlk w g t (zs.map (Value.int .i64))) (hn : zs.length ≤ 1048576) : IntRow w (some ⟨g, 0, none⟩) zs.length zs :=
  ⟨rfl, by omega, .inr ⟨g, 0, rfl, fun i hi => by rw [Nat.zero_add]; exact h.cell (by simp [hi])⟩⟩
theorem VBlk.strs {w : World} {g : Nat} {t : TypeId} {ss : List ByteArray} (h : VBlk w g t (ss.map Value.string)) (hn : ss.length ≤ 1048576) : StrRow w (some ⟨g, 0, none⟩) ss.length ss :=
  ⟨rfl, by omega, .inr ⟨g, 0, rfl, fun i hi => by rw [Nat.zero_add]; exact h.cell (by simp [hi])⟩⟩

theorem eqlNil22 (a : Option Addr) (n c : Nat) (w : World) : (binOp .eql 22 (.slice a n c) (.slice none 0 0)).run Try.prog w = .ok (.bool a.isNone) w := Lib.run_eql_slice_nil w 22 31 a n c 0 0 Try.underlying22
theorem eqlNil23 (a : Option Addr) (n c : Nat) (w : World) : (binOp .eql 23 (.slice a n c) (.slice none 0 0)).run Try.prog w = .ok (.bool a.isNone) w := Lib.run_eql_slice_nil w 23 3 a n c 0 0 Try.underlying23
theorem eqlNil31 (a : Option Addr) (n c : Nat) (w : World) : (binOp .eql 31 (.slice a n c) (.slice none 0 0)).run Try.prog w = .ok (.bool a.isNone) w := Lib.run_eql_slice_nil w 31 9 a n c 0 0 Try.underlying31

def IntsBack (n : Nat) (zs : List Int) (w : World) (e : Ending) (w' : World) : Prop := ∃ a' c', e = .returned (.slice a' n c') ∧ n ≤ c' ∧ IntRow w' a' n zs ∧ Below w.heap.size w w'
theorem intsBack {n c : Nat} {zs : List Int} {w w' : World} {a : Option Addr} (h1 : n ≤ c) (h2 : IntRow w' a n zs) (h3 : Below w.heap.size w w') : IntsBack n zs w (.returned (.slice a n c)) w' := ⟨a, c, rfl, h1, h2, h3⟩

set_option maxHeartbeats 400000 in
theorem copyInts (a : Option Addr) (n c : Nat) (zs : List Int) (w : World) (h : IntRow w a n zs) (hn : n ≤ 1048576) (hc : a = none → n = 0 ∧ c = 0) :
    Calls Try.prog 8 #[.slice a n c] w fun e w' => IntsBack n zs w e w' := by
  cases a with
  | none =>
    obtain ⟨rfl, rfl⟩ := hc rfl
    have hq := eqlNil23 none 0 0
    go_enter Try.func8, Try.ntmps8
    go_wp2
    go_ret
    exact intsBack (Nat.le_refl _) h (Below.refl _ _)
  | some x =>
    have hq := eqlNil23 (some x) n c
    have hmk := mk23 n hn
    have HL : Hid (zs.length = n) := h.1
    go_enter Try.func8, Try.ntmps8
    go_wp2
    go_loopw [4] (fun i wr => ∃ k : Nat, k ≤ n ∧ i = .int .i64 k ∧ VBlk wr w.heap.size 3 (part (.int .i64 0) (zs.map (Value.int .i64)) k) ∧ Below w.heap.size w wr) (fun i _ => n - (intOf i).toNat)
    case atStart => exact ⟨0, Nat.zero_le _, rfl, by rw [part_zero, List.length_map, HL.out]; exact VBlk.made w _ n 3, (Below.refl _ _).alloc (Nat.le_refl _) _⟩
    case round =>
      obtain ⟨k, hk, rfl, hB, hnx⟩ := hrel
      by_cases hlt : k < n
      · obtain ⟨b, off, z, e1, HZ, hcz⟩ := (h.below hnx).at k hlt
        obtain rfl : x = ⟨b, off, none⟩ := by simpa using e1
        clear e1
        have hcg := hB.cell (part_at _ _ k (by rw [List.length_map, HL.out]; exact hlt))
        have hfg := hB.free k
        go_wp2
        go_roundw
        case rel =>
          refine ⟨k + 1, by omega, by go_num, ?_, hnx.setCell (Nat.le_refl _) _⟩
          rw [← part_set _ _ k (.int .i64 z) (by rw [List.getElem?_map, HZ.out]; rfl)]
          exact hB.store k _
        case measure => simp [intOf]; omega
      · go_wp2
        go_ret
        refine intsBack (Nat.le_refl _) ?_ hnx
        obtain rfl : k = n := by omega
        have e : k = (zs.map (Value.int .i64)).length := by rw [List.length_map, HL.out]
        rw [e, part_all] at hB
        have := hB.ints (by rw [HL.out]; exact hn)
        rw [HL.out] at this
        exact this

/-! ### zzUriCopyVars -/
/-- Of the grid G the first k rows stand copied in L, each in a block above g. -/
def Done (w : World) (g : Nat) (G : List (List ByteArray)) (k : Nat) (L : List Value) : Prop :=
  ∀ i, i < k → ∃ a n c ss, L[i]? = some (.slice a n c) ∧ G[i]? = some ss ∧ StrRow w a n ss ∧ ∀ x, a = some x → g < x.block

theorem Done.below {w w' : World} {g : Nat} {G : List (List ByteArray)} {k : Nat} {L : List Value} (h : Done w g G k L) (hb : Below w.heap.size w w') : Done w' g G k L := fun i hi => by
  obtain ⟨a, n, c, ss, h1, h2, h3, h4⟩ := h i hi
  exact ⟨a, n, c, ss, h1, h2, h3.below hb, h4⟩
theorem StrRow.setCell {w : World} {a : Option Addr} {n : Nat} {ss : List ByteArray} (h : StrRow w a n ss) {p : Addr} (hp : ∀ x, a = some x → x.block ≠ p.block) (v : Value) : StrRow (w.setCell p v) a n ss := by
  obtain ⟨hl, hm, h0 | ⟨b, off, e, hc⟩⟩ := h
  · exact ⟨hl, hm, .inl h0⟩
  · refine ⟨hl, hm, .inr ⟨b, off, e, fun i hi => ?_⟩⟩
    rw [World.cell?_of_block (w := w) (heap_setCell_other w p b v (hp _ e))]
    exact hc i hi
theorem Done.set {w : World} {g : Nat} {G : List (List ByteArray)} {k : Nat} {L : List Value} (h : Done w g G k L) (v : Value) : Done (w.setCell ⟨g, k, none⟩ v) g G k (L.set k v) := fun i hi => by
  obtain ⟨a, n, c, ss, h1, h2, h3, h4⟩ := h i hi
  refine ⟨a, n, c, ss, by rw [List.getElem?_set_ne (by omega)]; exact h1, h2, h3.setCell (fun x e => ?_) v, h4⟩
  have := h4 x e
  show x.block ≠ g
  omega
theorem Done.step {w : World} {g : Nat} {G : List (List ByteArray)} {k : Nat} {L : List Value} (h : Done w g G k L) {a : Option Addr} {n c : Nat} {ss : List ByteArray} (h1 : L[k]? = some (.slice a n c)) (h2 : G[k]? = some ss)
    (h3 : StrRow w a n ss) (h4 : ∀ x, a = some x → g < x.block) : Done w g G (k + 1) L := fun i hi => by
  by_cases e : i = k
  · subst e; exact ⟨a, n, c, ss, h1, h2, h3, h4⟩
  · exact h i (by omega)

/-- From k on L holds nil slices. -/
def Bare (L : List Value) (k n : Nat) : Prop := ∀ i, k ≤ i → i < n → L[i]? = some (.slice none 0 0)

def GridBack (n : Nat) (G : List (List ByteArray)) (w : World) (e : Ending) (w' : World) : Prop := ∃ a' c', e = .returned (.slice a' n c') ∧ n ≤ c' ∧ Grid w' a' n G ∧ Below w.heap.size w w'
theorem gridBack {n c : Nat} {G : List (List ByteArray)} {w w' : World} {a : Option Addr} (h1 : n ≤ c) (h2 : Grid w' a n G) (h3 : Below w.heap.size w w') : GridBack n G w (.returned (.slice a n c)) w' := ⟨a, c, rfl, h1, h2, h3⟩

theorem Done.grid {w : World} {g n : Nat} {G : List (List ByteArray)} {L : List Value} (h : Done w g G n L) (hB : VBlk w g 31 L) (hG : G.length = n) (hn : n ≤ 1048576) : Grid w (some ⟨g, 0, none⟩) n G := by
  refine ⟨hG, by omega, .inr ⟨g, 0, rfl, fun i hi => ?_⟩⟩
  obtain ⟨a, m, c, ss, h1, h2, h3, _⟩ := h i (by omega)
  refine ⟨a, m, c, by rw [Nat.zero_add]; exact hB.cell h1, ?_⟩
  rw [h2]
  exact h3

/-- The rows' lengths are all within the bound. -/
def Lens (G : List (List ByteArray)) : Prop := ∀ g ∈ G, g.length ≤ 1048576

set_option maxHeartbeats 1000000 in
theorem copyVars (a : Option Addr) (n c : Nat) (G : List (List ByteArray)) (w : World) (h : Grid w a n G) (hn : n ≤ 1048576) (hl : Lens G) (hc : a = none → n = 0 ∧ c = 0) :
    Calls Try.prog 7 #[.slice a n c] w fun e w' => GridBack n G w e w' := by
  cases a with
  | none =>
    obtain ⟨rfl, rfl⟩ := hc rfl
    have hq := eqlNil22 none 0 0
    go_enter Try.func7, Try.ntmps7
    go_wp2
    go_ret
    exact gridBack (Nat.le_refl _) h (Below.refl _ _)
  | some x =>
    have hq := eqlNil22 (some x) n c
    have hmk := mk22 n hn
    have HL : Hid (G.length = n) := h.1
    go_enter Try.func7, Try.ntmps7
    go_wp2
    go_loopw [4] (fun i wr => ∃ (k : Nat) (L : List Value), k ≤ n ∧ i = .int .i64 k ∧ L.length = n ∧ VBlk wr w.heap.size 31 L ∧ Done wr w.heap.size G k L ∧ Bare L k n ∧ Below w.heap.size w wr) (fun i _ => n - (intOf i).toNat)
    case atStart => exact ⟨0, _, Nat.zero_le _, rfl, by simp, VBlk.made w _ n 31, fun i hi => by omega, fun i _ hi => by simp [hi], (Below.refl _ _).alloc (Nat.le_refl _) _⟩
    case round =>
      obtain ⟨k, L, hk, rfl, hL, hB, hD, hE, hnx⟩ := hrel
      have HL2 : Hid (L.length = n) := hL
      clear hL
      by_cases hlt : k < n
      · obtain ⟨b, off, ai, ni, ci, si, e1, HG, hcell0, hrow⟩ := h.at k hlt
        obtain rfl : x = ⟨b, off, none⟩ := by simpa using e1
        clear e1
        have hcell : wr.cell? ⟨b, off + k, none⟩ = some (.slice ai ni ci) := by rw [hnx.cell (World.block_lt_of_cell? w _ hcell0)]; exact hcell0
        clear hcell0
        have hli : ni ≤ 1048576 := by rw [← hrow.1]; exact hl si (List.mem_of_getElem? HG.out)
        cases ai with
        | none =>
          have hqi := eqlNil31 none ni ci
          have hs : si = [] := by
            obtain ⟨h1, _, h2 | ⟨_, _, e, _⟩⟩ := hrow
            · exact List.eq_nil_of_length_eq_zero (h1.trans h2)
            · cases e
          have HS : Hid (si = []) := hs
          clear hs
          go_wp2
          go_roundw
          case rel =>
            refine ⟨k + 1, L, by omega, by go_num, HL2, hB, hD.step (hE k (Nat.le_refl _) hlt) HG.out ?_ (fun x e => by cases e), fun i h1 h2 => hE i (by omega) h2, hnx⟩
            rw [HS.out]
            exact ⟨rfl, by omega, .inl rfl⟩
          case measure => simp [intOf]; omega
        | some xi =>
          have hqi := eqlNil31 (some xi) ni ci
          have hmi := mk31 ni hli
          have HR : Hid (si.length = ni) := hrow.1
          have hsz := hnx.size
          have hglt := hB.lt
          have HA : Hid (∀ wj, Below wr.heap.size wr wj → wj.cell? ⟨b, off + k, none⟩ = some (.slice (some xi) ni ci)) := fun wj hj => by rw [hj.cell (World.block_lt_of_cell? wr _ hcell)]; exact hcell
          have HB : Hid (∀ wj, Below wr.heap.size wr wj → Below w.heap.size w wj) := fun wj hj => hnx.trans (hj.mono hsz)
          have HD : Hid (∀ wj, Below wr.heap.size wr wj → VBlk wj w.heap.size 31 L ∧ Done wj w.heap.size G k L) := fun wj hj => ⟨hB.below hj hglt, hD.below hj⟩
          go_wp2
          go_loopw [6] (fun j wj => ∃ l : Nat, l ≤ ni ∧ j = .int .i64 l ∧ VBlk wj wr.heap.size 9 (part (.string ByteArray.empty) (si.map Value.string) l) ∧ Below wr.heap.size wr wj) (fun j _ => ni - (intOf j).toNat)
          case atStart => exact ⟨0, Nat.zero_le _, rfl, by rw [part_zero, List.length_map, HR.out]; exact VBlk.made wr _ ni 9, (Below.refl _ _).alloc (Nat.le_refl _) _⟩
          case round =>
            obtain ⟨l, hl2, rfl, hBj, hbj⟩ := hrel
            have hcj := HA.out _ hbj
            have hnj := HB.out _ hbj
            by_cases hlj : l < ni
            · obtain ⟨bi, offi, t, e2, HT, hct⟩ := (hrow.below hnj).at l hlj
              obtain rfl : xi = ⟨bi, offi, none⟩ := by simpa using e2
              clear e2
              have hcg := hBj.cell (part_at _ _ l (by rw [List.length_map, HR.out]; exact hlj))
              have hfg := hBj.free l
              go_wp2
              go_roundw
              case rel =>
                refine ⟨l + 1, by omega, by go_num, ?_, hbj.setCell (Nat.le_refl _) _⟩
                rw [← part_set _ _ l (.string t) (by rw [List.getElem?_map, HT.out]; rfl)]
                exact hBj.store l _
              case measure => simp [intOf]; omega
            · obtain ⟨hB2, hD2⟩ := HD.out _ hbj
              have hcg := hB2.cell (hE k (Nat.le_refl _) hlt)
              have hfg := hB2.free k
              go_wp2
              go_roundw
              case rel =>
                obtain rfl : l = ni := by omega
                have e : l = (si.map Value.string).length := by rw [List.length_map, HR.out]
                rw [e, part_all] at hBj
                have R := hBj.strs (by rw [HR.out]; exact hli)
                rw [HR.out] at R
                refine ⟨k + 1, _, by omega, by go_num, ?_, hB2.store k _, (hD2.set _).step (List.getElem?_set_self (by rw [HL2.out]; exact hlt)) HG.out (R.setCell (fun x e => ?_) _) (fun x e => ?_), fun i h1 h2 => ?_, hnj.setCell (Nat.le_refl _) _⟩
                · rw [List.length_set]; exact HL2
                · cases e; exact Nat.ne_of_gt hglt
                · cases e; exact hglt
                · rw [List.getElem?_set_ne (by omega)]; exact hE i (by omega) h2
              case measure => simp [intOf]; omega
      · go_wp2
        go_ret
        obtain rfl : k = n := by omega
        exact gridBack (Nat.le_refl _) (hD.grid hB HL.out hn) hnx

end Go.Proofs.Qxb6628771a
