/- Seat b6628743a: FnWholeAboveTopmostWholeAncestor walked. -/
import Derived.Test.Qxb6628743aAbove
import Derived.Laws.CopyOwn
namespace Go.Proofs.Qxb6628743a
open Go.RowKit Go.ChangeMaps
set_option linter.unusedVariables false

/-- Block g is the row of the strings ss. -/
def SBlk (w : World) (g : Nat) (ss : List ByteArray) : Prop := w.heap[g]? = some (.cells (ss.map Value.string).toArray 9 (0, 0))

theorem SBlk.row {w : World} {g : Nat} {ss : List ByteArray} (h : SBlk w g ss) (hm : ss.length ≤ 1048576) : StrRow w (some ⟨g, 0, none⟩) ss.length ss :=
  ⟨rfl, by omega, .inr ⟨g, 0, rfl, fun i hi => by
    rw [Nat.zero_add, cell_of_row w g i _ 9 (0, 0) h]
    simp [hi]⟩⟩
theorem Try.info9 : (Try.prog.info? 9).map (fun i => (i.zero, i.size, i.bytes)) = some (some (.string ByteArray.empty), 1, 16) := by kernel_rfl
theorem mk23 (n : Nat) (hn : n ≤ 1048576) (w : World) : (Instr.makeSlice 23 (.int .i64 (n : Int)) (.int .i64 (n : Int))).run Try.prog w = .ok (.slice (some ⟨w.heap.size, 0, none⟩) n n) (w.alloc (.cells (madeCells #[Value.string ByteArray.empty] n) 9)) :=
  run_make_row' (P := Try.prog) 23 9 (.string ByteArray.empty) 16 Try.underlying23 Try.info9 rfl .i64 .i64 n (by omega) (by omega) w
theorem SBlk.made (w : World) (n : Nat) : SBlk (w.alloc (.cells (madeCells #[Value.string ByteArray.empty] n) 9)) w.heap.size (List.replicate n ByteArray.empty) := by
  unfold SBlk
  rw [heap_alloc_new]
  have e : madeCells #[Value.string ByteArray.empty] n = ((List.replicate n ByteArray.empty).map Value.string).toArray := by
    apply Array.toList_inj.1
    rw [toList_madeCells_one]
    simp
  rw [e]

/-- 'copy(zzc, p)': zzc the row that the call has just made, as long as p. The operation written out, so that it fits nowhere else. -/
theorem copy_at {w : World} {ops : Array Oper} {rest : List Oper} {dst : Option Tmp} {ty : TypeId} {pos : String} {aft : Array Edge} {a : Act} {Q : Exit → Act → World → Prop} (d s : Operand)
    (g n c : Nat) (sp : Option Addr) (ss : List ByteArray) (B : Nat) (w0 : World) (hd : a.eval d = .slice (some ⟨g, 0, none⟩) n n) (hs : a.eval s = .slice sp n c)
    (hr : StrRow w sp n ss) (hg : SBlk w g (List.replicate n ByteArray.empty)) (hb : Below B w0 w) (hBg : B ≤ g)
    (h : ∀ w', SBlk w' g ss → Below B w0 w' → wpList Try.prog ops Q rest (a.put dst (goInt n)) w') :
    wpList Try.prog ops Q (⟨dst, .call { callee := .builtin .copy, args := #[d, s], argTypes := #[23, 23] }, ty, pos, aft, none⟩ :: rest) a w := by
  have hl : (ss.map Value.string).length = n := by simp [hr.1]
  refine wpList_copy_splice rfl d s 23 23 rfl 9 Try.underlying23 (by kernel_rfl) _ _ _ _ _ _ hd hs g 0 ((List.replicate n ByteArray.empty).map Value.string) 9 hg (ss.map Value.string) (by simp [hr.1]) ?_ (by simp [hr.1]) ?_ B w0 hb hBg ?_
  · intro hp
    obtain ⟨b, off, e, hc⟩ : ∃ b off, sp = some ⟨b, off, none⟩ ∧ StrCells w b off ss := by
      rcases hr.2.2 with h0 | h0
      · omega
      · exact h0
    refine ⟨rfl, _, e, fun j v hv => ?_⟩
    have hj : j < ss.length := by
      have := (List.getElem?_eq_some_iff.1 hv).1
      simpa using this
    rw [Addr.add_lit, hc j hj]
    simp [hj] at hv
    simp [hj, hv]
  · intro v hv
    obtain ⟨_, _, rfl⟩ := List.mem_map.1 hv
    rfl
  · intro w' hg' hb'
    rw [hl]
    refine h w' ?_ hb'
    have hg2 := hg'.out
    unfold splice at hg2
    rw [hl] at hg2
    simp only [List.take_zero, List.nil_append, Nat.zero_add] at hg2
    rw [List.drop_of_length_le (by simp), List.append_nil] at hg2
    exact hg2

theorem neqNil (a : Option Addr) (n c : Nat) (w : World) : (binOp .neq 23 (.slice a n c) (.slice none 0 0)).run Try.prog w = .ok (.bool (!a.isNone)) w :=
  run_neq_slice_nil_any w 23 9 a n c 0 0 Try.underlying23

theorem law3_big (a0 : Option Addr) (n0 c0 : Nat) (G : List (List ByteArray)) (a1 : Option Addr) (n1 c1 : Nat) (ss : List ByteArray) (w : World) (h0 : Grid w a0 n0 G) (h1 : StrRow w a1 n1 ss) (h : 1048576 < n1 ∨ 1048576 < n0) :
    Calls Try.prog 3 #[.slice a0 n0 c0, .slice a1 n1 c1] w fun e w' => e = .returned (.bool true) ∧ Below w.heap.size w w' := by
  go_enter Try.func3, Try.ntmps3
  go_wp2_with (first
    | (go_at_call 5; refine (bytes5 _ _ _ _ _ _ _ _ _ h0 h1).mono ?_; rintro e w' ⟨b, rfl, rfl⟩)
    | (go_at_call 6; refine (tooBig_out _ _ _ _ _ _ _ h).mono ?_; rintro e w' ⟨rfl, rfl⟩))
  all_goals
    go_ret
    exact ⟨rfl, Below.refl _ _⟩

theorem law3_none (a0 : Option Addr) (n0 c0 : Nat) (G : List (List ByteArray)) (a1 : Option Addr) (c1 : Nat) (ss : List ByteArray) (w : World) (h0 : Grid w a0 n0 G) (h1 : StrRow w a1 0 ss) (hn0 : n0 ≤ 1048576) :
    Calls Try.prog 3 #[.slice a0 n0 c0, .slice a1 0 c1] w fun e w' => e = .returned (.bool true) ∧ Below w.heap.size w w' := by
  go_enter Try.func3, Try.ntmps3
  go_wp2_with (first
    | (go_at_call 5; refine (bytes5 _ _ _ _ _ _ _ _ _ h0 h1).mono ?_; rintro e w' ⟨b, rfl, rfl⟩)
    | (go_at_call 6; refine (tooBig_in _ _ _ _ _ _ _ _ _ h0 h1 hn0 (by omega)).mono ?_; rintro e w' ⟨b, rfl, rfl⟩))
  all_goals
    go_ret
    exact ⟨rfl, Below.refl _ _⟩

/-- The plain law: what the tree marks is what the list holds. -/
theorem top_same {G : List (List ByteArray)} {n0 : Nat} {Wh : List ByteArray → Bool} (hM : Marks G n0 Wh) (hG : G.length = n0) (ss : List ByteArray) (n : Nat) (hn : n ≤ ss.length) :
    top (fun d => Wh (ss.take (d + 1))) n = top (fun d => inG G (ss.take (d + 1))) n := by
  have e : ∀ d, d < n → Wh (ss.take (d + 1)) = inG G (ss.take (d + 1)) := fun d hd => by
    have hne : ss.take (d + 1) ≠ [] := by
      intro h
      have := congrArg List.length h
      rw [List.length_take, List.length_nil] at this
      omega
    rw [hM _ hne, inG_all G _ n0 (by omega)]
  rcases top_cases (fun d => Wh (ss.take (d + 1))) n with ⟨h1, h2⟩ | ⟨d, h1, h2, h3, h4⟩
  · rw [h1, top_none fun d hd => ?_]
    show inG G (ss.take (d + 1)) = false
    rw [← e d hd]
    exact h2 d hd
  · rw [h1, top_some h2 (d := d)]
    · show inG G (ss.take (d + 1)) = true
      rw [← e d h2]
      exact h3
    · intro e' he'
      show inG G (ss.take (e' + 1)) = false
      rw [← e e' (by omega)]
      exact h4 e' he'

set_option maxHeartbeats 1000000 in
theorem law3_main (a0 : Option Addr) (n0 c0 : Nat) (G : List (List ByteArray)) (x1 : Addr) (n1 c1 : Nat) (ss : List ByteArray) (w : World) (h0 : Grid w a0 n0 G) (h1 : StrRow w (some x1) n1 ss) (hn0 : n0 ≤ 1048576) (hn1 : n1 ≤ 1048576) (hp : 1 ≤ n1) :
    Calls Try.prog 3 #[.slice a0 n0 c0, .slice (some x1) n1 c1] w fun e w' => e = .returned (.bool true) ∧ Below w.heap.size w w' := by
  have hq := neqNil (some x1) n1 c1
  have hmk := mk23 n1 hn1
  have L1 : Hid (ss.length = n1) := h1.1
  go_enter Try.func3, Try.ntmps3
  go_wp2_with (first
    | (go_at_call 5; refine (bytes5 _ _ _ _ _ _ _ _ _ h0 h1).mono ?_; rintro e w' ⟨b, rfl, rfl⟩)
    | (go_at_call 6; refine (tooBig_in _ _ _ _ _ _ _ _ _ h0 h1 hn0 hn1).mono ?_; rintro e w' ⟨b, rfl, rfl⟩)
    | (with_reducible refine copy_at (.tmp 25) (.tmp 26) w.heap.size n1 c1 (some x1) ss w.heap.size w ?p3 ?p4 ?p6 ?p7 ?p9 ?p10 ?_))
  case p3 => rfl
  case p4 => rfl
  case p6 => exact h1.below ((Below.refl _ _).alloc (Nat.le_refl _) _)
  case p7 => exact SBlk.made w n1
  case p9 => exact (Below.refl _ _).alloc (Nat.le_refl _) _
  case p10 => exact Nat.le_refl _
  · go_ret
    exact ⟨rfl, Below.refl _ _⟩
  · go_ret
    exact ⟨rfl, Below.refl _ _⟩
  intro w1 hB hb1
  have R1 : StrRow w1 (some ⟨w.heap.size, 0, none⟩) n1 ss := by have := hB.row (by rw [L1.out]; exact hn1); rw [L1.out] at this; exact this
  have G1 := h0.below hb1
  clear hq hmk hB h0 h1
  go_wp2_with (go_at_call 7; refine (build_any _ _ _ _ _ G1).mono ?_; rintro e w2 ⟨v, N, Wh, rfl, hV, hI, hb2, hM⟩)
  have R2 := R1.below hb2
  have G2 := G1.below hb2
  have hb02 : Below w.heap.size w w2 := hb1.trans (hb2.mono hb1.size)
  obtain ⟨r, HR⟩ : ∃ r : Int, Hid (top (fun d => Wh (ss.take (d + 1))) (n1 - 1) = r) := ⟨_, rfl⟩
  have HS : Hid (top (fun d => inG G (ss.take (d + 1))) (n1 - 1) = r) := by
    have := top_same hM G2.1 ss (n1 - 1) (by rw [L1.out]; omega)
    rw [HR.out] at this
    exact this.symm
  have hA := above8 v _ n1 n1 ss w2 _ N Wh hV hI R2 hp (Nat.le_refl _)
  rw [HR.out] at hA
  clear G1 R1 hb1 hb2 hM HR hV hI
  refine hA.mono ?_
  clear hA
  rintro e w' ⟨rfl, rfl⟩
  go_wp2
  go_loopw [8, 9] (fun z i wr => ∃ d m : Nat, d ≤ n1 - 1 ∧ z = .int .i64 (-1) ∧ i = .int .i64 d ∧ wr = w2.drewN m ∧ Clear (fun d => inG G (ss.take (d + 1))) d) (fun _ i _ => n1 - (intOf i).toNat)
  case atStart => exact ⟨0, 0, Nat.zero_le _, rfl, rfl, rfl, fun e he => by omega⟩
  case round =>
    obtain ⟨d, m, hd, rfl, rfl, rfl, hC⟩ := hrel
    by_cases hlt : d < n1 - 1
    · have hlt' : (d : Int) < (n1 : Int) - 1 := by omega
      have hW := inWhole_any a0 n0 c0 G _ n1 n1 ss (d + 1) (w2.drewN m) (G2.drewN m) (R2.drewN m) (by omega)
      rw [show ((d + 1 : Nat) : Int) = (d : Int) + 1 by omega] at hW
      cases hg : inG G (ss.take (d + 1))
      · rw [hg] at hW
        have HG : Hid (inG G (ss.take (d + 1)) = false) := hg
        clear hg
        go_wp2_with (go_at_call 9; refine hW.mono ?_; rintro e w' ⟨rfl, m', rfl⟩)
        go_roundw
        case rel =>
          refine ⟨d + 1, m + m', by omega, rfl, by go_num, by simp, fun e he => ?_⟩
          by_cases hed : e < d
          · exact hC e hed
          · obtain rfl : e = d := by omega
            exact HG
        case measure => simp [intOf]; omega
      · rw [hg] at hW
        have HG : Hid (inG G (ss.take (d + 1)) = true) := hg
        clear hg
        have hr : r = (d : Int) := by rw [← HS.out]; exact top_some (f := fun d => inG G (ss.take (d + 1))) hlt HG hC
        go_wp2_with (go_at_call 9; refine hW.mono ?_; rintro e w' ⟨rfl, m', rfl⟩)
        go_ret
        exact ⟨by simp, below_drewN hb02 _⟩
    · have hr : r = -1 := by
        obtain rfl : d = n1 - 1 := by omega
        rw [← HS.out]
        exact top_none hC
      have hge : (n1 : Int) - 1 ≤ (d : Int) := by omega
      go_wp2
      go_ret
      exact ⟨by simp, below_drewN hb02 _⟩

end Go.Proofs.Qxb6628743a
