/- The copies that both laws make first, and the bound on total length. -/
import Derived.Test.Qxb6628700aWalks
import Derived.Laws.CopyOwn
namespace Go.Proofs.Qxb6628700a
open Go.RowKit

/-- Does the sum of the lengths stay within the bound? -/
def fits (n0 n1 : Nat) : Bool := decide (n0 + n1 ≤ 1048576)

theorem bytes5 (a0 : Option Addr) (n0 c0 : Nat) (a1 : Option Addr) (n1 c1 : Nat) (k : Int) (w : World) (h0 : n0 ≤ 9223372036854775807) (h1 : n1 ≤ 9223372036854775807) :
    Calls Try.prog 5 #[.slice a0 n0 c0, .slice a1 n1 c1, .int .i64 k] w fun e w' => e = .returned (.bool (fits n0 n1)) ∧ w = w' := by
  by_cases h2 : n0 ≤ 1048576
  · by_cases h3 : n1 ≤ 1048576
    · by_cases h4 : n0 + n1 ≤ 1048576
      · go_enter Try.func5, Try.ntmps5
        go_wp2
        go_ret
        exact ⟨ret_bool (by simp [fits, h4]), rfl⟩
      · go_enter Try.func5, Try.ntmps5
        go_wp2
        go_ret
        exact ⟨ret_bool (by simp [fits, h4]), rfl⟩
    · have h4 : ¬ n0 + n1 ≤ 1048576 := by omega
      go_enter Try.func5, Try.ntmps5
      go_wp2
      go_ret
      exact ⟨ret_bool (by simp [fits, h4]), rfl⟩
  · have h4 : ¬ n0 + n1 ≤ 1048576 := by omega
    go_enter Try.func5, Try.ntmps5
    go_wp2
    go_ret
    exact ⟨ret_bool (by simp [fits, h4]), rfl⟩

theorem bytes10 (a0 : Option Addr) (n0 c0 : Nat) (a1 : Option Addr) (n1 c1 : Nat) (k : Int) (w : World) (h0 : n0 ≤ 9223372036854775807) (h1 : n1 ≤ 9223372036854775807) :
    Calls Try.prog 10 #[.slice a0 n0 c0, .slice a1 n1 c1, .int .i64 k] w fun e w' => e = .returned (.bool (fits n0 n1)) ∧ w = w' := by
  by_cases h2 : n0 ≤ 1048576
  · by_cases h3 : n1 ≤ 1048576
    · by_cases h4 : n0 + n1 ≤ 1048576
      · go_enter Try.func10, Try.ntmps10
        go_wp2
        go_ret
        exact ⟨ret_bool (by simp [fits, h4]), rfl⟩
      · go_enter Try.func10, Try.ntmps10
        go_wp2
        go_ret
        exact ⟨ret_bool (by simp [fits, h4]), rfl⟩
    · have h4 : ¬ n0 + n1 ≤ 1048576 := by omega
      go_enter Try.func10, Try.ntmps10
      go_wp2
      go_ret
      exact ⟨ret_bool (by simp [fits, h4]), rfl⟩
  · have h4 : ¬ n0 + n1 ≤ 1048576 := by omega
    go_enter Try.func10, Try.ntmps10
    go_wp2
    go_ret
    exact ⟨ret_bool (by simp [fits, h4]), rfl⟩

/-- 'copy(zzc, s)': zzc the row that the call has just made, as long as s. -/
theorem copy_law {w : World} {ops : Array Oper} {rest : List Oper} {o : Oper} {a : Act} {Q : Exit → Act → World → Prop} (hgd : o.guard = none) (d s : Operand)
    (ho : o.op = .call { callee := .builtin .copy, args := #[d, s], argTypes := #[22, 22] })
    (g n n' c' c : Nat) (sp : Option Addr) (hd : a.eval d = .slice (some ⟨g, 0, none⟩) n c') (hs : a.eval s = .slice sp n' c) (en : n' = n)
    (zs ys : List Int) (hr : Row w sp n zs) (hg : Blk w g ys) (hy : ys.length = n) (B : Nat) (w0 : World) (hb : Below B w0 w) (hBg : B ≤ g)
    (h : ∀ w', Blk w' g zs → Below B w0 w' → wpList Try.prog ops Q rest (a.put o.dst (goInt n)) w') :
    wpList Try.prog ops Q (o :: rest) a w := by
  subst en
  have hl : (zs.map (Value.int .u64)).length = n' := by simp [hr.1]
  refine wpList_copy_splice hgd d s 22 22 ho 31 Try.underlying22 (by kernel_rfl) _ _ _ _ _ _ hd hs g 0 (ys.map (Value.int .u64)) 31 hg (zs.map (Value.int .u64)) (by simp [hr.1]) ?_ (by simp [hr.1, hy]) ?_ B w0 hb hBg ?_
  · intro hp
    obtain ⟨b, off, e, hc⟩ : ∃ b off, sp = some ⟨b, off, none⟩ ∧ Cells w b off zs := by
      rcases hr.2 with h0 | h0
      · omega
      · exact h0
    refine ⟨rfl, _, e, fun j v hv => ?_⟩
    have hj : j < zs.length := by
      have := (List.getElem?_eq_some_iff.1 hv).1
      simpa using this
    rw [Addr.add_lit, hc j hj]
    simp [hj] at hv
    simp [hj, hv]
  · intro v hv
    obtain ⟨_, _, rfl⟩ := List.mem_map.1 hv
    rfl
  · intro w' hg' hb'
    rw [hl]
    refine h w' ?_ hb'
    have hg2 := hg'.out
    unfold splice at hg2
    rw [hl] at hg2
    simp only [List.take_zero, List.nil_append, Nat.zero_add] at hg2
    rw [List.drop_of_length_le (by simp [hy]), List.append_nil] at hg2
    exact hg2

/-- The same, the operation written out: so that it fits nowhere else. -/
theorem copy_at {w : World} {ops : Array Oper} {rest : List Oper} {dst : Option Tmp} {ty : TypeId} {pos : String} {aft : Array Edge} {a : Act} {Q : Exit → Act → World → Prop} (d s : Operand)
    (g n c : Nat) (sp : Option Addr) (zs : List Int) (B : Nat) (w0 : World) (hd : a.eval d = .slice (some ⟨g, 0, none⟩) n n) (hs : a.eval s = .slice sp n c)
    (hr : Row w sp n zs) (hg : Blk w g (List.replicate n 0)) (hb : Below B w0 w) (hBg : B ≤ g)
    (h : ∀ w', Blk w' g zs → Below B w0 w' → wpList Try.prog ops Q rest (a.put dst (goInt n)) w') :
    wpList Try.prog ops Q (⟨dst, .call { callee := .builtin .copy, args := #[d, s], argTypes := #[22, 22] }, ty, pos, aft, none⟩ :: rest) a w :=
  copy_law rfl d s rfl g n n n c sp hd hs rfl zs _ hr hg (by simp) B w0 hb hBg h

theorem withBit_row (a : Option Addr) (n c : Nat) (b : Nat) (zs : List Int) (w : World) (h : Row w a n zs) (hn : n ≤ 1048576) (hb : b < 262144) :
    Calls Try.prog 11 #[.slice a n c, .int .i64 b] w fun e w' => ∃ g N, e = .returned (.slice (some ⟨g, 0, none⟩) N N) ∧ N ≤ 1048576 ∧ Row w' (some ⟨g, 0, none⟩) N (withBit zs b) ∧ Below w.heap.size w w' := by
  refine (withBit_any a n c b zs w h hn hb).mono ?_
  rintro e w' ⟨g, N, rfl, hN, hB, hb'⟩
  refine ⟨g, N, rfl, by omega, ?_, hb'⟩
  have := hB.row
  rw [length_withBit, h.1, ← hN] at this
  exact this

theorem andWords_row (a0 : Option Addr) (n0 c0 : Nat) (z0 : List Int) (a1 : Option Addr) (n1 c1 : Nat) (z1 : List Int) (w : World) (h0 : Row w a0 n0 z0) (h1 : Row w a1 n1 z1) (hn0 : n0 ≤ 1048576) (hn1 : n1 ≤ 1048576) :
    Calls Try.prog 8 #[.slice a0 n0 c0, .slice a1 n1 c1] w fun e w' => ∃ g m, e = .returned (.slice (some ⟨g, 0, none⟩) m m) ∧ m ≤ 1048576 ∧ Row w' (some ⟨g, 0, none⟩) m (andW z0 z1) ∧ Below w.heap.size w w' := by
  refine (andWords_any a0 n0 c0 z0 a1 n1 c1 z1 w h0 h1 hn0 hn1).mono ?_
  rintro e w' ⟨g, N, rfl, hN, hB, hb'⟩
  refine ⟨g, N, rfl, by omega, ?_, hb'⟩
  have := hB.row
  rw [length_andW, h0.1, h1.1, ← hN] at this
  exact this

end Go.Proofs.Qxb6628700a
