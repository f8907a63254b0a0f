/- The proof of Rows.FnMeetsSplitSymmetricIntersectionSaid, in the frame that the kit's skeleton tool wrote for it. -/
import Derived.Test.Qxb6628700aRows
import Derived.WalkKit
import Derived.ProofKit
import Derived.OpenShut
import Derived.ShutString
import Derived.ChangeOld
import Derived.Below
import Derived.Test.Qxb6628700aLaw3
namespace Go.Proofs.Qxb6628700a.fnMeetsSplitSymmetricIntersection
open Go.ChangeShapes Go.WideShapes Go.ChangeAt Go.RowKit
open Go.ChangeMaps (open_string shut_string)
set_option linter.unusedVariables false

theorem own : ownKnob Try.prog.godebug = none := by kernel_rfl
theorem laidOut : laidOutB Try.prog = true := by kernel_rfl

/-- WHAT THE WALK IS TOLD OF A SLICE OF INTEGERS THAT CAME IN: it is nil; or it leads to a row of 'cap' cells, the numbers 'zs' (the first 'len' are its elements, the rest its spare room), each fitting its kind. -/
def IsRow (k : IntKind) (w : World) (a : Option Addr) (len cap : Nat) (zs : List Int) : Prop :=
  (a = none ∧ len = 0 ∧ cap = 0 ∧ zs = []) ∨
  ∃ x, a = some x ∧ len ≤ cap ∧ cap ≤ maxLen ∧ zs.length = cap ∧ (∀ i, i < zs.length → w.cell? (x.add i) = some (.int k (zs.getD i 0))) ∧ ∀ n ∈ zs, (Lit.int k n).wf = true

/-- What the row's step hands over, in the walks' own words. -/
theorem IsRow.conv {w : World} {a : Option Addr} {len cap : Nat} {zs : List Int} (h : IsRow .u64 w a len cap zs) :
    Row w a len (zs.take len) ∧ (∀ z ∈ zs.take len, U z) ∧ len ≤ 9223372036854775807 ∧ (a = none → len = 0 ∧ cap = 0) := by
  rcases h with ⟨rfl, rfl, rfl, rfl⟩ | ⟨x, rfl, h1, h2, h3, h4, h5⟩
  · exact ⟨⟨rfl, .inl rfl⟩, fun z hz => by simp at hz, by decide, fun _ => ⟨rfl, rfl⟩⟩
  · refine ⟨⟨by simp; omega, ?_⟩, ?_, ?_, fun h => by cases h⟩
    · by_cases h0 : len = 0
      · exact .inl h0
      · obtain ⟨b, off, spot⟩ := x
        have hs : spot = none := by simpa [Addr.add] using World.cell?_spot (h4 0 (by omega))
        subst hs
        refine .inr ⟨b, off, rfl, fun i hi => ?_⟩
        have hi' : i < len ∧ i < zs.length := by simp at hi; omega
        have := h4 i hi'.2
        rw [Addr.add_lit] at this
        rw [this, List.getElem?_take_of_lt hi'.1]
        rfl
    · intro z hz
      have := bounds_u64 (h5 z (List.mem_of_mem_take hz))
      unfold U
      omega
    · unfold maxLen at h2; omega

/-! ### The walk -/
theorem walk (a0 : Option Addr) (len0 cap0 : Nat) (z0 : List Int) (a1 : Option Addr) (len1 cap1 : Nat) (z1 : List Int) (a2 : Int) (w : World) (w0 : IsRow .u64 w a0 len0 cap0 z0) (w1 : IsRow .u64 w a1 len1 cap1 z1) (w2 : (Lit.int .i64 a2).wf = true) :
    Calls Try.prog 3 #[.slice a0 len0 cap0, .slice a1 len1 cap1, .int .i64 a2] w fun e w' => e = .returned (.bool true) ∧ Below w.heap.size w w' := by
  obtain ⟨r0, u0, m0, e0⟩ := w0.conv
  obtain ⟨r1, u1, m1, e1⟩ := w1.conv
  by_cases h : 4096 < len0 ∨ 4096 < len1
  · exact law3_out a0 len0 cap0 a1 len1 cap1 a2 w m0 m1 h
  have h0 : len0 ≤ 4096 := by omega
  have h1 : len1 ≤ 4096 := by omega
  clear h
  by_cases hk : a2 < 0 ∨ (len0 : Int) < a2 ∨ (len1 : Int) < a2
  · cases a0 with
    | none =>
      obtain ⟨rfl, rfl⟩ := e0 rfl
      cases a1 with
      | none =>
        obtain ⟨rfl, rfl⟩ := e1 rfl
        exact law3_off_nil_nil a2 w hk
      | some x1 => exact law3_off_nil_some x1 len1 cap1 _ a2 w h1 r1 hk
    | some x0 =>
      cases a1 with
      | none =>
        obtain ⟨rfl, rfl⟩ := e1 rfl
        exact law3_off_some_nil x0 len0 cap0 _ a2 w h0 r0 hk
      | some x1 => exact law3_off_some_some x0 len0 cap0 _ x1 len1 cap1 _ a2 w h0 r0 h1 r1 hk
  · obtain ⟨k, rfl⟩ := Int.eq_ofNat_of_zero_le (a := a2) (by omega)
    have hk0 : k ≤ len0 := by omega
    have hk1 : k ≤ len1 := by omega
    clear hk
    cases a0 with
    | none =>
      obtain ⟨rfl, rfl⟩ := e0 rfl
      obtain rfl : k = 0 := by omega
      cases a1 with
      | none =>
        obtain ⟨rfl, rfl⟩ := e1 rfl
        exact law3_nil_nil w
      | some x1 => exact law3_nil_some x1 len1 cap1 _ w h1 r1
    | some x0 =>
      cases a1 with
      | none =>
        obtain ⟨rfl, rfl⟩ := e1 rfl
        obtain rfl : k = 0 := by omega
        exact law3_some_nil x0 len0 cap0 _ w h0 r0
      | some x1 =>
        by_cases q0 : k = len0
        · subst q0
          by_cases q1 : k = len1
          · subst q1
            exact law3_eq_eq k x0 cap0 _ x1 cap1 _ w h0 r0 u0 h1 r1 u1
          · exact law3_eq_lt k x0 cap0 _ x1 cap1 _ len1 (by omega) w h0 r0 u0 h1 r1 u1
        · by_cases q1 : k = len1
          · subst q1
            exact law3_lt_eq k x0 cap0 _ len0 (by omega) x1 cap1 _ w h0 r0 u0 h1 r1 u1
          · exact law3_lt_lt k x0 cap0 _ len0 (by omega) x1 cap1 _ len1 (by omega) w h0 r0 u0 h1 r1 u1

/-! ### The row's step -/
set_option maxRecDepth 100000 in
theorem lifted (os : Os) (started : os.Started) (H : Type) (enc : TypeId × Value → H) :
    ReturnsInHanded {} Try.checked os 3 .any (Rows.fnMeetsSplitSymmetricIntersectionSpec.pre6 enc Try.prog Try.f3 Rows.fnMeetsSplitSymmetricIntersectionRow.domain false) (Rows.fnMeetsSplitSymmetricIntersectionSpec.post enc Try.prog Try.f3 false true false false) := by
  refine returnsInHanded_of_change (C := Try.checked) own started (by kernel_rfl) Try.func3
    (ChangeSpec.witness6 (enc := enc) (C := Try.checked) false ⟨#[], #[.slice none 0 0, .slice none 0 0, .int .i64 0], []⟩ 8 (by kernel_rfl) (by kernel_rfl) (by kernel_rfl) (by kernel_rfl)) ?_
  intro W base args ds gs before hval0 hW hcnd _
  have hval : ∀ (j : Nat) t v, Try.f3.params[j]? = some t → args[j]? = some v → Value.okWide Try.prog W .any base t v := hval0
  have hW' := hW
  obtain ⟨p, q, hA0, hV, rfl, hfz, hnd⟩ := hW
  have hA : DataW.TrodAll enc Try.prog W 0 (fun _ => true) true Try.f3.params.toList args.toList ds p := hA0
  rw [Try.params3] at hA hval
  obtain ⟨v0, vs0, d0, ds0, p0, q0, hargs, rfl, rfl, h0, r0⟩ := trodAll_cons hA
  obtain ⟨v1, vs1, d1, ds1, p1, q1, rfl, rfl, rfl, h1, r1⟩ := trodAll_cons r0
  obtain ⟨v2, vs2, d2, ds2, p2, q2, rfl, rfl, rfl, h2, r2⟩ := trodAll_cons r1
  obtain ⟨rfl, rfl, rfl⟩ := trodAll_nil r2
  obtain rfl : args = #[v0, v1, v2] := by cases args; simp_all
  obtain ⟨rfl, rfl⟩ := trodVars_none hV
  obtain ⟨a0, len0, cap0, rfl⟩ := okWide_slice Try.underlying22 (hval 0 22 v0 rfl rfl)
  have k0 := h0
  have lt0 : ∀ x ∈ p0, x.block < W.heap.size := by obtain ⟨m, hm⟩ := k0; exact DataW.trod_lt m _ _ _ hm
  obtain ⟨z0, w0⟩ : ∃ zs, IsRow .u64 W a0 len0 cap0 zs := by
    obtain ⟨fuel, hf⟩ := h0
    rcases open_ints Try.underlying22 Try.underlying31 (by kernel_rfl) hf with ⟨hcs, _⟩ | ⟨x, l, c, zs, hcs, _, hl, hm, hz, _, hcell, hwz⟩
    · simp [Value.cells] at hcs
      obtain ⟨rfl, rfl, rfl⟩ := hcs
      exact ⟨[], .inl ⟨rfl, rfl, rfl, rfl⟩⟩
    · simp [Value.cells] at hcs
      obtain ⟨rfl, rfl, rfl⟩ := hcs
      exact ⟨zs, .inr ⟨_, rfl, hl, hm, by simpa using hz, hcell, hwz⟩⟩
  obtain ⟨a1, len1, cap1, rfl⟩ := okWide_slice Try.underlying22 (hval 1 22 v1 rfl rfl)
  have k1 := h1
  have lt1 : ∀ x ∈ p1, x.block < W.heap.size := by obtain ⟨m, hm⟩ := k1; exact DataW.trod_lt m _ _ _ hm
  obtain ⟨z1, w1⟩ : ∃ zs, IsRow .u64 W a1 len1 cap1 zs := by
    obtain ⟨fuel, hf⟩ := h1
    rcases open_ints Try.underlying22 Try.underlying31 (by kernel_rfl) hf with ⟨hcs, _⟩ | ⟨x, l, c, zs, hcs, _, hl, hm, hz, _, hcell, hwz⟩
    · simp [Value.cells] at hcs
      obtain ⟨rfl, rfl, rfl⟩ := hcs
      exact ⟨[], .inl ⟨rfl, rfl, rfl, rfl⟩⟩
    · simp [Value.cells] at hcs
      obtain ⟨rfl, rfl, rfl⟩ := hcs
      exact ⟨zs, .inr ⟨_, rfl, hl, hm, by simpa using hz, hcell, hwz⟩⟩
  obtain ⟨a2, rfl, rfl, rfl, w2⟩ := open_int Try.underlying3 (hval 2 3 v2 rfl rfl) h2
  clear hA0 hval0
  refine (walk a0 len0 cap0 z0 a1 len1 cap1 z1 a2 W w0 w1 w2).mono fun e W' ⟨he, bel⟩ => ?_
  subst he
  exact ⟨_, rfl, _, _, _, [], _, [], hW', trodAll_mk1 (shut_bool Try.underlying4 _), (trodAll_cons_mk (Below.trod laidOut (by kernel_rfl) (of_decide_eq_true (by kernel_rfl)) k0 bel lt0) (trodAll_cons_mk (Below.trod laidOut (by kernel_rfl) (of_decide_eq_true (by kernel_rfl)) k1 bel lt1) (trodAll_cons_mk (shut_int Try.underlying3 w2) trodAll_mk0))), rfl, bel.frame _, fun h => by cases h⟩

theorem over : Rows.fnMeetsSplitSymmetricIntersectionRow.holds Try.pinned (OpenSpec.ofChange Rows.fnMeetsSplitSymmetricIntersectionSpec) :=
  OpenClaim.holds_of_wide 3 Try.f3 rfl rfl rfl rfl rfl rfl rfl ⟨rfl, rfl, rfl, rfl, rfl⟩ rfl rfl rfl rfl rfl (by kernel_rfl) Try.func3 (by kernel_rfl)
    (of_decide_eq_true (by kernel_rfl)) (by unfold Func.isWrapper; first | (rw [if_pos (by decide +kernel)]; kernel_rfl) | (rw [if_neg (by decide +kernel)]; exact ⟨rfl, rfl⟩))
    (fun os started H enc _ => lifted os started H enc)

/-- The statement. -/
theorem proved : Rows.FnMeetsSplitSymmetricIntersectionSaid := over
end Go.Proofs.Qxb6628700a.fnMeetsSplitSymmetricIntersection
