/- The proof of Rows.FnWholeAboveCutAgreementSaid, in the frame that the kit's skeleton tool writes for slices of integers, turned to slices of strings. -/
import Derived.Test.Qxb6628743aRows
import Derived.Test.Qxb6628743aConv
import Derived.Test.Qxb6628743aLaw4
import Derived.WalkKit
import Derived.ProofKit
import Derived.OpenShut
import Derived.ShutString
import Derived.ChangeOld
import Derived.Below
namespace Go.Proofs.Qxb6628743a.fnWholeAboveCutAgreement
open Go.ChangeShapes Go.WideShapes Go.ChangeAt Go.RowKit
set_option linter.unusedVariables false

theorem own : ownKnob Try.prog.godebug = none := by kernel_rfl
theorem laidOut : laidOutB Try.prog = true := by kernel_rfl

/-! ### The walk -/
theorem walk (a0 : Option Addr) (n0 c0 : Nat) (G : List (List ByteArray)) (a1 : Option Addr) (n1 c1 : Nat) (ss : List ByteArray) (a2 : Int) (w : World) (h0 : Grid w a0 n0 G) (h1 : StrRow w a1 n1 ss) :
    Calls Try.prog 4 #[.slice a0 n0 c0, .slice a1 n1 c1, .int .i64 a2] w fun e w' => e = .returned (.bool true) ∧ Below w.heap.size w w' := by
  by_cases h : 1048576 < n1 ∨ 1048576 < n0
  · exact law4_big a0 n0 c0 G a1 n1 c1 ss a2 w h0 h1 h
  · have hn0 : n0 ≤ 1048576 := by omega
    have hn1 : n1 ≤ 1048576 := by omega
    by_cases hp : n1 = 0 ∨ a2 < 1 ∨ (n1 : Int) < a2
    · exact law4_off a0 n0 c0 G a1 n1 c1 ss a2 w h0 h1 hn0 hn1 hp
    · obtain ⟨k, rfl⟩ := Int.eq_ofNat_of_zero_le (a := a2) (by omega)
      obtain ⟨b, off, s, rfl, _, _⟩ := h1.at 0 (by omega)
      exact law4_main a0 n0 c0 G _ n1 c1 ss k w h0 h1 hn0 hn1 (by omega) (by omega) (by omega)

/-! ### The row's step -/
set_option maxRecDepth 100000 in
theorem lifted (os : Os) (started : os.Started) (H : Type) (enc : TypeId × Value → H) :
    ReturnsInHanded {} Try.checked os 4 .any (Rows.fnWholeAboveCutAgreementSpec.pre6 enc Try.prog Try.f4 Rows.fnWholeAboveCutAgreementRow.domain false) (Rows.fnWholeAboveCutAgreementSpec.post enc Try.prog Try.f4 false true false false) := by
  refine returnsInHanded_of_change (C := Try.checked) own started (by kernel_rfl) Try.func4
    (ChangeSpec.witness6 (enc := enc) (C := Try.checked) false ⟨#[], #[.slice none 0 0, .slice none 0 0, .int .i64 0], []⟩ 8 (by kernel_rfl) (by kernel_rfl) (by kernel_rfl) (by kernel_rfl)) ?_
  intro W base args ds gs before hval0 hW hcnd _
  have hval : ∀ (j : Nat) t v, Try.f4.params[j]? = some t → args[j]? = some v → Value.okWide Try.prog W .any base t v := hval0
  have hW' := hW
  obtain ⟨p, q, hA0, hV, rfl, hfz, hnd⟩ := hW
  have hA : DataW.TrodAll enc Try.prog W 0 (fun _ => true) true Try.f4.params.toList args.toList ds p := hA0
  rw [Try.params4] at hA hval
  obtain ⟨v0, vs0, d0, ds0, p0, q0, hargs, rfl, rfl, h0, r0⟩ := trodAll_cons hA
  obtain ⟨v1, vs1, d1, ds1, p1, q1, rfl, rfl, rfl, h1, r1⟩ := trodAll_cons r0
  obtain ⟨v2, vs2, d2, ds2, p2, q2, rfl, rfl, rfl, h2, r2⟩ := trodAll_cons r1
  obtain ⟨rfl, rfl, rfl⟩ := trodAll_nil r2
  obtain rfl : args = #[v0, v1, v2] := by cases args; simp_all
  obtain ⟨rfl, rfl⟩ := trodVars_none hV
  have k0 := h0
  have lt0 : ∀ x ∈ p0, x.block < W.heap.size := by obtain ⟨m, hm⟩ := k0; exact DataW.trod_lt m _ _ _ hm
  obtain ⟨_, _, _, eq0⟩ := okWide_slice Try.underlying22 (hval 0 22 v0 rfl rfl)
  obtain ⟨a0, len0, cap0, G, rfl, w0, _, _⟩ : ∃ a n c G, v0 = .slice a n c ∧ Grid W a n G ∧ n ≤ c ∧ (a = none → n = 0 ∧ c = 0) := by
    obtain ⟨fuel, hf⟩ := h0
    subst eq0
    exact grid_of (by simpa [Value.cells] using hf)
  have k1 := h1
  have lt1 : ∀ x ∈ p1, x.block < W.heap.size := by obtain ⟨m, hm⟩ := k1; exact DataW.trod_lt m _ _ _ hm
  obtain ⟨_, _, _, eq1⟩ := okWide_slice Try.underlying23 (hval 1 23 v1 rfl rfl)
  obtain ⟨a1, len1, cap1, ss, rfl, w1, _, _⟩ : ∃ a n c ss, v1 = .slice a n c ∧ StrRow W a n ss ∧ n ≤ c ∧ (a = none → n = 0 ∧ c = 0) := by
    obtain ⟨fuel, hf⟩ := h1
    subst eq1
    exact row_of (by simpa [Value.cells] using hf)
  obtain ⟨a2, rfl, rfl, rfl, w2⟩ := open_int Try.underlying3 (hval 2 3 v2 rfl rfl) h2
  clear hA0 hval0
  refine (walk a0 len0 cap0 G a1 len1 cap1 ss a2 W w0 w1).mono fun e W' ⟨he, bel⟩ => ?_
  subst he
  exact ⟨_, rfl, _, _, _, [], _, [], hW', trodAll_mk1 (shut_bool Try.underlying4 _), (trodAll_cons_mk (Below.trod laidOut (by kernel_rfl) (of_decide_eq_true (by kernel_rfl)) k0 bel lt0) (trodAll_cons_mk (Below.trod laidOut (by kernel_rfl) (of_decide_eq_true (by kernel_rfl)) k1 bel lt1) (trodAll_cons_mk (shut_int Try.underlying3 w2) trodAll_mk0))), rfl, bel.frame _, fun h => by cases h⟩

theorem over : Rows.fnWholeAboveCutAgreementRow.holds Try.pinned (OpenSpec.ofChange Rows.fnWholeAboveCutAgreementSpec) :=
  OpenClaim.holds_of_wide 4 Try.f4 rfl rfl rfl rfl rfl rfl rfl ⟨rfl, rfl, rfl, rfl, rfl⟩ rfl rfl rfl rfl rfl (by kernel_rfl) Try.func4 (by kernel_rfl)
    (of_decide_eq_true (by kernel_rfl)) (by unfold Func.isWrapper; first | (rw [if_pos (by decide +kernel)]; kernel_rfl) | (rw [if_neg (by decide +kernel)]; exact ⟨rfl, rfl⟩))
    (fun os started H enc _ => lifted os started H enc)

/-- The statement. -/
theorem proved : Rows.FnWholeAboveCutAgreementSaid := over
end Go.Proofs.Qxb6628743a.fnWholeAboveCutAgreement
