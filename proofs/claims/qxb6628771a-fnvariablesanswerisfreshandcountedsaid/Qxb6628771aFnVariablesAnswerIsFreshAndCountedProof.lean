/- The proof of Rows.FnVariablesAnswerIsFreshAndCountedSaid, in the frame that the kit's skeleton tool writes for slices of integers, turned to slices of strings. -/
import Derived.Test.Qxb6628771aRows
import Derived.Test.Qxb6628771aConv
import Derived.Test.Qxb6628771aLaw4
import Derived.WalkKit
import Derived.ProofKit
import Derived.OpenShut
import Derived.ShutString
import Derived.ChangeOld
import Derived.Below
namespace Go.Proofs.Qxb6628771a.fnVariablesAnswerIsFreshAndCounted
open Go.ChangeShapes Go.WideShapes Go.ChangeAt Go.RowKit
open Go.ChangeMaps (open_string shut_string)
set_option linter.unusedVariables false

theorem own : ownKnob Try.prog.godebug = none := by kernel_rfl
theorem laidOut : laidOutB Try.prog = true := by kernel_rfl

/-! ### The walk -/
theorem walk (raw : ByteArray) (a0 : Option Addr) (n0 c0 : Nat) (G : List (List ByteArray)) (a1 : Option Addr) (n1 c1 : Nat) (zs : List Int) (w : World) (h0 : Grid w a0 n0 G) (h1 : IntRow w a1 n1 zs) (e0 : a0 = none → n0 = 0 ∧ c0 = 0) (e1 : a1 = none → n1 = 0 ∧ c1 = 0) :
    Calls Try.prog 4 #[.string raw, .slice a0 n0 c0, .slice a1 n1 c1] w fun e w' => e = .returned (.bool true) ∧ Below w.heap.size w w' := by
  by_cases h : 1048576 < raw.size ∨ 65536 < n0 ∨ 65536 < n1
  · exact law4_out raw a0 n0 c0 G a1 n1 c1 w h0 h1.2.1 h
  · by_cases he : n1 = n0
    · subst he
      exact law4_main raw a0 n1 c0 G a1 c1 zs w h0 h1 e0 e1 (by omega) (by omega)
    · exact law4_odd raw a0 n0 c0 G a1 n1 c1 w h0 (by omega) (by omega) (by omega) he

/-! ### The row's step -/
set_option maxRecDepth 100000 in
theorem lifted (os : Os) (started : os.Started) (H : Type) (enc : TypeId × Value → H) :
    ReturnsInHanded {} Try.checked os 4 .any (Rows.fnVariablesAnswerIsFreshAndCountedSpec.pre6 enc Try.prog Try.f4 Rows.fnVariablesAnswerIsFreshAndCountedRow.domain false) (Rows.fnVariablesAnswerIsFreshAndCountedSpec.post enc Try.prog Try.f4 false true false false) := by
  refine returnsInHanded_of_change (C := Try.checked) own started (by kernel_rfl) Try.func4
    (ChangeSpec.witness6 (enc := enc) (C := Try.checked) false ⟨#[], #[.string ByteArray.empty, .slice none 0 0, .slice none 0 0], []⟩ 8 (by kernel_rfl) (by kernel_rfl) (by kernel_rfl) (by kernel_rfl)) ?_
  intro W base args ds gs before hval0 hW hcnd _
  have hval : ∀ (j : Nat) t v, Try.f4.params[j]? = some t → args[j]? = some v → Value.okWide Try.prog W .any base t v := hval0
  have hW' := hW
  obtain ⟨p, q, hA0, hV, rfl, hfz, hnd⟩ := hW
  have hA : DataW.TrodAll enc Try.prog W 0 (fun _ => true) true Try.f4.params.toList args.toList ds p := hA0
  rw [Try.params4] at hA hval
  obtain ⟨v0, vs0, d0, ds0, p0, q0, hargs, rfl, rfl, h0, r0⟩ := trodAll_cons hA
  obtain ⟨v1, vs1, d1, ds1, p1, q1, rfl, rfl, rfl, h1, r1⟩ := trodAll_cons r0
  obtain ⟨v2, vs2, d2, ds2, p2, q2, rfl, rfl, rfl, h2, r2⟩ := trodAll_cons r1
  obtain ⟨rfl, rfl, rfl⟩ := trodAll_nil r2
  obtain rfl : args = #[v0, v1, v2] := by cases args; simp_all
  obtain ⟨rfl, rfl⟩ := trodVars_none hV
  obtain ⟨raw, rfl, rfl, rfl, hraw⟩ := open_string Try.underlying9 (hval 0 9 v0 rfl rfl) h0
  have k1 := h1
  have lt1 : ∀ x ∈ p1, x.block < W.heap.size := by obtain ⟨m, hm⟩ := k1; exact DataW.trod_lt m _ _ _ hm
  obtain ⟨_, _, _, eq1⟩ := okWide_slice Try.underlying22 (hval 1 22 v1 rfl rfl)
  obtain ⟨a0, len0, cap0, G, rfl, w0, _, n0⟩ : ∃ a n c G, v1 = .slice a n c ∧ Grid W a n G ∧ n ≤ c ∧ (a = none → n = 0 ∧ c = 0) := by
    obtain ⟨fuel, hf⟩ := h1
    subst eq1
    exact grid_of (by simpa [Value.cells] using hf)
  have k2 := h2
  have lt2 : ∀ x ∈ p2, x.block < W.heap.size := by obtain ⟨m, hm⟩ := k2; exact DataW.trod_lt m _ _ _ hm
  obtain ⟨_, _, _, eq2⟩ := okWide_slice Try.underlying23 (hval 2 23 v2 rfl rfl)
  obtain ⟨a1, len1, cap1, zs, rfl, w1, _, n1⟩ : ∃ a n c zs, v2 = .slice a n c ∧ IntRow W a n zs ∧ n ≤ c ∧ (a = none → n = 0 ∧ c = 0) := by
    obtain ⟨fuel, hf⟩ := h2
    subst eq2
    exact ints_of (by simpa [Value.cells] using hf)
  clear hA0 hval0
  refine (walk raw a0 len0 cap0 G a1 len1 cap1 zs W w0 w1 n0 n1).mono fun e W' ⟨he, bel⟩ => ?_
  subst he
  exact ⟨_, rfl, _, _, _, [], _, [], hW', trodAll_mk1 (shut_bool Try.underlying4 _), (trodAll_cons_mk (shut_string Try.underlying9 hraw) (trodAll_cons_mk (Below.trod laidOut (by kernel_rfl) (of_decide_eq_true (by kernel_rfl)) k1 bel lt1) (trodAll_cons_mk (Below.trod laidOut (by kernel_rfl) (of_decide_eq_true (by kernel_rfl)) k2 bel lt2) trodAll_mk0))), rfl, bel.frame _, fun h => by cases h⟩

theorem over : Rows.fnVariablesAnswerIsFreshAndCountedRow.holds Try.pinned (OpenSpec.ofChange Rows.fnVariablesAnswerIsFreshAndCountedSpec) :=
  OpenClaim.holds_of_wide 4 Try.f4 rfl rfl rfl rfl rfl rfl rfl ⟨rfl, rfl, rfl, rfl, rfl⟩ rfl rfl rfl rfl rfl (by kernel_rfl) Try.func4 (by kernel_rfl)
    (of_decide_eq_true (by kernel_rfl)) (by unfold Func.isWrapper; first | (rw [if_pos (by decide +kernel)]; kernel_rfl) | (rw [if_neg (by decide +kernel)]; exact ⟨rfl, rfl⟩))
    (fun os started H enc _ => lifted os started H enc)

/-- The statement. -/
theorem proved : Rows.FnVariablesAnswerIsFreshAndCountedSaid := over
end Go.Proofs.Qxb6628771a.fnVariablesAnswerIsFreshAndCounted
