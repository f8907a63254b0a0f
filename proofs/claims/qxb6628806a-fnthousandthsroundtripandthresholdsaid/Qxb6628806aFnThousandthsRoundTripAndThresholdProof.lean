/- The proof of Rows.FnThousandthsRoundTripAndThresholdSaid, in the frame of the kit's skeleton tool, turned to an integer and a float. -/
import Derived.Test.Qxb6628806aRows
import Derived.Test.Qxb6628806aLaws
import Derived.Test.Qxb6628806aLaw4
import Derived.WalkKit
import Derived.ProofKit
import Derived.OpenShut
import Derived.ChangeOld
import Derived.Below
import Derived.Laws.Cover2
namespace Go.Proofs.Qxb6628806a.fnThousandthsRoundTripAndThreshold
open Go.ChangeShapes Go.WideShapes Go.ChangeAt Go.RowKit
set_option linter.unusedVariables false

theorem own : ownKnob Try.prog.godebug = none := by kernel_rfl

/-! ### The walk -/
theorem walk (n : Int) (x : Nat) (w : World) : Calls Try.prog 4 #[.int .i64 n, .float .f64 x] w fun e w' => e = .returned (.bool true) ∧ w = w' := by
  by_cases h : n < 0 ∨ 1000000 < n
  · exact law4_far n x w h
  · obtain ⟨k, rfl⟩ := Int.eq_ofNat_of_zero_le (a := n) (by omega)
    have hk : k ≤ 1000000 := by omega
    rcases h1 : geB x with _ | _
    · exact law4_out k hk x w (.inl h1)
    · rcases h2 : leB x with _ | _
      · exact law4_out k hk x w (.inr ⟨h1, h2⟩)
      · obtain ⟨v, hv, hl⟩ := is_of h1 h2
        exact law4_in k hk x v w h1 h2 hv hl

/-! ### The row's step -/
set_option maxRecDepth 100000 in
theorem lifted (os : Os) (started : os.Started) (H : Type) (enc : TypeId × Value → H) :
    ReturnsInHanded {} Try.checked os 4 .any (Rows.fnThousandthsRoundTripAndThresholdSpec.pre6 enc Try.prog Try.f4 Rows.fnThousandthsRoundTripAndThresholdRow.domain false) (Rows.fnThousandthsRoundTripAndThresholdSpec.post enc Try.prog Try.f4 false true false false) := by
  refine returnsInHanded_of_change (C := Try.checked) own started (by kernel_rfl) Try.func4
    (ChangeSpec.witness6 (enc := enc) (C := Try.checked) false ⟨#[], #[.int .i64 0, .float .f64 0], []⟩ 8 (by kernel_rfl) (by kernel_rfl) (by kernel_rfl) (by kernel_rfl)) ?_
  intro W base args ds gs before hval0 hW hcnd _
  have hval : ∀ (j : Nat) t v, Try.f4.params[j]? = some t → args[j]? = some v → Value.okWide Try.prog W .any base t v := hval0
  have hW' := hW
  obtain ⟨p, q, hA0, hV, rfl, hfz, hnd⟩ := hW
  have hA : DataW.TrodAll enc Try.prog W 0 (fun _ => true) true Try.f4.params.toList args.toList ds p := hA0
  rw [Try.params4] at hA hval
  obtain ⟨v0, vs0, d0, ds0, p0, q0, hargs, rfl, rfl, h0, r0⟩ := trodAll_cons hA
  obtain ⟨v1, vs1, d1, ds1, p1, q1, rfl, rfl, rfl, h1, r1⟩ := trodAll_cons r0
  obtain ⟨rfl, rfl, rfl⟩ := trodAll_nil r1
  obtain rfl : args = #[v0, v1] := by cases args; simp_all
  obtain ⟨rfl, rfl⟩ := trodVars_none hV
  obtain ⟨a0, rfl, rfl, rfl, w0⟩ := open_int Try.underlying2 (hval 0 2 v0 rfl rfl) h0
  obtain ⟨b, rfl, rfl, rfl, w1⟩ := open_float Try.underlying22 (hval 1 22 v1 rfl rfl) h1
  clear hA0 hval0
  refine (walk a0 b W).mono fun e W' ⟨he, bel⟩ => ?_
  subst he
  subst bel
  exact ⟨_, rfl, _, _, _, [], _, [], hW', trodAll_mk1 (shut_bool Try.underlying4 _), (trodAll_cons_mk (shut_int Try.underlying2 w0) (trodAll_cons_mk (shut_float Try.underlying22 w1) trodAll_mk0)), rfl, (Below.refl _ _).frame _, fun h => by cases h⟩

theorem over : Rows.fnThousandthsRoundTripAndThresholdRow.holds Try.pinned (OpenSpec.ofChange Rows.fnThousandthsRoundTripAndThresholdSpec) :=
  OpenClaim.holds_of_wide 4 Try.f4 rfl rfl rfl rfl rfl rfl rfl ⟨rfl, rfl, rfl, rfl, rfl⟩ rfl rfl rfl rfl rfl (by kernel_rfl) Try.func4 (by kernel_rfl)
    (of_decide_eq_true (by kernel_rfl)) (by unfold Func.isWrapper; first | (rw [if_pos (by decide +kernel)]; kernel_rfl) | (rw [if_neg (by decide +kernel)]; exact ⟨rfl, rfl⟩))
    (fun os started H enc _ => lifted os started H enc)

/-- The statement. -/
theorem proved : Rows.FnThousandthsRoundTripAndThresholdSaid := over
end Go.Proofs.Qxb6628806a.fnThousandthsRoundTripAndThreshold
