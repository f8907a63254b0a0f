/- Seat b6628771a: what the row's step hands over, in the walks' own words. -/
import Derived.Test.Qxb6628771aMem
import Derived.SliceStrings
import Derived.Deep.Slices
import Derived.ProofKit
namespace Go.Proofs.Qxb6628771a
open Go.ChangeShapes Go.WideShapes Go.ChangeAt Go.RowKit Go.Deep
set_option linter.unusedVariables false

theorem cells9 : Try.prog.cellsOf 9 = 1 := by kernel_rfl
theorem cells31 : Try.prog.cellsOf 31 = 1 := by kernel_rfl

theorem row_of {H : Type} {enc : TypeId × Value → H} {W : World} {fuel : Nat} {v : Value} {x : DataW H × List MemPlace} (hf : DataW.trod enc Try.prog W 0 (fun _ => true) true fuel 31 [v] = some x) :
    ∃ a n c ss, v = .slice a n c ∧ StrRow W a n ss ∧ n ≤ c ∧ (a = none → n = 0 ∧ c = 0) := by
  rcases open_strings Try.underlying31 Try.underlying9 cells9 hf with ⟨hcs, _⟩ | ⟨a, len, cap, ss, hcs, _, hl, hm, hz, _, hcell, hws⟩
  · simp at hcs
    exact ⟨none, 0, 0, [], hcs, ⟨rfl, by omega, .inl rfl⟩, Nat.le_refl _, fun _ => ⟨rfl, rfl⟩⟩
  · simp at hcs
    have hz' : ss.length = cap := by simpa using hz
    refine ⟨some a, len, cap, ss.take len, hcs, ⟨by simp; omega, by unfold maxLen at hm; omega, ?_⟩, hl, fun h => by cases h⟩
    by_cases h0 : len = 0
    · exact .inl h0
    · obtain ⟨b, off, spot⟩ := a
      have hs : spot = none := by simpa [Addr.add] using World.cell?_spot (hcell 0 (by omega))
      subst hs
      refine .inr ⟨b, off, rfl, fun i hi => ?_⟩
      have hi' : i < len ∧ i < ss.length := by simp at hi; omega
      have := hcell i hi'.2
      rw [Addr.add_lit] at this
      rw [this, List.getElem?_take_of_lt hi'.1]
      rfl

theorem grid_of {H : Type} {enc : TypeId × Value → H} {W : World} {fuel : Nat} {v : Value} {x : DataW H × List MemPlace} (hf : DataW.trod enc Try.prog W 0 (fun _ => true) true fuel 22 [v] = some x) :
    ∃ a n c G, v = .slice a n c ∧ Grid W a n G ∧ n ≤ c ∧ (a = none → n = 0 ∧ c = 0) := by
  rcases open_slice1 Try.underlying22 cells31 hf with ⟨hcs, _⟩ | ⟨a, len, cap, m, n, V, D, Pl, hcs, _, hl, hm, hmm, _, hx⟩
  · simp at hcs
    exact ⟨none, 0, 0, [], hcs, ⟨rfl, by omega, .inl rfl⟩, Nat.le_refl _, fun _ => ⟨rfl, rfl⟩⟩
  · simp at hcs
    have hm' : m = cap := by simpa using hmm
    obtain ⟨g, hg⟩ := choose_lt (α := List ByteArray) (n := len) (p := fun i ss => ∃ a n c, V i = .slice a n c ∧ StrRow W a n ss) (fun i hi => by
      obtain ⟨ai, ni, ci, ss, h1, h2, _⟩ := row_of (hx i (by omega)).2
      exact ⟨ss, ai, ni, ci, h1, h2⟩)
    refine ⟨some a, len, cap, (List.range len).map g, hcs, ⟨by simp, by unfold maxLen at hm; omega, ?_⟩, hl, fun h => by cases h⟩
    by_cases h0 : len = 0
    · exact .inl h0
    · obtain ⟨b, off, spot⟩ := a
      have hs : spot = none := by simpa [Addr.add] using World.cell?_spot (hx 0 (by omega)).1
      subst hs
      refine .inr ⟨b, off, rfl, fun i hi => ?_⟩
      have hi' : i < len := by simpa using hi
      obtain ⟨ai, ni, ci, h1, h2⟩ := hg i hi'
      have := (hx i (by omega)).1
      rw [Addr.add_lit, h1] at this
      refine ⟨ai, ni, ci, this, ?_⟩
      simpa [hi'] using h2

theorem cells3 : Try.prog.cellsOf 3 = 1 := by kernel_rfl
theorem ints_of {H : Type} {enc : TypeId × Value → H} {W : World} {fuel : Nat} {v : Value} {x : DataW H × List MemPlace} (hf : DataW.trod enc Try.prog W 0 (fun _ => true) true fuel 23 [v] = some x) :
    ∃ a n c zs, v = .slice a n c ∧ IntRow W a n zs ∧ n ≤ c ∧ (a = none → n = 0 ∧ c = 0) := by
  rcases open_ints Try.underlying23 Try.underlying3 cells3 hf with ⟨hcs, _⟩ | ⟨a, len, cap, zs, hcs, _, hl, hm, hz, _, hcell, hwz⟩
  · simp at hcs
    exact ⟨none, 0, 0, [], hcs, ⟨rfl, by omega, .inl rfl⟩, Nat.le_refl _, fun _ => ⟨rfl, rfl⟩⟩
  · simp at hcs
    have hz' : zs.length = cap := by simpa using hz
    refine ⟨some a, len, cap, zs.take len, hcs, ⟨by simp; omega, by unfold maxLen at hm; omega, ?_⟩, hl, fun h => by cases h⟩
    by_cases h0 : len = 0
    · exact .inl h0
    · obtain ⟨b, off, spot⟩ := a
      have hs : spot = none := by simpa [Addr.add] using World.cell?_spot (hcell 0 (by omega))
      subst hs
      refine .inr ⟨b, off, rfl, fun i hi => ?_⟩
      have hi' : i < len ∧ i < zs.length := by simp at hi; omega
      have := hcell i hi'.2
      rw [Addr.add_lit] at this
      rw [this, List.getElem?_take_of_lt hi'.1]
      rfl

end Go.Proofs.Qxb6628771a
