/- Seat b6628743a: one node of the tree: a block of two cells (whole, below) and a map from names to nodes. -/
import Derived.Test.Qxb6628743aLook
import Derived.ChangeMaps5
namespace Go.Proofs.Qxb6628743a
open Go.RowKit Go.ChangeMaps
set_option linter.unusedVariables false

/-- The value of a pointer to the node at block b. -/
def ptr (b : Nat) : Value := .pointer (some ⟨b, 0, none⟩)

/-- The entries read as the function f from names to nodes. -/
def Reads (es : Array MapEntry) (f : ByteArray → Option Nat) : Prop :=
  ∀ k, (f k = none → Instr.findNow .string (.string k) es.toList 0 = some none) ∧ (∀ b, f k = some b → ∃ i, Instr.findNow .string (.string k) es.toList 0 = some (some (i, ptr b)))

theorem bytes_beq (a b : ByteArray) : (a == b) = decide (a = b) := by
  by_cases h : a = b
  · subst h
    have : (a == a) = true := by
      show (a.data == a.data) = true
      simp
    simp [this]
  · have : (a == b) = false := by
      cases hb : a == b
      · rfl
      · exfalso
        refine h (ByteArray.ext ?_)
        have hb' : (a.data == b.data) = true := hb
        simpa using hb'
    simp [h, this]

theorem findNow_snoc (k k' : ByteArray) (v : Value) (c : Nat) (l : List MapEntry) (i : Nat) :
    Instr.findNow .string (.string k) (l ++ [{ key := .string k', val := v, born := c }]) i =
      match Instr.findNow .string (.string k) l i with
      | some none => if k = k' then some (some (i + l.length, v)) else some none
      | r => r := by
  induction l generalizing i with
  | nil =>
    simp only [List.nil_append, Instr.findNow, Instr.sameNow, bytes_beq, List.length_nil, Nat.add_zero]
    by_cases h : k = k' <;> simp [h]
  | cons e l ih =>
    simp only [List.cons_append, Instr.findNow]
    cases Instr.sameNow .string (.string k) e.key with
    | none => rfl
    | some b =>
      cases b with
      | true => rfl
      | false =>
        simp only [ih, List.length_cons]
        rw [show i + 1 + l.length = i + (l.length + 1) by omega]

theorem Reads.nil : Reads #[] (fun _ => none) := fun k => ⟨fun _ => rfl, fun b h => by cases h⟩

theorem Reads.push {es : Array MapEntry} {f : ByteArray → Option Nat} (h : Reads es f) (k : ByteArray) (hk : f k = none) (b c : Nat) :
    Reads (es.push { key := .string k, val := ptr b, born := c }) (fun x => if x = k then some b else f x) := by
  intro x
  have hx := h x
  rw [Array.toList_push]
  rw [findNow_snoc]
  by_cases e : x = k
  · subst e
    rw [hx.1 hk]
    simp
  · simp only [e, if_false]
    refine ⟨fun hn => by rw [hx.1 hn], fun b' hb' => ?_⟩
    obtain ⟨i, hi⟩ := hx.2 b' hb'
    exact ⟨i, by rw [hi]⟩

theorem Reads.congr {es : Array MapEntry} {f g : ByteArray → Option Nat} (h : Reads es f) (e : ∀ k, g k = f k) : Reads es g := fun k => by rw [e k]; exact h k

def val (o : Option Nat) : Value := match o with | none => .pointer none | some b => ptr b

theorem run_lookup {w : World} {m : Nat} {es : Array MapEntry} {clock : Nat} {f : ByteArray → Option Nat} (hm : w.heap[m]? = some (.map es clock)) (hr : Reads es f) (k : ByteArray) :
    (Instr.lookup 35 (.map (some m)) (.string k) false).run Try.prog w = .ok (val (f k)) w := by
  have hc := MapKept.run_checkKey (P := Try.prog) (w := w) (kt := 9) (k := .string k) Try.underlying9 (by simp [MapKept.IsKey]) es.isEmpty 9999
  cases hf : f k with
  | none =>
    have h1 := (hr k).1 hf
    simp [Instr.lookup, run_underlying Try.underlying35, MapKept.run_getObj_map hm, hc, Instr.findKey, run_underlying Try.underlying9, h1, Result.andThen, val]
  | some b =>
    obtain ⟨i, h1⟩ := (hr k).2 b hf
    simp [Instr.lookup, run_underlying Try.underlying35, MapKept.run_getObj_map hm, hc, Instr.findKey, run_underlying Try.underlying9, h1, Result.andThen, val]

theorem run_update {w : World} {m : Nat} {es : Array MapEntry} {clock : Nat} {f : ByteArray → Option Nat} (hm : w.heap[m]? = some (.map es clock)) (hr : Reads es f) (k : ByteArray) (hk : f k = none) (v : Value) :
    (Instr.mapUpdate 35 (.map (some m)) (.string k) v).run Try.prog w = .ok () (setBlock w m (.map (es.push { key := .string k, val := v, born := clock }) (clock + 1))) := by
  have hc := MapKept.run_checkKey (P := Try.prog) (w := w) (kt := 9) (k := .string k) Try.underlying9 (by simp [MapKept.IsKey]) false 9999
  have h1 := (hr k).1 hk
  simp [Instr.mapUpdate, run_underlying Try.underlying35, MapKept.run_getObj_map hm, hc, Instr.findKey, run_underlying Try.underlying9, h1, MapKept.run_setObj_map _ hm, Result.andThen, setBlock]

/-! ### The functions on one node -/
theorem node_any (w : World) :
    Calls Try.prog 11 #[.bool false] w fun e w' => e = .returned (ptr (w.heap.size + 1)) ∧ (w.alloc (.map #[] 0)).alloc (.cells #[.bool false, .map (some w.heap.size)] 37) = w' := by
  have hmm := @run_makeMap Try.prog
  go_enter Try.func11, Try.ntmps11
  go_wp2
  go_ret
  exact ⟨rfl, rfl⟩

theorem child_any (w : World) (b m : Nat) (x : Value) (es : Array MapEntry) (clock : Nat) (f : ByteArray → Option Nat) (k : ByteArray)
    (hb : w.heap[b]? = some (.cells #[x, .map (some m)] 37 (0, 0))) (hm : w.heap[m]? = some (.map es clock)) (hr : Reads es f) :
    Calls Try.prog 12 #[ptr b, .string k] w fun e w' => e = .returned (val (f k)) ∧ w = w' := by
  have hl := run_lookup hm hr k
  have hc : w.cell? ⟨b, 1, none⟩ = some (.map (some m)) := by rw [cell_of_row w b 1 _ 37 (0, 0) hb]; rfl
  clear hb hm
  unfold ptr
  go_enter Try.func12, Try.ntmps12
  go_wp2
  go_ret
  exact ⟨rfl, rfl⟩

theorem setChild_any (w : World) (b m : Nat) (x : Value) (es : Array MapEntry) (clock : Nat) (f : ByteArray → Option Nat) (k : ByteArray) (c : Nat)
    (hb : w.heap[b]? = some (.cells #[x, .map (some m)] 37 (0, 0))) (hm : w.heap[m]? = some (.map es clock)) (hr : Reads es f) (hk : f k = none) :
    Calls Try.prog 13 #[ptr b, .string k, ptr c] w fun e w' => e = .returned (.tuple #[]) ∧ setBlock w m (.map (es.push { key := .string k, val := ptr c, born := clock }) (clock + 1)) = w' := by
  have hl := run_update hm hr k hk (ptr c)
  have hc : w.cell? ⟨b, 1, none⟩ = some (.map (some m)) := by rw [cell_of_row w b 1 _ 37 (0, 0) hb]; rfl
  clear hb hm
  unfold ptr at *
  go_enter Try.func13, Try.ntmps13
  go_wp2
  go_end0
  exact ⟨rfl, rfl⟩

theorem setWhole_any (w : World) (b m : Nat) (x : Bool) (hb : w.heap[b]? = some (.cells #[.bool x, .map (some m)] 37 (0, 0))) :
    Calls Try.prog 14 #[ptr b] w fun e w' => e = .returned (.tuple #[]) ∧ w.setCell ⟨b, 0, none⟩ (.bool true) = w' := by
  have hc : w.cell? ⟨b, 0, none⟩ = some (.bool x) := by rw [cell_of_row w b 0 _ 37 (0, 0) hb]; rfl
  have hf : w.frozen? ⟨b, 0, none⟩ = false := frozen_of_row w b 0 _ 37 hb
  clear hb
  unfold ptr
  go_enter Try.func14, Try.ntmps14
  go_wp2
  go_end0
  exact ⟨rfl, rfl⟩

end Go.Proofs.Qxb6628743a
