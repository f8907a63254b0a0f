/- Seat b6628743a: the tree in memory: a node for each path of a set that is closed under prefixes. No walk here. -/
import Derived.Test.Qxb6628743aNode
namespace Go.Proofs.Qxb6628743a
open Go.RowKit Go.ChangeMaps
set_option linter.unusedVariables false

/-- N: each path's node (its block, its map's block), if it has one; Wh: is the path's node marked whole? All blocks from B on. -/
structure Inv (B : Nat) (w : World) (N : List ByteArray → Option (Nat × Nat)) (Wh : List ByteArray → Bool) : Prop where
  node : ∀ q b m, N q = some (b, m) → B ≤ b ∧ B ≤ m ∧ w.heap[b]? = some (.cells #[.bool (Wh q), .map (some m)] 37 (0, 0)) ∧
    ∃ es clock, w.heap[m]? = some (.map es clock) ∧ Reads es (fun k => (N (q ++ [k])).map Prod.fst)
  inj : ∀ q q' b m m', N q = some (b, m) → N q' = some (b, m') → q = q'
  injm : ∀ q q' b b' m, N q = some (b, m) → N q' = some (b', m) → q = q'
  closed : ∀ q k, N q = none → N (q ++ [k]) = none
  wh : ∀ q, Wh q = true → N q ≠ none

theorem Inv.empty (B : Nat) (w : World) : Inv B w (fun _ => none) (fun _ => false) :=
  { node := (fun _ _ _ h => by cases h), inj := (fun _ _ _ _ _ h => by cases h), injm := (fun _ _ _ _ _ h => by cases h), closed := (fun _ _ _ => rfl), wh := (fun _ h => by cases h) }

section
variable {B : Nat} {w : World} {N : List ByteArray → Option (Nat × Nat)} {Wh : List ByteArray → Bool}

theorem Inv.below {w' : World} (h : Inv B w N Wh) (hb : Below w.heap.size w w') : Inv B w' N Wh := by
  refine ⟨fun q b m hq => ?_, h.inj, h.injm, h.closed, h.wh⟩
  obtain ⟨h1, h2, h3, es, clock, h4, h5⟩ := h.node q b m hq
  refine ⟨h1, h2, ?_, es, clock, ?_, h5⟩
  · rw [hb.block b (Array.getElem?_eq_some_iff.1 h3).1]; exact h3
  · rw [hb.block m (Array.getElem?_eq_some_iff.1 h4).1]; exact h4

theorem Inv.lt (h : Inv B w N Wh) {q : List ByteArray} {b m : Nat} (hq : N q = some (b, m)) : b < w.heap.size ∧ m < w.heap.size := by
  obtain ⟨_, _, h3, es, clock, h4, _⟩ := h.node q b m hq
  exact ⟨(Array.getElem?_eq_some_iff.1 h3).1, (Array.getElem?_eq_some_iff.1 h4).1⟩

/-- Without a root there is no node. -/
theorem Inv.bare (h : Inv B w N Wh) (h0 : N [] = none) : ∀ q, N q = none := by
  intro q
  obtain ⟨n, hn⟩ : ∃ n, q.length = n := ⟨_, rfl⟩
  induction n generalizing q with
  | zero => rw [List.eq_nil_of_length_eq_zero hn]; exact h0
  | succ n ih =>
    have e : q = q.dropLast ++ [q.getLast (by intro e; rw [e] at hn; cases hn)] := (List.dropLast_concat_getLast _).symm
    rw [e]
    exact h.closed _ _ (ih q.dropLast (by rw [List.length_dropLast, hn]; rfl))

/-- A path without a node has no longer path with one. -/
theorem Inv.none_on (h : Inv B w N Wh) (p : List ByteArray) (d : Nat) (hd : N (p.take d) = none) : ∀ e, d ≤ e → N (p.take e) = none := by
  intro e he
  obtain ⟨j, rfl⟩ : ∃ j, e = d + j := ⟨e - d, by omega⟩
  clear he
  induction j with
  | zero => exact hd
  | succ j ih =>
    by_cases hl : d + j < p.length
    · rw [← Nat.add_assoc, List.take_succ_eq_append_getElem hl]
      exact h.closed _ _ ih
    · rw [List.take_of_length_le (by omega)]
      rw [List.take_of_length_le (by omega)] at ih
      exact ih

/-- The world behind 'ZZnode'. -/
def made (w : World) : World := (w.alloc (.map #[] 0)).alloc (.cells #[.bool false, .map (some w.heap.size)] 37)

theorem made_below (w : World) : Below w.heap.size w (made w) := ((Below.refl _ _).alloc (Nat.le_refl _) _).alloc (by simp) _
theorem made_size (w : World) : (made w).heap.size = w.heap.size + 2 := by simp [made]
theorem made_map (w : World) : (made w).heap[w.heap.size]? = some (.map #[] 0) := by
  show ((w.heap.push _).push _)[w.heap.size]? = _
  simp only [Array.getElem?_push, Array.size_push]
  rw [if_neg (by omega), if_pos trivial]
theorem made_node (w : World) : (made w).heap[w.heap.size + 1]? = some (.cells #[.bool false, .map (some w.heap.size)] 37 (0, 0)) := by
  show ((w.heap.push _).push _)[w.heap.size + 1]? = _
  simp only [Array.getElem?_push, Array.size_push]
  rw [if_pos trivial]

/-- The first node: the root. -/
theorem Inv.root (h : Inv B w N Wh) (h0 : N [] = none) (hB : B ≤ w.heap.size) : Inv B (made w) (fun q => if q = [] then some (w.heap.size + 1, w.heap.size) else N q) Wh := by
  have hn := h.bare h0
  have hw : ∀ q, Wh q = false := fun q => by
    cases e : Wh q
    · rfl
    · exact absurd (hn q) (h.wh q e)
  refine ⟨fun q b m hq => ?_, fun q q' b m m' h1 h2 => ?_, fun q q' b b' m h1 h2 => ?_, fun q k hq => ?_, fun q hq => ?_⟩
  · by_cases e : q = []
    · subst e
      simp only [if_true, Option.some.injEq, Prod.mk.injEq] at hq
      obtain ⟨rfl, rfl⟩ := hq
      refine ⟨by omega, hB, ?_, #[], 0, made_map w, ?_⟩
      · rw [hw []]; exact made_node w
      · refine Reads.nil.congr fun k => ?_
        simp [hn]
    · simp [e, hn] at hq
  · by_cases e : q = []
    · by_cases e' : q' = []
      · rw [e, e']
      · simp [e', hn] at h2
    · simp [e, hn] at h1
  · by_cases e : q = []
    · by_cases e' : q' = []
      · rw [e, e']
      · simp [e', hn] at h2
    · simp [e, hn] at h1
  · simp [hn]
  · rw [hw q] at hq; cases hq

/-- A child is added under a name that has none. -/
theorem Inv.child (h : Inv B w N Wh) (hB : B ≤ w.heap.size) {q : List ByteArray} {b m : Nat} (hq : N q = some (b, m)) (k : ByteArray) (hk : N (q ++ [k]) = none)
    {es : Array MapEntry} {clock : Nat} (hm : (made w).heap[m]? = some (.map es clock)) (hr : Reads es (fun k => (N (q ++ [k])).map Prod.fst)) :
    Inv B (setBlock (made w) m (.map (es.push { key := .string k, val := ptr (w.heap.size + 1), born := clock }) (clock + 1)))
      (fun x => if x = q ++ [k] then some (w.heap.size + 1, w.heap.size) else N x) Wh := by
  have h1 := h.below (made_below w)
  have hlt := h.lt hq
  have hwk : Wh (q ++ [k]) = false := by
    cases e : Wh (q ++ [k])
    · rfl
    · exact absurd hk (h.wh _ e)
  have hoth : ∀ i, i ≠ m → (setBlock (made w) m (.map (es.push { key := .string k, val := ptr (w.heap.size + 1), born := clock }) (clock + 1))).heap[i]? = (made w).heap[i]? := fun i hi => heap_setBlock_other hm _ hi
  have hsame := heap_setBlock_same hm (.map (es.push { key := .string k, val := ptr (w.heap.size + 1), born := clock }) (clock + 1))
  have ne1 : ∀ k', q ++ [k] ++ [k'] ≠ q ++ [k] := fun k' e => by
    have := congrArg List.length e
    simp at this
  refine ⟨fun x b' m' hx => ?_, fun x x' b' m' m'' e1 e2 => ?_, fun x x' b' b'' m' e1 e2 => ?_, fun x k' hx => ?_, fun x hx => ?_⟩
  · by_cases e : x = q ++ [k]
    · subst e
      simp only [if_true, Option.some.injEq, Prod.mk.injEq] at hx
      obtain ⟨rfl, rfl⟩ := hx
      refine ⟨by omega, hB, ?_, #[], 0, ?_, ?_⟩
      · rw [hoth _ (by omega), hwk]; exact made_node w
      · rw [hoth _ (by omega)]; exact made_map w
      · refine Reads.nil.congr fun k' => ?_
        rw [if_neg (ne1 k'), h.closed _ _ hk]
        rfl
    · simp only [e, if_false] at hx
      obtain ⟨g1, g2, g3, es', clock', g4, g5⟩ := h1.node x b' m' hx
      have hbm : b' ≠ m := by
        rintro rfl
        rw [hm] at g3
        cases g3
      by_cases ex : x = q
      · subst ex
        rw [hq] at hx
        obtain ⟨rfl, rfl⟩ : b = b' ∧ m = m' := by simpa using hx
        refine ⟨g1, g2, by rw [hoth _ hbm]; exact g3, _, _, hsame, ?_⟩
        refine (hr.push k (by simp [hk]) (w.heap.size + 1) clock).congr fun k' => ?_
        by_cases ek : k' = k
        · simp [ek]
        · have : ¬ (x ++ [k'] = x ++ [k]) := fun e' => ek (by simpa using e')
          simp [ek]
      · have hmm : m' ≠ m := fun e' => ex (h.injm x q b' b m (by rw [← e']; exact hx) hq)
        refine ⟨g1, g2, by rw [hoth _ hbm]; exact g3, es', clock', by rw [hoth _ hmm]; exact g4, g5.congr fun k' => ?_⟩
        have : ¬ (x ++ [k'] = q ++ [k]) := fun e' => ex (List.append_inj' e' rfl).1
        rw [if_neg this]
  · by_cases e : x = q ++ [k]
    · by_cases e' : x' = q ++ [k]
      · rw [e, e']
      · simp only [e, if_true, Option.some.injEq, Prod.mk.injEq] at e1
        simp only [e', if_false] at e2
        have := h.lt e2
        omega
    · simp only [e, if_false] at e1
      by_cases e' : x' = q ++ [k]
      · simp only [e', if_true, Option.some.injEq, Prod.mk.injEq] at e2
        have := h.lt e1
        omega
      · simp only [e', if_false] at e2
        exact h.inj x x' b' m' m'' e1 e2
  · by_cases e : x = q ++ [k]
    · by_cases e' : x' = q ++ [k]
      · rw [e, e']
      · simp only [e, if_true, Option.some.injEq, Prod.mk.injEq] at e1
        simp only [e', if_false] at e2
        have := h.lt e2
        omega
    · simp only [e, if_false] at e1
      by_cases e' : x' = q ++ [k]
      · simp only [e', if_true, Option.some.injEq, Prod.mk.injEq] at e2
        have := h.lt e1
        omega
      · simp only [e', if_false] at e2
        exact h.injm x x' b' b'' m' e1 e2
  · by_cases e : x = q ++ [k]
    · simp [e] at hx
    · simp only [e, if_false] at hx
      have : ¬ (x ++ [k'] = q ++ [k]) := fun e' => by
        have e2 := (List.append_inj' e' rfl).1
        rw [e2, hq] at hx
        cases hx
      rw [if_neg this]
      exact h.closed x k' hx
  · by_cases e : x = q ++ [k]
    · simp [e]
    · simp only [e, if_false]
      exact h.wh x hx

/-- A node is marked whole. -/
theorem Inv.mark (h : Inv B w N Wh) {q : List ByteArray} {b m : Nat} (hq : N q = some (b, m)) : Inv B (w.setCell ⟨b, 0, none⟩ (.bool true)) N (fun x => decide (x = q) || Wh x) := by
  refine ⟨fun x b' m' hx => ?_, h.inj, h.injm, h.closed, fun x hx => ?_⟩
  · obtain ⟨g1, g2, g3, es, clock, g4, g5⟩ := h.node x b' m' hx
    have hmb : m' ≠ b := by
      rintro rfl
      have := (h.node q m' m hq).2.2.1
      rw [this] at g4
      cases g4
    refine ⟨g1, g2, ?_, es, clock, by rw [heap_setCell_other w ⟨b, 0, none⟩ m' _ hmb]; exact g4, g5⟩
    by_cases e : x = q
    · subst e
      rw [hq] at hx
      obtain ⟨rfl, rfl⟩ : b = b' ∧ m = m' := by simpa using hx
      rw [heap_setCell_same w b 0 _ 37 _ g3]
      simp
    · have hbb : b' ≠ b := fun e' => e (h.inj x q b m' m (by rw [← e']; exact hx) hq)
      rw [heap_setCell_other w ⟨b, 0, none⟩ b' _ hbb, g3]
      simp [e]
  · by_cases e : x = q
    · rw [e, hq]; simp
    · refine h.wh x ?_
      simpa [e] using hx

end
end Go.Proofs.Qxb6628743a
