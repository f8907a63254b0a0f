/- Seat b6628771a: Variables walked. -/
import Derived.Test.Qxb6628771aTmpl
namespace Go.Proofs.Qxb6628771a
open Go.RowKit
set_option linter.unusedVariables false

/-- One part's occurrences. -/
def occ (p : List ByteArray × Int) : List (ByteArray × Int) := p.1.map fun s => (s, p.2)
/-- What Variables answers. -/
def varsOf (Ps : List (List ByteArray × Int)) : List (ByteArray × Int) := Ps.flatMap occ
/-- The cells of such a row. -/
def vcells (vs : List (ByteArray × Int)) : List Value := vs.flatMap fun v => [.string v.1, .int .i64 v.2]

theorem length_vcells (vs : List (ByteArray × Int)) : (vcells vs).length = vs.length * 2 := by
  induction vs with
  | nil => rfl
  | cons v vs ih => simp only [vcells, List.flatMap_cons, List.length_append, List.length_cons, List.length_nil] at ih ⊢; omega
theorem vcells_append (a b : List (ByteArray × Int)) : vcells (a ++ b) = vcells a ++ vcells b := by simp [vcells]
theorem varsOf_take {Ps : List (List ByteArray × Int)} {k : Nat} {p : List ByteArray × Int} (h : Ps[k]? = some p) : varsOf (Ps.take (k + 1)) = varsOf (Ps.take k) ++ occ p := by
  obtain ⟨hk, rfl⟩ := List.getElem?_eq_some_iff.1 h
  unfold varsOf
  rw [List.take_succ_eq_append_getElem hk, List.flatMap_append, List.flatMap_cons, List.flatMap_nil, List.append_nil]
theorem occ_take {p : List ByteArray × Int} {l : Nat} {t : ByteArray} (h : p.1[l]? = some t) : (occ p).take (l + 1) = (occ p).take l ++ [(t, p.2)] := by
  obtain ⟨hl, rfl⟩ := List.getElem?_eq_some_iff.1 h
  rw [List.take_succ_eq_append_getElem (by simpa [occ] using hl)]
  simp [occ]
theorem length_occ (p : List ByteArray × Int) : (occ p).length = p.1.length := by simp [occ]
theorem length_varsOf_le (Ps : List (List ByteArray × Int)) (k : Nat) : (varsOf (Ps.take k)).length ≤ (varsOf Ps).length := by
  have e : varsOf Ps = varsOf (Ps.take k) ++ varsOf (Ps.drop k) := by
    unfold varsOf
    rw [← List.flatMap_append, List.take_append_drop]
  rw [e, List.length_append]
  omega

def VarsBack (vs : List (ByteArray × Int)) (w : World) (e : Ending) (w' : World) : Prop := ∃ a c, e = .returned (.slice a vs.length c) ∧ w'.ownsRow w.heap.size 34 2 (.slice a vs.length c) vs.length (vcells vs) ∧ Below w.heap.size w w'
theorem varsBack {vs : List (ByteArray × Int)} {w w' : World} {a : Option Addr} {n c : Nat} (hn : n = vs.length) (h1 : w'.ownsRow w.heap.size 34 2 (.slice a n c) n (vcells vs)) (h2 : Below w.heap.size w w') : VarsBack vs w (.returned (.slice a n c)) w' := by
  subst hn
  exact ⟨a, c, rfl, h1, h2⟩

theorem Try.info34 : (Try.prog.info? 34).map (fun i => (i.zero, i.size, i.bytes)) = some (some (.agg #[.string ByteArray.empty, .int .i64 0]), 2, 24) := by kernel_rfl

/-- The cells of part k, at the walk's own addresses. -/
theorem Tmpl.open {w : World} {b : Nat} {Ps : List (List ByteArray × Int)} (h : Tmpl w b Ps) : ∃ raw a c, VBlk w b 38 [.string raw, .slice a Ps.length c] ∧ Ps.length ≤ 65536 ∧
    ∀ k, k < Ps.length → ∃ g ai ni ci p, a = some ⟨g, 0, none⟩ ∧ Hid (Ps[k]? = some p) ∧ StrRow w ai ni p.1 ∧ w.cell? ⟨g, k * 4, none⟩ = some (.string ByteArray.empty) ∧ w.cell? ⟨g, k * 4 + 1, none⟩ = some (.pointer none) ∧
      w.cell? ⟨g, k * 4 + 2, none⟩ = some (.slice ai ni ci) ∧ w.cell? ⟨g, k * 4 + 3, none⟩ = some (.int .i64 p.2) := by
  obtain ⟨raw, a, c, L, h1, h2, h3, h4⟩ := h
  refine ⟨raw, a, c, h1, h2, fun k hk => ?_⟩
  rcases h3 with h3 | ⟨g, e, h3⟩
  · omega
  · obtain ⟨ai, ni, ci, g1, g2, g3, g4, g5⟩ := h4.2 k Ps[k] (List.getElem?_eq_getElem hk)
    rw [Nat.mul_comm] at g1 g2 g3 g4
    exact ⟨g, ai, ni, ci, Ps[k], e, List.getElem?_eq_getElem hk, g5, h3 _ _ g1, h3 _ _ g2, h3 _ _ g3, h3 _ _ g4⟩

/-- The world in which the append reads the new variable. -/
def laid2 (w : World) (t : ByteArray) (z : Int) : World := w.alloc (.cells #[.string t, .int .i64 z] 34)
theorem laid2_cells (w : World) (t : ByteArray) (z : Int) : ∀ j u, ([.string t, .int .i64 z] : List Value)[j]? = some u → (laid2 w t z).cell? ((⟨w.heap.size, 0, none⟩ : Addr).add j) = some u := by
  intro j u hu
  have hb : VBlk (laid2 w t z) w.heap.size 34 [.string t, .int .i64 z] := heap_alloc_new w _
  rw [Addr.add_lit, Nat.zero_add]
  exact hb.cell hu

/-- 'vs = append(vs, Variable{..})': the operation written out, so that it fits nowhere else. -/
theorem append_at {w : World} {ops : Array Oper} {rest : List Oper} {dst : Option Tmp} {ty : TypeId} {pos : String} {aft : Array Edge} {a : Act} {Q : Exit → Act → World → Prop} (s x : Operand)
    (base n : Nat) (v : Value) (xs : List Value) (t : ByteArray) (z : Int) (hs : a.eval s = v) (hx : a.eval x = .slice (some ⟨w.heap.size, 0, none⟩) 1 1) (hown : w.ownsRow base 34 2 v n xs) (hn : n + 1 ≤ 1048576) (hb : base ≤ w.heap.size)
    (hK : ∀ g cap w', w'.ownsRow base 34 2 (.slice (some ⟨g, 0, none⟩) (n + 1) cap) (n + 1) (xs ++ [.string t, .int .i64 z]) → (laid2 w t z).grownBy w' v.ownBlock → wpList Try.prog ops Q rest (a.put dst (.slice (some ⟨g, 0, none⟩) (n + 1) cap)) w') :
    wpList Try.prog ops Q (⟨dst, .call { callee := .builtin .append, args := #[s, x], argTypes := #[27, 27] }, ty, pos, aft, none⟩ :: rest) a (w.alloc (.cells #[.string t, .int .i64 z] 34)) := by
  obtain ⟨i0, hi, hz0, hz1, hz2⟩ := info_parts Try.info34
  refine wpList_append_own _ rfl s x 27 rfl base 34 i0 _ 2 24 Try.underlying27 hi hz0 hz1 hz2 rfl (by decide) v n xs hs (hown.alloc _) ⟨w.heap.size, 0, none⟩ 1 1 [.string t, .int .i64 z] hx rfl (laid2_cells w t z) ?_ (by unfold maxLen; omega) (by omega) (by simp; omega) ?_
  · intro u hu
    simp only [List.mem_cons, List.not_mem_nil, or_false] at hu
    rcases hu with rfl | rfl <;> rfl
  · intro v' w' r1 r2 _
    obtain ⟨g, cap, rfl⟩ : ∃ g cap, v' = .slice (some ⟨g, 0, none⟩) (n + 1) cap := by
      rcases r1.2 with ⟨_, h⟩ | ⟨g, cap, cur, h, _⟩
      · omega
      · exact ⟨g, cap, h⟩
    exact hK g cap w' r1 r2

/-- The part's own copy stays behind the append: its block is of another element type. -/
theorem kept41 {w w' : World} {pb n base : Nat} {v t : Value} {s : ByteArray} {z : Int} {L xs : List Value} (hB : VBlk w pb 41 L) (hO : w.ownsRow base 34 2 v n xs) (hg : (laid2 w s z).grownBy w' v.ownBlock) : VBlk w' pb 41 L := by
  have h1 : VBlk (laid2 w s z) pb 41 L := (Below.heap_alloc w _ pb hB.lt).trans hB
  refine h1.grown hg fun e => ?_
  rcases hO.2 with ⟨rfl, _⟩ | ⟨g, cap, cur, rfl, _, hh, _⟩
  · cases e
  · obtain rfl : pb = g := by simpa [Value.ownBlock] using e
    have hB' : w.heap[pb]? = some (.cells L.toArray 41 (0, 0)) := hB
    rw [hh] at hB'
    simp at hB'

theorem below2 {B : Nat} {w0 w w' : World} {n : Nat} {v : Value} {s : ByteArray} {z : Int} {xs : List Value} (h : Below B w0 w) (hB : B ≤ w.heap.size) (hO : w.ownsRow B 34 2 v n xs) (hg : (laid2 w s z).grownBy w' v.ownBlock) : Below B w0 w' := by
  refine (h.alloc hB _).grown hg (by simp; omega) fun k hk => ?_
  exact (hO.lt k hk).1

set_option maxHeartbeats 2000000 in
theorem vars_any (b : Nat) (Ps : List (List ByteArray × Int)) (w : World) (hT : Tmpl w b Ps) (hN : (varsOf Ps).length ≤ 65536) :
    Calls Try.prog 10 #[.pointer (some ⟨b, 0, none⟩)] w fun e w' => VarsBack (varsOf Ps) w e w' := by
  obtain ⟨raw, a, c, hB, hn, hp⟩ := hT.open
  obtain ⟨n, HN⟩ : ∃ n, Hid (Ps.length = n) := ⟨_, rfl⟩
  rw [HN.out] at hB hn hp
  obtain ⟨i0, hi, hz0, hz1, hz2⟩ := info_parts Try.info34
  have hc1 := hB.cell (j := 1) rfl
  have HPt : Hid (∀ k, k < n → ∃ g ai ni ci p, a = some ⟨g, 0, none⟩ ∧ Hid (Ps[k]? = some p) ∧ StrRow w ai ni p.1 ∧ w.cell? ⟨g, k * 4, none⟩ = some (.string ByteArray.empty) ∧ w.cell? ⟨g, k * 4 + 1, none⟩ = some (.pointer none) ∧
      w.cell? ⟨g, k * 4 + 2, none⟩ = some (.slice ai ni ci) ∧ w.cell? ⟨g, k * 4 + 3, none⟩ = some (.int .i64 p.2)) := hp
  clear hp hB
  go_enter Try.func10, Try.ntmps10
  go_wp2
  go_loopw [3, 13] (fun vs i wr => ∃ (k : Nat) (av : Option Addr) (m cap : Nat), k ≤ n ∧ i = .int .i64 k ∧ vs = .slice av m cap ∧ Hid (m = (varsOf (Ps.take k)).length) ∧ wr.ownsRow w.heap.size 34 2 (.slice av m cap) m (vcells (varsOf (Ps.take k))) ∧ Below w.heap.size w wr) (fun _ i _ => n - (intOf i).toNat)
  case atStart => exact ⟨0, none, 0, 0, Nat.zero_le _, rfl, rfl, rfl, World.ownsRow_nil _ _ _ _, Below.refl _ _⟩
  case round =>
    obtain ⟨k, av, m, cap, hk, rfl, rfl, HM, hO, hnx⟩ := hrel
    by_cases hlt : k < n
    · obtain ⟨g, ai, ni, ci, ⟨nm, pz⟩, rfl, HP, hrow, d0, d1, d2, d3⟩ := HPt.out k hlt
      simp only at hrow d3
      have hblk : g < w.heap.size := World.block_lt_of_cell? w _ d0
      have f0 : wr.cell? ⟨g, k * 4, none⟩ = some (.string ByteArray.empty) := (hnx.cell (p := ⟨g, k * 4, none⟩) hblk).trans d0
      have f1 : wr.cell? ⟨g, k * 4 + 1, none⟩ = some (.pointer none) := (hnx.cell (p := ⟨g, k * 4 + 1, none⟩) hblk).trans d1
      have f2 : wr.cell? ⟨g, k * 4 + 2, none⟩ = some (.slice ai ni ci) := (hnx.cell (p := ⟨g, k * 4 + 2, none⟩) hblk).trans d2
      have f3 : wr.cell? ⟨g, k * 4 + 3, none⟩ = some (.int .i64 pz) := (hnx.cell (p := ⟨g, k * 4 + 3, none⟩) hblk).trans d3
      clear d0 d1 d2 d3
      have hik : (k : Int) < (n : Int) := by omega
      have hmi := hrow.2.1
      have hsz := hnx.size
      have HC : Hid (m + ni ≤ 65536) := by
        have h1 := length_varsOf_le Ps (k + 1)
        rw [varsOf_take HP.out, List.length_append, length_occ, ← HM.out, hrow.1] at h1
        exact Nat.le_trans h1 hN
      go_wp2
      go_loopw [3, 20] (fun vs j wj => ∃ (l : Nat) (av' : Option Addr) (cap' : Nat), l ≤ ni ∧ j = .int .i64 l ∧ vs = .slice av' (m + l) cap' ∧ wj.ownsRow w.heap.size 34 2 (.slice av' (m + l) cap') (m + l) (vcells (varsOf (Ps.take k) ++ (occ (nm, pz)).take l)) ∧
        VBlk wj wr.heap.size 41 (item ai ni ci pz) ∧ Below w.heap.size w wj) (fun _ j _ => ni - (intOf j).toNat)
      case atStart => exact ⟨0, av, cap, Nat.zero_le _, rfl, rfl, by rw [List.take_zero, List.append_nil]; exact hO.alloc _, heap_alloc_new wr _, hnx.alloc hsz _⟩
      case round =>
        obtain ⟨l, av', cap', hl, rfl, rfl, hOj, hBj, hnj⟩ := hrel
        have hszj := hnj.size
        by_cases hlj : l < ni
        · obtain ⟨bi, offi, t, rfl, HT, hct⟩ := (hrow.below hnj).at l hlj
          have hcp := hBj.cell (j := 3) rfl
          have hml := HC.out
          have hij : (l : Int) < (ni : Int) := by omega
          go_wp2_with (with_reducible refine append_at (.tmp 24) (.tmp 29) w.heap.size (m + l) (.slice av' (m + l) cap') _ t pz ?p1 ?p2 hOj ?p4 hszj ?_)
          case p1 => rfl
          case p2 => rfl
          case p4 => omega
          intro g' cap'' w' hO' hgr
          have hB' := kept41 (t := .bool true) hBj hOj hgr
          have hn' := below2 hnj hszj hOj hgr
          have HV : Hid (vcells (varsOf (Ps.take k) ++ (occ (nm, pz)).take l) ++ [Value.string t, Value.int IntKind.i64 pz] = vcells (varsOf (Ps.take k) ++ (occ (nm, pz)).take (l + 1))) := by
            show _ = _
            rw [occ_take (p := (nm, pz)) HT.out, ← List.append_assoc, vcells_append _ [(t, pz)]]
            rfl
          rw [HV.out] at hO'
          clear hOj hBj hgr hcp hct HV
          go_wp2
          go_roundw
          case rel => exact ⟨l + 1, _, _, by omega, by go_num, rfl, hO', hB', hn'⟩
          case measure => simp [intOf]; omega
        · go_wp2
          go_roundw
          case rel =>
            obtain rfl : l = ni := by omega
            have e : (occ (nm, pz)).take l = occ (nm, pz) := List.take_of_length_le (by rw [length_occ]; exact Nat.le_of_eq hrow.1)
            refine ⟨k + 1, _, _, _, by omega, by go_num, rfl, ?_, ?_, hnj⟩
            · show _ = _
              rw [varsOf_take HP.out, List.length_append, length_occ, HM.out, hrow.1]
            · rw [varsOf_take HP.out, ← e]; exact hOj
          case measure => simp [intOf]; omega
    · go_wp2
      go_ret
      obtain rfl : k = n := by omega
      have e : Ps.take k = Ps := List.take_of_length_le (by rw [HN.out]; exact Nat.le_refl _)
      rw [e] at hO
      exact varsBack (by have := HM.out; rw [e] at this; exact this) hO hnx

end Go.Proofs.Qxb6628771a
