/- Seat b6628771a: ZZnewTemplate walked. -/
import Derived.Test.Qxb6628771aCopies
import Derived.Deep.RegionLaw
import Derived.RegionTactic
import Derived.ChangeAlike
namespace Go.Proofs.Qxb6628771a
open Go.RowKit
set_option linter.unusedVariables false

/-- 'append(own, x)' of one element, as a step of a region that draws: the value behind it is a slice at the head of a row of the call's own. -/
theorem step_append_own {P : Program} {ops : Array Oper} {o : Oper} {a : Act} {w : World} {K : Act → World → Prop} {Q : Exit → Act → World → Prop} {E : Prop}
    (hg : o.guard = none) (s x : Operand) (t : TypeId) (hop : o.op = Op.call { callee := Callee.builtin Builtin.append, args := #[s, x], argTypes := #[t, t] })
    (base : Nat) (e : TypeId) (i : TypeInfo) (z : Value) (size bytes : Nat) (h1 : P.underlying t = some (.slice e)) (h2 : P.info? e = some i) (h3 : i.zero = some z) (h4 : i.size = size) (h5 : i.bytes = bytes) (h6 : z.cells.size = size) (h7 : 0 < size)
    (v : Value) (n : Nat) (xs : List Value) (hs : a.eval s = v) (hown : w.ownsRow base e size v n xs)
    (ad : Addr) (c : Nat) (news : List Value) (hx : a.eval x = .slice (some ad) 1 c) (hn : news.length = size) (hc : ∀ j u, news[j]? = some u → w.cell? (ad.add j) = some u) (h1c : ∀ u ∈ news, u.oneCell' = true)
    (b1 : n + 1 ≤ 1048576) (b2 : bytes ≤ 1024) (hb : base ≤ w.heap.size)
    (hK : ∀ g cap w', w'.ownsRow base e size (.slice (some ⟨g, 0, none⟩) (n + 1) cap) (n + 1) (xs ++ news) → w.grownBy w' v.ownBlock → K (a.put o.dst (.slice (some ⟨g, 0, none⟩) (n + 1) cap)) w') :
    if Region.wanted o (yielded ops a.tmps) = true then Oper.wp P o a w K Q else E := by
  have hw : Region.wanted o (yielded ops a.tmps) = true := by simp [Region.wanted, hg]
  rw [if_pos hw]
  refine wp_append_own w s x t hop base e i z size bytes h1 h2 h3 h4 h5 h6 h7 v n xs hs hown ad 1 c news hx (by rw [hn, Nat.one_mul]) hc h1c (by unfold maxLen; omega) ?_ hb ?_
  · have : (n + 1) * bytes ≤ 1048576 * 1024 := Nat.mul_le_mul b1 b2
    omega
  · intro v' w' r1 r2 r3
    obtain ⟨g, cap, rfl⟩ : ∃ g cap, v' = .slice (some ⟨g, 0, none⟩) (n + 1) cap := by
      rcases r1.2 with ⟨_, h⟩ | ⟨g, cap, cur, h, _⟩
      · omega
      · exact ⟨g, cap, h⟩
    exact hK g cap w' r1 r2

theorem Try.info41 : (Try.prog.info? 41).map (fun i => (i.zero, i.size, i.bytes)) = some (some (.agg #[.string ByteArray.empty, .pointer none, .slice none 0 0, .int .i64 0]), 4, 56) := by kernel_rfl

/-- The four cells of one part. -/
def item (a : Option Addr) (n c : Nat) (z : Int) : List Value := [.string ByteArray.empty, .pointer none, .slice a n c, .int .i64 z]

theorem item_one (a : Option Addr) (n c : Nat) (z : Int) : ∀ u ∈ item a n c z, u.oneCell' = true := by
  intro u hu
  simp only [item, List.mem_cons, List.not_mem_nil, or_false] at hu
  rcases hu with rfl | rfl | rfl | rfl <;> rfl
/-- The world in which the append reads its new element. -/
def laid (w : World) (a : Option Addr) (n c : Nat) (z : Int) : World := (w.alloc (.cells #[.string ByteArray.empty, .pointer none, .slice a n c, .int .i64 z] 41)).drew
theorem item_cells (w : World) (a : Option Addr) (n c : Nat) (z : Int) : ∀ j u, (item a n c z)[j]? = some u → (laid w a n c z).cell? ((⟨w.heap.size, 0, none⟩ : Addr).add j) = some u := by
  intro j u hu
  have hb : VBlk (laid w a n c z) w.heap.size 41 (item a n c z) := heap_alloc_new w _
  rw [Addr.add_lit, Nat.zero_add]
  exact hb.cell hu
theorem VBlk.grown {w w' : World} {g : Nat} {t : TypeId} {L : List Value} (h : VBlk w g t L) {row : Option Nat} (hg : w.grownBy w' row) (hne : some g ≠ row) : VBlk w' g t L := (hg.block g h.lt hne).trans h
theorem VBlk.laid {w : World} {g : Nat} {t : TypeId} {L : List Value} (h : VBlk w g t L) (a : Option Addr) (n c : Nat) (z : Int) : VBlk (laid w a n c z) g t L := (Below.heap_alloc w _ g h.lt).trans h
/-- The template's own block behind the append. -/
theorem behind {w w' : World} {tb k cap : Nat} {t : TypeId} {L xs : List Value} {a ai : Option Addr} {ni ci : Nat} {z : Int} (hB : VBlk w tb t L) (hO : w.ownsRow (tb + 1) 41 4 (.slice a k cap) k xs)
    (hg : (laid w ai ni ci z).grownBy w' (Value.slice a k cap).ownBlock) : VBlk w' tb t L := by
  refine (hB.laid ai ni ci z).grown hg fun e => ?_
  have := (hO.lt tb e.symm).1
  omega

/-- The cells L are those of the parts Ps; the names lie in w. -/
def Parts (w : World) (Ps : List (List ByteArray × Int)) (L : List Value) : Prop :=
  L.length = 4 * Ps.length ∧ ∀ i p, Ps[i]? = some p → ∃ a n c, L[4 * i]? = some (.string ByteArray.empty) ∧ L[4 * i + 1]? = some (.pointer none) ∧ L[4 * i + 2]? = some (.slice a n c) ∧ L[4 * i + 3]? = some (.int .i64 p.2) ∧ StrRow w a n p.1

theorem Parts.nil (w : World) : Parts w [] [] := ⟨rfl, fun i p h => by simp at h⟩
theorem Parts.below {w w' : World} {Ps : List (List ByteArray × Int)} {L : List Value} (h : Parts w Ps L) (hb : Below w.heap.size w w') : Parts w' Ps L := by
  refine ⟨h.1, fun i p hp => ?_⟩
  obtain ⟨a, n, c, h1, h2, h3, h4, h5⟩ := h.2 i p hp
  exact ⟨a, n, c, h1, h2, h3, h4, h5.below hb⟩
theorem Parts.snoc {w : World} {Ps : List (List ByteArray × Int)} {L : List Value} (h : Parts w Ps L) {a : Option Addr} {n c : Nat} {ss : List ByteArray} {z : Int} (hr : StrRow w a n ss) : Parts w (Ps ++ [(ss, z)]) (L ++ item a n c z) := by
  refine ⟨by simp [h.1, item]; omega, fun i p hp => ?_⟩
  by_cases hi : i < Ps.length
  · rw [List.getElem?_append_left hi] at hp
    obtain ⟨a', n', c', h1, h2, h3, h4, h5⟩ := h.2 i p hp
    refine ⟨a', n', c', ?_, ?_, ?_, ?_, h5⟩
    all_goals
      rw [List.getElem?_append_left (by rw [h.1]; omega)]
      assumption
  · have e : i = Ps.length := by
      have := (List.getElem?_eq_some_iff.1 hp).1
      simp at this
      omega
    subst e
    rw [List.getElem?_append_right (Nat.le_refl _), Nat.sub_self] at hp
    obtain rfl : (ss, z) = p := by simpa using hp
    refine ⟨a, n, c, ?_, ?_, ?_, ?_, hr⟩
    all_goals
      rw [List.getElem?_append_right (by rw [h.1]; omega), h.1]
    · rw [Nat.sub_self]; rfl
    · rw [show 4 * Ps.length + 1 - 4 * Ps.length = 1 by omega]; rfl
    · rw [show 4 * Ps.length + 2 - 4 * Ps.length = 2 by omega]; rfl
    · rw [show 4 * Ps.length + 3 - 4 * Ps.length = 3 by omega]; rfl
theorem Parts.step {w : World} {Ps : List (List ByteArray × Int)} {L : List Value} {k : Nat} (h : Parts w (Ps.take k) L) {a : Option Addr} {n c : Nat} {ss : List ByteArray} {z : Int} (hp : Ps[k]? = some (ss, z)) (hr : StrRow w a n ss) :
    Parts w (Ps.take (k + 1)) (L ++ item a n c z) := by
  obtain ⟨hk, e⟩ := List.getElem?_eq_some_iff.1 hp
  rw [List.take_succ_eq_append_getElem hk, e]
  exact h.snoc hr

/-- The template at block b has the parts Ps. -/
def Tmpl (w : World) (b : Nat) (Ps : List (List ByteArray × Int)) : Prop :=
  ∃ raw a c L, VBlk w b 38 [.string raw, .slice a Ps.length c] ∧ Ps.length ≤ 65536 ∧ (Ps.length = 0 ∨ ∃ g, a = some ⟨g, 0, none⟩ ∧ ∀ j u, L[j]? = some u → w.cell? ⟨g, j, none⟩ = some u) ∧ Parts w Ps L

theorem Tmpl.below {w w' : World} {b : Nat} {Ps : List (List ByteArray × Int)} (h : Tmpl w b Ps) (hb : Below w.heap.size w w') : Tmpl w' b Ps := by
  obtain ⟨raw, a, c, L, h1, h2, h3, h4⟩ := h
  refine ⟨raw, a, c, L, h1.below hb h1.lt, h2, ?_, h4.below hb⟩
  rcases h3 with h3 | ⟨g, e, h3⟩
  · exact .inl h3
  · exact .inr ⟨g, e, fun j u hu => by rw [hb.cell (World.block_lt_of_cell? w _ (h3 j u hu))]; exact h3 j u hu⟩

def TmplBack (Ps : List (List ByteArray × Int)) (w : World) (e : Ending) (w' : World) : Prop := ∃ b, e = .returned (.pointer (some ⟨b, 0, none⟩)) ∧ Tmpl w' b Ps ∧ Below w.heap.size w w'
theorem tmplBack {Ps : List (List ByteArray × Int)} {w w' : World} {b : Nat} (h1 : Tmpl w' b Ps) (h2 : Below w.heap.size w w') : TmplBack Ps w (.returned (.pointer (some ⟨b, 0, none⟩))) w' := ⟨b, rfl, h1, h2⟩

theorem tmpl_zero (raw : ByteArray) (a0 : Option Addr) (c0 : Nat) (a1 : Option Addr) (c1 : Nat) (w : World) :
    Calls Try.prog 9 #[.string raw, .slice a0 0 c0, .slice a1 0 c1] w fun e w' => TmplBack [] w e w' := by
  go_enter Try.func9, Try.ntmps9
  go_wp2
  refine wp_loop_rounds 1 ?_
  rw [rounds_succ]
  go_wp2
  go_ret
  exact tmplBack ⟨raw, none, 0, [], heap_alloc_new w _, Nat.zero_le _, .inl rfl, Parts.nil _⟩ ((Below.refl _ _).alloc (Nat.le_refl _) _)

theorem below_laid {B : Nat} {w0 w : World} (h : Below B w0 w) (hB : B ≤ w.heap.size) (a : Option Addr) (n c : Nat) (z : Int) : Below B w0 (laid w a n c z) := (h.alloc hB _).drew
theorem laid_size (w : World) (a : Option Addr) (n c : Nat) (z : Int) : (laid w a n c z).heap.size = w.heap.size + 1 := by simp [Qxb6628771a.laid]

theorem tmpl_mk {w : World} {b n cap : Nat} {raw : ByteArray} {a : Option Addr} {L : List Value} {Ps : List (List ByteArray × Int)} (hB : VBlk w b 38 [.string raw, .slice a n cap]) (hO : w.ownsRow (b + 1) 41 4 (.slice a n cap) n L)
    (hP : Parts w Ps L) (hl : Ps.length = n) (hn : n ≤ 65536) : Tmpl w b Ps := by
  subst hl
  refine ⟨raw, a, cap, L, hB, hn, ?_, hP⟩
  rcases hO.2 with ⟨_, h0⟩ | ⟨g, cap', cur, h, _⟩
  · exact .inl h0
  · simp only [Value.slice.injEq, true_and] at h
    obtain ⟨rfl, rfl⟩ := h
    refine .inr ⟨g, rfl, fun j u hu => ?_⟩
    have hj : j < Ps.length * 4 := by
      have := (List.getElem?_eq_some_iff.1 hu).1
      rw [hO.1] at this
      exact this
    rw [hO.cellAt j hj, hu]

set_option maxHeartbeats 2000000 in
theorem tmpl_some (raw : ByteArray) (b0 off0 n c0 : Nat) (G : List (List ByteArray)) (b1 off1 c1 : Nat) (zs : List Int) (w : World) (hG : Grid w (some ⟨b0, off0, none⟩) n G) (hZ : IntRow w (some ⟨b1, off1, none⟩) n zs) (hn : n ≤ 65536) :
    Calls Try.prog 9 #[.string raw, .slice (some ⟨b0, off0, none⟩) n c0, .slice (some ⟨b1, off1, none⟩) n c1] w fun e w' => TmplBack (G.zip zs) w e w' := by
  obtain ⟨i0, hi, hz0, hz1, hz2⟩ := info_parts Try.info41
  have LP : Hid ((G.zip zs).length = n) := by show _ = _; rw [List.length_zip, hG.1, hZ.1, Nat.min_self]
  go_enter Try.func9, Try.ntmps9
  go_wp2
  go_loopw [9] (fun i wr => ∃ (k : Nat) (a : Option Addr) (cap : Nat) (L : List Value), k ≤ n ∧ i = .int .i64 k ∧ VBlk wr w.heap.size 38 [.string raw, .slice a k cap] ∧ wr.ownsRow (w.heap.size + 1) 41 4 (.slice a k cap) k L ∧ Parts w ((G.zip zs).take k) L ∧ Below w.heap.size w wr) (fun i _ => n - (intOf i).toNat)
  case atStart => exact ⟨0, none, 0, [], Nat.zero_le _, rfl, heap_alloc_new w _, World.ownsRow_nil _ _ _ _, Parts.nil _, (Below.refl _ _).alloc (Nat.le_refl _) _⟩
  case round =>
    obtain ⟨k, a, cap, L, hk, rfl, hB, hO, hP, hnx⟩ := hrel
    by_cases hlt : k < n
    · obtain ⟨_, _, ai, ni, ci, si, e1, HG, hca, hrow⟩ := hG.at k hlt
      cases e1
      obtain ⟨_, _, z, e2, HZ, hcz⟩ := (hZ.below hnx).at k hlt
      cases e2
      have hca' : wr.cell? ⟨b0, off0 + k, none⟩ = some (.slice ai ni ci) := by rw [hnx.cell (World.block_lt_of_cell? w _ hca)]; exact hca
      have HP : Hid ((G.zip zs)[k]? = some (si, z)) := by
        show _ = _
        rw [List.getElem?_zip_eq_some]
        exact ⟨HG.out, HZ.out⟩
      have HQ := hP.step (c := ci) HP.out hrow
      have hik : (k : Int) < (n : Int) := by omega
      have hc0 := hB.cell (j := 0) rfl
      have hc1 := hB.cell (j := 1) rfl
      have hf1 := hB.free 1
      have hblt := hB.lt
      clear hca
      go_wp2
      go_region_law (refine step_append_own rfl (.tmp 30) (.tmp 40) 36 rfl (w.heap.size + 1) 41 i0 _ 4 56 Try.underlying36 hi hz0 hz1 hz2 rfl (by decide) (.slice a k cap) k L rfl (hO.alloc _).drew ⟨wr.heap.size, 0, none⟩ 1 (item ai ni ci z) rfl rfl (item_cells wr ai ni ci z) (item_one ai ni ci z) (by omega) (by decide) (by have := hB.lt; simp; omega) ?_; intro g cap' w' hO' hgr; have hB' := behind hB hO hgr; have hc1' := hB'.cell (j := 1) rfl; have hf1' := hB'.free 1)
      all_goals
        go_wp2
        go_roundw
        case rel =>
          refine ⟨k + 1, _, _, _, by omega, by go_num, hB'.store 1 _, ownsRow_setCell_below hO' (Nat.lt_succ_self _) _, HQ, ?_⟩
          refine ((below_laid hnx (Nat.le_of_lt hblt) ai ni ci z).grown hgr (by rw [laid_size]; omega) (fun j hj => ?_)).setCell (Nat.le_refl _) _
          have := (hO.lt j hj).1
          omega
        case measure => simp [intOf]; omega
    · go_wp2
      go_ret
      obtain rfl : k = n := by omega
      exact tmplBack (tmpl_mk hB hO (by have := hP.below hnx; rw [List.take_of_length_le (by rw [LP.out]; exact Nat.le_refl _)] at this; exact this) LP.out hn) hnx

theorem tmpl_any (raw : ByteArray) (a0 : Option Addr) (n c0 : Nat) (G : List (List ByteArray)) (a1 : Option Addr) (c1 : Nat) (zs : List Int) (w : World) (hG : Grid w a0 n G) (hZ : IntRow w a1 n zs) (hn : n ≤ 65536) :
    Calls Try.prog 9 #[.string raw, .slice a0 n c0, .slice a1 n c1] w fun e w' => TmplBack (G.zip zs) w e w' := by
  by_cases h0 : n = 0
  · subst h0
    rw [show G.zip zs = [] by rw [List.eq_nil_of_length_eq_zero hG.1]; rfl]
    exact tmpl_zero raw a0 c0 a1 c1 w
  · obtain ⟨b0, off0, _, _, _, _, rfl, _⟩ := hG.at 0 (by omega)
    obtain ⟨b1, off1, _, rfl, _⟩ := hZ.at 0 (by omega)
    exact tmpl_some raw b0 off0 n c0 G b1 off1 c1 zs w hG hZ hn

end Go.Proofs.Qxb6628771a
