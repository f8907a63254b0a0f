/- Seat b6628743a: zzInWhole. -/
import Derived.Test.Qxb6628743aMem
namespace Go.Proofs.Qxb6628743a
open Go.RowKit
set_option linter.unusedVariables false

/-- Is the path q one of G? -/
def inG (G : List (List ByteArray)) (q : List ByteArray) : Bool := G.any fun g => decide (g = q)

theorem inG_iff (G : List (List ByteArray)) (q : List ByteArray) : inG G q = true ↔ q ∈ G := by
  unfold inG
  simp
theorem inG_take (G : List (List ByteArray)) (q : List ByteArray) (k : Nat) (g : List ByteArray) (h : G[k]? = some g) : inG (G.take (k + 1)) q = (inG (G.take k) q || decide (g = q)) := by
  obtain ⟨hk, rfl⟩ := List.getElem?_eq_some_iff.1 h
  unfold inG
  rw [List.take_succ_eq_append_getElem hk, List.any_append]
  simp
theorem inG_at (G : List (List ByteArray)) (q : List ByteArray) (k : Nat) (h : G[k]? = some q) : inG G q = true := (inG_iff G q).2 (List.mem_of_getElem? h)
theorem inG_all (G : List (List ByteArray)) (q : List ByteArray) (k : Nat) (h : G.length ≤ k) : inG (G.take k) q = inG G q := by rw [List.take_of_length_le h]

theorem same_bytes {t u : ByteArray} (h : (!t.toList == u.toList) = false) : t = u := by
  have h' : t.toList = u.toList := by simpa using h
  rw [ByteArray.toList_eq, ByteArray.toList_eq] at h'
  exact ByteArray.ext (Array.toList_inj.1 h')
theorem other_bytes {t u : ByteArray} (h : (!t.toList == u.toList) = true) : t ≠ u := by
  rintro rfl
  simp at h

theorem ret_bool {a b : Bool} (h : a = b) : Ending.returned (.bool a) = .returned (.bool b) := by rw [h]

set_option maxHeartbeats 1000000 in
theorem inWhole_any (a0 : Option Addr) (n0 c0 : Nat) (G : List (List ByteArray)) (a1 : Option Addr) (n1 c1 : Nat) (ss : List ByteArray) (n : Nat) (w : World) (h0 : Grid w a0 n0 G) (h1 : StrRow w a1 n1 ss) (hn : n ≤ n1) :
    Calls Try.prog 9 #[.slice a0 n0 c0, .slice a1 n1 c1, .int .i64 n] w fun e w' => e = .returned (.bool (inG G (ss.take n))) ∧ ∃ m, w' = w.drewN m := by
  have hm0 := h0.2.1
  have hm1 := h1.2.1
  go_enter Try.func9, Try.ntmps9
  go_wp2
  go_loopw [7] (fun i wr => ∃ k m : Nat, k ≤ n0 ∧ i = .int .i64 k ∧ wr = w.drewN m ∧ Hid (inG (G.take k) (ss.take n) = false)) (fun i _ => n0 - (intOf i).toNat)
  case atStart => exact ⟨0, 0, Nat.zero_le _, rfl, rfl, by simp [Hid, inG]⟩
  case round =>
    obtain ⟨k, m, hk, rfl, rfl, HZ⟩ := hrel
    by_cases hlt : k < n0
    · obtain ⟨b, off, ai, ni, ci, si, rfl, HG, hcell, hrow⟩ := h0.at k hlt
      have hmi := hrow.2.1
      by_cases hne : (ni : Int) = (n : Int)
      · have hE : ni = n := by omega
        subst hE
        go_wp2
        go_loopw [9, 10] (fun s j wr => ∃ l m' : Nat, l ≤ ni ∧ s = .bool true ∧ j = .int .i64 l ∧ wr = w.drewN m' ∧ Hid (si.take l = ss.take l)) (fun _ j _ => ni - (intOf j).toNat)
        case atStart => exact ⟨0, m, Nat.zero_le _, rfl, rfl, rfl, by simp [Hid]⟩
        case round =>
          obtain ⟨l, m', hl, rfl, rfl, rfl, HS⟩ := hrel
          by_cases hlj : l < ni
          · obtain ⟨bi, offi, t, rfl, HT, hcj⟩ := hrow.at l hlj
            obtain ⟨bp, offp, u, rfl, HU, hcp⟩ := h1.at l (by omega)
            have hi0 : (l : Int) < (ni : Int) := by omega
            have hi1 : (l : Int) < (n1 : Int) := by omega
            go_wp2
            go_quiet (fail)
            go_wp2
            · have ht : (!t.toList == u.toList) = true := by assumption
              go_roundw
              case rel =>
                refine ⟨k + 1, m' + nq, by omega, by go_num, rfl, ?_⟩
                show _ = _
                rw [inG_take G _ k si HG.out, HZ.out, Bool.false_or, decide_eq_false_iff_not]
                intro e
                refine other_bytes ht ?_
                have h2 : si[l]? = (ss.take ni)[l]? := by rw [e]
                rw [HT.out, List.getElem?_take_of_lt hlj, HU.out] at h2
                exact Option.some.inj h2
              case measure => simp [intOf]; omega
            · have ht : (!t.toList == u.toList) = false := by assumption
              go_roundw
              case rel =>
                refine ⟨l + 1, m' + nq, by omega, rfl, by go_num, rfl, ?_⟩
                show _ = _
                obtain ⟨g1, e1⟩ := List.getElem?_eq_some_iff.1 HT.out
                obtain ⟨g2, e2⟩ := List.getElem?_eq_some_iff.1 HU.out
                rw [List.take_succ_eq_append_getElem g1, List.take_succ_eq_append_getElem g2, HS.out, e1, e2, same_bytes ht]
              case measure => simp [intOf]; omega
          · go_wp2
            go_ret
            refine ⟨ret_bool ?_, _, rfl⟩
            have e1 : l = ni := by omega
            have e2 : si = ss.take ni := by
              have := HS.out
              rw [e1, List.take_of_length_le (by have := hrow.1; omega)] at this
              exact this
            exact (inG_at G _ k (by rw [← e2]; exact HG.out)).symm
      · have hnb : ((ni : Int) != (n : Int)) = true := by simpa using hne
        go_wp2
        go_roundw
        case rel =>
          refine ⟨k + 1, m, by omega, by go_num, rfl, ?_⟩
          show _ = _
          rw [inG_take G _ k si HG.out, HZ.out, Bool.false_or, decide_eq_false_iff_not]
          intro e
          have h2 : si.length = (ss.take n).length := by rw [e]
          rw [List.length_take, hrow.1, h1.1] at h2
          omega
        case measure => simp [intOf]; omega
    · go_wp2
      go_ret
      refine ⟨ret_bool ?_, _, rfl⟩
      have := HZ.out
      rw [inG_all G _ k (by rw [h0.1]; omega)] at this
      exact this.symm

end Go.Proofs.Qxb6628743a
