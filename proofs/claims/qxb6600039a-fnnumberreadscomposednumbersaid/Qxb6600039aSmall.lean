/-
  SEAT b6600039a: jsb1Equal at equal texts, jsb1NeedsEscape, ZZB1New, ZZB1At.
-/
import Derived.Test.Qxb6600039aKit
import Derived.Test.Qxb6600039aPlain
namespace Go.Proofs.Qxb6600039a
open Go.ChangeShapes Go.WideShapes Go.ChangeAt Go.RowKit

theorem equal_same (w : World) (a : Option Addr) (len ca : Nat) (b : Option Addr) (cb : Nat) (zs : List Int) (ha : Sl w a len ca zs) (hb : Sl w b len cb zs) :
    Calls Try.prog 13 #[.slice a len ca, .slice b len cb] w fun e w' => e = .returned (.bool true) ∧ ∃ n, w' = w.drewN n := by
  have hm : len ≤ 9223372036854775807 := by have := ha.mx; have := ha.le; unfold maxLen at *; omega
  have HZL : Hid (zs.length = len) := ha.len_eq
  go_enter Try.func13, Try.ntmps13
  go_wp2
  go_loopg [5] len (fun k i wr => ∃ q n : Nat, q ≤ len ∧ Hid (k = len - q) ∧ i = .int .i64 q ∧ wr = w.drewN n)
  case atStart => exact ⟨0, 0, Nat.zero_le _, rfl, rfl, rfl⟩
  case round =>
    obtain ⟨q, n, hq, HK, rfl, rfl⟩ := hrel
    by_cases hlt : q < len
    · rcases ha.rd with h00 | ⟨ba, oa, rfl, hla, hca⟩
      · have := HZL.out; rw [h00] at this; simp at this; omega
      rcases hb.rd with h00 | ⟨bb, ob, rfl, hlb, hcb⟩
      · have := HZL.out; rw [h00] at this; simp at this; omega
      have ga := hca q (by rw [HZL.out]; exact hlt)
      have gb := hcb q (by rw [HZL.out]; exact hlt)
      obtain ⟨c, hcc⟩ : ∃ c, c = zs.getD q 0 := ⟨_, rfl⟩
      rw [← hcc] at ga gb
      have hltI : (q : Int) < (len : Int) := by omega
      clear hca hcb hcc ha hb
      go_wp2
      go_quiet (fail)
      go_wp2
      go_roundg (len - (q + 1))
      case measure => rw [HK.out]; omega
      case rel => exact ⟨q + 1, _, by omega, rfl, by go_num, rfl⟩
    · go_wp2
      go_ret
      exact ⟨rfl, n, rfl⟩

theorem any_no (zs : List Int) (k : Nat) (h : k < zs.length) (h1 : (zs.take k).any ndB = false) (h2 : ndB (zs.getD k 0) = false) : (zs.take (k + 1)).any ndB = false := by
  rw [any_take zs k h, h1, h2]; rfl
theorem any_yes (zs : List Int) (k : Nat) (h : k < zs.length) (h2 : ndB (zs.getD k 0) = true) : zs.any ndB = true :=
  List.any_eq_true.2 ⟨_, getD_mem h, h2⟩

theorem needs_any (w : World) (a : Option Addr) (len cap : Nat) (zs : List Int) (ha : Sl w a len cap zs) (nd : Bool) (HND : Hid (nd = zs.any ndB)) :
    Calls Try.prog 14 #[.slice a len cap] w fun e w' => e = .returned (.bool nd) ∧ w = w' := by
  have hm : len ≤ 9223372036854775807 := by have := ha.mx; have := ha.le; unfold maxLen at *; omega
  have HZL : Hid (zs.length = len) := ha.len_eq
  go_enter Try.func14, Try.ntmps14
  go_wp2
  go_loopg [3] len (fun k i wr => ∃ q : Nat, q ≤ len ∧ Hid (k = len - q) ∧ i = .int .i64 q ∧ Hid ((zs.take q).any ndB = false) ∧ wr = w)
  case atStart => exact ⟨0, Nat.zero_le _, rfl, rfl, rfl, rfl⟩
  case round =>
    obtain ⟨q, hq, HK, rfl, HA, rfl⟩ := hrel
    by_cases hlt : q < len
    · rcases ha.rd with h00 | ⟨ba, oa, rfl, hla, hca⟩
      · have := HZL.out; rw [h00] at this; simp at this; omega
      have hltz : q < zs.length := by rw [HZL.out]; exact hlt
      have ga := hca q hltz
      have HLT : Hid (q < zs.length) := hltz
      obtain ⟨c, hcc⟩ : ∃ c, c = zs.getD q 0 := ⟨_, rfl⟩
      rw [← hcc] at ga
      have HC : Hid (c = zs.getD q 0) := hcc
      have HY : Hid (ndB c = true → nd = true) := by
        intro h
        rw [HND.out]
        exact any_yes zs q hltz (by rw [← hcc]; exact h)
      clear hca hcc ha hltz
      by_cases e34 : c = 34
      · have b34 : (c == 34) = true := by simpa using e34
        have HN : Hid (nd = true) := HY.out (by simp [ndB, b34])
        clear e34
        go_wp2
        go_ret
        exact ⟨ret_bool HN.out.symm, rfl⟩
      have b34 : (c == 34) = false := by simpa using e34
      by_cases e92 : c = 92
      · have b92 : (c == 92) = true := by simpa using e92
        have HN : Hid (nd = true) := HY.out (by simp [ndB, b92])
        clear e92 e34
        go_wp2
        go_ret
        exact ⟨ret_bool HN.out.symm, rfl⟩
      have b92 : (c == 92) = false := by simpa using e92
      by_cases e47 : c = 47
      · have b47 : (c == 47) = true := by simpa using e47
        have HN : Hid (nd = true) := HY.out (by simp [ndB, b47])
        clear e92 e34 e47
        go_wp2
        go_ret
        exact ⟨ret_bool HN.out.symm, rfl⟩
      have b47 : (c == 47) = false := by simpa using e47
      by_cases e32 : c < 32
      · have HN : Hid (nd = true) := HY.out (by simp [ndB, e32])
        clear e92 e34 e47
        go_wp2
        go_ret
        exact ⟨ret_bool HN.out.symm, rfl⟩
      · have d32 : decide (c < 32) = false := decide_eq_false e32
        have HN : Hid (ndB c = false) := by show _ = _; unfold ndB; rw [b34, b92, b47, d32]; rfl
        clear e92 e34 e47
        go_wp2
        go_roundg (len - (q + 1))
        case measure => rw [HK.out]; omega
        case rel => exact ⟨q + 1, by omega, rfl, by go_num, any_no zs q HLT.out HA.out (by rw [← HC.out]; exact HN.out), rfl⟩
    · go_wp2
      go_ret
      have e : nd = false := by
        have := HA.out
        rw [List.take_of_length_le (by rw [HZL.out]; omega)] at this
        rw [HND.out]; exact this
      exact ⟨ret_bool e.symm, rfl⟩

theorem new_any (w : World) (a : Option Addr) (len cap p : Nat) :
    Calls Try.prog 11 #[.slice a len cap, .int .i64 p] w fun e w' => e = .returned (.pointer (some ⟨w.heap.size, 0, none⟩)) ∧ Rdr w' w.heap.size a len cap p ∧ Below w.heap.size w w' ∧ w'.heap.size = w.heap.size + 1 := by
  go_enter Try.func11, Try.ntmps11
  go_wp2
  go_ret
  exact ⟨rfl, ⟨by go_simp, by go_simp, by go_simp⟩, (Below.refl _ _).alloc (Nat.le_refl _) _, by simp⟩

theorem at_any (w : World) (R : Nat) (a : Option Addr) (len cap p : Nat) (h : Rdr w R a len cap p) :
    Calls Try.prog 15 #[.pointer (some ⟨R, 0, none⟩)] w fun e w' => e = .returned (.int .i64 p) ∧ w = w' := by
  have h1 := h.pos
  clear h
  go_enter Try.func15, Try.ntmps15
  go_wp2
  go_ret
  exact ⟨rfl, rfl⟩

theorem zzBytes9 (w : World) (a : Option Addr) (la ca : Nat) (b : Option Addr) (lb cb : Nat) (h : (la : Int) + lb ≤ 1048576) :
    Calls Try.prog 9 #[.slice a la ca, .slice b lb cb] w fun e w' => e = .returned (.bool true) ∧ w = w' := by
  go_enter Try.func9, Try.ntmps9
  go_wp2
  go_ret
  exact ⟨rfl, rfl⟩
theorem zzBytes9_no (w : World) (a : Option Addr) (la ca : Nat) (b : Option Addr) (lb cb : Nat) (h : (1048576 : Int) < (la : Int) + lb) :
    Calls Try.prog 9 #[.slice a la ca, .slice b lb cb] w fun e w' => e = .returned (.bool false) ∧ w = w' := by
  by_cases h1 : (1048576 : Int) < la
  · go_enter Try.func9, Try.ntmps9
    go_wp2
    go_ret
    exact ⟨rfl, rfl⟩
  · by_cases h2 : (1048576 : Int) < lb
    · go_enter Try.func9, Try.ntmps9
      go_wp2
      go_ret
      exact ⟨rfl, rfl⟩
    · go_enter Try.func9, Try.ntmps9
      go_wp2
      go_ret
      exact ⟨rfl, rfl⟩
end Go.Proofs.Qxb6600039a
