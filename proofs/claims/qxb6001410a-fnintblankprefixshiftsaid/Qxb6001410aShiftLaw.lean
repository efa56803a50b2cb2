/-
  SEAT b6001410a: the walk of FnIntBlankPrefixShift.
-/
import Derived.Test.Qxb6001410aRead
import Derived.Test.Qxb6001410aShift
namespace Go.Proofs.Qxb6001410a
open Go.ChangeShapes Go.WideShapes Go.ChangeAt Go.RowKit

theorem zzBytes17 (w : World) (a : Option Addr) (la ca : Nat) (b : Option Addr) (lb cb : Nat) (n0 : Int) (h : (la : Int) + lb ≤ 1048576) :
    Calls Try.prog 17 #[.slice a la ca, .slice b lb cb, .int .i64 n0] w fun e w' => e = .returned (.bool true) ∧ w = w' := by
  go_enter Try.func17, Try.ntmps17
  go_wp2
  go_ret
  exact ⟨rfl, rfl⟩
theorem zzBytes17_no (w : World) (a : Option Addr) (la ca : Nat) (b : Option Addr) (lb cb : Nat) (n0 : Int) (h : (1048576 : Int) < (la : Int) + lb) :
    Calls Try.prog 17 #[.slice a la ca, .slice b lb cb, .int .i64 n0] w fun e w' => e = .returned (.bool false) ∧ w = w' := by
  by_cases h1 : (1048576 : Int) < la
  · go_enter Try.func17, Try.ntmps17
    go_wp2
    go_ret
    exact ⟨rfl, rfl⟩
  · by_cases h2 : (1048576 : Int) < lb
    · go_enter Try.func17, Try.ntmps17
      go_wp2
      go_ret
      exact ⟨rfl, rfl⟩
    · go_enter Try.func17, Try.ntmps17
      go_wp2
      go_ret
      exact ⟨rfl, rfl⟩

theorem shiftLaw_long (a : Option Addr) (la ca : Nat) (b : Option Addr) (lb cb : Nat) (n0 : Int) (w : World) (h : (1048576 : Int) < (la : Int) + lb) :
    Calls Try.prog 5 #[.slice a la ca, .slice b lb cb, .int .i64 n0] w fun e w' => e = .returned (.bool true) ∧ w = w' := by
  go_enter Try.func5, Try.ntmps5
  go_wp2_with (go_at_call 17; refine (zzBytes17_no _ _ _ _ _ _ _ _ h).mono ?_; rintro e w' ⟨rfl, rfl⟩)
  go_ret
  exact ⟨rfl, rfl⟩

theorem shiftLaw_walk (a : Option Addr) (la ca : Nat) (xs : List Int) (b : Option Addr) (lb cb : Nat) (ys : List Int) (n0 : Int) (w : World) (ha : Sl w a la ca xs) (hb : Sl w b lb cb ys) (hl : (la : Int) + lb ≤ 1048576) :
    Calls Try.prog 5 #[.slice a la ca, .slice b lb cb, .int .i64 n0] w fun e w' => e = .returned (.bool true) ∧ Below w.heap.size w w' := by
  obtain ⟨B, hB⟩ : ∃ B, blankB xs = B := ⟨_, rfl⟩
  have HB : Hid (blankB xs = B) := hB
  clear hB
  have hlx := ha.len_eq
  have HLX : Hid (xs.length = la) := hlx
  obtain ⟨q, hq⟩ : ∃ q, q = runTo spB ys 0 := ⟨_, rfl⟩
  obtain ⟨s, hs⟩ : ∃ s, s = stOf ys q := ⟨_, rfl⟩
  obtain ⟨e, he⟩ : ∃ e, e = endOf ys q := ⟨_, rfl⟩
  obtain ⟨d, hd⟩ : ∃ d, d = e - s := ⟨_, rfl⟩
  obtain ⟨bad, hbad⟩ : ∃ bad, bad = badB ys s d := ⟨_, rfl⟩
  obtain ⟨n1, hn1⟩ : ∃ n1, n1 = outOf ys q s d n0 := ⟨_, rfl⟩
  have hel : e ≤ lb := by
    have h1 : ys.length = lb := hb.len_eq
    have h2 : q ≤ ys.length := by rw [hq]; exact runTo_le _ _ _ (Nat.zero_le _)
    rw [he, ← h1]; unfold endOf; exact runTo_le _ _ _ (stOf_le h2)
  have R1 : Hid (∀ (w : World) (b : Option Addr) (lb cb : Nat), Sl w b lb cb ys → lb ≤ 4194304 → Calls Try.prog 16 #[.slice b lb cb, .int .i64 0, .int .i64 n0] w fun ev w' => ev = .returned (.tuple #[.int .i64 n1, .int .i64 e, .bool (!bad)]) ∧ Below w.heap.size w w') :=
    fun w b lb cb hb hl => read_any w b lb cb 0 n0 ys hb (Nat.zero_le _) hl q s e d hq hs he hd bad n1 hbad hn1
  have R2 : Hid (blankB xs = true → ∀ (w : World) (c : Option Addr) (lc cc : Nat), Sl w c lc cc (xs ++ ys) → lc ≤ 4194304 → Calls Try.prog 16 #[.slice c lc cc, .int .i64 0, .int .i64 n0] w fun ev w' => ev = .returned (.tuple #[.int .i64 n1, .int .i64 ((e : Int) + la), .bool (!bad)]) ∧ Below w.heap.size w w') := by
    intro hbl w c lc cc hc hl
    have := read_any w c lc cc 0 n0 (xs ++ ys) hc (Nat.zero_le _) hl (xs.length + q) (xs.length + s) (xs.length + e) d (by rw [runTo_pre _ _ _ hbl, ← hq]) (by rw [stOf_shift, ← hs]) (by rw [endOf_shift, ← he]) (by omega) bad n1 (by show _ = _; rw [badB_shift]; exact hbad) (by show _ = _; rw [outOf_shift]; exact hn1)
    have e1 : ((xs.length + e : Nat) : Int) = (e : Int) + la := by rw [HLX.out]; omega
    rw [e1] at this
    exact this
  clear hq hs he hd hbad hn1 hlx
  go_enter Try.func5, Try.ntmps5
  go_wp2_with (first | (go_at_call 17; refine (zzBytes17 _ _ _ _ _ _ _ _ hl).mono ?_; rintro ev w' ⟨rfl, rfl⟩) | fail)
  refine (clone_any _ _ _ _ _ ha (by omega)).mono ?_
  rintro ev w1 ⟨a', ca', rfl, ha1, hb1⟩
  go_wp2_with fail
  refine (clone_any _ _ _ _ _ (hb.below hb1 (Nat.le_refl _)) (by omega)).mono ?_
  rintro ev w2 ⟨b', cb', rfl, hb2, hw2⟩
  have ha2 := ha1.below hw2 (Nat.le_refl _)
  have hbw2 : Below w.heap.size w w2 := hb1.trans (hw2.mono hb1.size)
  go_wp2_with fail
  refine (zzBlank_any _ _ _ _ _ ha2).mono ?_
  rintro ev w' ⟨rfl, rfl⟩
  rw [HB.out]
  cases B with
  | false =>
    go_wp2
    go_ret
    exact ⟨rfl, hbw2⟩
  | true =>
    go_wp2_with fail
    refine (concat_any _ _ _ _ _ ha2 _ _ _ _ hb2 (by omega)).mono ?_
    rintro ev w3 ⟨g, rfl, hc3, hw3⟩
    have hb3 := hb2.below hw3 (Nat.le_refl _)
    have hbw3 : Below w.heap.size w w3 := hbw2.trans (hw3.mono hbw2.size)
    go_wp2_with fail
    refine (R1.out _ _ _ _ hb3 (by omega)).mono ?_
    rintro ev w4 ⟨rfl, hw4⟩
    have hc4 := hc3.below hw4 (Nat.le_refl _)
    have hbw4 : Below w.heap.size w w4 := hbw3.trans (hw4.mono hbw3.size)
    go_wp2_with fail
    refine (R2.out HB.out _ _ _ _ hc4 (by omega)).mono ?_
    rintro ev w5 ⟨rfl, hw5⟩
    have hbw5 : Below w.heap.size w w5 := hbw4.trans (hw5.mono hbw4.size)
    go_wp2
    go_ret
    exact ⟨rfl, hbw5⟩
end Go.Proofs.Qxb6001410a
