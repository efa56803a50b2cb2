/-
  SEAT b6001410a: the walk of FnIntRoundTrip.
-/
import Derived.Test.Qxb6001410aRead
import Derived.Test.Qxb6001410aDecWalk
namespace Go.Proofs.Qxb6001410a
open Go.ChangeShapes Go.WideShapes Go.ChangeAt Go.RowKit

theorem decimal_any (w : World) (v : Int) (h0 : -1000000000000000000 < v) (h1 : v < 1000000000000000000) :
    Calls Try.prog 20 #[.int .i64 v] w fun e w' => ∃ g len neg U j, e = .returned (.slice (some ⟨g, 0, none⟩) len len) ∧ Sl w' (some ⟨g, 0, none⟩) len len (txt neg U j) ∧ 1 ≤ j ∧ j ≤ 18 ∧ U / 10 ^ j = 0 ∧ (j = 1 ∨ U / 10 ^ (j - 1) ≠ 0) ∧ U < 1000000000000000000 ∧ (if neg then -(U : Int) else U) = v ∧ Below w.heap.size w w' := by
  by_cases hv : v < 0
  · obtain ⟨U, hU⟩ := Int.eq_ofNat_of_zero_le (show 0 ≤ -v by omega)
    have e : v = -(U : Int) := by omega
    rw [e]
    refine (decimal_neg w U (by omega) (by omega)).mono ?_
    rintro ev w' ⟨g, len, j, rfl, hs, h2, h3, h4, h5, hb⟩
    exact ⟨g, len, true, U, j, rfl, hs, h2, h3, h4, h5, by omega, rfl, hb⟩
  · obtain ⟨U, rfl⟩ := Int.eq_ofNat_of_zero_le (show 0 ≤ v by omega)
    refine (decimal_pos w U (by omega)).mono ?_
    rintro ev w' ⟨g, len, j, rfl, hs, h2, h3, h4, h5, hb⟩
    exact ⟨g, len, false, U, j, rfl, hs, h2, h3, h4, h5, by omega, rfl, hb⟩

theorem zzBytes18 (w : World) (v : Int) (a : Option Addr) (la ca : Nat) (b : Option Addr) (lb cb : Nat) (n0 : Int) (h : (la : Int) + lb ≤ 1048576) :
    Calls Try.prog 18 #[.int .i64 v, .slice a la ca, .slice b lb cb, .int .i64 n0] w fun e w' => e = .returned (.bool true) ∧ w = w' := by
  go_enter Try.func18, Try.ntmps18
  go_wp2
  go_ret
  exact ⟨rfl, rfl⟩
theorem zzBytes18_no (w : World) (v : Int) (a : Option Addr) (la ca : Nat) (b : Option Addr) (lb cb : Nat) (n0 : Int) (h : (1048576 : Int) < (la : Int) + lb) :
    Calls Try.prog 18 #[.int .i64 v, .slice a la ca, .slice b lb cb, .int .i64 n0] w fun e w' => e = .returned (.bool false) ∧ w = w' := by
  by_cases h1 : (1048576 : Int) < la
  · go_enter Try.func18, Try.ntmps18
    go_wp2
    go_ret
    exact ⟨rfl, rfl⟩
  · by_cases h2 : (1048576 : Int) < lb
    · go_enter Try.func18, Try.ntmps18
      go_wp2
      go_ret
      exact ⟨rfl, rfl⟩
    · go_enter Try.func18, Try.ntmps18
      go_wp2
      go_ret
      exact ⟨rfl, rfl⟩

theorem roundLaw_long (v : Int) (a : Option Addr) (la ca : Nat) (b : Option Addr) (lb cb : Nat) (n0 : Int) (w : World) (h : (1048576 : Int) < (la : Int) + lb) :
    Calls Try.prog 6 #[.int .i64 v, .slice a la ca, .slice b lb cb, .int .i64 n0] w fun e w' => e = .returned (.bool true) ∧ w = w' := by
  go_enter Try.func6, Try.ntmps6
  go_wp2_with (go_at_call 18; refine (zzBytes18_no _ _ _ _ _ _ _ _ _ h).mono ?_; rintro e w' ⟨rfl, rfl⟩)
  go_ret
  exact ⟨rfl, rfl⟩

theorem roundLaw_low (v : Int) (a : Option Addr) (la ca : Nat) (b : Option Addr) (lb cb : Nat) (n0 : Int) (w : World) (h : (la : Int) + lb ≤ 1048576) (hv : v ≤ -1000000000000000000) :
    Calls Try.prog 6 #[.int .i64 v, .slice a la ca, .slice b lb cb, .int .i64 n0] w fun e w' => e = .returned (.bool true) ∧ w = w' := by
  go_enter Try.func6, Try.ntmps6
  go_wp2_with (go_at_call 18; refine (zzBytes18 _ _ _ _ _ _ _ _ _ h).mono ?_; rintro e w' ⟨rfl, rfl⟩)
  go_ret
  exact ⟨rfl, rfl⟩

theorem roundLaw_high (v : Int) (a : Option Addr) (la ca : Nat) (b : Option Addr) (lb cb : Nat) (n0 : Int) (w : World) (h : (la : Int) + lb ≤ 1048576) (hv : 1000000000000000000 ≤ v) :
    Calls Try.prog 6 #[.int .i64 v, .slice a la ca, .slice b lb cb, .int .i64 n0] w fun e w' => e = .returned (.bool true) ∧ w = w' := by
  have hd : decide (v ≤ -1000000000000000000) = false := decide_eq_false (by omega)
  go_enter Try.func6, Try.ntmps6
  go_wp2_with (go_at_call 18; refine (zzBytes18 _ _ _ _ _ _ _ _ _ h).mono ?_; rintro e w' ⟨rfl, rfl⟩)
  go_ret
  exact ⟨rfl, rfl⟩

theorem roundLaw_walk (v : Int) (a : Option Addr) (la ca : Nat) (xs : List Int) (b : Option Addr) (lb cb : Nat) (ys : List Int) (n0 : Int) (w : World) (ha : Sl w a la ca xs) (hb : Sl w b lb cb ys) (hl : (la : Int) + lb ≤ 1048576)
    (h0 : -1000000000000000000 < v) (h1 : v < 1000000000000000000) :
    Calls Try.prog 6 #[.int .i64 v, .slice a la ca, .slice b lb cb, .int .i64 n0] w fun e w' => e = .returned (.bool true) ∧ Below w.heap.size w w' := by
  have hd : decide (v ≤ -1000000000000000000) = false := decide_eq_false (by omega)
  have hd2 : decide (1000000000000000000 ≤ v) = false := decide_eq_false (by omega)
  obtain ⟨i0, hi, hz0, hz1, hz2⟩ := info_parts Try.info5
  go_enter Try.func6, Try.ntmps6
  go_wp2_with (first | (go_at_call 18; refine (zzBytes18 _ _ _ _ _ _ _ _ _ hl).mono ?_; rintro ev w' ⟨rfl, rfl⟩) | fail)
  refine (clone_any _ _ _ _ _ ha (by omega)).mono ?_
  rintro ev w1 ⟨a', ca', rfl, ha1, hb1⟩
  go_wp2_with fail
  refine (clone_any _ _ _ _ _ (hb.below hb1 (Nat.le_refl _)) (by omega)).mono ?_
  rintro ev w2 ⟨b', cb', rfl, hb2, hw2⟩
  have ha2 := ha1.below hw2 (Nat.le_refl _)
  have hbw2 : Below w.heap.size w w2 := hb1.trans (hw2.mono hb1.size)
  obtain ⟨B, hB⟩ : ∃ B, blankB xs = B := ⟨_, rfl⟩
  have HB : Hid (blankB xs = B) := hB
  clear hB
  by_cases hlb : lb = 0
  · have hdl : decide ((0 : Int) < (lb : Int)) = false := decide_eq_false (by omega)
    have hdl2 : decide (0 < lb) = false := decide_eq_false (by omega)
    have hdl3 : ¬ 0 < lb := by omega
    have HSF : Hid (ys = [] ∨ dgB (ys.getD 0 0) = false) := .inl (List.eq_nil_of_length_eq_zero (by rw [hb2.len_eq]; exact hlb))
    clear hlb
    go_wp2_with fail
    refine (zzBlank_any _ _ _ _ _ ha2).mono ?_
    rintro ev w' ⟨rfl, rfl⟩
    rw [HB.out]
    cases B with
    | false =>
      go_wp2
      go_ret
      exact ⟨rfl, hbw2⟩
    | true =>
      go_wp2_with fail
      refine (decimal_any _ _ h0 h1).mono ?_
      rintro ev w3 ⟨g, lt, neg, U, j, rfl, ht3, j1, j2, j3, j4, hU, hv, hw3⟩
      have hlt : lt ≤ 19 := by
        have := ht3.len_eq
        rw [← this]
        unfold txt
        rw [List.length_append, dg_length]
        cases neg <;> simp <;> omega
      have ha3 := ha2.below hw3 (Nat.le_refl _)
      have hb3 := hb2.below hw3 (Nat.le_refl _)
      have hbw3 : Below w.heap.size w w3 := hbw2.trans (hw3.mono hbw2.size)
      have R : Hid (∀ (w : World) (c : Option Addr) (lc cc : Nat), Sl w c lc cc (xs ++ (txt neg U j ++ ys)) → lc ≤ 4194304 → Calls Try.prog 16 #[.slice c lc cc, .int .i64 0, .int .i64 n0] w fun ev w' => ev = .returned (.tuple #[.int .i64 v, .int .i64 ((la : Int) + lt), .bool true]) ∧ Below w.heap.size w w') := by
        intro w c lc cc hc hl
        obtain ⟨q, s, e, d, hq, hs, he, hdd, hbad, hout, hel⟩ := read_txt neg U j hU j1 j2 j3 j4 xs ys HB.out HSF.out n0
        rw [hv] at hout
        have := read_any w c lc cc 0 n0 _ hc (Nat.zero_le _) hl q s e d hq hs he hdd false v hbad hout
        have e1 : (e : Int) = (la : Int) + lt := by rw [hel, ha3.len_eq, ht3.len_eq]; omega
        rw [e1] at this
        exact this
      have HLA : Hid (xs.length = la) := ha3.len_eq
      have HLT : Hid ((txt neg U j).length = lt) := ht3.len_eq
      have HLB : Hid (ys.length = lb) := hb3.len_eq
      clear hv j1 j2 j3 j4 hU
      go_wp2_with (at_make; refine wpList_make_own _ rfl _ _ 22 rfl w.heap.size 5 i0 (.int .u8 0) 1 Try.underlying22 hi hz0 hz1 _ _ _ (la + lt + lb) rfl rfl (by omega) (by rw [hz2]; omega) (by unfold maxLen; omega) hbw3.size ?_)
      intro w4 hown4 hgrow4
      have hb4 : Below w3.heap.size w3 w4 := (Below.refl _ _).grown hgrow4 (Nat.le_refl _) (by simp)
      have ha4 := ha3.below hb4 (Nat.le_refl _)
      have H4 : Hid (w4.ownsRow w.heap.size 5 1 (.slice (some ⟨w3.heap.size, 0, none⟩) 0 (la + lt + lb)) 0 []) := hown4
      clear hown4 hgrow4
      go_wp2_with (at_builtin; refine wpList_append_fits_any _ rfl (.tmp 59) (.tmp 60) 22 rfl w.heap.size 5 i0 1 Try.underlying22 hi hz1 w3.heap.size 0 (la + lt + lb) [] rfl H4.out _ la _ (xs.map (Value.int .u8)) rfl (by simpa using HLA.out) ha4.nil ha4.news (ints_oneCell _ _) (by omega) ?_)
      intro w5 hown5 hgrow5
      have hb5 : Below w3.heap.size w3 w5 := hb4.grown hgrow5 hb4.size (by intro k e; cases e; exact Nat.le_refl _)
      have ht5 := ht3.below hb5 (Nat.le_refl _)
      have H5 : Hid (w5.ownsRow w.heap.size 5 1 (.slice (some ⟨w3.heap.size, 0, none⟩) la (la + lt + lb)) la (xs.map (Value.int .u8))) := hown5
      clear hown5 hgrow5 H4
      go_wp2_with (at_builtin; refine wpList_append_fits_any _ rfl (.tmp 62) (.tmp 63) 22 rfl w.heap.size 5 i0 1 Try.underlying22 hi hz1 w3.heap.size la (la + lt + lb) (xs.map (Value.int .u8)) rfl H5.out _ lt _ ((txt neg U j).map (Value.int .u8)) rfl (by simpa using HLT.out) ht5.nil ht5.news (ints_oneCell _ _) (by omega) ?_)
      intro w6 hown6 hgrow6
      have hb6 : Below w3.heap.size w3 w6 := hb5.grown hgrow6 hb5.size (by intro k e; cases e; exact Nat.le_refl _)
      have hb6' := hb3.below hb6 (Nat.le_refl _)
      have H6 : Hid (w6.ownsRow w.heap.size 5 1 (.slice (some ⟨w3.heap.size, 0, none⟩) (la + lt) (la + lt + lb)) (la + lt) (xs.map (Value.int .u8) ++ (txt neg U j).map (Value.int .u8))) := hown6
      clear hown6 hgrow6 H5
      go_wp2_with (at_builtin; refine wpList_append_fits_any _ rfl (.tmp 65) (.tmp 66) 22 rfl w.heap.size 5 i0 1 Try.underlying22 hi hz1 w3.heap.size (la + lt) (la + lt + lb) _ rfl H6.out _ lb _ (ys.map (Value.int .u8)) rfl (by simpa using HLB.out) hb6'.nil hb6'.news (ints_oneCell _ _) (by omega) ?_)
      intro w7 hown7 hgrow7
      have hb7 : Below w3.heap.size w3 w7 := hb6.grown hgrow7 hb6.size (by intro k e; cases e; exact Nat.le_refl _)
      have hs7 : Sl w7 (some ⟨w3.heap.size, 0, none⟩) (la + lt + lb) (la + lt + lb) (xs ++ (txt neg U j ++ ys)) := by
        refine Sl.of_own (base := w.heap.size) (by simpa using hown7) ?_
        intro n hn
        rcases List.mem_append.1 hn with h | h
        · exact ha3.by8 n h
        · rcases List.mem_append.1 h with h | h
          · exact ht3.by8 n h
          · exact hb3.by8 n h
      have hbw7 : Below w.heap.size w w7 := hbw3.trans (hb7.mono hbw3.size)
      clear hown7 hgrow7 H6
      go_wp2_with (go_at_call 16; refine (R.out _ _ _ _ hs7 (by omega)).mono ?_; rintro ev w8 ⟨rfl, hw8⟩)
      go_ret
      exact ⟨rfl, hbw7.trans (hw8.mono hbw7.size)⟩
  · have hlbI : (0 : Int) < (lb : Int) := by omega
    rcases hb2.rd with h00 | ⟨b0, off, rfl, hb0, hc⟩
    · have := hb2.len_eq; rw [h00] at this; simp at this; omega
    · have hc0 := hc 0 (by rw [hb2.len_eq]; omega)
      rw [Nat.add_zero] at hc0
      obtain ⟨c, hcc⟩ : ∃ c, c = ys.getD 0 0 := ⟨_, rfl⟩
      rw [← hcc] at hc0
      have HC : Hid (c = ys.getD 0 0) := hcc
      clear hc hcc
      obtain ⟨D, hD⟩ : ∃ D, dgB c = D := ⟨_, rfl⟩
      have HD : Hid (dgB c = D) := hD
      clear hD
      go_wp2_with fail
      refine (isDigit_any _ _).mono ?_
      rintro ev w' ⟨rfl, rfl⟩
      rw [HD.out]
      cases D with
      | true =>
        go_wp2
        go_ret
        exact ⟨rfl, hbw2⟩
      | false =>
        have HSF : Hid (ys = [] ∨ dgB (ys.getD 0 0) = false) := .inr (by rw [← HC.out]; exact HD.out)
        go_wp2_with fail
        refine (zzBlank_any _ _ _ _ _ ha2).mono ?_
        rintro ev w' ⟨rfl, rfl⟩
        rw [HB.out]
        cases B with
        | false =>
          go_wp2
          go_ret
          exact ⟨rfl, hbw2⟩
        | true =>
          go_wp2_with fail
          refine (decimal_any _ _ h0 h1).mono ?_
          rintro ev w3 ⟨g, lt, neg, U, j, rfl, ht3, j1, j2, j3, j4, hU, hv, hw3⟩
          have hlt : lt ≤ 19 := by
            have := ht3.len_eq
            rw [← this]
            unfold txt
            rw [List.length_append, dg_length]
            cases neg <;> simp <;> omega
          have ha3 := ha2.below hw3 (Nat.le_refl _)
          have hb3 := hb2.below hw3 (Nat.le_refl _)
          have hbw3 : Below w.heap.size w w3 := hbw2.trans (hw3.mono hbw2.size)
          have R : Hid (∀ (w : World) (c : Option Addr) (lc cc : Nat), Sl w c lc cc (xs ++ (txt neg U j ++ ys)) → lc ≤ 4194304 → Calls Try.prog 16 #[.slice c lc cc, .int .i64 0, .int .i64 n0] w fun ev w' => ev = .returned (.tuple #[.int .i64 v, .int .i64 ((la : Int) + lt), .bool true]) ∧ Below w.heap.size w w') := by
            intro w c lc cc hc hl
            obtain ⟨q, s, e, d, hq, hs, he, hdd, hbad, hout, hel⟩ := read_txt neg U j hU j1 j2 j3 j4 xs ys HB.out HSF.out n0
            rw [hv] at hout
            have := read_any w c lc cc 0 n0 _ hc (Nat.zero_le _) hl q s e d hq hs he hdd false v hbad hout
            have e1 : (e : Int) = (la : Int) + lt := by rw [hel, ha3.len_eq, ht3.len_eq]; omega
            rw [e1] at this
            exact this
          have HLA : Hid (xs.length = la) := ha3.len_eq
          have HLT : Hid ((txt neg U j).length = lt) := ht3.len_eq
          have HLB : Hid (ys.length = lb) := hb3.len_eq
          clear hv j1 j2 j3 j4 hU
          go_wp2_with (at_make; refine wpList_make_own _ rfl _ _ 22 rfl w.heap.size 5 i0 (.int .u8 0) 1 Try.underlying22 hi hz0 hz1 _ _ _ (la + lt + lb) rfl rfl (by omega) (by rw [hz2]; omega) (by unfold maxLen; omega) hbw3.size ?_)
          intro w4 hown4 hgrow4
          have hb4 : Below w3.heap.size w3 w4 := (Below.refl _ _).grown hgrow4 (Nat.le_refl _) (by simp)
          have ha4 := ha3.below hb4 (Nat.le_refl _)
          have H4 : Hid (w4.ownsRow w.heap.size 5 1 (.slice (some ⟨w3.heap.size, 0, none⟩) 0 (la + lt + lb)) 0 []) := hown4
          clear hown4 hgrow4
          go_wp2_with (at_builtin; refine wpList_append_fits_any _ rfl (.tmp 59) (.tmp 60) 22 rfl w.heap.size 5 i0 1 Try.underlying22 hi hz1 w3.heap.size 0 (la + lt + lb) [] rfl H4.out _ la _ (xs.map (Value.int .u8)) rfl (by simpa using HLA.out) ha4.nil ha4.news (ints_oneCell _ _) (by omega) ?_)
          intro w5 hown5 hgrow5
          have hb5 : Below w3.heap.size w3 w5 := hb4.grown hgrow5 hb4.size (by intro k e; cases e; exact Nat.le_refl _)
          have ht5 := ht3.below hb5 (Nat.le_refl _)
          have H5 : Hid (w5.ownsRow w.heap.size 5 1 (.slice (some ⟨w3.heap.size, 0, none⟩) la (la + lt + lb)) la (xs.map (Value.int .u8))) := hown5
          clear hown5 hgrow5 H4
          go_wp2_with (at_builtin; refine wpList_append_fits_any _ rfl (.tmp 62) (.tmp 63) 22 rfl w.heap.size 5 i0 1 Try.underlying22 hi hz1 w3.heap.size la (la + lt + lb) (xs.map (Value.int .u8)) rfl H5.out _ lt _ ((txt neg U j).map (Value.int .u8)) rfl (by simpa using HLT.out) ht5.nil ht5.news (ints_oneCell _ _) (by omega) ?_)
          intro w6 hown6 hgrow6
          have hb6 : Below w3.heap.size w3 w6 := hb5.grown hgrow6 hb5.size (by intro k e; cases e; exact Nat.le_refl _)
          have hb6' := hb3.below hb6 (Nat.le_refl _)
          have H6 : Hid (w6.ownsRow w.heap.size 5 1 (.slice (some ⟨w3.heap.size, 0, none⟩) (la + lt) (la + lt + lb)) (la + lt) (xs.map (Value.int .u8) ++ (txt neg U j).map (Value.int .u8))) := hown6
          clear hown6 hgrow6 H5
          go_wp2_with (at_builtin; refine wpList_append_fits_any _ rfl (.tmp 65) (.tmp 66) 22 rfl w.heap.size 5 i0 1 Try.underlying22 hi hz1 w3.heap.size (la + lt) (la + lt + lb) _ rfl H6.out _ lb _ (ys.map (Value.int .u8)) rfl (by simpa using HLB.out) hb6'.nil hb6'.news (ints_oneCell _ _) (by omega) ?_)
          intro w7 hown7 hgrow7
          have hb7 : Below w3.heap.size w3 w7 := hb6.grown hgrow7 hb6.size (by intro k e; cases e; exact Nat.le_refl _)
          have hs7 : Sl w7 (some ⟨w3.heap.size, 0, none⟩) (la + lt + lb) (la + lt + lb) (xs ++ (txt neg U j ++ ys)) := by
            refine Sl.of_own (base := w.heap.size) (by simpa using hown7) ?_
            intro n hn
            rcases List.mem_append.1 hn with h | h
            · exact ha3.by8 n h
            · rcases List.mem_append.1 h with h | h
              · exact ht3.by8 n h
              · exact hb3.by8 n h
          have hbw7 : Below w.heap.size w w7 := hbw3.trans (hb7.mono hbw3.size)
          clear hown7 hgrow7 H6
          go_wp2_with (go_at_call 16; refine (R.out _ _ _ _ hs7 (by omega)).mono ?_; rintro ev w8 ⟨rfl, hw8⟩)
          go_ret
          exact ⟨rfl, hbw7.trans (hw8.mono hbw7.size)⟩
end Go.Proofs.Qxb6001410a
