/-
  SEAT b6600039a: the walk of FnQuotedReadsBackEncodedString.
-/
import Derived.Test.Qxb6600039aEnc
import Derived.Test.Qxb6600039aQuot
import Derived.Test.Qxb6600039aSmall
namespace Go.Proofs.Qxb6600039a
open Go.ChangeShapes Go.WideShapes Go.ChangeAt Go.RowKit

theorem quotLaw_long (a : Option Addr) (la ca : Nat) (b : Option Addr) (lb cb : Nat) (w : World) (h : (1048576 : Int) < (la : Int) + lb) :
    Calls Try.prog 3 #[.slice a la ca, .slice b lb cb] w fun e w' => e = .returned (.bool true) ∧ w = w' := by
  go_enter Try.func3, Try.ntmps3
  go_wp2_with (go_at_call 9; refine (zzBytes9_no _ _ _ _ _ _ _ h).mono ?_; rintro e w' ⟨rfl, rfl⟩)
  go_ret
  exact ⟨rfl, rfl⟩

theorem quotLaw_raw (a : Option Addr) (la ca : Nat) (b : Option Addr) (lb cb : Nat) (w : World) (h : (la : Int) + lb ≤ 1048576) (h1 : (65536 : Int) < la) :
    Calls Try.prog 3 #[.slice a la ca, .slice b lb cb] w fun e w' => e = .returned (.bool true) ∧ w = w' := by
  go_enter Try.func3, Try.ntmps3
  go_wp2_with (go_at_call 9; refine (zzBytes9 _ _ _ _ _ _ _ h).mono ?_; rintro e w' ⟨rfl, rfl⟩)
  go_ret
  exact ⟨rfl, rfl⟩

theorem quotLaw_rest (a : Option Addr) (la ca : Nat) (b : Option Addr) (lb cb : Nat) (w : World) (h : (la : Int) + lb ≤ 1048576) (h1 : (la : Int) ≤ 65536) (h2 : (65536 : Int) < lb) :
    Calls Try.prog 3 #[.slice a la ca, .slice b lb cb] w fun e w' => e = .returned (.bool true) ∧ w = w' := by
  go_enter Try.func3, Try.ntmps3
  go_wp2_with (go_at_call 9; refine (zzBytes9 _ _ _ _ _ _ _ h).mono ?_; rintro e w' ⟨rfl, rfl⟩)
  go_ret
  exact ⟨rfl, rfl⟩

theorem off_below {B : Nat} {w w7 w8 : World} (h : Below B w w7) (ho : Off B w7 w8) : Below B w w8 :=
  ⟨ho.os.trans h.os, ho.tape.trans h.tape, ho.output.trans h.output, by rw [ho.size]; exact h.size, fun k hk => (ho.block k (by omega)).trans (h.block k hk)⟩

theorem below_drewN' {B : Nat} {w w7 : World} (h : Below B w w7) (n : Nat) : Below B w (w7.drewN n) := ⟨h.os, h.tape, h.output, h.size, h.block⟩

/-- What lies behind the first cell of a row. -/
theorem Sl.tail {w : World} {g cap : Nat} {c : Int} {zs tl : List Int} {n : Nat} (h : Sl w (some ⟨g, 0, none⟩) n cap (c :: (zs ++ tl))) (L : Nat) (hL : L = zs.length) : Sl w (some ⟨g, 0 + 1, none⟩) L (cap - 1) zs := by
  have h1 := h.len_eq
  have h2 := h.le
  have h3 := h.mx
  simp at h1
  refine ⟨hL.symm, by omega, by omega, by simp, ?_, fun x hx => h.by8 x (by simp [hx])⟩
  rcases h.rd with h0 | ⟨b, off, e, hb, hc⟩
  · cases h0
  · simp only [Option.some.injEq, Addr.mk.injEq, and_true] at e
    obtain ⟨rfl, rfl⟩ := e
    refine .inr ⟨g, 0 + 1, rfl, hb, fun i hi => ?_⟩
    have := hc (1 + i) (by simp; omega)
    rw [← Nat.add_assoc] at this
    rw [this]
    simp [List.getD, Nat.add_comm 1 i, List.getElem?_append_left hi]

set_option maxHeartbeats 1000000 in
theorem quotLaw_walk (a : Option Addr) (la ca : Nat) (xs : List Int) (b : Option Addr) (lb cb : Nat) (ys : List Int) (w : World) (ha : Sl w a la ca xs) (hb : Sl w b lb cb ys) (hl : (la : Int) + lb ≤ 1048576) (h1 : (la : Int) ≤ 65536) (h2 : (lb : Int) ≤ 65536) :
    Calls Try.prog 3 #[.slice a la ca, .slice b lb cb] w fun e w' => e = .returned (.bool true) ∧ Below w.heap.size w w' := by
  obtain ⟨i0, hi, hz0, hz1, hz2⟩ := info_parts Try.info5
  obtain ⟨nd, hnd⟩ : ∃ nd, nd = xs.any ndB := ⟨_, rfl⟩
  have HND : Hid (nd = xs.any ndB) := hnd
  have hLb : (enc xs).length ≤ 393216 := by have := enc_len xs; have := ha.len_eq; omega
  obtain ⟨L, hL⟩ : ∃ L, L = (enc xs).length := ⟨_, rfl⟩
  have HE := encode_any w a la ca xs ha h1
  rw [← hL] at HE hLb
  have HL : Hid (L = (enc xs).length) := hL
  have HLB : Hid (ys.length = lb) := hb.len_eq
  clear hnd hL
  go_enter Try.func3, Try.ntmps3
  go_wp2_with (first | (go_at_call 9; refine (zzBytes9 _ _ _ _ _ _ _ hl).mono ?_; rintro ev w' ⟨rfl, rfl⟩) | fail)
  refine HE.mono ?_
  rintro ev w1 ⟨a', cap', rfl, he1, hb1⟩
  clear HE
  go_wp2_with (at_make; refine wpList_make_own _ rfl _ _ 22 rfl w.heap.size 5 i0 (.int .u8 0) 1 Try.underlying22 hi hz0 hz1 _ _ _ (L + 2 + lb) rfl rfl (by omega) (by rw [hz2]; omega) (by unfold maxLen; omega) hb1.size ?_)
  intro w2 hown2 hgrow2
  have hb2 : Below w1.heap.size w1 w2 := (Below.refl _ _).grown hgrow2 (Nat.le_refl _) (by simp)
  have H2 : Hid (w2.ownsRow w.heap.size 5 1 (.slice (some ⟨w1.heap.size, 0, none⟩) 0 (L + 2 + lb)) 0 []) := hown2
  clear hown2 hgrow2
  go_wp2_with (at_builtin; refine wpList_append_fits _ rfl (.tmp 30) (.tmp 31) 22 rfl w.heap.size 5 i0 1 Try.underlying22 hi hz1 w1.heap.size 0 (L + 2 + lb) [] rfl (H2.out.alloc _) ⟨w2.heap.size, 0, none⟩ 1 1 [.int .u8 34] rfl rfl (cell_one_new _ _ _) (by simp [Value.oneCell']) (by omega) ?_)
  intro w3 hown3 hgrow3
  have hb3 : Below w1.heap.size w1 w3 := (hb2.alloc hb2.size _).grown hgrow3 (by have := hb2.size; simp; omega) (by intro k e; cases e; exact Nat.le_refl _)
  have H3 : Hid (w3.ownsRow w.heap.size 5 1 (.slice (some ⟨w1.heap.size, 0, none⟩) 1 (L + 2 + lb)) 1 [.int .u8 34]) := hown3
  have he3 := he1.below hb3 (Nat.le_refl _)
  clear hown3 hgrow3 H2
  go_wp2_with (at_builtin; refine wpList_append_fits_any _ rfl (.tmp 33) (.tmp 34) 22 rfl w.heap.size 5 i0 1 Try.underlying22 hi hz1 w1.heap.size 1 (L + 2 + lb) [.int .u8 34] rfl H3.out a' L cap' ((enc xs).map (Value.int .u8)) rfl (by simpa using HL.out.symm) he3.nil he3.news (ints_oneCell _ _) (by omega) ?_)
  intro w4 hown4 hgrow4
  have hb4 : Below w1.heap.size w1 w4 := hb3.grown hgrow4 hb3.size (by intro k e; cases e; exact Nat.le_refl _)
  have H4 : Hid (w4.ownsRow w.heap.size 5 1 (.slice (some ⟨w1.heap.size, 0, none⟩) (1 + L) (L + 2 + lb)) (1 + L) ([.int .u8 34] ++ (enc xs).map (Value.int .u8))) := hown4
  clear hown4 hgrow4 H3
  go_wp2_with (at_builtin; refine wpList_append_fits _ rfl (.tmp 36) (.tmp 37) 22 rfl w.heap.size 5 i0 1 Try.underlying22 hi hz1 w1.heap.size (1 + L) (L + 2 + lb) ([.int .u8 34] ++ (enc xs).map (Value.int .u8)) rfl (H4.out.alloc _) ⟨w4.heap.size, 0, none⟩ 1 1 [.int .u8 34] rfl rfl (cell_one_new _ _ _) (by simp [Value.oneCell']) (by omega) ?_)
  intro w5 hown5 hgrow5
  have hb5 : Below w1.heap.size w1 w5 := (hb4.alloc hb4.size _).grown hgrow5 (by have := hb4.size; simp; omega) (by intro k e; cases e; exact Nat.le_refl _)
  have H5 : Hid (w5.ownsRow w.heap.size 5 1 (.slice (some ⟨w1.heap.size, 0, none⟩) (1 + L + 1) (L + 2 + lb)) (1 + L + 1) ([.int .u8 34] ++ (enc xs).map (Value.int .u8) ++ [.int .u8 34])) := hown5
  have hbw5 : Below w.heap.size w w5 := hb1.trans (hb5.mono hb1.size)
  have hs5 := hb.below hbw5 (Nat.le_refl _)
  clear hown5 hgrow5 H4
  go_wp2_with (at_builtin; refine wpList_append_fits_any _ rfl (.tmp 39) (.tmp 40) 22 rfl w.heap.size 5 i0 1 Try.underlying22 hi hz1 w1.heap.size (1 + L + 1) (L + 2 + lb) _ rfl H5.out b lb cb (ys.map (Value.int .u8)) rfl (by simpa using HLB.out) hs5.nil hs5.news (ints_oneCell _ _) (by omega) ?_)
  intro w6 hown6 hgrow6
  have hb6 : Below w1.heap.size w1 w6 := hb5.grown hgrow6 hb5.size (by intro k e; cases e; exact Nat.le_refl _)
  have hs6 : Sl w6 (some ⟨w1.heap.size, 0, none⟩) (1 + L + 1 + lb) (L + 2 + lb) (34 :: (enc xs ++ 34 :: ys)) := by
    refine Sl.of_own (base := w.heap.size) (by simpa using hown6) ?_
    intro n hn
    simp only [List.mem_cons, List.mem_append] at hn
    rcases hn with h | h | h | h
    · omega
    · exact he1.by8 n h
    · omega
    · exact hb.by8 n h
  have he6 := he1.below hb6 (Nat.le_refl _)
  have hbw6 : Below w.heap.size w w6 := hb1.trans (hb6.mono hb1.size)
  have hg6 : w1.heap.size < w6.heap.size := by
    rcases hs6.rd with h0 | ⟨b, off, e, hb, _⟩
    · cases h0
    · simp only [Option.some.injEq, Addr.mk.injEq, and_true] at e
      rw [e.1]; exact hb
  clear hown6 hgrow6 H5
  go_wp2_with fail
  refine (new_any w6 _ _ _ 0).mono ?_
  rintro ev w7 ⟨rfl, hr7, hb7, hz7⟩
  have hs7 := hs6.below hb7 (Nat.le_refl _)
  have hc7 : ∀ i, i < 1 + L + 1 + lb → w7.cell? ⟨w1.heap.size, 0 + i, none⟩ = some (.int .u8 ((34 :: (enc xs ++ 34 :: ys)).getD i 0)) := by
    rcases hs7.rd with h0 | ⟨b, off, e, hb, hc⟩
    · cases h0
    · simp only [Option.some.injEq, Addr.mk.injEq, and_true] at e
      obtain ⟨rfl, rfl⟩ := e
      intro i hi
      exact hc i (by rw [hs7.len_eq]; exact hi)
  have HQ := quoted_any w7 w6.heap.size w1.heap.size 0 (1 + L + 1 + lb) (L + 2 + lb) xs ys ha.by8 hr7 hs7.len_eq hc7 (by omega) (by omega) (by unfold maxLen; omega) L HL nd HND
  clear hc7
  go_wp2_with fail
  refine HQ.mono ?_
  rintro ev w8 ⟨rfl, hr8, ho8⟩
  clear HQ
  have hb8 : Below w6.heap.size w6 w8 := off_below hb7 ho8
  have ht8 : Sl w8 (some ⟨w1.heap.size, 0 + 1, none⟩) L (L + 2 + lb - 1) (enc xs) := (hs6.below hb8 (Nat.le_refl _)).tail L HL.out
  have he8 := he6.below hb8 (Nat.le_refl _)
  have e8 : L + 2 + lb - 1 = L + 1 + lb := by omega
  rw [e8, Nat.zero_add] at ht8
  clear hs6 hs7 hr7 hb7 ho8 he6 hz7 e8
  have hbw8 : Below w.heap.size w w8 := hbw6.trans (hb8.mono hbw6.size)
  go_wp2_with fail
  refine (equal_same _ _ _ _ _ _ _ ht8 he8).mono ?_
  rintro ev w9 ⟨rfl, n9, rfl⟩
  have hbw9 : Below w.heap.size w (w8.drewN n9) := below_drewN' hbw8 n9
  have ha9 := ha.below hbw9 (Nat.le_refl _)
  have hr9 := hr8.drewN n9
  cases nd with
  | true =>
    go_wp2_with (first | (go_at_call 14; refine (needs_any _ _ _ _ _ ha9 _ HND).mono ?_; rintro ev w' ⟨rfl, rfl⟩) | (go_at_call 15; refine (at_any _ _ _ _ _ _ hr9).mono ?_; rintro ev w' ⟨rfl, rfl⟩))
    go_ret
    exact ⟨rfl, hbw9⟩
  | false =>
    go_wp2_with (first | (go_at_call 14; refine (needs_any _ _ _ _ _ ha9 _ HND).mono ?_; rintro ev w' ⟨rfl, rfl⟩) | (go_at_call 15; refine (at_any _ _ _ _ _ _ hr9).mono ?_; rintro ev w' ⟨rfl, rfl⟩))
    go_ret
    exact ⟨rfl, hbw9⟩
end Go.Proofs.Qxb6600039a
