/-
  SEAT b6600039a: FnNumberReadsComposedNumber: the way on which the number is composed and read.
-/
import Derived.Test.Qxb6600039aNumEarly
import Derived.Test.Qxb6600039aNumWalk
namespace Go.Proofs.Qxb6600039a
open Go.ChangeShapes Go.WideShapes Go.ChangeAt Go.RowKit

def fracL (hasF : Bool) (z3 : List Int) : List Int := if hasF then [46] ++ dgs z3 else []
def esL (a7 : Int) : List Int := if a7 % 3 = 1 then [43] else if a7 % 3 = 2 then [45] else []
def expX (hasX up : Bool) (a7 : Int) (z5 : List Int) : List Int := if hasX then [expL up] ++ esL a7 ++ dgs z5 else []

theorem off_below' {B : Nat} {w w7 w8 : World} (h : Below B w w7) (ho : Off B w7 w8) : Below B w w8 :=
  ⟨ho.os.trans h.os, ho.tape.trans h.tape, ho.output.trans h.output, by rw [ho.size]; exact h.size, fun k hk => (ho.block k (by omega)).trans (h.block k hk)⟩

theorem frac_ok (hasF : Bool) (z3 : List Int) (l3 : Nat) (hl : z3.length = l3) (h : hasF = false ∨ (hasF = true ∧ ((l3 : Int) == 0) = false)) : FracOk hasF (fracL hasF z3) := by
  rcases h with rfl | ⟨rfl, h⟩
  · exact .inl ⟨rfl, rfl⟩
  · refine .inr ⟨rfl, dgs z3, rfl, ?_, dgs_all _⟩
    intro e
    have := congrArg List.length e
    rw [dgs_length, hl] at this
    simp at this
    simp [this] at h

theorem exp_ok (hasX up : Bool) (a7 : Int) (z5 : List Int) (l5 : Nat) (hl : z5.length = l5) (h : hasX = false ∨ (hasX = true ∧ ((l5 : Int) == 0) = false)) : ExpOk hasX (expX hasX up a7 z5) := by
  rcases h with rfl | ⟨rfl, h⟩
  · exact .inl ⟨rfl, rfl⟩
  · refine .inr ⟨rfl, expL up, esL a7, dgs z5, by simp [expX], ?_, ?_, ?_, dgs_all _⟩
    · cases up
      · exact .inl rfl
      · exact .inr rfl
    · unfold esL
      split
      · exact .inr (.inl rfl)
      · split
        · exact .inr (.inr rfl)
        · exact .inl rfl
    · intro e
      have := congrArg List.length e
      rw [dgs_length, hl] at this
      simp at this
      simp [this] at h

set_option maxHeartbeats 4000000 in
set_option maxRecDepth 20000 in
theorem num_walk (w : World) (neg : Bool) (U : Nat) (a2 : Option Addr) (l2 c2 : Nat) (z2 : List Int) (a3 : Option Addr) (l3 c3 : Nat) (z3 : List Int) (hasF : Bool) (a5 : Option Addr) (l5 c5 : Nat) (z5 : List Int) (hasX : Bool) (a7 : Int) (up : Bool) (a9 : Option Addr) (l9 c9 : Nat) (z9 : List Int)
    (hU : U < 18446744073709551616) (h70 : 0 ≤ a7) (h71 : a7 ≤ 255) (s2 : Sl w a2 l2 c2 z2) (s3 : Sl w a3 l3 c3 z3) (s5 : Sl w a5 l5 c5 z5) (s9 : Sl w a9 l9 c9 z9)
    (h : (l2 : Int) + l3 + l5 + l9 ≤ 1048576) (k2 : (l2 : Int) ≤ 65536) (k3 : (l3 : Int) ≤ 65536) (k5 : (l5 : Int) ≤ 65536) (k9 : (l9 : Int) ≤ 65536)
    (e4 : hasF = false ∨ (hasF = true ∧ ((l3 : Int) == 0) = false)) (e6 : hasX = false ∨ (hasX = true ∧ ((l5 : Int) == 0) = false)) (hrest : RestOk z9) :
    Calls Try.prog 6 #[.bool neg, .int .u64 U, .slice a2 l2 c2, .slice a3 l3 c3, .bool hasF, .slice a5 l5 c5, .bool hasX, .int .u8 a7, .bool up, .slice a9 l9 c9] w fun e w' => e = .returned (.bool true) ∧ Below w.heap.size w w' := by
  obtain ⟨i0, hi, hz0, hz1, hz2⟩ := info_parts Try.info5
  have HR : Hid (RestOk z9) := hrest
  have HE4 : Hid (hasF = false ∨ (hasF = true ∧ ((l3 : Int) == 0) = false)) := e4
  have HE6 : Hid (hasX = false ∨ (hasX = true ∧ ((l5 : Int) == 0) = false)) := e6
  clear hrest e4 e6
  go_enter Try.func6, Try.ntmps6
  go_upto_region 11 with (first | (go_at_call 21; refine (zzBytes21 _ _ _ _ _ _ _ _ _ _ _ _ _ _ _ _ _ _ _ h).mono ?_; rintro ev w' ⟨rfl, rfl⟩))
  go_cut [55] (fun s wx => s = .bool false ∧ w = wx)
  case first =>
    as_aux_lemma =>
      rcases HE4.out with rfl | ⟨rfl, e3⟩
      all_goals
        go_wp2
        go_meet
        case rel => exact ⟨rfl, rfl⟩
  case rest =>
    obtain ⟨rfl, rfl⟩ := hcut
    go_upto_region 13 with fail
    go_cut [61] (fun s wx => s = .bool false ∧ w = wx)
    case first =>
      as_aux_lemma =>
        rcases HE6.out with rfl | ⟨rfl, e3⟩
        all_goals
          go_wp2
          go_meet
          case rel => exact ⟨rfl, rfl⟩
    case rest =>
      obtain ⟨rfl, rfl⟩ := hcut
      go_upto_if 64 with fail
      go_cut [] (fun wx => w = wx)
      case first =>
        as_aux_lemma =>
          by_cases h9 : l9 = 0
          · have hdl : decide ((0 : Int) < (l9 : Int)) = false := decide_eq_false (by omega)
            have hdl2 : decide (0 < l9) = false := decide_eq_false (by omega)
            have hdl3 : ¬ 0 < l9 := by omega
            clear h9
            go_wp2
            go_meet
            case rel => exact rfl
          · have h9I : (0 : Int) < (l9 : Int) := by omega
            have hne : z9 ≠ [] := by
              intro e
              have := s9.len_eq
              rw [e] at this
              simp at this
              omega
            rcases s9.rd with h0 | ⟨b9, o9, rfl, hb9, hc9⟩
            · exact absurd h0 hne
            · have g := hc9 0 (len_pos hne)
              rw [Nat.add_zero] at g
              obtain ⟨d1, d2, d3, d4⟩ : dgB (z9.getD 0 0) = false ∧ z9.getD 0 0 ≠ 46 ∧ z9.getD 0 0 ≠ 101 ∧ z9.getD 0 0 ≠ 69 := by
                rcases HR.out with h | h
                · exact absurd h hne
                · exact h
              obtain ⟨c, hcc⟩ : ∃ c, c = z9.getD 0 0 := ⟨_, rfl⟩
              rw [← hcc] at g d1 d2 d3 d4
              have HD : Hid (false = dgB c) := d1.symm
              have f1 : (c == 46) = false := beq_eq_false_iff_ne.2 d2
              have f2 : (c == 101) = false := beq_eq_false_iff_ne.2 d3
              have f3 : (c == 69) = false := beq_eq_false_iff_ne.2 d4
              clear hcc d1 d2 d3 d4 hc9 hne h9
              go_wp2_with (go_at_call 22; refine (isDigit22 _ _ _ HD).mono ?_; rintro ev w' ⟨rfl, rfl⟩)
              go_meet
              case rel => exact rfl
      case rest =>
        obtain rfl := hcut
        go_upto_if 92 with (at_make; refine wpList_make_own _ rfl _ _ 22 rfl w.heap.size 5 i0 (.int .u8 0) 1 Try.underlying22 hi hz0 hz1 _ _ _ (26 + l2 + l3 + l5) rfl rfl (by omega) (by rw [hz2]; omega) (by unfold maxLen; omega) (Nat.le_refl _) ?_)
        intro w1 hown1 hgrow1
        have ht1 : Tx w w1 (.slice (some ⟨w.heap.size, 0, none⟩) 0 (26 + l2 + l3 + l5)) [] := ⟨hown1, (Below.refl _ _).grown hgrow1 (Nat.le_refl _) (by simp)⟩
        clear hown1 hgrow1
        go_upto_if 92 with fail
        go_cut [22] (fun s22 wx => Tx w wx s22 (sgnL neg))
        case first =>
          as_aux_lemma =>
            cases neg with
            | false =>
              go_wp2
              go_meet
              case rel => exact ht1
            | true =>
              have hown := ht1.own
              have hbs := ht1.bel.size
              go_wp2_with (at_builtin; refine wpList_append_own _ rfl (.tmp 93) (.tmp 94) 22 rfl w.heap.size 5 i0 (.int .u8 0) 1 1 Try.underlying22 hi hz0 hz1 hz2 rfl (by decide) _ _ _ rfl (hown.alloc _) ⟨w1.heap.size, 0, none⟩ 1 1 ([45].map (Value.int .u8)) rfl rfl (cells_new _ _ _) (ints_oneCell _ _) ?hm ?hb ?hz ?_)
              case hm => unfold maxLen; simp
              case hb => simp
              case hz => first | omega | (simp; omega)
              · intro v' w3 hown3 hgrow3 _
                have R : Tx w w3 v' (sgnL true) := ht1.one [45] hown3 hgrow3
                clear hown3 hgrow3 hown
                go_wp2
                go_meet
                case rel => exact R
        case rest =>
          have ht2 := hcut
          clear hcut ht1
          have hsl : (sgnL neg).length ≤ 1 := by cases neg <;> simp [sgnL]
          go_upto_if 101 with fail
          refine (itoa_any _ U hU).mono ?_
          rintro ev w2 ⟨g, n, ts, rfl, hts, htl, htn, htd, hth, hb2⟩
          have ht2' := ht2.below hb2
          have hown2 := ht2'.own
          have hsz2 := ht2'.bel.size
          have HTN : Hid (ts.length = n) := hts.len_eq
          have hn20 : n ≤ 20 := by rw [← HTN.out]; exact htl
          have hnw := hts.news
          go_upto_if 101 with (at_builtin; refine wpList_append_own _ rfl (.tmp 96) (.tmp 98) 22 rfl w.heap.size 5 i0 (.int .u8 0) 1 1 Try.underlying22 hi hz0 hz1 hz2 rfl (by decide) _ _ _ rfl hown2 ⟨g, 0, none⟩ n n (ts.map (Value.int .u8)) rfl (by simpa using HTN.out) (hnw _ rfl) (ints_oneCell _ _) (by unfold maxLen; omega) (by omega) hsz2 ?_)
          intro v3 w3 hown3 hgrow3 _
          have ht3 : Tx w w3 v3 (sgnL neg ++ ts) := ht2'.app ts (by rw [HTN.out]; exact hown3) hgrow3
          clear hown3 hgrow3 hown2 ht2' ht2 hnw hts hsz2 hb2
          obtain ⟨I, hI⟩ : ∃ I, I = if U = 0 then [48] else ts ++ dgs z2 := ⟨_, rfl⟩
          have HI : Hid (I = if U = 0 then [48] else ts ++ dgs z2) := hI
          have HIO : Hid (IntOk I) := by
            show IntOk I
            rw [hI]
            rcases hth with ⟨h0, _⟩ | ⟨h0, h1, h2⟩
            · rw [if_pos h0]; exact .inl rfl
            · rw [if_neg h0]
              refine .inr ⟨by simp [htn], by rw [List.all_append, htd, dgs_all]; rfl, ?_, ?_⟩
              · rw [head_app htn]; exact h1
              · rw [head_app htn]; exact h2
          have hIl : I.length ≤ 65556 := by
            rw [hI]
            split
            · simp
            · rw [List.length_append, dgs_length, s2.len_eq]; omega
          have HTS : Hid (U = 0 → ts = [48]) := by
            intro h0
            rcases hth with h | h
            · exact h.2
            · exact absurd h0 h.1
          clear hI hth htd htn
          go_upto_if 101 with fail
          go_cut [22] (fun s22 wx => Tx w wx s22 (sgnL neg ++ I))
          case first =>
            as_aux_lemma =>
              by_cases h0 : U = 0
              · have e : I = ts := by rw [HI.out, if_pos h0, HTS.out h0]
                have hb0 : ((U : Int) == 0) = true := by simpa using h0
                rw [← e] at ht3
                clear e h0
                go_wp2
                go_meet
                case rel => exact ht3
              · have e : I = ts ++ dgs z2 := by rw [HI.out, if_neg h0]
                have HEI : Hid (I = ts ++ dgs z2) := e
                have hb0 : ((U : Int) == 0) = false := by simpa using h0
                clear e h0
                go_wp2_with fail
                refine (appendDigits_any w _ _ _ ht3 _ _ _ _ s2 k2 (by rw [List.length_append]; omega)).mono ?_
                rintro ev w4 ⟨v4, rfl, ht4⟩
                go_wp2
                go_meet
                case rel => rw [HEI.out, ← List.append_assoc]; exact ht4
          case rest =>
            have ht4 := hcut
            clear hcut ht3
            obtain ⟨T4, hT4⟩ : ∃ T, T = sgnL neg ++ I := ⟨_, rfl⟩
            rw [← hT4] at ht4
            have HT4 : Hid (T4 = sgnL neg ++ I) := hT4
            have hT4l : T4.length ≤ 65557 := by rw [hT4, List.length_append]; omega
            clear hT4
            go_upto_if 105 with fail
            go_cut [22] (fun s22 wx => Tx w wx s22 (T4 ++ fracL hasF z3))
            case first =>
              as_aux_lemma =>
                cases hasF with
                | false =>
                  go_wp2
                  go_meet
                  case rel => simpa [fracL] using ht4
                | true =>
                  have hown := ht4.own
                  have hbs := ht4.bel.size
                  go_wp2_with (at_builtin; refine wpList_append_own _ rfl (.tmp 106) (.tmp 107) 22 rfl w.heap.size 5 i0 (.int .u8 0) 1 1 Try.underlying22 hi hz0 hz1 hz2 rfl (by decide) _ _ _ rfl (hown.alloc _) ⟨wc.heap.size, 0, none⟩ 1 1 ([46].map (Value.int .u8)) rfl rfl (cells_new _ _ _) (ints_oneCell _ _) ?hm ?hb ?hz ?_)
                  case hm => unfold maxLen; omega
                  case hb => omega
                  case hz => first | omega | (simp; omega)
                  · intro v5 w5 hown5 hgrow5 _
                    have R : Tx w w5 v5 (T4 ++ [46]) := ht4.one [46] hown5 hgrow5
                    clear hown5 hgrow5 hown
                    go_wp2_with fail
                    refine (appendDigits_any w _ _ _ R _ _ _ _ s3 k3 (by rw [List.length_append]; simp; omega)).mono ?_
                    rintro ev w6 ⟨v6, rfl, ht6⟩
                    go_wp2
                    go_meet
                    case rel => simpa [fracL] using ht6
            case rest =>
              have ht5 := hcut
              clear hcut ht4
              obtain ⟨F, hF⟩ : ∃ F, F = fracL hasF z3 := ⟨_, rfl⟩
              rw [← hF] at ht5
              have HF : Hid (F = fracL hasF z3) := hF
              obtain ⟨T5, hT5⟩ : ∃ T, T = T4 ++ F := ⟨_, rfl⟩
              rw [← hT5] at ht5
              have HT5 : Hid (T5 = T4 ++ F) := hT5
              have hFl : F.length ≤ 65537 := by
                rw [hF]; unfold fracL
                split
                · rw [List.length_append, dgs_length, s3.len_eq]; simp; omega
                · simp
              have hT5l : T5.length ≤ 131094 := by rw [hT5, List.length_append]; omega
              clear hF hT5
              go_upto_if 112 with fail
              go_cut [22] (fun s22 wx => Tx w wx s22 (T5 ++ expX hasX up a7 z5))
              case first =>
                as_aux_lemma =>
                  cases hasX with
                  | false =>
                    go_wp2
                    go_meet
                    case rel => simpa [expX] using ht5
                  | true =>
                    have hown := ht5.own
                    have hbs := ht5.bel.size
                    go_wp2_with fail
                    refine (exp_any _ _).mono ?_
                    rintro ev w' ⟨rfl, rfl⟩
                    go_wp2_with (at_builtin; refine wpList_append_own _ rfl (.tmp 113) (.tmp 116) 22 rfl w.heap.size 5 i0 (.int .u8 0) 1 1 Try.underlying22 hi hz0 hz1 hz2 rfl (by decide) _ _ _ rfl (hown.alloc _) ⟨wc.heap.size, 0, none⟩ 1 1 ([expL up].map (Value.int .u8)) rfl rfl (cells_new _ _ _) (ints_oneCell _ _) ?hm ?hb ?hz ?_)
                    case hm => unfold maxLen; omega
                    case hb => omega
                    case hz => first | omega | (simp; omega)
                    · intro v6 w6 hown6 hgrow6 _
                      have R : Tx w w6 v6 (T5 ++ [expL up]) := ht5.one [expL up] hown6 hgrow6
                      clear hown6 hgrow6 hown hbs
                      have hown := R.own
                      have hbs := R.bel.size
                      have hTl2 : (T5 ++ [expL up]).length ≤ 131095 := by rw [List.length_append]; simp; omega
                      obtain ⟨T, hT⟩ : ∃ T, T = T5 ++ [expL up] := ⟨_, rfl⟩
                      rw [← hT] at R hown hTl2
                      have HT : Hid (T = T5 ++ [expL up]) := hT
                      clear hT
                      by_cases m1 : a7 % 3 = 1
                      · have HES : Hid (esL a7 = [43]) := by show _ = _; unfold esL; rw [if_pos m1]
                        have b1 : (a7 % 3 == 1) = true := by simpa using m1
                        clear m1
                        go_wp2_with (at_builtin; refine wpList_append_own _ rfl (.tmp 122) (.tmp 123) 22 rfl w.heap.size 5 i0 (.int .u8 0) 1 1 Try.underlying22 hi hz0 hz1 hz2 rfl (by decide) _ _ _ rfl (hown.alloc _) ⟨w6.heap.size, 0, none⟩ 1 1 ([43].map (Value.int .u8)) rfl rfl (cells_new _ _ _) (ints_oneCell _ _) ?hm ?hb ?hz ?_)
                        case hm => unfold maxLen; omega
                        case hb => omega
                        case hz => first | omega | (simp; omega)
                        · intro v7 w7 hown7 hgrow7 _
                          have R2 : Tx w w7 v7 (T ++ [43]) := R.one [43] hown7 hgrow7
                          clear hown7 hgrow7 hown
                          go_wp2_with fail
                          refine (appendDigits_any w _ _ _ R2 _ _ _ _ s5 k5 (by rw [List.length_append]; simp; omega)).mono ?_
                          rintro ev w8 ⟨v8, rfl, ht8⟩
                          go_wp2
                          go_meet
                          case rel => rw [HT.out] at ht8; simpa [expX, HES.out] using ht8
                      have b1 : (a7 % 3 == 1) = false := by simpa using m1
                      by_cases m2 : a7 % 3 = 2
                      · have HES : Hid (esL a7 = [45]) := by show _ = _; unfold esL; rw [if_neg m1, if_pos m2]
                        have b2 : (a7 % 3 == 2) = true := by simpa using m2
                        clear m1 m2
                        go_wp2_with (at_builtin; refine wpList_append_own _ rfl (.tmp 127) (.tmp 128) 22 rfl w.heap.size 5 i0 (.int .u8 0) 1 1 Try.underlying22 hi hz0 hz1 hz2 rfl (by decide) _ _ _ rfl (hown.alloc _) ⟨w6.heap.size, 0, none⟩ 1 1 ([45].map (Value.int .u8)) rfl rfl (cells_new _ _ _) (ints_oneCell _ _) ?hm ?hb ?hz ?_)
                        case hm => unfold maxLen; omega
                        case hb => omega
                        case hz => first | omega | (simp; omega)
                        · intro v7 w7 hown7 hgrow7 _
                          have R2 : Tx w w7 v7 (T ++ [45]) := R.one [45] hown7 hgrow7
                          clear hown7 hgrow7 hown
                          go_wp2_with fail
                          refine (appendDigits_any w _ _ _ R2 _ _ _ _ s5 k5 (by rw [List.length_append]; simp; omega)).mono ?_
                          rintro ev w8 ⟨v8, rfl, ht8⟩
                          go_wp2
                          go_meet
                          case rel => rw [HT.out] at ht8; simpa [expX, HES.out] using ht8
                      · have HES : Hid (esL a7 = []) := by show _ = _; unfold esL; rw [if_neg m1, if_neg m2]
                        have b2 : (a7 % 3 == 2) = false := by simpa using m2
                        clear m1 m2 hown
                        go_wp2_with fail
                        refine (appendDigits_any w _ _ _ R _ _ _ _ s5 k5 (by omega)).mono ?_
                        rintro ev w8 ⟨v8, rfl, ht8⟩
                        go_wp2
                        go_meet
                        case rel => rw [HT.out] at ht8; simpa [expX, HES.out] using ht8
              case rest =>
                have ht6 := hcut
                clear hcut ht5
                obtain ⟨X, hX⟩ : ∃ X, X = expX hasX up a7 z5 := ⟨_, rfl⟩
                have hFO : FracOk hasF F := by rw [HF.out]; exact frac_ok hasF z3 l3 s3.len_eq HE4.out
                have hXO : ExpOk hasX X := by rw [hX]; exact exp_ok hasX up a7 z5 l5 s5.len_eq HE6.out
                rw [← hX] at ht6
                have hXl : X.length ≤ 65538 := by
                  rw [hX]; unfold expX
                  split
                  · rw [List.length_append, List.length_append, dgs_length, s5.len_eq]
                    have : (esL a7).length ≤ 1 := by unfold esL; split <;> (try split) <;> simp
                    simp; omega
                  · simp
                have hT6 : T5 ++ X = sgnL neg ++ (I ++ (F ++ X)) := by rw [HT5.out, HT4.out]; simp
                have hN := num_at neg hasF hasX I F X z9 HIO.out hFO hXO HR.out
                have h8 : ∀ x ∈ T5 ++ X, 0 ≤ x ∧ x ≤ 255 := by
                  rw [hT6]
                  intro x hx
                  rcases List.mem_append.1 hx with hx | hx
                  · exact sgn_by8 neg x hx
                  · rcases List.mem_append.1 hx with hx | hx
                    · exact int_by8 HIO.out x hx
                    · rcases List.mem_append.1 hx with hx | hx
                      · exact frac_by8 hFO x hx
                      · exact exp_by8 hXO x hx
                obtain ⟨T, hT⟩ : ∃ T, T = T5 ++ X := ⟨_, rfl⟩
                have hTds : sgnL neg ++ (I ++ (F ++ (X ++ z9))) = T ++ z9 := by rw [hT, hT6]; simp
                have hTlen : (sgnL neg).length + I.length + F.length + X.length = T.length := by rw [hT, hT6]; simp; omega
                have hTl : T.length ≤ 262144 := by omega
                rw [← hT] at ht6 h8
                rw [hTds, hTlen] at hN
                have HN : Hid (NumAt (T ++ z9) (T ++ z9).length (sgnL neg).length ((sgnL neg).length + I.length) ((sgnL neg).length + I.length + F.length) T.length neg hasF hasX) := hN
                have H8 : Hid (∀ x ∈ T, 0 ≤ x ∧ x ≤ 255) := h8
                obtain ⟨a6, c6, hv6, hs6⟩ := Sl.of_tx ht6 h8
                obtain ⟨n6, hn6⟩ : ∃ n, n = T.length := ⟨_, rfl⟩
                rw [← hn6] at hv6 hs6 hTl
                have HN6 : Hid (n6 = T.length) := hn6
                have hb6 := ht6.bel
                have HL9 : Hid (z9.length = l9) := s9.len_eq
                clear hX hFO hXO hT6 hN h8 hT hTds hTlen hn6 ht6 hXl hFl
                rw [hv6]
                clear hv6
                go_wp2_with (at_make; refine wpList_make_own _ rfl _ _ 22 rfl w.heap.size 5 i0 (.int .u8 0) 1 Try.underlying22 hi hz0 hz1 _ _ _ (n6 + l9) rfl rfl (by omega) (by rw [hz2]; omega) (by unfold maxLen; omega) hb6.size ?_)
                intro w7 hown7 hgrow7
                have hb7 : Below wc.heap.size wc w7 := (Below.refl _ _).grown hgrow7 (Nat.le_refl _) (by simp)
                have H7 : Hid (w7.ownsRow w.heap.size 5 1 (.slice (some ⟨wc.heap.size, 0, none⟩) 0 (n6 + l9)) 0 []) := hown7
                have hs7 := hs6.below hb7 (Nat.le_refl _)
                clear hown7 hgrow7
                go_wp2_with (at_builtin; refine wpList_append_fits_any _ rfl (.tmp 139) (.tmp 140) 22 rfl w.heap.size 5 i0 1 Try.underlying22 hi hz1 wc.heap.size 0 (n6 + l9) [] rfl H7.out a6 n6 c6 (T.map (Value.int .u8)) rfl (by simpa using HN6.out.symm) hs7.nil hs7.news (ints_oneCell _ _) (by omega) ?_)
                intro w8 hown8 hgrow8
                have hb8 : Below wc.heap.size wc w8 := hb7.grown hgrow8 hb7.size (by intro k e; cases e; exact Nat.le_refl _)
                have H8' : Hid (w8.ownsRow w.heap.size 5 1 (.slice (some ⟨wc.heap.size, 0, none⟩) n6 (n6 + l9)) n6 (T.map (Value.int .u8))) := hown8
                have hbw8 : Below w.heap.size w w8 := hb6.trans (hb8.mono hb6.size)
                have hs8 := s9.below hbw8 (Nat.le_refl _)
                clear hown8 hgrow8 H7
                go_wp2_with (at_builtin; refine wpList_append_fits_any _ rfl (.tmp 142) (.tmp 143) 22 rfl w.heap.size 5 i0 1 Try.underlying22 hi hz1 wc.heap.size n6 (n6 + l9) (T.map (Value.int .u8)) rfl H8'.out a9 l9 c9 (z9.map (Value.int .u8)) rfl (by simpa using HL9.out) hs8.nil hs8.news (ints_oneCell _ _) (by omega) ?_)
                intro w10 hown10 hgrow10
                have hb10 : Below wc.heap.size wc w10 := hb8.grown hgrow10 hb8.size (by intro k e; cases e; exact Nat.le_refl _)
                have hbw10 : Below w.heap.size w w10 := hb6.trans (hb10.mono hb6.size)
                have hs10 : Sl w10 (some ⟨wc.heap.size, 0, none⟩) (n6 + l9) (n6 + l9) (T ++ z9) := by
                  refine Sl.of_own (base := w.heap.size) (by simpa using hown10) ?_
                  intro x hx
                  rcases List.mem_append.1 hx with hx | hx
                  · exact H8.out x hx
                  · exact s9.by8 x hx
                clear hown10 hgrow10 H8'
                go_wp2_with fail
                refine (new_any w10 _ _ _ 0).mono ?_
                rintro ev w11 ⟨rfl, hr11, hb11, hz11⟩
                have hs11 := hs10.below hb11 (Nat.le_refl _)
                have hne : T ++ z9 ≠ [] := by
                  intro e
                  have := HN.out.h0
                  rw [e] at this
                  simp at this
                have hdt : Dt w11 w10.heap.size wc.heap.size 0 (n6 + l9) (n6 + l9) (T ++ z9) := by
                  refine ⟨hr11.data, ?_, hs11.len_eq, by omega⟩
                  rcases hs11.rd with h0 | ⟨b, off, e, hb, hc⟩
                  · exact absurd h0 hne
                  · simp only [Option.some.injEq, Addr.mk.injEq, and_true] at e
                    obtain ⟨rfl, rfl⟩ := e
                    intro i hi
                    exact hc i (by rw [hs11.len_eq]; exact hi)
                have hN' := HN.out
                rw [hs11.len_eq, ← HN6.out] at hN'
                have HQ := number_any w11 w10.heap.size wc.heap.size 0 (n6 + l9) (n6 + l9) (T ++ z9) hdt hr11 _ _ _ _ _ _ _ hN'
                clear hN' hdt hs11
                go_wp2_with fail
                refine HQ.mono ?_
                rintro ev w12 ⟨rfl, hr12, ho12⟩
                have hb12 : Below w10.heap.size w10 w12 := off_below' hb11 ho12
                have hbw12 : Below w.heap.size w w12 := hbw10.trans (hb12.mono hbw10.size)
                clear HQ hr11 ho12 hb11 hz11
                go_wp2_with (go_at_call 15; refine (at_any _ _ _ _ _ _ hr12).mono ?_; rintro ev w' ⟨rfl, rfl⟩)
                go_ret
                exact ⟨rfl, hbw12⟩
end Go.Proofs.Qxb6600039a
