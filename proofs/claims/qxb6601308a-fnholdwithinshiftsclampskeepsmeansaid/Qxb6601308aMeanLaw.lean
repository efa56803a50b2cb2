/-
  SEAT b6601308a: FnHoldWithinShiftsClampsKeepsMean.
-/
import Derived.Test.Qxb6601308aErr9
namespace Go.Proofs.Qxb6601308a
open Go.ChangeShapes Go.WideShapes Go.ChangeAt Go.RowKit

theorem mdrewN {B : Nat} {a w : World} (h : Below B a w) (n : Nat) : Below B a (w.drewN n) := ⟨h.os, h.tape, h.output, h.size, h.block⟩

set_option maxHeartbeats 8000000 in
set_option maxRecDepth 20000 in
theorem shifts_any (a0 : Option Addr) (len cap : Nat) (xs : List Nat) (lo hi : Nat) (w : World) (h : Fl w a0 len cap xs) (wl : lo < 18446744073709551616) (wh : hi < 18446744073709551616) :
    Calls Try.prog 4 #[.slice a0 len cap, .float .f64 lo, .float .f64 hi] w fun e w' => e = .returned (.bool true) ∧ Below w.heap.size w w' := by
  have hm : len ≤ 9223372036854775807 := by have := h.mx; have := h.le; unfold maxLen at *; omega
  have HFL : Hid (Fl w a0 len cap xs) := h
  have HWL : Hid (lo < 18446744073709551616) := wl
  have HWH : Hid (hi < 18446744073709551616) := wh
  clear wl wh
  have hz := zz12 w a0 len cap lo hi hm
  clear h
  by_cases hl : len ≤ 131072
  · rw [decide_eq_true (show len ≤ 1048576 by omega)] at hz
    have hlI : ¬ (131072 : Int) < (len : Int) := by omega
    go_enter Try.func4, Try.ntmps4
    go_wp2_with fail
    refine hz.mono ?_
    rintro ev w' ⟨rfl, rfl⟩
    clear hz
    go_wp2_with fail
    refine (domain_any w a0 len cap xs HFL.out lo hi).mono ?_
    rintro ev w' ⟨B, nd, rfl, rfl, hdom⟩
    cases B with
    | false =>
      clear hdom
      go_wp2
      go_ret
      exact ⟨rfl, mdrewN (Below.refl _ _) nd⟩
    | true =>
      have HD : Hid (Dom xs lo hi) := hdom rfl
      have h0 : 0 < len := by
        rw [← HFL.out.len_eq]
        cases e : xs with
        | nil => exact absurd e HD.out.ne
        | cons a l => simp
      clear hdom
      obtain ⟨b, off, rfl, hbb, hcc⟩ := HFL.out.cellAt h0
      have HC : Hid (∀ i, i < len → w.cell? ⟨b, off + i, none⟩ = some (.float .f64 (xs.getD i 0))) := hcc
      have HL : Hid (xs.length = len) := HFL.out.len_eq
      clear hcc
      have hal := abs_ok lo HD.out.flo
      have hah := abs_ok hi HD.out.fhi
      have fCH : fin CH := by unfold fin; decide
      have tl := gtB_key (fin_nn hal.1) (fin_nn fCH)
      have th := gtB_key (fin_nn hah.1) (fin_nn fCH)
      have tg := gtB_key (fin_nn hah.1) (fin_nn hal.1)
      obtain ⟨al, hale⟩ : ∃ x, x = absW lo := ⟨_, rfl⟩
      obtain ⟨ah, hahe⟩ : ∃ x, x = absW hi := ⟨_, rfl⟩
      have call1 := fun W => absf_any W lo
      have call2 := fun W => absf_any W hi
      rw [← hale] at hal tl tg
      rw [← hahe] at hah th tg
      simp only [← hale] at call1
      simp only [← hahe] at call2
      have HAL : Hid (fin al ∧ V al = ((V lo).natAbs : Int)) := hal
      have HAH : Hid (fin ah ∧ V ah = ((V hi).natAbs : Int)) := hah
      obtain ⟨T1, hT1⟩ : ∃ T, (FloatKind.f64.format.order al 9094988921128908188 == some .gt) = T := ⟨_, rfl⟩
      obtain ⟨T2, hT2⟩ : ∃ T, (FloatKind.f64.format.order ah 9094988921128908188 == some .gt) = T := ⟨_, rfl⟩
      obtain ⟨T3, hT3⟩ : ∃ T, (FloatKind.f64.format.order ah al == some .gt) = T := ⟨_, rfl⟩
      have HT1 : Hid (T1 = decide (key CH < key al)) := by show _ = _; rw [← hT1]; exact tl
      have HT2 : Hid (T2 = decide (key CH < key ah)) := by show _ = _; rw [← hT2]; exact th
      have HT3 : Hid (T3 = decide (key al < key ah)) := by show _ = _; rw [← hT3]; exact tg
      clear tl th tg hal hah hale hahe fCH
      cases T1 with
      | true =>
        go_wp2_with (first | (go_at_call_of 14 (Value.float .f64 lo); refine (call1 _).mono ?_; rintro ev w' ⟨rfl, rfl⟩) | (go_at_call_of 14 (Value.float .f64 hi); refine (call2 _).mono ?_; rintro ev w' ⟨rfl, rfl⟩))
        go_ret
        exact ⟨rfl, mdrewN (Below.refl _ _) nd⟩
      | false =>
        cases T2 with
        | true =>
          go_wp2_with (first | (go_at_call_of 14 (Value.float .f64 lo); refine (call1 _).mono ?_; rintro ev w' ⟨rfl, rfl⟩) | (go_at_call_of 14 (Value.float .f64 hi); refine (call2 _).mono ?_; rintro ev w' ⟨rfl, rfl⟩))
          go_ret
          exact ⟨rfl, mdrewN (Below.refl _ _) nd⟩
        | false =>
          go_upto_if 53 with (first | (go_at_call_of 14 (Value.float .f64 lo); refine (call1 _).mono ?_; rintro ev w' ⟨rfl, rfl⟩) | (go_at_call_of 14 (Value.float .f64 hi); refine (call2 _).mono ?_; rintro ev w' ⟨rfl, rfl⟩))
          have HS0 : Hid (Scl xs lo hi 0 (if T3 then ah else al) true) := by
            have b1 := CH_big
            have k1 := of_decide_eq_false HT1.out.symm
            have k2 := of_decide_eq_false HT2.out.symm
            have g1 := V_lt_iff CH al
            have g2 := V_lt_iff CH ah
            have g3 := V_lt_iff al ah
            have e1 := HAL.out.2
            have e2 := HAH.out.2
            show Scl _ _ _ _ _ _
            cases ht : T3 with
            | true =>
              have k3 := HT3.out
              rw [ht] at k3
              have k3 := of_decide_eq_true k3.symm
              exact ⟨HAH.out.1, by show 0 ≤ V ah; omega, by show V ah ≤ _; omega, by show _ ≤ V ah; omega, by show _ ≤ V ah; omega, fun i hi => by omega, fun _ i hi => by omega, fun h => by cases h⟩
            | false =>
              have k3 := HT3.out
              rw [ht] at k3
              have k3 := of_decide_eq_false k3.symm
              exact ⟨HAL.out.1, by show 0 ≤ V al; omega, by show V al ≤ _; omega, by show _ ≤ V al; omega, by show _ ≤ V al; omega, fun i hi => by omega, fun _ i hi => by omega, fun h => by cases h⟩
          go_cut [7] (fun s7 wx => ∃ sw, s7 = .float .f64 sw ∧ Hid (Scl xs lo hi 0 sw true) ∧ wx = w.drewN nd)
          case first =>
            cases T3 with
            | true =>
              go_wp2_with (first | (go_at_call_of 14 (Value.float .f64 lo); refine (call1 _).mono ?_; rintro ev w' ⟨rfl, rfl⟩) | (go_at_call_of 14 (Value.float .f64 hi); refine (call2 _).mono ?_; rintro ev w' ⟨rfl, rfl⟩))
              go_meet
              exact ⟨ah, rfl, HS0, rfl⟩
            | false =>
              go_wp2_with fail
              go_meet
              exact ⟨al, rfl, HS0, rfl⟩
          case rest =>
            obtain ⟨sw0, rfl, HSC0, rfl⟩ := hcut
            clear hT1 hT2 hT3 HT1 HT2 HT3 HS0 HAL HAH call1 call2
            go_wp2_with fail
            go_loopg [7, 8, 9] len (fun k s7 s8 s9 wr => ∃ (q sw : Nat) (ins : Bool), s7 = .float .f64 sw ∧ s8 = .bool ins ∧ s9 = .int .i64 q ∧ Hid (k = len - q) ∧ q ≤ len ∧ Hid (Scl xs lo hi q sw ins) ∧ wr = w.drewN nd)
            case atStart => exact ⟨0, sw0, true, rfl, rfl, rfl, rfl, Nat.zero_le _, HSC0, rfl⟩
            case round =>
              obtain ⟨q, sw, ins, rfl, rfl, rfl, HK, hq, HSC, rfl⟩ := hrel
              clear HSC0
              by_cases hlt : q < len
              · have g := HC.out q hlt
                obtain ⟨x, hx⟩ : ∃ x, x = xs.getD q 0 := ⟨_, rfl⟩
                rw [← hx] at g
                have HX : Hid (x = xs.getD q 0) := hx
                have hfx : fin x := by rw [hx]; exact HD.out.fx q (by rw [HL.out]; exact hlt)
                have hax := abs_ok x hfx
                have fCH : fin CH := by unfold fin; decide
                have t1 := gtB_key (fin_nn hax.1) (fin_nn fCH)
                have t2 := gtB_key (fin_nn hax.1) (fin_nn HSC.out.f)
                have t3 := ltB_key (fin_nn hfx) (fin_nn HD.out.flo)
                have t4 := gtB_key (fin_nn hfx) (fin_nn HD.out.fhi)
                obtain ⟨ax, haxe⟩ : ∃ a, a = absW x := ⟨_, rfl⟩
                have call3 := fun W => absf_any W x
                simp only [← haxe] at call3
                rw [← haxe] at hax t1 t2
                have HAX : Hid (fin ax ∧ V ax = ((V x).natAbs : Int)) := hax
                obtain ⟨U1, hU1⟩ : ∃ T, (FloatKind.f64.format.order ax 9094988921128908188 == some .gt) = T := ⟨_, rfl⟩
                obtain ⟨U2, hU2⟩ : ∃ T, (FloatKind.f64.format.order ax sw == some .gt) = T := ⟨_, rfl⟩
                obtain ⟨U3, hU3⟩ : ∃ T, (FloatKind.f64.format.order x lo == some .lt) = T := ⟨_, rfl⟩
                obtain ⟨U4, hU4⟩ : ∃ T, (FloatKind.f64.format.order x hi == some .gt) = T := ⟨_, rfl⟩
                have HU1 : Hid (U1 = decide (key CH < key ax)) := by show _ = _; rw [← hU1]; exact t1
                have HU2 : Hid (U2 = decide (key sw < key ax)) := by show _ = _; rw [← hU2]; exact t2
                have HU3 : Hid (U3 = decide (key x < key lo)) := by show _ = _; rw [← hU3]; exact t3
                have HU4 : Hid (U4 = decide (key hi < key x)) := by show _ = _; rw [← hU4]; exact t4
                clear t1 t2 t3 t4 hax haxe hx hfx fCH
                cases U1 with
                | true =>
                  go_wp2_with (go_at_call 14; refine (call3 _).mono ?_; rintro ev w' ⟨rfl, rfl⟩)
                  go_ret
                  exact ⟨rfl, mdrewN (Below.refl _ _) nd⟩
                | false =>
                  have HST : Hid (∀ ins', ins' = (ins && (decide (key lo ≤ key x) && decide (key x ≤ key hi))) → Scl xs lo hi (q + 1) (if U2 then ax else sw) ins') := by
                    show ∀ ins', _
                    intro ins' hin
                    have b1 := CH_big
                    have b2 := HSC.out.big
                    have k1 := of_decide_eq_false HU1.out.symm
                    have g1 := V_lt_iff CH ax
                    have g2 := V_lt_iff sw ax
                    have e1 := HAX.out.2
                    cases hu : U2 with
                    | true =>
                      have k3 := HU2.out
                      rw [hu] at k3
                      have k3 := of_decide_eq_true k3.symm
                      exact HSC.out.step HX.out HAX.out.1 (by show _ ≤ V ax; omega) (by show V ax ≤ _; omega) (by show _ ≤ V ax; omega) hin
                    | false =>
                      have k3 := HU2.out
                      rw [hu] at k3
                      have k3 := of_decide_eq_false k3.symm
                      exact HSC.out.step HX.out HSC.out.f (by show _ ≤ V sw; omega) (by show V sw ≤ _; omega) (by show _ ≤ V sw; omega) hin
                  have HIN : Hid ((U3 || U4) = !(decide (key lo ≤ key x) && decide (key x ≤ key hi))) := by
                    show _ = _
                    rw [HU3.out, HU4.out]
                    by_cases a : key x < key lo
                    · rw [decide_eq_true a, decide_eq_false (p := key lo ≤ key x) (by omega)]; rfl
                    · rw [decide_eq_false a, decide_eq_true (p := key lo ≤ key x) (by omega), Bool.false_or, Bool.true_and]
                      by_cases b : key hi < key x
                      · rw [decide_eq_true b, decide_eq_false (p := key x ≤ key hi) (by omega)]; rfl
                      · rw [decide_eq_false b, decide_eq_true (p := key x ≤ key hi) (by omega)]; rfl
                  cases U2 with
                  | true =>
                    cases U3 with
                    | true =>
                      as_aux_lemma =>
                        go_wp2_with (go_at_call 14; refine (call3 _).mono ?_; rintro ev w' ⟨rfl, rfl⟩)
                        go_roundg (len - (q + 1))
                        case measure => rw [HK.out]; omega
                        case rel => exact ⟨q + 1, ax, false, rfl, rfl, by go_num, rfl, hlt, HST.out false (by have := HIN.out; rw [Bool.true_or] at this; have h2 := congrArg not this; rw [Bool.not_not, Bool.not_true] at h2; rw [← h2, Bool.and_false]), rfl⟩
                    | false =>
                      cases U4 with
                      | true =>
                        as_aux_lemma =>
                          go_wp2_with (go_at_call 14; refine (call3 _).mono ?_; rintro ev w' ⟨rfl, rfl⟩)
                          go_roundg (len - (q + 1))
                          case measure => rw [HK.out]; omega
                          case rel => exact ⟨q + 1, ax, false, rfl, rfl, by go_num, rfl, hlt, HST.out false (by have := HIN.out; rw [Bool.or_true] at this; have h2 := congrArg not this; rw [Bool.not_not, Bool.not_true] at h2; rw [← h2, Bool.and_false]), rfl⟩
                      | false =>
                        as_aux_lemma =>
                          go_wp2_with (go_at_call 14; refine (call3 _).mono ?_; rintro ev w' ⟨rfl, rfl⟩)
                          go_roundg (len - (q + 1))
                          case measure => rw [HK.out]; omega
                          case rel => exact ⟨q + 1, ax, ins, rfl, rfl, by go_num, rfl, hlt, HST.out ins (by have := HIN.out; rw [Bool.or_false] at this; have h2 := congrArg not this; rw [Bool.not_not, Bool.not_false] at h2; rw [← h2, Bool.and_true]), rfl⟩
                  | false =>
                    cases U3 with
                    | true =>
                      as_aux_lemma =>
                        go_wp2_with (go_at_call 14; refine (call3 _).mono ?_; rintro ev w' ⟨rfl, rfl⟩)
                        go_roundg (len - (q + 1))
                        case measure => rw [HK.out]; omega
                        case rel => exact ⟨q + 1, sw, false, rfl, rfl, by go_num, rfl, hlt, HST.out false (by have := HIN.out; rw [Bool.true_or] at this; have h2 := congrArg not this; rw [Bool.not_not, Bool.not_true] at h2; rw [← h2, Bool.and_false]), rfl⟩
                    | false =>
                      cases U4 with
                      | true =>
                        as_aux_lemma =>
                          go_wp2_with (go_at_call 14; refine (call3 _).mono ?_; rintro ev w' ⟨rfl, rfl⟩)
                          go_roundg (len - (q + 1))
                          case measure => rw [HK.out]; omega
                          case rel => exact ⟨q + 1, sw, false, rfl, rfl, by go_num, rfl, hlt, HST.out false (by have := HIN.out; rw [Bool.or_true] at this; have h2 := congrArg not this; rw [Bool.not_not, Bool.not_true] at h2; rw [← h2, Bool.and_false]), rfl⟩
                      | false =>
                        as_aux_lemma =>
                          go_wp2_with (go_at_call 14; refine (call3 _).mono ?_; rintro ev w' ⟨rfl, rfl⟩)
                          go_roundg (len - (q + 1))
                          case measure => rw [HK.out]; omega
                          case rel => exact ⟨q + 1, sw, ins, rfl, rfl, by go_num, rfl, hlt, HST.out ins (by have := HIN.out; rw [Bool.or_false] at this; have h2 := congrArg not this; rw [Bool.not_not, Bool.not_false] at h2; rw [← h2, Bool.and_true]), rfl⟩
              · have e : q = len := by omega
                subst e
                clear HK
                have HI : Hid (Inp xs lo hi (V sw).toNat) := HSC.out.inp HD.out HL.out hl
                have hmf : fin (meanW xs) := (mean_err xs _ HI.out.big HI.out.pos HI.out.len HI.out.dom.fx HI.out.xs).1
                have y1 := ltB_key (fin_nn hmf) (fin_nn HD.out.flo)
                have y2 := gtB_key (fin_nn hmf) (fin_nn HD.out.fhi)
                have cm := meanOf_any (w.drewN nd) (some ⟨b, off, none⟩) q cap xs (HFL.out.drewN nd) h0 hl HD.out.fx
                obtain ⟨M, hM⟩ : ∃ M, M = meanW xs := ⟨_, rfl⟩
                rw [← hM] at y1 y2 cm
                have HM : Hid (M = meanW xs) := hM
                obtain ⟨Y1, hY1⟩ : ∃ T, (FloatKind.f64.format.order M lo == some .lt) = T := ⟨_, rfl⟩
                obtain ⟨Y2, hY2⟩ : ∃ T, (FloatKind.f64.format.order M hi == some .gt) = T := ⟨_, rfl⟩
                have HY1 : Hid (Y1 = decide (key M < key lo)) := by show _ = _; rw [← hY1]; exact y1
                have HY2 : Hid (Y2 = decide (key hi < key M)) := by show _ = _; rw [← hY2]; exact y2
                clear y1 y2 hM hmf
                go_wp2_with fail
                refine cm.mono ?_
                rintro ev w' ⟨rfl, rfl⟩
                clear cm
                cases Y1 with
                | true =>
                  go_wp2
                  go_ret
                  exact ⟨rfl, mdrewN (Below.refl _ _) nd⟩
                | false =>
                  cases Y2 with
                  | true =>
                    go_wp2
                    go_ret
                    exact ⟨rfl, mdrewN (Below.refl _ _) nd⟩
                  | false =>
                    go_wp2_with fail
                    refine (clone_any (w.drewN nd) _ q cap xs (HFL.out.drewN nd) (by omega) h0).mono ?_
                    rintro ev w1 ⟨rfl, hr1, hb1⟩
                    have HR1 : Hid (Row w1 w.heap.size 22 (flV xs)) := hr1
                    have HB1 : Hid (Below w.heap.size w w1) := ⟨hb1.os, hb1.tape, hb1.output, hb1.size, hb1.block⟩
                    clear hr1 hb1
                    go_wp2_with fail
                    refine (hold17 w1 w.heap.size q xs lo hi HR1.out HFL.out.len_eq h0 hl HFL.out.wf HD.out).mono ?_
                    rintro ev w2 ⟨ys, rfl, hr2, hh2, ho2⟩
                    have HG : Hid (Good xs ys lo hi) := good_of_held HD.out hh2
                    have HB2 : Hid (Below w.heap.size w w2) := HB1.out.trans ⟨ho2.os, ho2.tape, ho2.output, ho2.size, fun k hk => ho2.block k (Nat.lt_trans hk HR1.out.lt) (by omega)⟩
                    have HR2 : Hid (Row w2 w.heap.size 22 (flV ys)) := hr2
                    have HXS : Hid (∀ i, i < q → w2.cell? ⟨b, off + i, none⟩ = some (.float .f64 (xs.getD i 0))) := by
                      show ∀ i, _
                      intro i hi
                      exact (HB2.out.cell (p := ⟨b, off + i, none⟩) hbb).trans (HC.out i hi)
                    have HYS : Hid (∀ i, i < q → w2.cell? ⟨w.heap.size, i, none⟩ = some (.float .f64 (ys.getD i 0))) := by
                      show ∀ i, _
                      intro i hi
                      have g := hr2.cell i
                      rw [flV_get ys i (by rw [HG.out.len, HL.out]; exact hi)] at g
                      exact g
                    have hcs := HSC.out.held HD.out HL.out hh2
                    clear hr2 hh2 ho2 HB1 HR1 HC
                    rcases hcs with ⟨rfl, hye⟩ | ⟨rfl, below, above, hhv, hye⟩
                    · subst hye
                      go_wp2_with fail
                      go_loopg [12] q (fun k s12 wr => ∃ t n : Nat, s12 = .int .i64 t ∧ Hid (k = q - t) ∧ t ≤ q ∧ wr = w2.drewN n)
                      case atStart => exact ⟨0, 0, rfl, rfl, Nat.zero_le _, rfl⟩
                      case round =>
                        obtain ⟨t, n, rfl, HK, ht, rfl⟩ := hrel
                        by_cases hlt : t < q
                        · have g1 := HXS.out t hlt
                          have g2 := HYS.out t hlt
                          have fx := fin_nn (HD.out.fx t (by rw [HL.out]; exact hlt))
                          have e1 := eqB_key fx fx
                          rw [decide_eq_true rfl] at e1
                          obtain ⟨x, hx⟩ : ∃ x, x = ys.getD t 0 := ⟨_, rfl⟩
                          rw [← hx] at g1 g2 e1
                          have e2 : (FloatKind.f64.format.order x x != some .eq) = false := by rw [bne, e1]; rfl
                          clear hx fx
                          go_upto_region 31 with fail
                          go_quiet (fail)
                          go_wp2
                          go_roundg (q - (t + 1))
                          case measure => rw [HK.out]; omega
                          case rel => exact ⟨t + 1, _, by go_num, rfl, hlt, rfl⟩
                        · go_wp2
                          go_ret
                          exact ⟨rfl, mdrewN HB2.out n⟩
                    · have HH : Hid (Halved xs lo hi below above) := hhv
                      have HYE : Hid (ys = xs.map (clampW lo hi above)) := hye
                      clear hhv hye
                      have hsv : V sw = ((V sw).toNat : Int) := by have := HSC.out.pos; omega
                      have hmt := mul_tol sw (V sw).toNat HSC.out.f hsv HI.out.big
                      have hto := tol_ok sw (V sw).toNat HSC.out.f hsv HI.out.big
                      have r1 := fun W => fa_ok .mul 22 4502148214488346440 sw (mulW C7 sw) hmt.1 W
                      have r2 := fun W => fa_ok .add 22 (mulW C7 sw) 118622047889322841 (addW (mulW C7 sw) CL) (addW_ok (mulW C7 sw) CL (fin_nn hmt.2.1) CL_ok.1).1 W
                      obtain ⟨S, hSe⟩ : ∃ S, S = (V sw).toNat := ⟨_, rfl⟩
                      rw [← hSe] at hto
                      obtain ⟨p7, hp7⟩ : ∃ p, p = mulW C7 sw := ⟨_, rfl⟩
                      rw [← hp7] at hto r1 r2
                      obtain ⟨tl, htl⟩ : ∃ p, p = addW p7 CL := ⟨_, rfl⟩
                      rw [← htl] at hto r2
                      have HTO : Hid (fin tl ∧ 64 * (dl S : Int) ≤ V tl ∧ V tl ≤ 2 * (S : Int) + 302231454903657293676544) := hto
                      have HIS : Hid (Inp xs lo hi S) := by show Inp _ _ _ _; rw [hSe]; exact HI.out
                      have HE : Hid (Ends xs lo hi S below above) := ends_ok HIS.out HH.out
                      clear hsv hmt hto hSe hp7 htl HI
                      have hmk := mean_kept HIS.out HH.out (by have := of_decide_eq_false HY1.out.symm; rw [← HM.out]; omega) (by have := of_decide_eq_false HY2.out.symm; rw [← HM.out]; omega) HTO.out.1 HTO.out.2.1
                      rw [← HM.out] at hmk
                      have hfy : Fl w2 (some ⟨w.heap.size, 0, none⟩) q q ys := by
                        have := Fl.of_row HR2.out (by rw [HG.out.len, HL.out]; unfold maxLen; omega) (by
                          intro n hn
                          rw [HYE.out] at hn
                          obtain ⟨z, hz1, hz2⟩ := List.mem_map.1 hn
                          obtain ⟨i, hi1, hi2⟩ := List.getElem_of_mem hz1
                          have fz := HD.out.fx i hi1
                          have ez : xs.getD i 0 = xs[i] := by simp [List.getD, hi1]
                          rw [ez, hi2] at fz
                          rw [← hz2]
                          exact clampW_wf lo hi above z HD.out.flo HD.out.fhi (fin_nn HE.out.fa) fz HWL.out HWH.out)
                        rw [HG.out.len, HL.out] at this
                        exact this
                      have cm := meanOf_any w2 (some ⟨w.heap.size, 0, none⟩) q q ys hfy h0 hl (fun i hi => HG.out.fy i (by rw [← HG.out.len]; exact hi))
                      have ehm : meanW ys = heldW xs lo hi above := by rw [HYE.out]; rfl
                      rw [ehm] at cm
                      obtain ⟨hw, hhw⟩ : ∃ z, z = heldW xs lo hi above := ⟨_, rfl⟩
                      rw [← hhw] at cm hmk
                      have r3 := fun W => fa_ok .sub 22 hw M (subW hw M) hmk.1 W
                      obtain ⟨df, hdf⟩ : ∃ z, z = subW hw M := ⟨_, rfl⟩
                      rw [← hdf] at r3 hmk
                      have k5 := hmk.2
                      have ca := fun W => absf_any W df
                      obtain ⟨ad, had⟩ : ∃ z, z = absW df := ⟨_, rfl⟩
                      simp only [← had] at ca
                      rw [← had] at k5
                      clear hmk hfy ehm hhw hdf had HFL HM HY1 HY2 HR2 HSC
                      have eq1 := eqB_key (fin_nn HD.out.flo) (fin_nn HD.out.fhi)
                      obtain ⟨EQ, hEQ⟩ : ∃ T, (FloatKind.f64.format.order lo hi == some .eq) = T := ⟨_, rfl⟩
                      have HEQ : Hid (EQ = decide (key lo = key hi)) := by show _ = _; rw [← hEQ]; exact eq1
                      clear eq1
                      go_wp2_with fail
                      go_loopg [14] q (fun k s14 wr => ∃ t : Nat, s14 = .int .i64 t ∧ Hid (k = q - t) ∧ t ≤ q ∧ w2 = wr)
                      case atStart => exact ⟨0, rfl, rfl, Nat.zero_le _, rfl⟩
                      case round =>
                        obtain ⟨t, rfl, HK, ht, rfl⟩ := hrel
                        by_cases hlt : t < q
                        · have g := HYS.out t hlt
                          have htx : t < xs.length := by rw [HL.out]; exact hlt
                          have l1 := leB_key (fin_nn HD.out.flo) (fin_nn (HG.out.fy t htx))
                          have l2 := leB_key (fin_nn (HG.out.fy t htx)) (fin_nn HD.out.fhi)
                          rw [decide_eq_true (HG.out.lo t htx)] at l1
                          rw [decide_eq_true (HG.out.hi t htx)] at l2
                          obtain ⟨y, hy⟩ : ∃ y, y = ys.getD t 0 := ⟨_, rfl⟩
                          rw [← hy] at g l1 l2
                          unfold leB at l1 l2
                          clear hy htx
                          go_wp2
                          go_roundg (q - (t + 1))
                          case measure => rw [HK.out]; omega
                          case rel => exact ⟨t + 1, by go_num, rfl, hlt, rfl⟩
                        · have e : t = q := by omega
                          subst e
                          clear HK
                          go_wp2_with fail
                          refine cm.mono ?_
                          rintro ev w' ⟨rfl, rfl⟩
                          clear cm
                          go_wp2_with fail
                          refine (ca _).mono ?_
                          rintro ev w' ⟨rfl, rfl⟩
                          clear ca
                          cases EQ with
                          | true =>
                            go_wp2
                            go_ret
                            exact ⟨rfl, HB2.out⟩
                          | false =>
                            have HNE : Hid (key lo ≠ key hi) := of_decide_eq_false HEQ.out.symm
                            go_wp2_with fail
                            clear hEQ HEQ r1 r2 r3 k5
                            go_loopg [15, 16, 17, 18, 19, 20, 21, 22, 23, 24, 25, 26] t (fun k s15 s16 s17 s18 s19 s20 s21 s22 _ _ _ _ wr => ∃ (u c1 c2 m1 m2 : Nat) (bL bH bM : Bool), s15 = .float .f64 c1 ∧ s16 = .float .f64 c2 ∧ s17 = .float .f64 m1 ∧ s18 = .float .f64 m2 ∧ s19 = .bool bL ∧ s20 = .bool bH ∧ s21 = .bool bM ∧ s22 = .int .i64 u ∧ Hid (k = t - u) ∧ u ≤ t ∧ Hid (bL = true → LoS S above c1) ∧ Hid (bH = true → HiS S above c2) ∧ Hid (bM = true → (LoS S above m1 ∧ HiS S above m1) ∧ (LoS S above m2 ∧ HiS S above m2)) ∧ w2 = wr)
                            case atStart => exact ⟨0, 0, 0, 0, 0, false, false, false, rfl, rfl, rfl, rfl, rfl, rfl, rfl, rfl, rfl, Nat.zero_le _, (fun h => by cases h), (fun h => by cases h), (fun h => by cases h), rfl⟩
                            case round =>
                              obtain ⟨u, c1, c2, m1, m2, bL, bH, bM, rfl, rfl, rfl, rfl, rfl, rfl, rfl, rfl, HK, hu, HLO, HHI, HMI, rfl⟩ := hrel
                              by_cases hlt : u < t
                              · have gx := HXS.out u hlt
                                have gy := HYS.out u hlt
                                have hux : u < xs.length := by rw [HL.out]; exact hlt
                                have hyx : ys.getD u 0 = clampW lo hi above (xs.getD u 0) := by rw [HYE.out]; exact map_getD _ _ _ hux
                                have fy := HG.out.fy u hux
                                have fx := HD.out.fx u hux
                                have q1 := eqB_key (fin_nn fy) (fin_nn HD.out.flo)
                                have q2 := eqB_key (fin_nn fy) (fin_nn HD.out.fhi)
                                obtain ⟨x, hx⟩ : ∃ x, x = xs.getD u 0 := ⟨_, rfl⟩
                                obtain ⟨y, hy⟩ : ∃ y, y = ys.getD u 0 := ⟨_, rfl⟩
                                rw [← hx] at gx fx
                                rw [← hy] at gy hyx fy q1 q2
                                have HX : Hid (x = xs.getD u 0) := hx
                                have HYX : Hid (y = clampW lo hi above (xs.getD u 0)) := hyx
                                have HFX : Hid (fin x) := fx
                                have HFY : Hid (fin y) := fy
                                obtain ⟨Q1, hQ1⟩ : ∃ T, (FloatKind.f64.format.order y lo == some .eq) = T := ⟨_, rfl⟩
                                obtain ⟨Q2, hQ2⟩ : ∃ T, (FloatKind.f64.format.order y hi == some .eq) = T := ⟨_, rfl⟩
                                have HQ1 : Hid (Q1 = decide (key y = key lo)) := by show _ = _; rw [← hQ1]; exact q1
                                have HQ2 : Hid (Q2 = decide (key y = key hi)) := by show _ = _; rw [← hQ2]; exact q2
                                clear q1 q2 hx hy hyx fx fy
                                cases Q1 with
                                | true =>
                                  have he1 := HNE.out
                                  have hsh := shift_lo HIS.out HE.out he1 u hux (by rw [← HYX.out]; exact of_decide_eq_true HQ1.out.symm)
                                  rw [← HX.out] at hsh
                                  have r4 := fun W => fa_ok .sub 22 x lo (subW x lo) (subW_ok x lo HFX.out (fin_nn HD.out.flo)).1 W
                                  obtain ⟨e, hee⟩ : ∃ e, e = subW x lo := ⟨_, rfl⟩
                                  rw [← hee] at hsh r4
                                  have HSH : Hid (LoS S above e) := hsh
                                  clear hsh hee he1 hux
                                  cases bL with
                                  | false =>
                                    as_aux_lemma =>
                                      go_wp2
                                      go_roundg (t - (u + 1))
                                      case measure => rw [HK.out]; omega
                                      case rel => exact ⟨u + 1, e, c2, m1, m2, true, bH, bM, rfl, rfl, rfl, rfl, rfl, rfl, rfl, by go_num, rfl, hlt, fun _ => HSH.out, HHI, HMI, rfl⟩

                                  | true =>
                                    obtain ⟨G1, hG1⟩ : ∃ T, (FloatKind.f64.format.order e c1 == some .gt) = T := ⟨_, rfl⟩
                                    have HLB : Hid (LoS S above c1) := HLO.out rfl
                                    clear HLO
                                    cases G1 with
                                    | true =>
                                      as_aux_lemma =>
                                        go_wp2
                                        go_roundg (t - (u + 1))
                                        case measure => rw [HK.out]; omega
                                        case rel => exact ⟨u + 1, e, c2, m1, m2, true, bH, bM, rfl, rfl, rfl, rfl, rfl, rfl, rfl, by go_num, rfl, hlt, fun _ => HSH.out, HHI, HMI, rfl⟩

                                    | false =>
                                      as_aux_lemma =>
                                        go_wp2
                                        go_roundg (t - (u + 1))
                                        case measure => rw [HK.out]; omega
                                        case rel => exact ⟨u + 1, c1, c2, m1, m2, true, bH, bM, rfl, rfl, rfl, rfl, rfl, rfl, rfl, by go_num, rfl, hlt, fun _ => HLB.out, HHI, HMI, rfl⟩

                                | false =>
                                  cases Q2 with
                                  | true =>
                                    have he1 := HNE.out
                                    have hsh := shift_hi HIS.out HE.out he1 u hux (by rw [← HYX.out]; exact of_decide_eq_true HQ2.out.symm)
                                    rw [← HX.out] at hsh
                                    have r4 := fun W => fa_ok .sub 22 x hi (subW x hi) (subW_ok x hi HFX.out (fin_nn HD.out.fhi)).1 W
                                    obtain ⟨e, hee⟩ : ∃ e, e = subW x hi := ⟨_, rfl⟩
                                    rw [← hee] at hsh r4
                                    have HSH : Hid (HiS S above e) := hsh
                                    clear hsh hee he1 hux
                                    cases bH with
                                    | false =>
                                      as_aux_lemma =>
                                        go_wp2
                                        go_roundg (t - (u + 1))
                                        case measure => rw [HK.out]; omega
                                        case rel => exact ⟨u + 1, c1, e, m1, m2, bL, true, bM, rfl, rfl, rfl, rfl, rfl, rfl, rfl, by go_num, rfl, hlt, HLO, fun _ => HSH.out, HMI, rfl⟩

                                    | true =>
                                      obtain ⟨G1, hG1⟩ : ∃ T, (FloatKind.f64.format.order e c2 == some .lt) = T := ⟨_, rfl⟩
                                      have HHB : Hid (HiS S above c2) := HHI.out rfl
                                      clear HHI
                                      cases G1 with
                                      | true =>
                                        as_aux_lemma =>
                                          go_wp2
                                          go_roundg (t - (u + 1))
                                          case measure => rw [HK.out]; omega
                                          case rel => exact ⟨u + 1, c1, e, m1, m2, bL, true, bM, rfl, rfl, rfl, rfl, rfl, rfl, rfl, by go_num, rfl, hlt, HLO, fun _ => HSH.out, HMI, rfl⟩

                                      | false =>
                                        as_aux_lemma =>
                                          go_wp2
                                          go_roundg (t - (u + 1))
                                          case measure => rw [HK.out]; omega
                                          case rel => exact ⟨u + 1, c1, c2, m1, m2, bL, true, bM, rfl, rfl, rfl, rfl, rfl, rfl, rfl, by go_num, rfl, hlt, HLO, fun _ => HHB.out, HMI, rfl⟩

                                  | false =>
                                    have hsh := shift_mid HIS.out HE.out u hux (by rw [← HYX.out]; exact of_decide_eq_false HQ1.out.symm) (by rw [← HYX.out]; exact of_decide_eq_false HQ2.out.symm)
                                    rw [← HYX.out, ← HX.out] at hsh
                                    have r4 := fun W => fa_ok .sub 22 x y (subW x y) (subW_ok x y HFX.out (fin_nn HFY.out)).1 W
                                    obtain ⟨e, hee⟩ : ∃ e, e = subW x y := ⟨_, rfl⟩
                                    rw [← hee] at hsh r4
                                    have HSH : Hid (LoS S above e ∧ HiS S above e) := hsh
                                    clear hsh hee hux
                                    cases bM with
                                    | false =>
                                      as_aux_lemma =>
                                        go_wp2
                                        go_roundg (t - (u + 1))
                                        case measure => rw [HK.out]; omega
                                        case rel => exact ⟨u + 1, c1, c2, e, e, bL, bH, true, rfl, rfl, rfl, rfl, rfl, rfl, rfl, by go_num, rfl, hlt, HLO, HHI, fun _ => ⟨HSH.out, HSH.out⟩, rfl⟩

                                    | true =>
                                      obtain ⟨G1, hG1⟩ : ∃ T, (FloatKind.f64.format.order e m1 == some .lt) = T := ⟨_, rfl⟩
                                      obtain ⟨G2, hG2⟩ : ∃ T, (FloatKind.f64.format.order e m2 == some .gt) = T := ⟨_, rfl⟩
                                      have HM1 := HMI.out rfl
                                      have HM2 : Hid ((LoS S above m1 ∧ HiS S above m1) ∧ (LoS S above m2 ∧ HiS S above m2)) := HM1
                                      clear HM1 HMI
                                      cases G1 with
                                      | true =>
                                        cases G2 with
                                        | true =>
                                          as_aux_lemma =>
                                            go_wp2
                                            go_roundg (t - (u + 1))
                                            case measure => rw [HK.out]; omega
                                            case rel => exact ⟨u + 1, c1, c2, e, e, bL, bH, true, rfl, rfl, rfl, rfl, rfl, rfl, rfl, by go_num, rfl, hlt, HLO, HHI, fun _ => ⟨HSH.out, HSH.out⟩, rfl⟩

                                        | false =>
                                          as_aux_lemma =>
                                            go_wp2
                                            go_roundg (t - (u + 1))
                                            case measure => rw [HK.out]; omega
                                            case rel => exact ⟨u + 1, c1, c2, e, m2, bL, bH, true, rfl, rfl, rfl, rfl, rfl, rfl, rfl, by go_num, rfl, hlt, HLO, HHI, fun _ => ⟨HSH.out, HM2.out.2⟩, rfl⟩

                                      | false =>
                                        cases G2 with
                                        | true =>
                                          as_aux_lemma =>
                                            go_wp2
                                            go_roundg (t - (u + 1))
                                            case measure => rw [HK.out]; omega
                                            case rel => exact ⟨u + 1, c1, c2, m1, e, bL, bH, true, rfl, rfl, rfl, rfl, rfl, rfl, rfl, by go_num, rfl, hlt, HLO, HHI, fun _ => ⟨HM2.out.1, HSH.out⟩, rfl⟩

                                        | false =>
                                          as_aux_lemma =>
                                            go_wp2
                                            go_roundg (t - (u + 1))
                                            case measure => rw [HK.out]; omega
                                            case rel => exact ⟨u + 1, c1, c2, m1, m2, bL, bH, true, rfl, rfl, rfl, rfl, rfl, rfl, rfl, by go_num, rfl, hlt, HLO, HHI, fun _ => HM2.out, rfl⟩

                              · clear HK
                                cases bM with
                                | true =>
                                  have HMM := HMI.out rfl
                                  cases bL with
                                  | true =>
                                    have HLL := HLO.out rfl
                                    cases bH with
                                    | true =>
                                      have HHH := HHI.out rfl
                                      have n1 := shift_near HIS.out.big HMM.2.1 HMM.1.2 HTO.out.1 HTO.out.2.1
                                      have n1r := fun W => fa_ok .sub 22 m2 m1 (subW m2 m1) n1.1 W
                                      have n1t := n1.2
                                      have n2 := shift_far HIS.out.big HLL HMM.1.2 HTO.out.1 HTO.out.2.1 HTO.out.2.2
                                      have n2r := fun W => fa_ok .add 22 m1 tl (addW m1 tl) n2.1 W
                                      have n2t := n2.2
                                      have n3 := shift_far HIS.out.big HMM.2.1 HHH HTO.out.1 HTO.out.2.1 HTO.out.2.2
                                      have n3r := fun W => fa_ok .add 22 c2 tl (addW c2 tl) n3.1 W
                                      have n3t := n3.2
                                      have n4 := shift_far HIS.out.big HLL HHH HTO.out.1 HTO.out.2.1 HTO.out.2.2
                                      have n4r := fun W => fa_ok .add 22 c2 tl (addW c2 tl) n4.1 W
                                      have n4t := n4.2
                                      clear n1 n2 n3 n4 HMM HLL HHH
                                      as_aux_lemma =>
                                        go_wp2
                                        go_ret
                                        exact ⟨rfl, HB2.out⟩
                                    | false =>
                                      have n1 := shift_near HIS.out.big HMM.2.1 HMM.1.2 HTO.out.1 HTO.out.2.1
                                      have n1r := fun W => fa_ok .sub 22 m2 m1 (subW m2 m1) n1.1 W
                                      have n1t := n1.2
                                      have n2 := shift_far HIS.out.big HLL HMM.1.2 HTO.out.1 HTO.out.2.1 HTO.out.2.2
                                      have n2r := fun W => fa_ok .add 22 m1 tl (addW m1 tl) n2.1 W
                                      have n2t := n2.2
                                      clear n1 n2 HMM HLL
                                      as_aux_lemma =>
                                        go_wp2
                                        go_ret
                                        exact ⟨rfl, HB2.out⟩
                                  | false =>
                                    cases bH with
                                    | true =>
                                      have HHH := HHI.out rfl
                                      have n1 := shift_near HIS.out.big HMM.2.1 HMM.1.2 HTO.out.1 HTO.out.2.1
                                      have n1r := fun W => fa_ok .sub 22 m2 m1 (subW m2 m1) n1.1 W
                                      have n1t := n1.2
                                      have n3 := shift_far HIS.out.big HMM.2.1 HHH HTO.out.1 HTO.out.2.1 HTO.out.2.2
                                      have n3r := fun W => fa_ok .add 22 c2 tl (addW c2 tl) n3.1 W
                                      have n3t := n3.2
                                      clear n1 n3 HMM HHH
                                      as_aux_lemma =>
                                        go_wp2
                                        go_ret
                                        exact ⟨rfl, HB2.out⟩
                                    | false =>
                                      have n1 := shift_near HIS.out.big HMM.2.1 HMM.1.2 HTO.out.1 HTO.out.2.1
                                      have n1r := fun W => fa_ok .sub 22 m2 m1 (subW m2 m1) n1.1 W
                                      have n1t := n1.2
                                      clear n1 HMM
                                      as_aux_lemma =>
                                        go_wp2
                                        go_ret
                                        exact ⟨rfl, HB2.out⟩
                                | false =>
                                  cases bL with
                                  | true =>
                                    have HLL := HLO.out rfl
                                    cases bH with
                                    | true =>
                                      have HHH := HHI.out rfl
                                      have n4 := shift_far HIS.out.big HLL HHH HTO.out.1 HTO.out.2.1 HTO.out.2.2
                                      have n4r := fun W => fa_ok .add 22 c2 tl (addW c2 tl) n4.1 W
                                      have n4t := n4.2
                                      clear n4 HLL HHH
                                      as_aux_lemma =>
                                        go_wp2
                                        go_ret
                                        exact ⟨rfl, HB2.out⟩
                                    | false =>
                                      clear HLL
                                      as_aux_lemma =>
                                        go_wp2
                                        go_ret
                                        exact ⟨rfl, HB2.out⟩
                                  | false =>
                                    cases bH with
                                    | true =>
                                      have HHH := HHI.out rfl
                                      clear HHH
                                      as_aux_lemma =>
                                        go_wp2
                                        go_ret
                                        exact ⟨rfl, HB2.out⟩
                                    | false =>
                                      as_aux_lemma =>
                                        go_wp2
                                        go_ret
                                        exact ⟨rfl, HB2.out⟩
  · by_cases hb : len ≤ 1048576
    · rw [decide_eq_true hb] at hz
      have hlI : (131072 : Int) < (len : Int) := by omega
      go_enter Try.func4, Try.ntmps4
      go_wp2_with fail
      refine hz.mono ?_
      rintro ev w' ⟨rfl, rfl⟩
      clear hz
      go_wp2
      go_ret
      exact ⟨rfl, Below.refl _ _⟩
    · rw [decide_eq_false hb] at hz
      go_enter Try.func4, Try.ntmps4
      go_wp2_with fail
      refine hz.mono ?_
      rintro ev w' ⟨rfl, rfl⟩
      clear hz
      go_wp2
      go_ret
      exact ⟨rfl, Below.refl _ _⟩
end Go.Proofs.Qxb6601308a
