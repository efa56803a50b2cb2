/-
  SEAT b6601308a: FnHoldWithinInRangeAndOrderKept.
-/
import Derived.Test.Qxb6601308aRange
namespace Go.Proofs.Qxb6601308a
open Go.ChangeShapes Go.WideShapes Go.ChangeAt Go.RowKit

theorem bdrewN {B : Nat} {a w : World} (h : Below B a w) (n : Nat) : Below B a (w.drewN n) := ⟨h.os, h.tape, h.output, h.size, h.block⟩

set_option maxHeartbeats 4000000 in
set_option maxRecDepth 20000 in
theorem order_any (a0 : Option Addr) (len cap : Nat) (xs : List Nat) (lo hi : Nat) (w : World) (h : Fl w a0 len cap xs) :
    Calls Try.prog 5 #[.slice a0 len cap, .float .f64 lo, .float .f64 hi] w fun e w' => e = .returned (.bool true) ∧ Below w.heap.size w w' := by
  have hm : len ≤ 9223372036854775807 := by have := h.mx; have := h.le; unfold maxLen at *; omega
  have HFL : Hid (Fl w a0 len cap xs) := h
  have hz := zz18 w a0 len cap lo hi hm
  clear h
  by_cases hl : len ≤ 131072
  · rw [decide_eq_true (show len ≤ 1048576 by omega)] at hz
    have hlI : ¬ (131072 : Int) < (len : Int) := by omega
    go_enter Try.func5, Try.ntmps5
    go_wp2_with fail
    refine hz.mono ?_
    rintro ev w' ⟨rfl, rfl⟩
    clear hz
    go_wp2_with fail
    refine (domain_any w a0 len cap xs HFL.out lo hi).mono ?_
    rintro ev w' ⟨B, nd, rfl, rfl, hdom⟩
    cases B with
    | false =>
      clear hdom
      go_wp2
      go_ret
      exact ⟨rfl, bdrewN (Below.refl _ _) nd⟩
    | true =>
      have HD : Hid (Dom xs lo hi) := hdom rfl
      have h0 : 0 < len := by
        rw [← HFL.out.len_eq]
        cases e : xs with
        | nil => exact absurd e HD.out.ne
        | cons a l => simp
      clear hdom
      go_wp2_with fail
      refine (clone_any (w.drewN nd) a0 len cap xs (HFL.out.drewN nd) (by omega) h0).mono ?_
      rintro ev w1 ⟨rfl, hr1, hb1⟩
      have HR1 : Hid (Row w1 w.heap.size 22 (flV xs)) := hr1
      have HB1 : Hid (Below w.heap.size w w1) := ⟨hb1.os, hb1.tape, hb1.output, hb1.size, hb1.block⟩
      clear hr1 hb1
      go_wp2_with fail
      refine (hold17 w1 w.heap.size len xs lo hi HR1.out HFL.out.len_eq h0 hl HFL.out.wf HD.out).mono ?_
      rintro ev w2 ⟨ys, rfl, hr2, hh2, ho2⟩
      have HG : Hid (Good xs ys lo hi) := good_of_held HD.out hh2
      have HB2 : Hid (Below w.heap.size w w2) := HB1.out.trans ⟨ho2.os, ho2.tape, ho2.output, ho2.size, fun k hk => ho2.block k (Nat.lt_trans hk HR1.out.lt) (by omega)⟩
      have HR2 : Hid (Row w2 w.heap.size 22 (flV ys)) := hr2
      have hsz : w.heap.size < w2.heap.size := hr2.lt
      clear hr2 hh2 ho2 HB1 HR1
      obtain ⟨b, off, rfl, hbb, hcc⟩ := HFL.out.cellAt h0
      have HC : Hid (∀ i, i < len → w.cell? ⟨b, off + i, none⟩ = some (.float .f64 (xs.getD i 0))) := hcc
      have HL : Hid (xs.length = len) := HFL.out.len_eq
      clear hcc
      go_wp2_with fail
      go_loopg [8] len (fun k s8 wr => ∃ q : Nat, s8 = .int .i64 q ∧ Hid (k = len - q) ∧ q ≤ len ∧ w2 = wr)
      case atStart => exact ⟨0, rfl, rfl, Nat.zero_le _, rfl⟩
      case round =>
        obtain ⟨q, rfl, HK, hq, rfl⟩ := hrel
        by_cases hlt : q < len
        · have g := HR2.out.cell q
          rw [flV_get ys q (by rw [HG.out.len, HL.out]; exact hlt)] at g
          have hqx : q < xs.length := by rw [HL.out]; exact hlt
          have l1 := leB_key (fin_nn HD.out.flo) (fin_nn (HG.out.fy q hqx))
          have l2 := leB_key (fin_nn (HG.out.fy q hqx)) (fin_nn HD.out.fhi)
          rw [decide_eq_true (HG.out.lo q hqx)] at l1
          rw [decide_eq_true (HG.out.hi q hqx)] at l2
          obtain ⟨y, hy⟩ : ∃ y, y = ys.getD q 0 := ⟨_, rfl⟩
          rw [← hy] at g l1 l2
          unfold leB at l1 l2
          clear hy hqx
          go_wp2
          go_roundg (len - (q + 1))
          case measure => rw [HK.out]; omega
          case rel => exact ⟨q + 1, by go_num, rfl, hlt, rfl⟩
        · have e : q = len := by omega
          subst e
          clear HK
          obtain ⟨i0, hin, hz0, hz1, hz2⟩ := info_parts Try.info3
          go_wp2_with (at_make; refine wpList_make_full _ rfl _ _ 34 rfl w2.heap.size 3 i0 (.int .i64 0) 1 Try.underlying34 hin hz0 hz1 _ _ _ _ q rfl rfl rfl rfl (by rw [hz2]; omega) (by unfold maxLen; omega) (Nat.le_refl _) ?_)
          intro w3 hown3 hgrow3
          have hb3 : Below w2.heap.size w2 w3 := (Below.refl _ _).grown hgrow3 (Nat.le_refl _) (by simp)
          have hr3 : Row w3 w2.heap.size 3 (ixV (List.replicate q 0)) := by
            have := row_of_own hown3
            simpa [ixV, toList_madeCells_one] using this
          clear hown3 hgrow3
          have hsz3 := hr3.lt
          have HB3 : Hid (Below w2.heap.size w2 w3) := hb3
          have HR3 : Hid (Row w3 w2.heap.size 3 (ixV (List.replicate q 0))) := hr3
          clear hb3 hr3
          go_wp2_with (at_make; refine wpList_make_full _ rfl _ _ 34 rfl w3.heap.size 3 i0 (.int .i64 0) 1 Try.underlying34 hin hz0 hz1 _ _ _ _ q rfl rfl rfl rfl (by rw [hz2]; omega) (by unfold maxLen; omega) (Nat.le_refl _) ?_)
          intro w4 hown4 hgrow4
          have hb4 : Below w3.heap.size w3 w4 := (Below.refl _ _).grown hgrow4 (Nat.le_refl _) (by simp)
          have hr4 : Row w4 w3.heap.size 3 (ixV (List.replicate q 0)) := by
            have := row_of_own hown4
            simpa [ixV, toList_madeCells_one] using this
          clear hown4 hgrow4
          have hra4 : Row w4 w2.heap.size 3 (ixV (List.replicate q 0)) := HR3.out.below hb4 hsz3
          have hbb4 : Below w2.heap.size w2 w4 := HB3.out.trans (hb4.mono (by omega))
          clear hb4 HB3 HR3
          obtain ⟨A, hAe⟩ : ∃ A, A = w2.heap.size := ⟨_, rfl⟩
          obtain ⟨B, hBe⟩ : ∃ B, B = w3.heap.size := ⟨_, rfl⟩
          rw [← hAe] at hra4 hbb4 hsz3
          rw [← hBe] at hr4 hsz3
          rw [← hAe, ← hBe]
          have HAe : Hid (A = w2.heap.size) := hAe
          have hwA : w.heap.size < A := by omega
          clear hAe hBe hin hz0 hz1 hz2 hsz
          go_wp2_with fail
          go_loopg [11] q (fun k s11 wr => ∃ (p : Nat) (R : List Nat), s11 = .int .i64 p ∧ Hid (k = q - p) ∧ p ≤ q ∧ Row wr A 3 (ixV R) ∧ Row wr B 3 (ixV (List.replicate q 0)) ∧ Hid (R.length = q) ∧ Hid (∀ i, i < p → R.getD i 0 = i) ∧ Below A w2 wr)
          case atStart => exact ⟨0, List.replicate q 0, rfl, rfl, Nat.zero_le _, hra4, hr4, by show _ = _; simp, fun i hi => by omega, hbb4⟩
          case round =>
            obtain ⟨p, R, rfl, HK, hp, hA, hB, HRL, HRE, hBel⟩ := hrel
            clear hra4 hr4 hbb4
            by_cases hlp : p < q
            · have g := hA.cell p
              rw [ixV_get R p (by rw [HRL.out]; exact hlp)] at g
              have f := hA.frozen p
              have HNA : Hid (Row _ A 3 _) := hA.set p (.int .i64 (p : Nat))
              have HNB : Hid (Row _ B 3 _) := hB.other A (by omega) p (.int .i64 (p : Nat))
              have HNL : Hid (Below A w2 _) := hBel.setCell (p := ⟨A, p, none⟩) (Nat.le_refl _) (.int .i64 (p : Nat))
              clear hA hB hBel
              go_wp2
              go_roundg (q - (p + 1))
              case measure => rw [HK.out]; omega
              case rel =>
                have hna := HNA.out
                rw [ixV_set] at hna
                refine ⟨p + 1, R.set p p, by go_num, rfl, hlp, hna, HNB.out, by show _ = _; rw [List.length_set]; exact HRL.out, fun i hi => ?_, HNL.out⟩
                by_cases e : i = p
                · rw [e, getD_set_same _ _ _ _ (by rw [HRL.out]; exact hlp)]
                · rw [getD_set_ne _ _ _ _ _ (fun k => e k.symm)]; exact HRE.out i (by omega)
            · have e : p = q := by omega
              subst e
              have HWL : Hid (Below w.heap.size w wr) := HB2.out.trans (hBel.mono (by omega))
              have hky : Keys A B wr b off xs := ⟨Nat.lt_of_lt_of_le hbb HWL.out.size, by omega, by omega, fun i hi => (HWL.out.cell (p := ⟨b, off + i, none⟩) hbb).trans (HC.out i (by rw [← HL.out]; exact hi))⟩
              have HS := sort_any A B b off cap (by omega) xs (by rw [HL.out]; omega) (fun i hi => fin_nn (HD.out.fx i hi)) p wr 0 0 p p R (List.replicate p 0) (Nat.le_refl _) (Nat.le_refl _) hl hl hA hB hky (by rw [HRL.out]; omega) (by simp) (by intro i hi; rw [Nat.zero_add, HRE.out i hi, HL.out]; exact hi)
              rw [HL.out] at HS
              have HRG : Hid (Row wr w.heap.size 22 (flV ys)) := HR2.out.below hBel (by omega)
              have HSZ : Hid (wr.heap.size ≥ w.heap.size) := HWL.out.size
              have HRL2 : Hid (R.length = p) := HRL
              clear hA hB hBel hky HK HRE HRL
              go_wp2_with fail
              refine HS.mono ?_
              rintro ev w6 ⟨rfl, R', T', hA6, hB6, hT6, hS6, hO6⟩
              have HA6 : Hid (∀ i, i < p → w6.cell? ⟨A, i, none⟩ = some (.int .i64 (R'.getD i 0 : Nat))) := by
                show ∀ i, _
                intro i hi
                have g := hA6.cell i
                rw [ixV_get R' i (by rw [hS6.len, HRL2.out]; exact hi)] at g
                exact g
              have HRN : Hid (∀ i, i < p → R'.getD i 0 < p) := by
                show ∀ i, _
                intro i hi
                have := hS6.rng i hi
                rw [Nat.zero_add, HL.out] at this; exact this
              have HSR : Hid (∀ i j, i ≤ j → j < p → key (xs.getD (R'.getD i 0) 0) ≤ key (xs.getD (R'.getD j 0) 0)) := by
                show ∀ i j, _
                intro i j h1 h2
                have := hS6.srt i j h1 h2
                rw [Nat.zero_add, Nat.zero_add] at this; exact this
              have HWL6 : Hid (Below w.heap.size w w6) := HWL.out.trans ⟨hO6.os, hO6.tape, hO6.output, hO6.size, fun k hk => hO6.block k (Nat.lt_of_lt_of_le hk HSZ.out) (by omega) (by omega)⟩
              have HXS : Hid (∀ i, i < p → w6.cell? ⟨b, off + i, none⟩ = some (.float .f64 (xs.getD i 0))) := by
                show ∀ i, _
                intro i hi
                exact (HWL6.out.cell (p := ⟨b, off + i, none⟩) hbb).trans (HC.out i hi)
              have HYS : Hid (∀ i, i < p → w6.cell? ⟨w.heap.size, i, none⟩ = some (.float .f64 (ys.getD i 0))) := by
                show ∀ i, _
                intro i hi
                have g := HRG.out.cell i
                rw [flV_get ys i (by rw [HG.out.len, HL.out]; exact hi)] at g
                rw [World.cell?_of_block (w := wr) (a := ⟨w.heap.size, i, none⟩) (hO6.block w.heap.size HRG.out.lt (by omega) (by omega))]
                exact g
              clear hA6 hB6 hT6 hS6 hO6 HRG HSZ HRL2
              go_wp2_with fail
              go_loopg [12, 13, 14] (p - 1) (fun k s12 _ _ wr => ∃ (t n : Nat), s12 = .int .i64 t ∧ Hid (k = p - t) ∧ 1 ≤ t ∧ t ≤ p ∧ wr = w6.drewN n)
              case atStart => exact ⟨1, 0, rfl, rfl, Nat.le_refl _, h0, rfl⟩
              case round =>
                obtain ⟨t, n, rfl, HK, ht1, ht2, rfl⟩ := hrel
                by_cases hlt : t < p
                · obtain ⟨ia, hia⟩ : ∃ a, a = R'.getD (t - 1) 0 := ⟨_, rfl⟩
                  obtain ⟨ib, hib⟩ : ∃ a, a = R'.getD t 0 := ⟨_, rfl⟩
                  have g1 := HA6.out (t - 1) (by omega)
                  have g2 := HA6.out t hlt
                  rw [← hia] at g1
                  rw [← hib] at g2
                  have ra := HRN.out (t - 1) (by omega)
                  have rb := HRN.out t hlt
                  rw [← hia] at ra
                  rw [← hib] at rb
                  have hab := HSR.out (t - 1) t (by omega) hlt
                  rw [← hia, ← hib] at hab
                  have gxa := HXS.out ia ra
                  have gxb := HXS.out ib rb
                  have gya := HYS.out ia ra
                  have gyb := HYS.out ib rb
                  have fxa := fin_nn (HD.out.fx ia (by rw [HL.out]; exact ra))
                  have fxb := fin_nn (HD.out.fx ib (by rw [HL.out]; exact rb))
                  have fya := fin_nn (HG.out.fy ia (by rw [HL.out]; exact ra))
                  have fyb := fin_nn (HG.out.fy ib (by rw [HL.out]; exact rb))
                  have m1 := HG.out.mono ia ib (by rw [HL.out]; exact ra) (by rw [HL.out]; exact rb)
                  have m2 := HG.out.mono ib ia (by rw [HL.out]; exact rb) (by rw [HL.out]; exact ra)
                  have q1 := eqB_key fxa fxb
                  have q2 := eqB_key fya fyb
                  have q3 := gtB_key fya fyb
                  have ia1 : (ia : Int) < (p : Int) := by omega
                  have ib1 : (ib : Int) < (p : Int) := by omega
                  have t1 : (t : Int) - 1 = ((t - 1 : Nat) : Int) := by omega
                  obtain ⟨xa, hxa⟩ : ∃ x, x = xs.getD ia 0 := ⟨_, rfl⟩
                  obtain ⟨xb, hxb⟩ : ∃ x, x = xs.getD ib 0 := ⟨_, rfl⟩
                  obtain ⟨ya, hya⟩ : ∃ x, x = ys.getD ia 0 := ⟨_, rfl⟩
                  obtain ⟨yb, hyb⟩ : ∃ x, x = ys.getD ib 0 := ⟨_, rfl⟩
                  rw [← hxa, ← hxb] at q1 hab m1
                  rw [← hxb, ← hxa] at m2
                  rw [← hya, ← hyb] at q2 q3 m1
                  rw [← hyb, ← hya] at m2
                  rw [← hxa] at gxa
                  rw [← hxb] at gxb
                  rw [← hya] at gya
                  rw [← hyb] at gyb
                  clear hia hib hxa hxb hya hyb fxa fxb fya fyb
                  by_cases he : key xa = key xb
                  · have he2 : key ya = key yb := by have := m1 (by omega); have := m2 (by omega); omega
                    rw [decide_eq_true he] at q1
                    rw [decide_eq_true he2] at q2
                    have q4 : (FloatKind.f64.format.order ya yb != some .eq) = false := by rw [bne, q2]; rfl
                    clear he he2 q3 m1 m2 hab
                    go_upto_region 26 with fail
                    go_quiet (fail)
                    go_upto_region 27 with fail
                    go_quiet (fail)
                    go_wp2
                    go_roundg (p - (t + 1))
                    case measure => rw [HK.out]; omega
                    case rel => exact ⟨t + 1, _, by go_num, rfl, by omega, hlt, rfl⟩
                  · have he2 : ¬ key yb < key ya := by have := m1 hab; omega
                    rw [decide_eq_false he] at q1
                    rw [decide_eq_false he2] at q3
                    clear he he2 q2 m1 m2 hab
                    go_upto_region 26 with fail
                    go_quiet (fail)
                    go_upto_region 29 with fail
                    go_quiet (fail)
                    go_wp2
                    go_roundg (p - (t + 1))
                    case measure => rw [HK.out]; omega
                    case rel => exact ⟨t + 1, _, by go_num, rfl, by omega, hlt, rfl⟩
                · go_wp2
                  go_ret
                  exact ⟨rfl, bdrewN HWL6.out n⟩
  · by_cases hb : len ≤ 1048576
    · rw [decide_eq_true hb] at hz
      have hlI : (131072 : Int) < (len : Int) := by omega
      go_enter Try.func5, Try.ntmps5
      go_wp2_with fail
      refine hz.mono ?_
      rintro ev w' ⟨rfl, rfl⟩
      clear hz
      go_wp2
      go_ret
      exact ⟨rfl, Below.refl _ _⟩
    · rw [decide_eq_false hb] at hz
      go_enter Try.func5, Try.ntmps5
      go_wp2_with fail
      refine hz.mono ?_
      rintro ev w' ⟨rfl, rfl⟩
      clear hz
      go_wp2
      go_ret
      exact ⟨rfl, Below.refl _ _⟩
end Go.Proofs.Qxb6601308a
