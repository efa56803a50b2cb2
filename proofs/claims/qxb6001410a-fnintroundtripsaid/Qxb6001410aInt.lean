/-
  SEAT b6001410a: (*jsonReader).int.
-/
import Derived.Test.Qxb6001410aSkip
import Derived.Deep.DeepCutAuto
import Derived.Deep.CutBlock
namespace Go.Proofs.Qxb6001410a
open Go.ChangeShapes Go.WideShapes Go.ChangeAt Go.RowKit

structure Off2 (R N : Nat) (w w' : World) : Prop where
  os : w'.os = w.os
  tape : w'.tape = w.tape
  output : w'.output = w.output
  size : w'.heap.size = w.heap.size
  block : ∀ k, k ≠ R → k ≠ N → w'.heap[k]? = w.heap[k]?
theorem Off.two {R N : Nat} {w w' : World} (h : Off R w w') : Off2 R N w w' := ⟨h.os, h.tape, h.output, h.size, fun k h1 _ => h.block k h1⟩
theorem Off.two_set {R N : Nat} {w w' : World} (h : Off R w w') (o : Nat) (v : Value) : Off2 R N w (w'.setCell ⟨N, o, none⟩ v) :=
  ⟨h.os, h.tape, h.output, by simpa [World.setCell] using h.size, fun k h1 h2 => (Below.heap_setCell _ _ _ _ h2).trans (h.block k h1)⟩
theorem Rdr.set_off {w : World} {R N : Nat} {a : Option Addr} {len cap p : Nat} (h : Rdr w R a len cap p) (hn : R ≠ N) (o : Nat) (v : Value) : Rdr (w.setCell ⟨N, o, none⟩ v) R a len cap p := by
  have e : (w.setCell ⟨N, o, none⟩ v).heap[R]? = w.heap[R]? := Below.heap_setCell _ _ _ _ hn
  exact ⟨(World.cell?_of_block (w := w) e).trans h.data, (World.cell?_of_block (w := w) e).trans h.pos, (World.frozen?_of_block (w := w) e).trans h.fr⟩

set_option maxHeartbeats 4000000 in
set_option maxRecDepth 20000 in
theorem int_any (w : World) (R N : Nat) (a : Option Addr) (len cap p : Nat) (n0 : Int) (zs : List Int) (hr : Rdr w R a len cap p) (hd : Dat w R a len zs) (hp : p ≤ len) (hlen : len ≤ 4194304)
    (hRN : R ≠ N) (hn : w.cell? ⟨N, 0, none⟩ = some (.int .i64 n0)) (hnf : w.frozen? ⟨N, 0, none⟩ = false) (q s e d : Nat) (hq : q = runTo spB zs p) (hs : s = stOf zs q) (he : e = endOf zs q) (hdd : d = e - s) (bad : Bool) (n1 : Int) (HB : Hid (bad = badB zs s d)) (HN1 : Hid (n1 = outOf zs q s d n0)) :
    Calls Try.prog 31 #[.pointer (some ⟨R, 0, none⟩), .pointer (some ⟨N, 0, none⟩)] w fun ev w' => ev = .returned (.bool (!bad)) ∧ Rdr w' R a len cap e ∧ w'.cell? ⟨N, 0, none⟩ = some (.int .i64 n1) ∧ Off2 R N w w' := by
  have HZL : Hid (zs.length = len) := hd.len_eq
  have hql : q ≤ len := by rw [hq, ← HZL.out]; exact runTo_le _ _ _ (by rw [HZL.out]; exact hp)
  have hsl : s ≤ len := by rw [hs, ← HZL.out]; exact stOf_le (by rw [HZL.out]; exact hql)
  have hse : s ≤ e := by rw [he, endOf, ← hs]; exact runTo_ge _ _ _
  have hel : e ≤ len := by rw [he, endOf, ← hs, ← HZL.out]; exact runTo_le _ _ _ (by rw [HZL.out]; exact hsl)
  have H33 := skip_any w R a len cap p zs hr hd hp
  rw [← hq] at H33
  have HQ : Hid (q = runTo spB zs p) := hq
  have HS : Hid (s = stOf zs q) := hs
  have HE : Hid (e = endOf zs q) := he
  have HD : Hid (d = e - s) := hdd
  clear hq hs he hdd
  go_enter Try.func31, Try.ntmps31
  go_wp2_with (go_at_call 33; refine H33.mono ?_; rintro ev w1 ⟨rfl, hr1, ho1⟩)
  have d0 := hr1.data
  have d1 := hr1.pos
  go_cut [5] (fun s5 wx => s5 = .bool (negB zs q) ∧ Rdr wx R a len cap q ∧ Off R w wx)
  case first =>
    by_cases hlt : q < len
    · rcases hd.rd with h0 | ⟨b, off, rfl, hne, hc⟩
      · have := HZL.out; subst h0; simp at this; omega
      · have hcq := hc q (by rw [HZL.out]; exact hlt)
        rw [← ho1.cell (p := ⟨b, off + q, none⟩) hne] at hcq
        obtain ⟨c, hcc⟩ : ∃ c, c = zs.getD q 0 := ⟨_, rfl⟩
        rw [← hcc] at hcq
        have HN : Hid (negB zs q = (c == 45)) := by
          show _ = _
          rw [hcc]; simp [negB, HZL.out, hlt]
        clear hc hcc hd hr H33
        have hltI : (q : Int) < (len : Int) := by omega
        go_quiet (fail)
        go_wp2_with fail
        go_meet
        case rel => exact ⟨by rw [HN.out], hr1.drewN _, ho1.drewN _⟩
    · have hdl : decide ((q : Int) < (len : Int)) = false := decide_eq_false (by omega)
      have HN : Hid (negB zs q = false) := by
        show _ = _
        simp [negB, HZL.out, hlt]
      clear hd hr H33
      go_quiet (fail)
      go_wp2_with fail
      go_meet
      case rel => exact ⟨by rw [HN.out], hr1.drewN _, ho1.drewN _⟩
  case rest =>
    obtain ⟨rfl, hr2, ho2⟩ := hcut
    clear hr1 ho1 d0 d1 H33 hr
    have d0 := hr2.data
    have d1 := hr2.pos
    have d2 := hr2.fr
    go_upto_if 34 with (fail)
    go_cut [5] (fun s5 wx => s5 = .bool (negB zs q) ∧ Rdr wx R a len cap s ∧ Off R w wx)
    case first =>
      go_wp2
      · have hneg : negB zs q = true := by assumption
        have hs1 : s = q + 1 := by rw [HS.out]; simp [stOf, hneg]
        go_meet
        case rel => exact ⟨by rw [hneg], by rw [hs1]; exact hr2.set 0 q, ho2.setCell 1 _⟩
      · have hneg' : negB zs q = false := by assumption
        have hs1 : s = q := by rw [HS.out]; simp [stOf, hneg']
        go_meet
        case rel => exact ⟨by rw [hneg'], by rw [hs1]; exact hr2, ho2⟩
    case rest =>
      obtain ⟨rfl, hr3, ho3⟩ := hcut
      clear hr2 ho2 d0 d1 d2
      have d0 := hr3.data
      have d1 := hr3.pos
      have d2 := hr3.fr
      go_upto_block 0 with fail
      go_cut [7] (fun s7 wx => s7 = .int .i64 (valOf zs s d) ∧ Rdr wx R a len cap e ∧ Off R w wx)
      case first =>
        go_wp2_with fail
        go_loopg [7] (len - s) (fun k v wr => ∃ j, s ≤ j ∧ j ≤ len ∧ k = len - j ∧ runTo dgB zs j = runTo dgB zs s ∧ v = .int .i64 (valOf zs s (j - s)) ∧ Rdr wr R a len cap j ∧ Off R w wr)
        case atStart => exact ⟨s, Nat.le_refl _, hsl, rfl, rfl, by rw [Nat.sub_self, valOf_zero], hr3, ho3⟩
        case round =>
          obtain ⟨j, hsj, hjl, hk, hrun, rfl, hrr, hoff⟩ := hrel
          have HK : Hid (gk = len - j) := hk
          have HRUN : Hid (runTo dgB zs j = runTo dgB zs s) := hrun
          clear hk hrun hr3 ho3 d0 d1 d2
          have d0 := hrr.data
          have d1 := hrr.pos
          have d2 := hrr.fr
          obtain ⟨V, hV⟩ : ∃ V, V = valOf zs s (j - s) := ⟨_, rfl⟩
          rw [← hV]
          have HV : Hid (V = valOf zs s (j - s)) := hV
          clear hV
          have HFIN : Hid (runTo dgB zs j = j → Value.int .i64 V = .int .i64 (valOf zs s d) ∧ e = j) := by
            intro hj
            have e1 : e = j := by rw [HE.out, endOf, ← HS.out, ← HRUN.out, hj]
            exact ⟨by rw [HV.out, HD.out, e1], e1⟩
          by_cases hlt : j < len
          · rcases hd.rd with h0 | ⟨b, off, rfl, hne, hc⟩
            · have := HZL.out; subst h0; simp at this; omega
            · have hcq := hc j (by rw [HZL.out]; exact hlt)
              rw [← hoff.cell (p := ⟨b, off + j, none⟩) hne] at hcq
              obtain ⟨c, hcc⟩ : ∃ c, c = zs.getD j 0 := ⟨_, rfl⟩
              rw [← hcc] at hcq
              have HC : Hid (c = zs.getD j 0) := hcc
              have hltI : (j : Int) < (len : Int) := by omega
              clear hc hcc hd
              by_cases h48 : 48 ≤ c
              · by_cases h57 : c ≤ 57
                · go_wp2
                  go_quiet (fail)
                  go_wp2
                  go_quiet (fail)
                  go_wp2
                  go_roundg (len - (j + 1))
                  case measure => rw [HK.out]; omega
                  case rel =>
                    have hcg : dgB c = true := by simp [dgB, h48, h57]
                    have e1 : j + 1 - s = (j - s) + 1 := by omega
                    have e2 : s + (j - s) = j := by omega
                    exact ⟨j + 1, by omega, by omega, rfl, (runTo_step (by rw [HZL.out]; exact hlt) (by rw [← HC.out]; exact hcg)).symm.trans HRUN.out,
                      by rw [e1, valOf_succ _ _ _ (by rw [HZL.out]; omega), e2, ← HC.out, ← HV.out], hrr.set _ j, (hoff.drewN _).setCell 1 _⟩
                · have hdd : decide (c ≤ 57) = false := decide_eq_false h57
                  have hcg : dgB c = false := by simp [dgB, hdd]
                  have F := HFIN.out (runTo_stop (by rw [HZL.out]; exact hlt) (by rw [← HC.out]; exact hcg))
                  have HF : Hid (Value.int .i64 V = .int .i64 (valOf zs s d) ∧ e = j) := F
                  clear F hcg
                  go_wp2
                  go_quiet (fail)
                  go_wp2
                  go_meet
                  case rel => exact ⟨HF.out.1, by rw [HF.out.2]; exact hrr.drewN _, hoff.drewN _⟩
              · have hdd : decide (48 ≤ c) = false := decide_eq_false h48
                have hcg : dgB c = false := by simp [dgB, hdd]
                have F := HFIN.out (runTo_stop (by rw [HZL.out]; exact hlt) (by rw [← HC.out]; exact hcg))
                have HF : Hid (Value.int .i64 V = .int .i64 (valOf zs s d) ∧ e = j) := F
                clear F hcg
                go_wp2
                go_quiet (fail)
                go_wp2
                go_meet
                case rel => exact ⟨HF.out.1, by rw [HF.out.2]; exact hrr.drewN _, hoff.drewN _⟩
          · have hdl : decide ((j : Int) < (len : Int)) = false := decide_eq_false (by omega)
            have F := HFIN.out (runTo_end (by rw [HZL.out]; omega))
            have HF : Hid (Value.int .i64 V = .int .i64 (valOf zs s d) ∧ e = j) := F
            clear F
            go_wp2
            go_quiet (fail)
            go_wp2
            go_meet
            case rel => exact ⟨HF.out.1, by rw [HF.out.2]; exact hrr.drewN _, hoff.drewN _⟩
      case rest =>
        obtain ⟨rfl, hr4, ho4⟩ := hcut
        clear hr3 ho3 d0 d1 d2
        have d0 := hr4.data
        have d1 := hr4.pos
        have d2 := hr4.fr
        have hn4 : wc.cell? ⟨N, 0, none⟩ = some (.int .i64 n0) := by rw [ho4.cell (p := ⟨N, 0, none⟩) (fun h => hRN h.symm)]; exact hn
        have hnf4 : wc.frozen? ⟨N, 0, none⟩ = false := by rw [World.frozen?_of_block (w := w) (ho4.block N (fun h => hRN h.symm))]; exact hnf
        obtain ⟨V, hV⟩ : ∃ V, V = valOf zs s d := ⟨_, rfl⟩
        rw [← hV]
        have HV : Hid (V = valOf zs s d) := hV
        clear hV
        by_cases z0 : d = 0
        · have hb := bad_zero (zs := zs) (s := s) z0
          have B1 : Hid (bad = true) := HB.out.trans hb
          have B2 : Hid (n1 = n0) := HN1.out.trans (out_bad hb)
          have zi : (e : Int) - (s : Int) = 0 := by have := HD.out; omega
          clear hb hd
          go_wp2
          go_ret
          exact ⟨ret_bool (by rw [B1.out]; rfl), hr4, by rw [B2.out]; exact hn4, ho4.two⟩
        · by_cases z1 : 18 < d
          · have hb := bad_long (zs := zs) (s := s) z1
            have B1 : Hid (bad = true) := HB.out.trans hb
            have B2 : Hid (n1 = n0) := HN1.out.trans (out_bad hb)
            have zi : (18 : Int) < (e : Int) - (s : Int) := by have := HD.out; omega
            clear hb hd
            go_wp2
            go_ret
            exact ⟨ret_bool (by rw [B1.out]; rfl), hr4, by rw [B2.out]; exact hn4, ho4.two⟩
          · have zi : (1 : Int) ≤ (e : Int) - (s : Int) := by have := HD.out; omega
            have zj : (e : Int) - (s : Int) ≤ 18 := by have := HD.out; omega
            have hlt : s < len := by omega
            have zb : (((e : Int) - (s : Int)) == 0) = false := by simp; omega
            have zc : decide ((18 : Int) < (e : Int) - (s : Int)) = false := decide_eq_false (by omega)
            rcases hd.rd with h0 | ⟨b, off, rfl, hne, hc⟩
            · have := HZL.out; subst h0; simp at this; omega
            · have hcq := hc s (by rw [HZL.out]; exact hlt)
              rw [← ho4.cell (p := ⟨b, off + s, none⟩) hne] at hcq
              obtain ⟨c, hcc⟩ : ∃ c, c = zs.getD s 0 := ⟨_, rfl⟩
              rw [← hcc] at hcq
              have HC : Hid (c = zs.getD s 0) := hcc
              clear hc hcc hd
              by_cases h48 : c = 48
              · by_cases z2 : 1 < d
                · have hb := bad_lead (zs := zs) (s := s) (by rw [← HC.out]; exact h48) z2
                  have B1 : Hid (bad = true) := HB.out.trans hb
                  have B2 : Hid (n1 = n0) := HN1.out.trans (out_bad hb)
                  have zk : (1 : Int) < (e : Int) - (s : Int) := by have := HD.out; omega
                  have h48' : (c == 48) = true := by simpa using h48
                  clear hb h48
                  go_wp2
                  go_ret
                  exact ⟨ret_bool (by rw [B1.out]; rfl), hr4, by rw [B2.out]; exact hn4, ho4.two⟩
                · have hb := good_one (zs := zs) (s := s) (d := d) (by omega)
                  have B1 : Hid (bad = false) := HB.out.trans hb
                  have HG : Hid (badB zs s d = false) := hb
                  have zk : (e : Int) - (s : Int) ≤ 1 := by have := HD.out; omega
                  have zd : decide ((1 : Int) < (e : Int) - (s : Int)) = false := decide_eq_false (by omega)
                  have h48' : (c == 48) = true := by simpa using h48
                  clear hb h48
                  go_wp2
                  · have hneg : negB zs q = true := by assumption
                    go_ret
                    refine ⟨ret_bool (by rw [B1.out]; rfl), hr4.set_off hRN _ _, ?_, ho4.two_set _ _⟩
                    rw [HN1.out, out_neg HG.out hneg, ← HV.out]
                    go_simp
                  · have hneg : negB zs q = false := by assumption
                    go_ret
                    refine ⟨ret_bool (by rw [B1.out]; rfl), hr4.set_off hRN _ _, ?_, ho4.two_set _ _⟩
                    rw [HN1.out, out_pos HG.out hneg, ← HV.out]
                    go_simp
              · have hb := good_lead (zs := zs) (s := s) (d := d) (by omega) (by omega) (by rw [← HC.out]; exact h48)
                have B1 : Hid (bad = false) := HB.out.trans hb
                have HG : Hid (badB zs s d = false) := hb
                have h48' : (c == 48) = false := by simpa using h48
                clear hb h48
                go_wp2
                · have hneg : negB zs q = true := by assumption
                  go_ret
                  refine ⟨ret_bool (by rw [B1.out]; rfl), hr4.set_off hRN _ _, ?_, ho4.two_set _ _⟩
                  rw [HN1.out, out_neg HG.out hneg, ← HV.out]
                  go_simp
                · have hneg : negB zs q = false := by assumption
                  go_ret
                  refine ⟨ret_bool (by rw [B1.out]; rfl), hr4.set_off hRN _ _, ?_, ho4.two_set _ _⟩
                  rw [HN1.out, out_pos HG.out hneg, ← HV.out]
                  go_simp
end Go.Proofs.Qxb6001410a
