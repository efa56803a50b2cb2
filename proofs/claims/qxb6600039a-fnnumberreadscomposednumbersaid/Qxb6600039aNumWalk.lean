/-
  SEAT b6600039a: isDigit, digits, (*Scanner).Number.
-/
import Derived.Test.Qxb6600039aKit
import Derived.Test.Qxb6600039aNum
namespace Go.Proofs.Qxb6600039a
open Go.ChangeShapes Go.WideShapes Go.ChangeAt Go.RowKit

theorem isDigit33 (w : World) (c : Int) (D : Bool) (HD : Hid (D = dgB c)) :
    Calls Try.prog 33 #[.int .u8 c] w fun e w' => e = .returned (.bool D) ∧ w = w' := by
  by_cases h48 : 48 ≤ c
  · go_enter Try.func33, Try.ntmps33
    go_wp2
    go_ret
    exact ⟨ret_bool (by rw [HD.out]; simp [dgB, h48]), rfl⟩
  · have hd : decide (48 ≤ c) = false := decide_eq_false h48
    go_enter Try.func33, Try.ntmps33
    go_wp2
    go_ret
    exact ⟨ret_bool (by rw [HD.out]; simp [dgB, hd]), rfl⟩

/-- The scanner's data, read. -/
structure Dt (w : World) (R b off len cap : Nat) (ds : List Int) : Prop where
  data : w.cell? ⟨R, 0, none⟩ = some (.slice (some ⟨b, off, none⟩) len cap)
  cells : ∀ i, i < len → w.cell? ⟨b, off + i, none⟩ = some (.int .u8 (ds.getD i 0))
  len_eq : ds.length = len
  small : len ≤ 4194304

theorem digits_any (w : World) (R b off len cap p : Nat) (ds : List Int) (h : Dt w R b off len cap ds) (hp : p ≤ len) (E : Nat) (HE : Hid (E = runTo dgB ds p)) :
    Calls Try.prog 32 #[.pointer (some ⟨R, 0, none⟩), .int .i64 p] w fun e w' => e = .returned (.int .i64 E) ∧ w = w' := by
  have d0 := h.data
  have hsm := h.small
  have HDL : Hid (ds.length = len) := h.len_eq
  have HCE : Hid (∀ i, i < len → w.cell? ⟨b, off + i, none⟩ = some (.int .u8 (ds.getD i 0))) := h.cells
  clear h
  go_enter Try.func32, Try.ntmps32
  go_wp2
  go_loopg [1] (len - p) (fun k i wr => ∃ q : Nat, q ≤ len ∧ Hid (k = len - q) ∧ i = .int .i64 q ∧ Hid (runTo dgB ds q = runTo dgB ds p) ∧ wr = w)
  case atStart => exact ⟨p, hp, rfl, rfl, rfl, rfl⟩
  case round =>
    obtain ⟨q, hq, HK, rfl, HRUN, rfl⟩ := hrel
    by_cases hlt : q < len
    · have g := HCE.out q hlt
      obtain ⟨c, hcc⟩ : ∃ c, c = ds.getD q 0 := ⟨_, rfl⟩
      rw [← hcc] at g
      obtain ⟨D, hD⟩ : ∃ D, D = dgB c := ⟨_, rfl⟩
      have HD : Hid (D = dgB c) := hD
      have HC : Hid (c = ds.getD q 0) := hcc
      have hltI : (q : Int) < (len : Int) := by omega
      clear hcc hD
      cases D with
      | true =>
        go_wp2_with (go_at_call 33; refine (isDigit33 _ _ _ HD).mono ?_; rintro ev w' ⟨rfl, rfl⟩)
        go_roundg (len - (q + 1))
        case measure => rw [HK.out]; omega
        case rel => exact ⟨q + 1, by omega, rfl, by go_num, (runTo_step (by rw [HDL.out]; exact hlt) (by rw [← HC.out]; exact HD.out.symm)).symm.trans HRUN.out, rfl⟩
      | false =>
        go_wp2_with (go_at_call 33; refine (isDigit33 _ _ _ HD).mono ?_; rintro ev w' ⟨rfl, rfl⟩)
        go_ret
        have e : E = q := by rw [HE.out, ← HRUN.out, runTo_stop (by rw [HDL.out]; exact hlt) (by rw [← HC.out]; exact HD.out.symm)]
        exact ⟨ret_int (by rw [e]), rfl⟩
    · have hdl : decide ((q : Int) < (len : Int)) = false := decide_eq_false (by omega)
      go_wp2
      go_ret
      have e : E = q := by rw [HE.out, ← HRUN.out, runTo_end (by rw [HDL.out]; omega)]
      exact ⟨ret_int (by rw [e]), rfl⟩

set_option maxHeartbeats 4000000 in
set_option maxRecDepth 20000 in
theorem number_any (w : World) (R b off len cap : Nat) (ds : List Int) (h : Dt w R b off len cap ds) (hr : Rdr w R (some ⟨b, off, none⟩) len cap 0) (P1 P2 P3 P4 : Nat) (neg hasF hasX : Bool) (hn : NumAt ds len P1 P2 P3 P4 neg hasF hasX) :
    Calls Try.prog 26 #[.pointer (some ⟨R, 0, none⟩)] w fun e w' => e = .returned (.bool true) ∧ Rdr w' R (some ⟨b, off, none⟩) len cap P4 ∧ Off R w w' := by
  have d0 := hr.data
  have d1 := hr.pos
  have d2 := hr.fr
  have hsm := h.small
  have HDL : Hid (ds.length = len) := h.len_eq
  have HCE : Hid (∀ i, i < len → w.cell? ⟨b, off + i, none⟩ = some (.int .u8 (ds.getD i 0))) := h.cells
  have HN : Hid (NumAt ds len P1 P2 P3 P4 neg hasF hasX) := hn
  have l1 := hn.l1
  have l2 := hn.l2
  have l3 := hn.l3
  have l4 := hn.l4
  have hl0 : (0 : Int) < (len : Int) := by have := hn.h0; omega
  clear hn
  go_enter Try.func26, Try.ntmps26
  go_upto_region 2 with fail
  go_cut [24] (fun s24 wx => s24 = .bool neg ∧ w = wx)
  case first =>
    as_aux_lemma =>
      have g := HCE.out 0 HN.out.h0
      have e := HN.out.h1
      rw [Nat.add_zero] at g
      obtain ⟨c, hcc⟩ : ∃ c, c = ds.getD 0 0 := ⟨_, rfl⟩
      rw [← hcc] at g e
      have HEE : Hid ((c == 45) = neg) := e
      clear hcc e
      go_wp2
      go_meet
      case rel => exact ⟨by rw [← HEE.out], rfl⟩
  case rest =>
    obtain ⟨rfl, rfl⟩ := hcut
    go_upto_if 24 with fail
    go_cut [3] (fun s3 wx => s3 = .int .i64 P1 ∧ w = wx)
    case first =>
      as_aux_lemma =>
        go_wp2
        · have hneg : neg = true := by assumption
          have e : P1 = 1 := by rw [HN.out.p1, hneg]; rfl
          go_meet
          case rel => exact ⟨by rw [e]; rfl, rfl⟩
        · have hneg : neg = false := by assumption
          have e : P1 = 0 := by rw [HN.out.p1, hneg]; rfl
          go_meet
          case rel => exact ⟨by rw [e]; rfl, rfl⟩
    case rest =>
      obtain ⟨rfl, rfl⟩ := hcut
      go_upto_block 0 with fail
      go_cut [3] (fun s3 wx => s3 = .int .i64 P2 ∧ w = wx)
      case first =>
        as_aux_lemma =>
          have g := HCE.out P1 l1
          have e := HN.out.h2
          obtain ⟨c, hcc⟩ : ∃ c, c = ds.getD P1 0 := ⟨_, rfl⟩
          rw [← hcc] at g e
          have l1I : (P1 : Int) < (len : Int) := by omega
          clear hcc
          rcases e with ⟨e1, e2⟩ | ⟨e1, e2, e3⟩
          · have HE2 : Hid (P2 = P1 + 1) := e2
            have b48 : (c == 48) = true := by simpa using e1
            clear e1 e2
            go_wp2
            go_meet
            case rel => exact ⟨by rw [HE2.out]; go_num, rfl⟩
          · have HE3 : Hid (P2 = runTo dgB ds P1) := e3
            have b48 : (c == 48) = false := by simp; omega
            clear e3
            go_wp2_with (go_at_call 32; refine (digits_any _ _ _ _ _ _ _ _ h (by omega) _ HE3).mono ?_; rintro ev w' ⟨rfl, rfl⟩)
            go_meet
            case rel => exact ⟨rfl, rfl⟩
      case rest =>
        obtain ⟨rfl, rfl⟩ := hcut
        go_upto_region 9 with fail
        go_cut [94] (fun s94 wx => s94 = .bool hasF ∧ w = wx)
        case first =>
          as_aux_lemma =>
            by_cases hlt : P2 < len
            · have g := HCE.out P2 hlt
              have e : (ds.getD P2 0 == 46) = hasF := by
                cases hF : hasF with
                | true => exact (HN.out.h3t hF).2.1
                | false => exact (HN.out.h3f hF).2 hlt
              obtain ⟨c, hcc⟩ : ∃ c, c = ds.getD P2 0 := ⟨_, rfl⟩
              rw [← hcc] at g e
              have HEE : Hid ((c == 46) = hasF) := e
              have hltI : (P2 : Int) < (len : Int) := by omega
              clear hcc e
              go_wp2
              go_meet
              case rel => exact ⟨by rw [← HEE.out], rfl⟩
            · have hdl : decide ((P2 : Int) < (len : Int)) = false := decide_eq_false (by omega)
              have HEE : Hid (hasF = false) := by
                show _ = _
                cases hF : hasF with
                | true => have := (HN.out.h3t hF).1; omega
                | false => rfl
              go_wp2
              go_meet
              case rel => exact ⟨by rw [HEE.out], rfl⟩
        case rest =>
          obtain ⟨rfl, rfl⟩ := hcut
          go_upto_if 94 with fail
          go_cut [3] (fun s3 wx => s3 = .int .i64 P3 ∧ w = wx)
          case first =>
            as_aux_lemma =>
              cases hF : hasF with
              | false =>
                have e := (HN.out.h3f hF).1
                have HEE : Hid (P3 = P2) := e
                clear e hF
                go_wp2
                go_meet
                case rel => exact ⟨by rw [HEE.out], rfl⟩
              | true =>
                obtain ⟨e1, e2, e3, e4⟩ := HN.out.h3t hF
                have g := HCE.out (P2 + 1) (by omega)
                obtain ⟨c, hcc⟩ : ∃ c, c = ds.getD (P2 + 1) 0 := ⟨_, rfl⟩
                rw [← hcc] at g e3
                have HD : Hid (true = dgB c) := e3.symm
                have HE4 : Hid (P3 = runTo dgB ds (P2 + 1)) := e4
                have hltI : (P2 : Int) + 1 < (len : Int) := by omega
                have hqe : ((P2 : Int) + 1 == (len : Int)) = false := by simp; omega
                clear hcc e2 e3 e4 hF
                go_wp2_with (first | (go_at_call 33; refine (isDigit33 _ _ _ HD).mono ?_; rintro ev w' ⟨rfl, rfl⟩) | (go_at_call 32; refine (digits_any _ _ _ _ _ _ (P2 + 1) _ h (by omega) _ HE4).mono ?_; rintro ev w' ⟨rfl, rfl⟩))
                go_meet
                case rel => exact ⟨rfl, rfl⟩
          case rest =>
            obtain ⟨rfl, rfl⟩ := hcut
            go_upto_region 14 with fail
            go_cut [144] (fun s144 wx => s144 = .bool hasX ∧ w = wx)
            case first =>
              as_aux_lemma =>
                by_cases hlt : P3 < len
                · have g := HCE.out P3 hlt
                  have e : ((ds.getD P3 0 == 101) = true ∧ hasX = true) ∨ ((ds.getD P3 0 == 101) = false ∧ (ds.getD P3 0 == 69) = true ∧ hasX = true) ∨ ((ds.getD P3 0 == 101) = false ∧ (ds.getD P3 0 == 69) = false ∧ hasX = false) := by
                    cases hX : hasX with
                    | true =>
                      rcases (HN.out.h4t hX).2.1 with k | k
                      · exact .inl ⟨k, rfl⟩
                      · exact .inr (.inl ⟨k.1, k.2, rfl⟩)
                    | false =>
                      have k := (HN.out.h4f hX).2 hlt
                      exact .inr (.inr ⟨k.1, k.2, rfl⟩)
                  obtain ⟨c, hcc⟩ : ∃ c, c = ds.getD P3 0 := ⟨_, rfl⟩
                  rw [← hcc] at g e
                  have hltI : (P3 : Int) < (len : Int) := by omega
                  clear hcc
                  rcases e with ⟨k1, k3⟩ | ⟨k1, k2, k3⟩ | ⟨k1, k2, k3⟩
                  all_goals
                    have HEE := k3
                    have HX : Hid (hasX = _) := HEE
                    clear HEE k3
                    go_wp2
                    go_meet
                    case rel => exact ⟨by rw [HX.out], rfl⟩
                · have hdl : decide ((P3 : Int) < (len : Int)) = false := decide_eq_false (by omega)
                  have HEE : Hid (hasX = false) := by
                    show _ = _
                    cases hX : hasX with
                    | true => have := (HN.out.h4t hX).1; omega
                    | false => rfl
                  go_wp2
                  go_meet
                  case rel => exact ⟨by rw [HEE.out], rfl⟩
            case rest =>
              obtain ⟨rfl, rfl⟩ := hcut
              go_upto_if 144 with fail
              go_cut [3] (fun s3 wx => s3 = .int .i64 P4 ∧ w = wx)
              case first =>
                as_aux_lemma =>
                  cases hX : hasX with
                  | false =>
                    have e := (HN.out.h4f hX).1
                    have HEE : Hid (P4 = P3) := e
                    clear e hX
                    go_wp2
                    go_meet
                    case rel => exact ⟨by rw [HEE.out], rfl⟩
                  | true =>
                    obtain ⟨e1, _, Q, hQ, e2, e3, e4⟩ := HN.out.h4t hX
                    have hltI : (P3 : Int) + 1 < (len : Int) := by omega
                    rcases e2 with ⟨rfl, f1, f2⟩ | ⟨rfl, f2 | ⟨f1, f2⟩⟩
                    · have g1 := HCE.out (P3 + 1) (by omega)
                      obtain ⟨c1, hc1⟩ : ∃ c, c = ds.getD (P3 + 1) 0 := ⟨_, rfl⟩
                      rw [← hc1] at g1 f1 f2 e3
                      have HD : Hid (true = dgB c1) := e3.symm
                      have HE4 : Hid (P4 = runTo dgB ds (P3 + 1)) := e4
                      have hqe : ((P3 : Int) + 1 == (len : Int)) = false := by simp; omega
                      clear hc1 e3 e4 hX
                      go_wp2_with (first | (go_at_call 33; refine (isDigit33 _ _ _ HD).mono ?_; rintro ev w' ⟨rfl, rfl⟩) | (go_at_call 32; refine (digits_any _ _ _ _ _ _ (P3 + 1) _ h (by omega) _ HE4).mono ?_; rintro ev w' ⟨rfl, rfl⟩))
                      go_meet
                      case rel => exact ⟨rfl, rfl⟩
                    · have g1 := HCE.out (P3 + 1) (by omega)
                      have g2 := HCE.out (P3 + 2) hQ
                      obtain ⟨c1, hc1⟩ : ∃ c, c = ds.getD (P3 + 1) 0 := ⟨_, rfl⟩
                      obtain ⟨c2, hc2⟩ : ∃ c, c = ds.getD (P3 + 2) 0 := ⟨_, rfl⟩
                      rw [← hc1] at g1 f2
                      rw [← hc2] at g2 e3
                      have HD : Hid (true = dgB c2) := e3.symm
                      have HE4 : Hid (P4 = runTo dgB ds (P3 + 2)) := e4
                      have hltJ : (P3 : Int) + 1 + 1 < (len : Int) := by omega
                      have hqe : ((P3 : Int) + 1 + 1 == (len : Int)) = false := by simp; omega
                      have g2' : w.cell? ⟨b, off + (P3 + 1 + 1), none⟩ = some (.int .u8 c2) := g2
                      clear hc1 hc2 e3 e4 hX g2
                      go_wp2_with (first | (go_at_call 33; refine (isDigit33 _ _ _ HD).mono ?_; rintro ev w' ⟨rfl, rfl⟩) | (go_at_call 32; refine (digits_any _ _ _ _ _ _ (P3 + 2) _ h (by omega) _ HE4).mono ?_; rintro ev w' ⟨rfl, rfl⟩))
                      go_meet
                      case rel => exact ⟨rfl, rfl⟩
                    · have g1 := HCE.out (P3 + 1) (by omega)
                      have g2 := HCE.out (P3 + 2) hQ
                      obtain ⟨c1, hc1⟩ : ∃ c, c = ds.getD (P3 + 1) 0 := ⟨_, rfl⟩
                      obtain ⟨c2, hc2⟩ : ∃ c, c = ds.getD (P3 + 2) 0 := ⟨_, rfl⟩
                      rw [← hc1] at g1 f1 f2
                      rw [← hc2] at g2 e3
                      have HD : Hid (true = dgB c2) := e3.symm
                      have HE4 : Hid (P4 = runTo dgB ds (P3 + 2)) := e4
                      have hltJ : (P3 : Int) + 1 + 1 < (len : Int) := by omega
                      have hqe : ((P3 : Int) + 1 + 1 == (len : Int)) = false := by simp; omega
                      have g2' : w.cell? ⟨b, off + (P3 + 1 + 1), none⟩ = some (.int .u8 c2) := g2
                      clear hc1 hc2 e3 e4 hX g2
                      go_wp2_with (first | (go_at_call 33; refine (isDigit33 _ _ _ HD).mono ?_; rintro ev w' ⟨rfl, rfl⟩) | (go_at_call 32; refine (digits_any _ _ _ _ _ _ (P3 + 2) _ h (by omega) _ HE4).mono ?_; rintro ev w' ⟨rfl, rfl⟩))
                      go_meet
                      case rel => exact ⟨rfl, rfl⟩
              case rest =>
                obtain ⟨rfl, rfl⟩ := hcut
                go_wp2
                go_ret
                refine ⟨rfl, ?_, (Off.refl R w).setCell 1 _⟩
                refine ⟨?_, ?_, ?_⟩
                · go_simp
                · go_simp
                · go_simp
end Go.Proofs.Qxb6600039a
