/-
  SEAT b6600039a: isHexDigit, (*Scanner).Quoted at an encoded string.
-/
import Derived.Test.Qxb6600039aKit
import Derived.Test.Qxb6600039aPlain
namespace Go.Proofs.Qxb6600039a
open Go.ChangeShapes Go.WideShapes Go.ChangeAt Go.RowKit

theorem isHex_any (w : World) (c : Int) (h : isHx c) :
    Calls Try.prog 31 #[.int .u8 c] w fun e w' => e = .returned (.bool true) ∧ w = w' := by
  rcases h with h | h | h
  · obtain ⟨h1, h2⟩ := h
    go_enter Try.func31, Try.ntmps31
    go_wp2
    go_ret
    exact ⟨rfl, rfl⟩
  · obtain ⟨h1, h2⟩ := h
    have d1 : decide (c ≤ 57) = false := decide_eq_false (by omega)
    have d0 : 48 ≤ c := by omega
    go_enter Try.func31, Try.ntmps31
    go_wp2
    go_ret
    exact ⟨rfl, rfl⟩
  · obtain ⟨h1, h2⟩ := h
    have d1 : decide (c ≤ 57) = false := decide_eq_false (by omega)
    have d2 : decide (97 ≤ c) = false := decide_eq_false (by omega)
    have d0 : 48 ≤ c := by omega
    go_enter Try.func31, Try.ntmps31
    go_wp2
    go_ret
    exact ⟨rfl, rfl⟩

set_option maxHeartbeats 4000000 in
set_option maxRecDepth 20000 in
theorem quoted_any (w : World) (R : Nat) (b off len cap : Nat) (zs rest : List Int) (h8 : ∀ n ∈ zs, 0 ≤ n ∧ n ≤ 255) (hr : Rdr w R (some ⟨b, off, none⟩) len cap 0)
    (hdl : (34 :: (enc zs ++ 34 :: rest)).length = len) (hc : ∀ i, i < len → w.cell? ⟨b, off + i, none⟩ = some (.int .u8 ((34 :: (enc zs ++ 34 :: rest)).getD i 0)))
    (hlen : len ≤ 4194304) (hcap : len ≤ cap) (hm : cap ≤ maxLen) (L : Nat) (HL : Hid (L = (enc zs).length)) (nd : Bool) (HND : Hid (nd = zs.any ndB)) :
    Calls Try.prog 12 #[.pointer (some ⟨R, 0, none⟩)] w fun e w' => e = .returned (.tuple #[.slice (some ⟨b, off + 1, none⟩) L (cap - 1), .bool (!nd), .bool true]) ∧ Rdr w' R (some ⟨b, off, none⟩) len cap (L + 2) ∧ Off R w w' := by
  unfold maxLen at hm
  have hl2 : L + 2 ≤ len := by rw [← hdl, HL.out]; simp
  obtain ⟨ds, hds⟩ : ∃ ds, ds = 34 :: (enc zs ++ 34 :: rest) := ⟨_, rfl⟩
  rw [← hds] at hdl hc
  have HDS : Hid (ds = 34 :: (enc zs ++ 34 :: rest)) := hds
  have HDL : Hid (ds.length = len) := hdl
  have HCE : Hid (∀ i, i < len → w.cell? ⟨b, off + i, none⟩ = some (.int .u8 (ds.getD i 0))) := hc
  have c00 : w.cell? ⟨b, off, none⟩ = some (.int .u8 34) := by
    have := hc 0 (by omega)
    rw [hds] at this
    simpa using this
  clear hds hdl hc
  have d0 := hr.data
  have d1 := hr.pos
  have d2 := hr.fr
  have hz : ((0 : Int) == (len : Int)) = false := by simp; omega
  have hlp : (0 : Int) < (len : Int) := by omega
  go_enter Try.func12, Try.ntmps12
  go_wp2
  go_quiet (fail)
  go_wp2
  go_loopg [3, 6] zs.length (fun k pl i wr => ∃ q P : Nat, ∃ plv : Bool, q ≤ zs.length ∧ Hid (k = zs.length - q) ∧ i = .int .i64 P ∧ Hid (P = 1 + (enc (zs.take q)).length) ∧ pl = .bool plv ∧ Hid (plv = !(zs.take q).any ndB) ∧ wr = w.drewN nq)
  case atStart => exact ⟨0, 1, true, Nat.zero_le _, rfl, rfl, by show _ = _; simp [enc], rfl, by show _ = _; simp, rfl⟩
  case round =>
    obtain ⟨q, P, plv, hq, HK, rfl, HP, rfl, HPL, rfl⟩ := hrel
    by_cases hlt : q < zs.length
    · obtain ⟨tl, htl, htl1⟩ := text_cut zs rest q hlt
      have hprl : (34 :: enc (zs.take q)).length = P := by rw [HP.out]; simp; omega
      obtain ⟨c, hcc⟩ : ∃ c, c = zs.getD q 0 := ⟨_, rfl⟩
      have hb8 : 0 ≤ c ∧ c ≤ 255 := by rw [hcc]; exact h8 _ (getD_mem hlt)
      have HC : Hid (c = zs.getD q 0) := hcc
      rw [← hcc] at htl
      have HG : Hid (∀ t, t < (enc1 c).length → w.cell? ⟨b, off + (P + t), none⟩ = some (.int .u8 ((enc1 c).getD t 0))) := by
        intro t ht
        have e : ds.getD (P + t) 0 = (enc1 c).getD t 0 := by
          rw [HDS.out, htl, ← hprl]
          exact getD_pre _ _ _ t ht
        rw [← e]
        refine HCE.out (P + t) ?_
        rw [← HDL.out, HDS.out, htl, List.length_append, hprl, List.length_append]
        omega
      have HLN : Hid (P + (enc1 c).length + 1 ≤ len) := by
        show _ ≤ _
        rw [← HDL.out, HDS.out, htl, List.length_append, hprl, List.length_append]
        omega
      have HSTEP : Hid (P + (enc1 c).length = 1 + (enc (zs.take (q + 1))).length) := by
        show _ = _
        rw [enc_take zs q hlt, ← HC.out, List.length_append, HP.out]
        omega
      have HANY : Hid ((zs.take (q + 1)).any ndB = ((zs.take q).any ndB || ndB c)) := by
        show _ = _
        rw [any_take zs q hlt, ← HC.out]
      clear htl hprl hcc htl1
      have HCS := enc1_cases c hb8.1 hb8.2
      rcases HCS with ⟨he, h32, h34, h92, hnd⟩ | ⟨x, he, hx, hnd⟩ | ⟨x, y, he, hx, hy, hnd⟩
      · have g0 := HG.out 0 (by rw [he]; simp)
        rw [he] at g0
        simp only [Nat.add_zero, List.getD_cons_zero] at g0
        have hP : P + 2 ≤ len := by have := HLN.out; rw [he] at this; simpa using this
        have HS : Hid (P + 1 = 1 + (enc (zs.take (q + 1))).length) := by have := HSTEP.out; rw [he] at this; exact this
        have HA : Hid (plv = !(zs.take (q + 1)).any ndB) := by show _ = _; rw [HANY.out, hnd, HPL.out]; simp
        have b34 : (c == 34) = false := by simpa using h34
        have b92 : (c == 92) = false := by simpa using h92
        have hPI : (P : Int) < (len : Int) := by omega
        clear he hnd h34 h92 HG HLN HSTEP HANY
        go_wp2
        go_roundg (zs.length - (q + 1))
        case measure => rw [HK.out]; omega
        case rel => exact ⟨q + 1, P + 1, plv, by omega, rfl, by go_num, HS, rfl, HA, rfl⟩
      · have g0 := HG.out 0 (by rw [he]; simp)
        have g1 := HG.out 1 (by rw [he]; simp)
        rw [he] at g0 g1
        simp only [Nat.add_zero, List.getD_cons_zero, List.getD_cons_succ] at g0 g1
        have hP : P + 3 ≤ len := by have := HLN.out; rw [he] at this; simpa using this
        have HS : Hid (P + 1 + 1 = 1 + (enc (zs.take (q + 1))).length) := by have := HSTEP.out; rw [he] at this; exact this
        have HA : Hid (false = !(zs.take (q + 1)).any ndB) := by show _ = _; rw [HANY.out, hnd]; simp
        have hPI : (P : Int) < (len : Int) := by omega
        have hPJ : (P : Int) + 1 < (len : Int) := by omega
        have hPE : ((P : Int) + 1 == (len : Int)) = false := by simp; omega
        clear he hnd HG HLN HSTEP HANY
        rcases hx with rfl | rfl | rfl | rfl | rfl | rfl | rfl | rfl
        all_goals
          go_wp2
          go_roundg (zs.length - (q + 1))
          case measure => rw [HK.out]; omega
          case rel => exact ⟨q + 1, P + 1 + 1, false, by omega, rfl, by go_num, HS, rfl, HA, rfl⟩
      · have g0 := HG.out 0 (by rw [he]; simp)
        have g1 := HG.out 1 (by rw [he]; simp)
        have g2 := HG.out 2 (by rw [he]; simp)
        have g3 := HG.out 3 (by rw [he]; simp)
        have g4 := HG.out 4 (by rw [he]; simp)
        have g5 := HG.out 5 (by rw [he]; simp)
        rw [he] at g0 g1 g2 g3 g4 g5
        simp only [Nat.add_zero, List.getD_cons_zero, List.getD_cons_succ] at g0 g1 g2 g3 g4 g5
        have HH : Hid (∀ r, r < 4 → ∃ h, isHx h ∧ w.cell? ⟨b, off + (P + 1 + 1) + r, none⟩ = some (.int .u8 h)) := by
          intro r hr
          match r, hr with
          | 0, _ => exact ⟨48, by unfold isHx; omega, by rw [← g2]; congr 1⟩
          | 1, _ => exact ⟨48, by unfold isHx; omega, by rw [← g3]; congr 1⟩
          | 2, _ => exact ⟨x, hx, by rw [← g4]; congr 1⟩
          | 3, _ => exact ⟨y, hy, by rw [← g5]; congr 1⟩
        have hP : P + 7 ≤ len := by have := HLN.out; rw [he] at this; simpa using this
        have HS : Hid (P + 1 + 4 + 1 = 1 + (enc (zs.take (q + 1))).length) := by have := HSTEP.out; rw [he] at this; exact this
        have HA : Hid (false = !(zs.take (q + 1)).any ndB) := by show _ = _; rw [HANY.out, hnd]; simp
        have hPI : (P : Int) < (len : Int) := by omega
        have hPJ : (P : Int) + 1 < (len : Int) := by omega
        have hPE : ((P : Int) + 1 == (len : Int)) = false := by simp; omega
        have hp5 : P + 1 + 5 - (P + 1 + 1) = 4 := by omega
        clear he hnd HG HLN HSTEP HANY g2 g3 g4 g5
        go_wp2
        rw [hp5]
        clear hp5
        go_loopg [3, 122] 4 (fun k p3 i wr => ∃ r : Nat, r ≤ 4 ∧ Hid (k = 4 - r) ∧ i = .int .i64 r ∧ p3 = .bool false ∧ wr = w.drewN nq)
        case atStart => exact ⟨0, by omega, rfl, rfl, rfl, rfl⟩
        case round =>
          obtain ⟨r, hr4, HKR, rfl, rfl, rfl⟩ := hrel
          by_cases hlr : r < 4
          · obtain ⟨h, hh, hcell⟩ := HH.out r hlr
            have HHX : Hid (isHx h) := hh
            clear hh
            go_wp2_with (go_at_call 31; refine (isHex_any _ _ HHX.out).mono ?_; rintro ev w' ⟨rfl, rfl⟩)
            go_roundg (4 - (r + 1))
            case measure => rw [HKR.out]; omega
            case rel => exact ⟨r + 1, by omega, rfl, by go_num, rfl, rfl⟩
          · go_wp2
            go_roundg (zs.length - (q + 1))
            case measure => rw [HK.out]; omega
            case rel => exact ⟨q + 1, P + 1 + 4 + 1, false, by omega, rfl, by go_num, HS, rfl, HA, rfl⟩
    · have hqz : q = zs.length := by omega
      have g0 : w.cell? ⟨b, off + P, none⟩ = some (.int .u8 34) := by
        have := HCE.out P (by rw [HP.out, hqz, List.take_length, ← HL.out]; omega)
        rw [HDS.out, HP.out, hqz, List.take_length, text_end] at this
        rw [HP.out, hqz, List.take_length]
        exact this
      have hPL : P = L + 1 := by rw [HP.out, hqz, List.take_length, ← HL.out]; omega
      have HPV : Hid (plv = !nd) := by show _ = _; rw [HPL.out, HND.out, hqz, List.take_length]
      subst hPL
      clear hqz
      have hPI : (L : Int) + 1 < (len : Int) := by omega
      go_wp2
      go_ret3
      refine ⟨?_, hr.set nq (L + 1), ((Off.refl R w).drewN nq).setCell 1 _⟩
      rw [← HPV.out]
      rfl
end Go.Proofs.Qxb6600039a
