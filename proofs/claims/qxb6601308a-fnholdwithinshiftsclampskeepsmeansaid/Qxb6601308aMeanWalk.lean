/-
  SEAT b6601308a: the walks of slices.Min, slices.Max, mean.
-/
import Derived.Test.Qxb6601308aLen
namespace Go.Proofs.Qxb6601308a
open Go.ChangeShapes Go.WideShapes Go.ChangeAt Go.RowKit

theorem divW_ok (s d : Nat) (hs : nn s) (hd : fin d) (h0 : rungW d ≠ 0) : Ieee.double.div s d = some (divW s d) := by
  obtain ⟨n, j, e2, hj, v2⟩ := read_fin d hd
  have hn : n ≠ 0 := by
    intro e
    rw [e, Nat.zero_mul] at v2
    have := sc_lt (show 0 < rungW d by omega)
    rw [sc_zero] at this
    omega
  have hsome : ∃ r, Ieee.double.div s d = some r := by
    unfold Ieee.Format.div
    rw [e2]
    rcases nn_cases hs with h | h
    · obtain ⟨m, i, e1, _, _⟩ := read_fin s h
      rw [e1]
      simp [Ieee.Datum.quotient, hn]
    · rw [read_inf s h]
      simp [Ieee.Datum.quotient]
  obtain ⟨r, hr⟩ := hsome
  unfold divW
  rw [hr]
  rfl

theorem getD_mem' {xs : List Nat} {k : Nat} (h : k < xs.length) : xs.getD k 0 ∈ xs := by
  have e : xs.getD k 0 = xs[k] := by simp [List.getD, h]
  rw [e]; exact List.getElem_mem h

set_option maxHeartbeats 1000000 in
theorem mean_any (w : World) (a : Option Addr) (len cap : Nat) (xs : List Nat) (h : Fl w a len cap xs) (h0 : 0 < len) (h1 : len ≤ 131072) (hf : ∀ i, i < xs.length → fin (xs.getD i 0)) :
    Calls Try.prog 36 #[.slice a len cap] w fun e w' => e = .returned (.float .f64 (meanW xs)) ∧ w = w' := by
  obtain ⟨b, off, rfl, hb, hc⟩ := h.cellAt h0
  have HC : Hid (∀ i, i < len → w.cell? ⟨b, off + i, none⟩ = some (.float .f64 (xs.getD i 0))) := hc
  have HL : Hid (xs.length = len) := h.len_eq
  have HF : Hid (∀ i, i < xs.length → fin (xs.getD i 0)) := hf
  have HS := sumW_nn xs hf
  have hlf := len_float len h0 h1
  have hdv : Ieee.double.div (sumW xs) (floatOfInt .f64 len) = some (meanW xs) := by
    have h3 := HS xs.length (Nat.le_refl _)
    rw [List.take_length] at h3
    have := divW_ok (sumW xs) (floatOfInt .f64 len) h3 hlf.1 hlf.2
    rw [this]
    unfold meanW
    rw [HL.out]
  have hdr := fun W => fa_ok .quo 22 (sumW xs) (floatOfInt .f64 len) (meanW xs) hdv W
  have HSN : Hid (∀ q, q ≤ xs.length → nn (sumW (xs.take q))) := HS
  clear hc h hf HS hlf hdv
  go_enter Try.func36, Try.ntmps36
  go_wp2
  go_loopg [3, 8] len (fun k s i wr => ∃ q S : Nat, q ≤ len ∧ Hid (k = len - q) ∧ i = .int .i64 q ∧ s = .float .f64 S ∧ Hid (S = sumW (xs.take q)) ∧ w = wr)
  case atStart => exact ⟨0, 0, Nat.zero_le _, rfl, rfl, rfl, rfl, rfl⟩
  case round =>
    obtain ⟨q, S, hq, HK, rfl, rfl, HS, rfl⟩ := hrel
    by_cases hlt : q < len
    · have g := HC.out q hlt
      obtain ⟨x, hx⟩ : ∃ x, x = xs.getD q 0 := ⟨_, rfl⟩
      rw [← hx] at g
      have hfx : fin x := by rw [hx]; exact HF.out q (by rw [HL.out]; exact hlt)
      have hns : nn S := by rw [HS.out]; exact HSN.out q (by rw [HL.out]; exact hq)
      have har := fun W => fa_ok .add 22 S x (addW S x) (addW_ok S x hns hfx).1 W
      have HSS : Hid (addW S x = sumW (xs.take (q + 1))) := by
        show _ = _
        rw [sumW_step xs q (by rw [HL.out]; exact hlt), ← HS.out, hx]
      clear hx hfx hns hdr
      go_wp2
      go_roundg (len - (q + 1))
      case measure => rw [HK.out]; omega
      case rel => exact ⟨q + 1, addW S x, by omega, rfl, by go_num, rfl, HSS, rfl⟩
    · have e : S = sumW xs := by rw [HS.out, List.take_of_length_le (by rw [HL.out]; omega)]
      rw [← e] at hdr
      clear e
      go_wp2
      go_ret
      exact ⟨rfl, rfl⟩

theorem map_getD (f : Nat → Nat) (xs : List Nat) (q : Nat) (h : q < xs.length) : (xs.map f).getD q 0 = f (xs.getD q 0) := by simp [List.getD, h]

/-- The boxes of holdWithin: its slice, its two ends. -/
structure Boxes (w : World) (bv bl bh : Nat) (a : Option Addr) (len cap lo hi : Nat) : Prop where
  v : w.cell? ⟨bv, 0, none⟩ = some (.slice a len cap)
  l : w.cell? ⟨bl, 0, none⟩ = some (.float .f64 lo)
  h : w.cell? ⟨bh, 0, none⟩ = some (.float .f64 hi)

set_option maxHeartbeats 1000000 in
theorem held_any (w : World) (bv bl bh : Nat) (a : Option Addr) (len cap lo hi : Nat) (xs : List Nat) (hbx : Boxes w bv bl bh a len cap lo hi) (h : Fl w a len cap xs) (h0 : 0 < len) (h1 : len ≤ 131072) (hd : Dom xs lo hi) (c : Nat) (hc : nn c) :
    Calls Try.prog 37 #[.float .f64 c, .pointer (some ⟨bv, 0, none⟩), .pointer (some ⟨bl, 0, none⟩), .pointer (some ⟨bh, 0, none⟩)] w fun e w' => e = .returned (.float .f64 (heldW xs lo hi c)) ∧ w = w' := by
  have c1 := hbx.v
  have c2 := hbx.l
  have c3 := hbx.h
  obtain ⟨b, off, rfl, hb, hce⟩ := h.cellAt h0
  have HC : Hid (∀ i, i < len → w.cell? ⟨b, off + i, none⟩ = some (.float .f64 (xs.getD i 0))) := hce
  have HL : Hid (xs.length = len) := h.len_eq
  have HDM : Hid (Dom xs lo hi) := hd
  have HNC : Hid (nn c) := hc
  obtain ⟨ys, hys⟩ : ∃ ys, ys = xs.map (clampW lo hi c) := ⟨_, rfl⟩
  have hyl : ys.length = xs.length := by rw [hys]; simp
  have hyf : ∀ i, i < ys.length → fin (ys.getD i 0) := by
    intro i hil
    rw [hys, map_getD _ _ _ (by omega)]
    exact (clampW_ok lo hi c _ hd.flo hd.fhi hd.le hc (hd.fx i (by omega))).2
  have hlf := len_float len h0 h1
  have HS := sumW_nn ys hyf
  have hdv : Ieee.double.div (sumW ys) (floatOfInt .f64 len) = some (heldW xs lo hi c) := by
    have h3 := HS ys.length (Nat.le_refl _)
    rw [List.take_length] at h3
    have := divW_ok (sumW ys) (floatOfInt .f64 len) h3 hlf.1 hlf.2
    rw [this]
    unfold heldW meanW
    rw [← hys, hyl, HL.out]
  have hdr := fun W => fa_ok .quo 22 (sumW ys) (floatOfInt .f64 len) (heldW xs lo hi c) hdv W
  have HSN : Hid (∀ q, q ≤ ys.length → nn (sumW (ys.take q))) := HS
  have HYS : Hid (ys = xs.map (clampW lo hi c)) := hys
  have HYL : Hid (ys.length = xs.length) := hyl
  have HYF : Hid (∀ i, i < ys.length → fin (ys.getD i 0)) := hyf
  clear hce h hd hc hys hyl hyf HS hlf hdv hbx
  go_enter Try.func37, Try.ntmps37
  go_wp2
  go_loopg [6, 11] len (fun k s i wr => ∃ q S : Nat, q ≤ len ∧ Hid (k = len - q) ∧ i = .int .i64 q ∧ s = .float .f64 S ∧ Hid (S = sumW (ys.take q)) ∧ w = wr)
  case atStart => exact ⟨0, 0, Nat.zero_le _, rfl, rfl, rfl, rfl, rfl⟩
  case round =>
    obtain ⟨q, S, hq, HK, rfl, rfl, HS, rfl⟩ := hrel
    by_cases hlt : q < len
    · have g := HC.out q hlt
      obtain ⟨x, hx⟩ : ∃ x, x = xs.getD q 0 := ⟨_, rfl⟩
      rw [← hx] at g
      have hltx : q < xs.length := by rw [HL.out]; exact hlt
      have hfx : fin x := by rw [hx]; exact HDM.out.fx q hltx
      have hns : nn S := by rw [HS.out]; exact HSN.out q (by rw [HYL.out, HL.out]; exact hq)
      have hsb := subW_ok x c hfx HNC.out
      have har := fun W => fa_ok .sub 22 x c (subW x c) hsb.1 W
      obtain ⟨d, hd⟩ : ∃ d, d = subW x c := ⟨_, rfl⟩
      rw [← hd] at har hsb
      have hmx := max_runW d lo hsb.2.1 (fin_nn HDM.out.flo)
      have hmn := maxW_nn hsb.2.1 (fin_nn HDM.out.flo)
      obtain ⟨m, hm⟩ : ∃ m, m = maxW d lo := ⟨_, rfl⟩
      rw [← hm] at hmx hmn
      have hmi := min_runW m hi hmn (fin_nn HDM.out.fhi)
      obtain ⟨y, hy⟩ : ∃ y, y = minW m hi := ⟨_, rfl⟩
      rw [← hy] at hmi
      have hyy : y = ys.getD q 0 := by rw [HYS.out, map_getD _ _ _ hltx, ← hx, hy, hm, hd]; rfl
      have hfy : fin y := by rw [hyy]; exact HYF.out q (by rw [HYL.out]; exact hltx)
      have hadd := fun W => fa_ok .add 22 S y (addW S y) (addW_ok S y hns hfy).1 W
      have HSS : Hid (addW S y = sumW (ys.take (q + 1))) := by
        show _ = _
        rw [sumW_step ys q (by rw [HYL.out]; exact hltx), ← HS.out, hyy]
      clear hx hfx hns hdr hsb hd hmn hm hy hyy hfy hltx
      go_wp2
      go_roundg (len - (q + 1))
      case measure => rw [HK.out]; omega
      case rel => exact ⟨q + 1, addW S y, by omega, rfl, by go_num, rfl, HSS, rfl⟩
    · have e : S = sumW ys := by rw [HS.out, List.take_of_length_le (by rw [HYL.out, HL.out]; omega)]
      rw [← e] at hdr
      clear e
      go_wp2
      go_ret
      exact ⟨rfl, rfl⟩
end Go.Proofs.Qxb6601308a
