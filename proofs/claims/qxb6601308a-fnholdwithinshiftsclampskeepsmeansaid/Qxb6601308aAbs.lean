/-
  SEAT b6601308a: absf, meanOf, and the law's test of its input's length.
-/
import Derived.Test.Qxb6601308aErr8
import Derived.Test.Qxb6601308aRange
namespace Go.Proofs.Qxb6601308a
open Go.ChangeShapes Go.WideShapes Go.ChangeAt Go.RowKit

def absW (x : Nat) : Nat := if ltB x 0 then Op.negFloat .f64 x else x

theorem negF_ok (x : Nat) : rungW (Op.negFloat .f64 x) = rungW x ∧ negW (Op.negFloat .f64 x) = !negW x := by
  have e : Op.negFloat .f64 x = x ^^^ 2 ^ 63 := rfl
  have e63 : (9223372036854775808 : Nat) = 2 ^ 63 := by decide
  rw [e]
  unfold rungW negW
  rw [e63]
  constructor
  · rw [Nat.xor_mod_two_pow, Nat.mod_self, Nat.xor_zero]
  · rw [Nat.xor_div_two_pow, Nat.div_self (by decide)]
    have h := @Nat.xor_mod_two_pow (x / 2 ^ 63) 1 1
    rw [Nat.pow_one] at h
    rw [h]
    rcases Nat.mod_two_eq_zero_or_one (x / 2 ^ 63) with h | h <;> rw [h] <;> rfl

theorem V0 : V 0 = 0 ∧ nn 0 ∧ key 0 = 0 := ⟨by decide, by unfold nn; decide, by decide⟩

theorem abs_ok (x : Nat) (h : fin x) : fin (absW x) ∧ V (absW x) = ((V x).natAbs : Int) := by
  unfold absW
  have hk : ltB x 0 = decide (key x < key 0) := ltB_key (fin_nn h) V0.2.1
  have hn := negF_ok x
  have hlt := V_lt_iff x 0
  rw [V0.1] at hlt
  by_cases hc : key x < key 0
  · rw [hk, decide_eq_true hc, if_pos rfl]
    refine ⟨by unfold fin; rw [hn.1]; exact h, ?_⟩
    have hv := hlt.2 hc
    have hneg : negW x = true := by
      unfold V sgI at hv
      cases hb : negW x with
      | true => rfl
      | false => rw [hb] at hv; simp at hv; omega
    unfold V
    rw [hn.1, hn.2, hneg]
    unfold sgI
    simp
  · rw [hk, decide_eq_false hc, if_neg (by simp)]
    exact ⟨h, by omega⟩

set_option maxHeartbeats 1000000 in
theorem absf_any (w : World) (x : Nat) : Calls Try.prog 14 #[.float .f64 x] w fun e w' => e = .returned (.float .f64 (absW x)) ∧ w = w' := by
  obtain ⟨L, hL⟩ : ∃ L, (FloatKind.f64.format.order x 0 == some .lt) = L := ⟨_, rfl⟩
  have HL : Hid (ltB x 0 = L) := hL
  cases L with
  | true =>
    have HA : Hid (absW x = Op.negFloat .f64 x) := by show _ = _; unfold absW; rw [HL.out, if_pos rfl]
    have hng : ∀ W, (Op.unary .neg (.float .f64 x)).run Try.prog W = .ok (.float .f64 (Op.negFloat .f64 x)) W := fun _ => rfl
    go_enter Try.func14, Try.ntmps14
    go_wp2
    go_ret
    exact ⟨by rw [HA.out]; rfl, rfl⟩
  | false =>
    have HA : Hid (absW x = x) := by show _ = _; unfold absW; rw [HL.out, if_neg (by simp)]
    go_enter Try.func14, Try.ntmps14
    go_wp2
    go_ret
    exact ⟨by rw [HA.out]; rfl, rfl⟩

set_option maxHeartbeats 1000000 in
theorem meanOf_any (w : World) (a : Option Addr) (len cap : Nat) (xs : List Nat) (h : Fl w a len cap xs) (h0 : 0 < len) (h1 : len ≤ 131072) (hf : ∀ i, i < xs.length → fin (xs.getD i 0)) :
    Calls Try.prog 15 #[.slice a len cap] w fun e w' => e = .returned (.float .f64 (meanW xs)) ∧ w = w' := by
  obtain ⟨b, off, rfl, hb, hc⟩ := h.cellAt h0
  have HC : Hid (∀ i, i < len → w.cell? ⟨b, off + i, none⟩ = some (.float .f64 (xs.getD i 0))) := hc
  have HL : Hid (xs.length = len) := h.len_eq
  have HF : Hid (∀ i, i < xs.length → fin (xs.getD i 0)) := hf
  have HS := sumW_nn xs hf
  have hlf := len_float len h0 h1
  have hdv : Ieee.double.div (sumW xs) (floatOfInt .f64 len) = some (meanW xs) := by
    have h3 := HS xs.length (Nat.le_refl _)
    rw [List.take_length] at h3
    have := divW_ok (sumW xs) (floatOfInt .f64 len) h3 hlf.1 hlf.2
    rw [this]
    unfold meanW
    rw [HL.out]
  have hdr := fun W => fa_ok .quo 22 (sumW xs) (floatOfInt .f64 len) (meanW xs) hdv W
  have HSN : Hid (∀ q, q ≤ xs.length → nn (sumW (xs.take q))) := HS
  clear hc h hf HS hlf hdv
  go_enter Try.func15, Try.ntmps15
  go_wp2
  go_loopg [3, 4] len (fun k s i wr => ∃ q S : Nat, q ≤ len ∧ Hid (k = len - q) ∧ i = .int .i64 q ∧ s = .float .f64 S ∧ Hid (S = sumW (xs.take q)) ∧ w = wr)
  case atStart => exact ⟨0, 0, Nat.zero_le _, rfl, rfl, rfl, rfl, rfl⟩
  case round =>
    obtain ⟨q, S, hq, HK, rfl, rfl, HS, rfl⟩ := hrel
    by_cases hlt : q < len
    · have g := HC.out q hlt
      obtain ⟨x, hx⟩ : ∃ x, x = xs.getD q 0 := ⟨_, rfl⟩
      rw [← hx] at g
      have hfx : fin x := by rw [hx]; exact HF.out q (by rw [HL.out]; exact hlt)
      have hns : nn S := by rw [HS.out]; exact HSN.out q (by rw [HL.out]; exact hq)
      have har := fun W => fa_ok .add 22 S x (addW S x) (addW_ok S x hns hfx).1 W
      have HSS : Hid (addW S x = sumW (xs.take (q + 1))) := by
        show _ = _
        rw [sumW_step xs q (by rw [HL.out]; exact hlt), ← HS.out, hx]
      clear hx hfx hns hdr
      go_wp2
      go_roundg (len - (q + 1))
      case measure => rw [HK.out]; omega
      case rel => exact ⟨q + 1, addW S x, by omega, rfl, by go_num, rfl, HSS, rfl⟩
    · have e : S = sumW xs := by rw [HS.out, List.take_of_length_le (by rw [HL.out]; omega)]
      rw [← e] at hdr
      clear e
      go_wp2
      go_ret
      exact ⟨rfl, rfl⟩

set_option maxHeartbeats 1000000 in
theorem zz12 (w : World) (a : Option Addr) (len cap lo hi : Nat) (hl : len ≤ 9223372036854775807) :
    Calls Try.prog 12 #[.slice a len cap, .float .f64 lo, .float .f64 hi] w fun e w' => e = .returned (.bool (decide (len ≤ 1048576))) ∧ w = w' := by
  by_cases h : len ≤ 1048576
  · have h1 : (len : Int) ≤ 1048576 := by omega
    go_enter Try.func12, Try.ntmps12
    go_wp2
    go_ret
    exact ⟨by first | (rw [decide_eq_true h]; rfl) | rfl, rfl⟩
  · have h1 : ¬ (len : Int) ≤ 1048576 := by omega
    go_enter Try.func12, Try.ntmps12
    go_wp2
    go_ret
    exact ⟨by first | (rw [decide_eq_false h]; rfl) | rfl, rfl⟩
end Go.Proofs.Qxb6601308a
