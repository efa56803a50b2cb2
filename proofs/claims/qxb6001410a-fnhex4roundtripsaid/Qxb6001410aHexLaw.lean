/-
  SEAT b6001410a: the walk of FnHex4RoundTrip.
-/
import Derived.Test.Qxb6001410aHex
import Derived.Maps.AppendAt
namespace Go.Proofs.Qxb6001410a
open Go.ChangeShapes Go.WideShapes Go.ChangeAt Go.RowKit

theorem hexLaw_long (a0 a1 : Int) (a : Option Addr) (len cap : Nat) (w : World) (h : (1048576 : Int) < len) :
    Calls Try.prog 8 #[.int .u16 a0, .int .u8 a1, .slice a len cap] w fun e w' => e = .returned (.bool true) ∧ w = w' := by
  go_enter Try.func8, Try.ntmps8
  go_wp2_with (go_at_call 24; refine (zzBytes24_no _ _ _ _ _ _ h).mono ?_; rintro e w' ⟨rfl, rfl⟩)
  go_ret
  exact ⟨rfl, rfl⟩

theorem and15 (x : Int) (h0 : 0 ≤ x) (h1 : x ≤ 65535) : bits .and .u16 x 15 = x % 16 := by
  rw [u16_and x 15 h0 (by omega) (by omega) (by omega)]
  rw [show (15 : Int).toNat = 15 from rfl, nat_mask4]
  omega

theorem hexd_ok (d : Int) (u : Bool) (h0 : 0 ≤ d) (h1 : d ≤ 15) : isHx (hexd d u) ∧ hv (hexd d u) = d ∧ 0 ≤ hexd d u ∧ hexd d u ≤ 255 := by
  unfold hexd
  by_cases h : d < 10
  · rw [if_pos h]; unfold isHx hv; rw [if_pos (by omega)]; omega
  · rw [if_neg h]
    cases u with
    | true => simp only [if_true]; unfold isHx hv; rw [if_neg (by omega), if_neg (by omega)]; omega
    | false => simp only [Bool.false_eq_true, if_false]; unfold isHx hv; rw [if_neg (by omega), if_pos (by omega)]; omega

theorem acc4 (c0 c1 c2 c3 : Int) : acc [c0, c1, c2, c3] = ((hv c0 * 16 + hv c1) * 16 + hv c2) * 16 + hv c3 := by simp [acc]

/-- The four digits of a number, and their value. -/
theorem digits (a0 : Int) (h00 : 0 ≤ a0) (h01 : a0 ≤ 65535) :
    ((a0 / 4096 % 16 * 16 + a0 / 256 % 16) * 16 + a0 / 16 % 16) * 16 + a0 % 16 = a0 := by omega

/-- One byte more in a row of the call's own that has room. -/
theorem below_app1 {v w2 w3 : World} {g : Nat} {o : Obj} (hb : Below v.heap.size v w2) (hg : (w2.alloc o).grownBy w3 (some g)) (h : v.heap.size ≤ g) : Below v.heap.size v w3 :=
  (hb.alloc hb.size o).grown hg (by have := hb.size; simp; omega) (by intro k e; cases e; exact h)

theorem hexLaw_walk (a0 a1 : Int) (a : Option Addr) (len cap : Nat) (zs : List Int) (w : World) (h00 : 0 ≤ a0) (h01 : a0 ≤ 65535) (h : Sl w a len cap zs) (hl : (len : Int) ≤ 1048576) :
    Calls Try.prog 8 #[.int .u16 a0, .int .u8 a1, .slice a len cap] w fun e w' => e = .returned (.bool true) ∧ Below w.heap.size w w' := by
  obtain ⟨i0, hi, hz0, hz1, hz2⟩ := info_parts Try.info5
  obtain ⟨d0, e0⟩ : ∃ d, bits .and .u16 (a0 / 4096) 15 = d := ⟨_, rfl⟩
  obtain ⟨d1, e1⟩ : ∃ d, bits .and .u16 (a0 / 256) 15 = d := ⟨_, rfl⟩
  obtain ⟨d2, e2⟩ : ∃ d, bits .and .u16 (a0 / 16) 15 = d := ⟨_, rfl⟩
  obtain ⟨d3, e3⟩ : ∃ d, bits .and .u16 a0 15 = d := ⟨_, rfl⟩
  obtain ⟨u0, f0⟩ : ∃ u, (bits .and .u8 a1 1 == 1) = u := ⟨_, rfl⟩
  obtain ⟨u1, f1⟩ : ∃ u, (bits .and .u8 (a1 / 2) 1 == 1) = u := ⟨_, rfl⟩
  obtain ⟨u2, f2⟩ : ∃ u, (bits .and .u8 (a1 / 4) 1 == 1) = u := ⟨_, rfl⟩
  obtain ⟨u3, f3⟩ : ∃ u, (bits .and .u8 (a1 / 8) 1 == 1) = u := ⟨_, rfl⟩
  have b0 := and15 (a0 / 4096) (by omega) (by omega)
  have b1 := and15 (a0 / 256) (by omega) (by omega)
  have b2 := and15 (a0 / 16) (by omega) (by omega)
  have b3 := and15 a0 (by omega) (by omega)
  rw [e0] at b0
  rw [e1] at b1
  rw [e2] at b2
  rw [e3] at b3
  have HD : Hid (((d0 * 16 + d1) * 16 + d2) * 16 + d3 = a0) := by show _ = _; rw [b0, b1, b2, b3]; exact digits a0 h00 h01
  have l0 : 0 ≤ d0 ∧ d0 ≤ 15 := by omega
  have l1 : 0 ≤ d1 ∧ d1 ≤ 15 := by omega
  have l2 : 0 ≤ d2 ∧ d2 ≤ 15 := by omega
  have l3 : 0 ≤ d3 ∧ d3 ≤ 15 := by omega
  clear b0 b1 b2 b3
  obtain ⟨c0, g0⟩ : ∃ c, hexd d0 u0 = c := ⟨_, rfl⟩
  obtain ⟨c1, g1⟩ : ∃ c, hexd d1 u1 = c := ⟨_, rfl⟩
  obtain ⟨c2, g2⟩ : ∃ c, hexd d2 u2 = c := ⟨_, rfl⟩
  obtain ⟨c3, g3⟩ : ∃ c, hexd d3 u3 = c := ⟨_, rfl⟩
  have k0 := hexd_ok d0 u0 l0.1 l0.2
  have k1 := hexd_ok d1 u1 l1.1 l1.2
  have k2 := hexd_ok d2 u2 l2.1 l2.2
  have k3 := hexd_ok d3 u3 l3.1 l3.2
  rw [g0] at k0
  rw [g1] at k1
  rw [g2] at k2
  rw [g3] at k3
  have K0 : Hid (isHx c0 ∧ hv c0 = d0 ∧ 0 ≤ c0 ∧ c0 ≤ 255) := k0
  have K1 : Hid (isHx c1 ∧ hv c1 = d1 ∧ 0 ≤ c1 ∧ c1 ≤ 255) := k1
  have K2 : Hid (isHx c2 ∧ hv c2 = d2 ∧ 0 ≤ c2 ∧ c2 ≤ 255) := k2
  have K3 : Hid (isHx c3 ∧ hv c3 = d3 ∧ 0 ≤ c3 ∧ c3 ≤ 255) := k3
  have L0 : Hid (0 ≤ d0 ∧ d0 ≤ 15) := l0
  have L1 : Hid (0 ≤ d1 ∧ d1 ≤ 15) := l1
  have L2 : Hid (0 ≤ d2 ∧ d2 ≤ 15) := l2
  have L3 : Hid (0 ≤ d3 ∧ d3 ≤ 15) := l3
  clear k0 k1 k2 k3 l0 l1 l2 l3
  go_enter Try.func8, Try.ntmps8
  go_wp2_with (first | (go_at_call 24; refine (zzBytes24 _ _ _ _ _ _ hl).mono ?_; rintro e w' ⟨rfl, rfl⟩) | fail)
  refine (clone_any _ _ _ _ _ h (by omega)).mono ?_
  rintro e w1 ⟨a', cap', rfl, hs1, hb1⟩
  go_wp2_with (at_make; refine wpList_make_own _ rfl _ _ 22 rfl w.heap.size 5 i0 (.int .u8 0) 1 Try.underlying22 hi hz0 hz1 _ _ _ (4 + len) rfl rfl (by omega) (by rw [hz2]; omega) (by unfold maxLen; omega) hb1.size ?_)
  intro w2 hown2 hgrow2
  have hb2 : Below w1.heap.size w1 w2 := (Below.refl _ _).grown hgrow2 (Nat.le_refl _) (by simp)
  have H2 : Hid (w2.ownsRow w.heap.size 5 1 (.slice (some ⟨w1.heap.size, 0, none⟩) 0 (4 + len)) 0 []) := hown2
  clear hown2 hgrow2
  go_wp2_with fail
  refine (hexDigit_any _ _ _ L0.out.1 L0.out.2).mono ?_
  rintro e w' ⟨rfl, rfl⟩
  go_wp2_with (at_builtin; refine wpList_append_fits _ rfl (.tmp 24) (.tmp 32) 22 rfl w.heap.size 5 i0 1 Try.underlying22 hi hz1 w1.heap.size 0 (4 + len) [] rfl (H2.out.alloc _) ⟨w2.heap.size, 0, none⟩ 1 1 [.int .u8 c0] rfl rfl (cell_one_new _ _ _) (by simp [Value.oneCell']) (by omega) ?_)
  intro w3 hown3 hgrow3
  have hb3 : Below w1.heap.size w1 w3 := below_app1 hb2 hgrow3 (Nat.le_refl _)
  have H3 : Hid (w3.ownsRow w.heap.size 5 1 (.slice (some ⟨w1.heap.size, 0, none⟩) 1 (4 + len)) 1 [.int .u8 c0]) := hown3
  clear hown3 hgrow3 H2 hb2
  go_wp2_with fail
  refine (hexDigit_any _ _ _ L1.out.1 L1.out.2).mono ?_
  rintro e w' ⟨rfl, rfl⟩
  go_wp2_with (at_builtin; refine wpList_append_fits _ rfl (.tmp 34) (.tmp 43) 22 rfl w.heap.size 5 i0 1 Try.underlying22 hi hz1 w1.heap.size 1 (4 + len) [.int .u8 c0] rfl (H3.out.alloc _) ⟨w3.heap.size, 0, none⟩ 1 1 [.int .u8 c1] rfl rfl (cell_one_new _ _ _) (by simp [Value.oneCell']) (by omega) ?_)
  intro w4 hown4 hgrow4
  have hb4 : Below w1.heap.size w1 w4 := below_app1 hb3 hgrow4 (Nat.le_refl _)
  have H4 : Hid (w4.ownsRow w.heap.size 5 1 (.slice (some ⟨w1.heap.size, 0, none⟩) 2 (4 + len)) 2 [.int .u8 c0, .int .u8 c1]) := hown4
  clear hown4 hgrow4 H3 hb3
  go_wp2_with fail
  refine (hexDigit_any _ _ _ L2.out.1 L2.out.2).mono ?_
  rintro e w' ⟨rfl, rfl⟩
  go_wp2_with (at_builtin; refine wpList_append_fits _ rfl (.tmp 45) (.tmp 54) 22 rfl w.heap.size 5 i0 1 Try.underlying22 hi hz1 w1.heap.size 2 (4 + len) [.int .u8 c0, .int .u8 c1] rfl (H4.out.alloc _) ⟨w4.heap.size, 0, none⟩ 1 1 [.int .u8 c2] rfl rfl (cell_one_new _ _ _) (by simp [Value.oneCell']) (by omega) ?_)
  intro w5 hown5 hgrow5
  have hb5 : Below w1.heap.size w1 w5 := below_app1 hb4 hgrow5 (Nat.le_refl _)
  have H5 : Hid (w5.ownsRow w.heap.size 5 1 (.slice (some ⟨w1.heap.size, 0, none⟩) 3 (4 + len)) 3 [.int .u8 c0, .int .u8 c1, .int .u8 c2]) := hown5
  clear hown5 hgrow5 H4 hb4
  go_wp2_with fail
  refine (hexDigit_any _ _ _ L3.out.1 L3.out.2).mono ?_
  rintro e w' ⟨rfl, rfl⟩
  go_wp2_with (at_builtin; refine wpList_append_fits _ rfl (.tmp 56) (.tmp 64) 22 rfl w.heap.size 5 i0 1 Try.underlying22 hi hz1 w1.heap.size 3 (4 + len) [.int .u8 c0, .int .u8 c1, .int .u8 c2] rfl (H5.out.alloc _) ⟨w5.heap.size, 0, none⟩ 1 1 [.int .u8 c3] rfl rfl (cell_one_new _ _ _) (by simp [Value.oneCell']) (by omega) ?_)
  intro w6 hown6 hgrow6
  have hb6 : Below w1.heap.size w1 w6 := below_app1 hb5 hgrow6 (Nat.le_refl _)
  have H6 : Hid (w6.ownsRow w.heap.size 5 1 (.slice (some ⟨w1.heap.size, 0, none⟩) 4 (4 + len)) 4 [.int .u8 c0, .int .u8 c1, .int .u8 c2, .int .u8 c3]) := hown6
  clear hown6 hgrow6 H5 hb5
  have hs6 : Sl w6 a' len cap' zs := hs1.below hb6 (Nat.le_refl _)
  have hzl : zs.length = len := h.len_eq
  have HZL : Hid (zs.length = len) := hzl
  clear hzl
  go_wp2_with (at_builtin; refine wpList_append_fits_any _ rfl (.tmp 66) (.tmp 67) 22 rfl w.heap.size 5 i0 1 Try.underlying22 hi hz1 w1.heap.size 4 (4 + len) [.int .u8 c0, .int .u8 c1, .int .u8 c2, .int .u8 c3] rfl H6.out a' len cap' (zs.map (Value.int .u8)) rfl (by simpa using HZL.out) hs6.nil hs6.news (ints_oneCell _ _) (by omega) ?_)
  intro w7 hown7 hgrow7
  have hb7 : Below w1.heap.size w1 w7 := hb6.grown hgrow7 hb6.size (by intro k e; cases e; exact Nat.le_refl _)
  have H7 : Hid (w7.ownsRow w.heap.size 5 1 (.slice (some ⟨w1.heap.size, 0, none⟩) (4 + len) (4 + len)) (4 + len) ([c0, c1, c2, c3].map (Value.int .u8) ++ zs.map (Value.int .u8))) := hown7
  clear hown7 hgrow7 H6 hb6
  have hcl : ∀ i, i < 4 → w7.cell? ⟨w1.heap.size, 0 + i, none⟩ = some (.int .u8 ([c0, c1, c2, c3].getD i 0)) := by
    intro i hi4
    rw [Nat.zero_add, H7.out.cellAt i (by omega)]
    match i, hi4 with
    | 0, _ => rfl
    | 1, _ => rfl
    | 2, _ => rfl
    | 3, _ => rfl
  have hxs : ∀ i, i < 4 → isHx ([c0, c1, c2, c3].getD i 0) := by
    intro i hi4
    match i, hi4 with
    | 0, _ => exact K0.out.1
    | 1, _ => exact K1.out.1
    | 2, _ => exact K2.out.1
    | 3, _ => exact K3.out.1
  have hacc : acc [c0, c1, c2, c3] = a0 := by rw [acc4, K0.out.2.1, K1.out.2.1, K2.out.2.1, K3.out.2.1]; exact HD.out
  have H := zzHex4_any w7 w1.heap.size 0 (4 + len) (4 + len) [c0, c1, c2, c3] rfl (by omega) (Nat.le_refl _) (by unfold maxLen; omega) hcl hxs
  rw [hacc] at H
  clear hcl hxs hacc H7
  go_wp2_with (go_at_call 26; refine H.mono ?_; rintro e w' ⟨rfl, rfl⟩)
  go_ret
  exact ⟨rfl, hb1.trans (hb7.mono hb1.size)⟩
end Go.Proofs.Qxb6001410a
