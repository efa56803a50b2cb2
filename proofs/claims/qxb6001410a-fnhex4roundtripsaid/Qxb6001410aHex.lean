/-
  SEAT b6001410a: hexDigit, hex4, ZZHex4.
-/
import Derived.Test.Qxb6001410aKit
import Derived.Laws.BitsAllLaws
namespace Go.Proofs.Qxb6001410a
open Go.ChangeShapes Go.WideShapes Go.ChangeAt Go.RowKit

def hexd (d : Int) (up : Bool) : Int := if d < 10 then 48 + d else if up then 55 + d else 87 + d
def hv (c : Int) : Int := if c ≤ 57 then c - 48 else if 97 ≤ c then c - 87 else c - 55
def isHx (c : Int) : Prop := (48 ≤ c ∧ c ≤ 57) ∨ (97 ≤ c ∧ c ≤ 102) ∨ (65 ≤ c ∧ c ≤ 70)

theorem ret_int {k : IntKind} {a b : Int} (h : a = b) : Ending.returned (.int k a) = .returned (.int k b) := by rw [h]

theorem ret_ib {k : IntKind} {a b : Int} {t : Bool} (h : a = b) : Ending.returned (.tuple #[.int k a, .bool t]) = .returned (.tuple #[.int k b, .bool t]) := by rw [h]

theorem hexDigit_any (w : World) (d : Int) (up : Bool) (h0 : 0 ≤ d) (h1 : d ≤ 15) :
    Calls Try.prog 25 #[.int .u16 d, .bool up] w fun e w' => e = .returned (.int .u8 (hexd d up)) ∧ w = w' := by
  by_cases h : d < 10
  · go_enter Try.func25, Try.ntmps25
    go_wp2
    go_ret
    exact ⟨ret_int (by simp [hexd, h]), rfl⟩
  · cases up with
    | true =>
      go_enter Try.func25, Try.ntmps25
      go_wp2
      go_ret
      exact ⟨ret_int (by simp [hexd]; omega), rfl⟩
    | false =>
      go_enter Try.func25, Try.ntmps25
      go_wp2
      go_ret
      exact ⟨ret_int (by simp [hexd]; omega), rfl⟩

def acc (zs : List Int) : Int := zs.foldl (fun n c => n * 16 + hv c) 0

theorem hv_bd {c : Int} (h : isHx c) : 0 ≤ hv c ∧ hv c ≤ 15 := by unfold isHx at h; unfold hv; split <;> (try split) <;> omega

theorem or_i32 (n d : Int) (h0 : 0 ≤ n) (h1 : n ≤ 4095) (h2 : 0 ≤ d) (h3 : d ≤ 15) : bits .or .i32 (n * 16) d = n * 16 + d := by
  obtain ⟨N, rfl⟩ := Int.eq_ofNat_of_zero_le h0
  obtain ⟨D, rfl⟩ := Int.eq_ofNat_of_zero_le h2
  have hj : N * 16 ||| D = N * 16 + D := nat_join 4 (N * 16) D (by omega) (by omega)
  have e : ((N : Int) * 16) = ((N * 16 : Nat) : Int) := by omega
  rw [e]
  show IntKind.i32.wrap ((BitVec.ofInt 32 ((N * 16 : Nat) : Int) ||| BitVec.ofInt 32 (D : Int)).toNat : Int) = _
  rw [BitVec.toNat_or, ofInt_u32 (N * 16) (by omega), ofInt_u32 D (by omega), hj]
  have hw : IntKind.i32.wrap ((N * 16 + D : Nat) : Int) = ((N * 16 + D : Nat) : Int) := by
    simp [IntKind.wrap, IntKind.bits, IntKind.signed]
    omega
  rw [hw]
  omega

theorem acc_snoc (zs : List Int) (c : Int) : acc (zs ++ [c]) = acc zs * 16 + hv c := by simp [acc]

theorem acc_take (zs : List Int) (k : Nat) (h : k < zs.length) : acc (zs.take (k + 1)) = acc (zs.take k) * 16 + hv (zs.getD k 0) := by
  rw [List.take_succ_eq_append_getElem h, acc_snoc]
  simp [List.getD, h]

theorem hex4_any (w : World) (b off len cap : Nat) (zs : List Int) (hz : zs.length = 4) (hl : 4 ≤ len) (hlc : len ≤ cap) (hm : cap ≤ maxLen)
    (hc : ∀ i, i < 4 → w.cell? ⟨b, off + i, none⟩ = some (.int .u8 (zs.getD i 0))) (hx : ∀ i, i < 4 → isHx (zs.getD i 0)) :
    Calls Try.prog 32 #[.slice (some ⟨b, off, none⟩) len cap] w fun e w' => e = .returned (.tuple #[.int .i32 (acc zs), .bool true]) ∧ w = w' := by
  unfold maxLen at hm
  have HZ : Hid (zs.length = 4) := hz
  have HC0 : Hid (∀ i, i < 4 → w.cell? ⟨b, off + i, none⟩ = some (.int .u8 (zs.getD i 0))) := hc
  have HX0 : Hid (∀ i, i < 4 → isHx (zs.getD i 0)) := hx
  clear hz hc hx
  go_enter Try.func32, Try.ntmps32
  go_wp2
  go_loop [4, 13] (fun n i => ∃ k : Nat, ∃ m : Int, k ≤ 4 ∧ i = .int .i64 k ∧ n = .int .i32 m ∧ Hid (m = acc (zs.take k)) ∧ 0 ≤ m ∧ (k < 4 → m ≤ 4095)  ∧ (k < 3 → m ≤ 255) ∧ (k < 2 → m ≤ 15) ∧ (k < 1 → m ≤ 0)) (fun _ i => 4 - (intOf i).toNat)
  case atStart => exact ⟨0, 0, Nat.zero_le _, rfl, rfl, rfl, by omega, by omega, by omega, by omega, by omega⟩
  case round =>
    obtain ⟨k, n, hk, rfl, rfl, HN, hn0, hn1, hn2, hn3, hn4⟩ := hrel
    by_cases hlt : k < 4
    · have hck := HC0.out k hlt
      obtain ⟨c, hcc⟩ : ∃ c, c = zs.getD k 0 := ⟨_, rfl⟩
      have hxk := HX0.out k hlt
      rw [← hcc] at hck hxk
      have hb := hv_bd hxk
      have HS : Hid (n * 16 + hv c = acc (zs.take (k + 1))) := by
        show _ = _
        rw [acc_take _ _ (by rw [HZ.out]; exact hlt), ← HN.out, hcc]
      have hn5 := hn1 hlt
      have HO : Hid (∀ d, 0 ≤ d → d ≤ 15 → bits .or .i32 (n * 16) d = n * 16 + d) := fun d h2 h3 => or_i32 n d hn0 hn5 h2 h3
      clear hcc
      rcases hxk with hxk | hxk | hxk
      · have e : hv c = c - 48 := by unfold hv; rw [if_pos (by omega)]
        rw [e] at HS
        have HE : Hid (hv c = c - 48) := e
        clear e hb
        go_wp2
        go_round
        case rel => exact ⟨k + 1, n * 16 + (c - 48), by omega, by go_num, by rw [HO.out _ (by omega) (by omega)], HS.out, by omega, by omega, by omega, by omega, by omega⟩
        case measure => simp [intOf]; omega
      · have e : hv c = c - 97 + 10 := by unfold hv; rw [if_neg (by omega), if_pos (by omega)]; omega
        rw [e] at HS
        clear e hb
        go_wp2
        go_round
        case rel => exact ⟨k + 1, n * 16 + (c - 97 + 10), by omega, by go_num, by rw [HO.out _ (by omega) (by omega)], HS.out, by omega, by omega, by omega, by omega, by omega⟩
        case measure => simp [intOf]; omega
      · have e : hv c = c - 65 + 10 := by unfold hv; rw [if_neg (by omega), if_neg (by omega)]; omega
        rw [e] at HS
        clear e hb
        go_wp2
        go_round
        case rel => exact ⟨k + 1, n * 16 + (c - 65 + 10), by omega, by go_num, by rw [HO.out _ (by omega) (by omega)], HS.out, by omega, by omega, by omega, by omega, by omega⟩
        case measure => simp [intOf]; omega
    · have hk4 : k = 4 := by omega
      subst hk4
      go_wp2
      go_ret2
      exact ⟨ret_ib (by rw [HN.out, List.take_of_length_le (by rw [HZ.out]; exact Nat.le_refl _)]), rfl⟩

theorem zzHex4_any (w : World) (b off len cap : Nat) (zs : List Int) (hz : zs.length = 4) (hl : 4 ≤ len) (hlc : len ≤ cap) (hm : cap ≤ maxLen)
    (hc : ∀ i, i < 4 → w.cell? ⟨b, off + i, none⟩ = some (.int .u8 (zs.getD i 0))) (hx : ∀ i, i < 4 → isHx (zs.getD i 0)) :
    Calls Try.prog 26 #[.slice (some ⟨b, off, none⟩) len cap] w fun e w' => e = .returned (.tuple #[.int .i32 (acc zs), .bool true]) ∧ w = w' := by
  have H := hex4_any w b off len cap zs hz hl hlc hm hc hx
  clear hz hc hx
  go_enter Try.func26, Try.ntmps26
  go_wp2_with (go_at_call 32; refine H.mono ?_; rintro e w' ⟨rfl, rfl⟩)
  go_ret2
  exact ⟨rfl, rfl⟩

theorem zzBytes24 (w : World) (a0 a1 : Int) (a : Option Addr) (len cap : Nat) (h : (len : Int) ≤ 1048576) :
    Calls Try.prog 24 #[.int .u16 a0, .int .u8 a1, .slice a len cap] w fun e w' => e = .returned (.bool true) ∧ w = w' := by
  go_enter Try.func24, Try.ntmps24
  go_wp2
  go_ret
  exact ⟨rfl, rfl⟩
theorem zzBytes24_no (w : World) (a0 a1 : Int) (a : Option Addr) (len cap : Nat) (h : (1048576 : Int) < len) :
    Calls Try.prog 24 #[.int .u16 a0, .int .u8 a1, .slice a len cap] w fun e w' => e = .returned (.bool false) ∧ w = w' := by
  go_enter Try.func24, Try.ntmps24
  go_wp2
  go_ret
  exact ⟨rfl, rfl⟩
end Go.Proofs.Qxb6001410a
