/-
  SEAT b6600039a: jsb1HexDigit, jsb1Encode.
-/
import Derived.Test.Qxb6600039aKit
import Derived.Test.Qxb6600039aPlain
namespace Go.Proofs.Qxb6600039a
open Go.ChangeShapes Go.WideShapes Go.ChangeAt Go.RowKit

theorem hexDigit_any (w : World) (d : Int) (up : Bool) (h0 : 0 ≤ d) (h1 : d ≤ 15) :
    Calls Try.prog 30 #[.int .u8 d, .bool up] w fun e w' => e = .returned (.int .u8 (hexd d up)) ∧ w = w' := by
  by_cases h : d < 10
  · go_enter Try.func30, Try.ntmps30
    go_wp2
    go_ret
    exact ⟨ret_int (by simp [hexd, h]), rfl⟩
  · cases up with
    | true =>
      go_enter Try.func30, Try.ntmps30
      go_wp2
      go_ret
      exact ⟨ret_int (by simp [hexd]; omega), rfl⟩
    | false =>
      go_enter Try.func30, Try.ntmps30
      go_wp2
      go_ret
      exact ⟨ret_int (by simp [hexd]; omega), rfl⟩

theorem Sl.of_row_own {w : World} {base : Nat} {v : Value} {n : Nat} {zs : List Int} (h : w.ownsRow base 5 1 v n (zs.map (Value.int .u8))) (h8 : ∀ x ∈ zs, 0 ≤ x ∧ x ≤ 255) : ∃ a cap, v = .slice a n cap ∧ Sl w a n cap zs := by
  have hl : zs.length = n := by simpa using h.1
  rcases h.2 with ⟨rfl, rfl⟩ | ⟨g, cap, cur, rfl, hb, hg, h1, h2, _, _⟩
  · exact ⟨none, 0, rfl, hl, Nat.le_refl _, by unfold maxLen; omega, fun _ => ⟨rfl, rfl⟩, .inl (List.eq_nil_of_length_eq_zero hl), h8⟩
  · exact ⟨_, _, rfl, Sl.of_own h h8⟩

theorem and1_u8 (c : Int) (h0 : 0 ≤ c) (h1 : c ≤ 255) : (bits .and .u8 c 1 == 1) = upB c := by
  have e : bits .and .u8 c 1 = c % 2 := by
    rw [u8_and c 1 h0 (by omega) (by omega) (by omega), show (1 : Int).toNat = 1 from rfl, nat_mask1]
    omega
  rw [e]; rfl
theorem and15_u8 (c : Int) (h0 : 0 ≤ c) (h1 : c ≤ 255) : bits .and .u8 c 15 = c % 16 := by
  rw [u8_and c 15 h0 (by omega) (by omega) (by omega), show (15 : Int).toNat = 15 from rfl, nat_mask4]
  omega

/-- The encoder's row, k bytes on. -/
structure EncAt (w wr : World) (zs : List Int) (k : Nat) (v : Value) : Prop where
  own : wr.ownsRow w.heap.size 5 1 v (enc (zs.take k)).length ((enc (zs.take k)).map (Value.int .u8))
  bel : Below w.heap.size w wr

theorem EncAt.step {w wr w3 : World} {zs : List Int} {k : Nat} {v v' : Value} {o : Obj} (h : EncAt w wr zs k v) (hk : k < zs.length) (ns : List Int) (hn : enc1 (zs.getD k 0) = ns)
    (hown : w3.ownsRow w.heap.size 5 1 v' ((enc (zs.take k)).length + ns.length) ((enc (zs.take k)).map (Value.int .u8) ++ ns.map (Value.int .u8))) (hg : (wr.alloc o).grownBy w3 v.ownBlock) : EncAt w w3 zs (k + 1) v' := by
  refine ⟨?_, below_app h.bel h.bel.size h.own (Nat.le_refl _) hg⟩
  rw [enc_take zs k hk, hn, List.length_append, List.map_append]
  exact hown

set_option maxHeartbeats 4000000 in
set_option maxRecDepth 20000 in
theorem encode_any (w : World) (a : Option Addr) (len cap : Nat) (zs : List Int) (hs : Sl w a len cap zs) (hl : (len : Int) ≤ 65536) :
    Calls Try.prog 10 #[.slice a len cap] w fun e w' => ∃ a' cap', e = .returned (.slice a' (enc zs).length cap') ∧ Sl w' a' (enc zs).length cap' (enc zs) ∧ Below w.heap.size w w' := by
  obtain ⟨i0, hi, hz0, hz1, hz2⟩ := info_parts Try.info5
  have HZL : Hid (zs.length = len) := hs.len_eq
  go_enter Try.func10, Try.ntmps10
  go_wp2_with (at_make; refine wpList_make_own _ rfl _ _ 22 rfl w.heap.size 5 i0 (.int .u8 0) 1 Try.underlying22 hi hz0 hz1 _ _ _ (len + 2) rfl rfl (by omega) (by rw [hz2]; omega) (by unfold maxLen; omega) (Nat.le_refl _) ?_)
  intro w1 hown1 hgrow1
  have hE : EncAt w w1 zs 0 (.slice (some ⟨w.heap.size, 0, none⟩) 0 (len + 2)) := ⟨by simpa [enc] using hown1, (Below.refl _ _).grown hgrow1 (Nat.le_refl _) (by simp)⟩
  clear hown1 hgrow1
  go_wp2
  go_loopg [3, 4] len (fun k v i wr => ∃ q : Nat, q ≤ len ∧ Hid (k = len - q) ∧ i = .int .i64 q ∧ EncAt w wr zs q v)
  case atStart => exact ⟨0, Nat.zero_le _, rfl, rfl, hE⟩
  case round =>
    obtain ⟨q, hq, HK, rfl, hat⟩ := hrel
    clear hE
    by_cases hlt : q < len
    · rcases hs.rd with h00 | ⟨b, off, rfl, hlb, hc⟩
      · have := HZL.out; rw [h00] at this; simp at this; omega
      · have hltz : q < zs.length := by rw [HZL.out]; exact hlt
        have HLTZ : Hid (q < zs.length) := hltz
        have hcq := hc q hltz
        rw [← hat.bel.cell (p := ⟨b, off + q, none⟩) hlb] at hcq
        have hel : (enc (zs.take q)).length ≤ 393216 := by
          have h1 := enc_len (zs.take q)
          have h2 : (zs.take q).length ≤ q := List.length_take_le _ _
          omega
        obtain ⟨L, hL⟩ : ∃ L, L = (enc (zs.take q)).length := ⟨_, rfl⟩
        have hb8 : 0 ≤ zs.getD q 0 ∧ zs.getD q 0 ≤ 255 := hs.by8 _ (getD_mem hltz)
        obtain ⟨c, hcc⟩ : ∃ c, c = zs.getD q 0 := ⟨_, rfl⟩
        rw [← hcc] at hcq hb8
        have HC : Hid (c = zs.getD q 0) := hcc
        have hown := hat.own
        rw [← hL] at hown hel
        have HL : Hid (L = (enc (zs.take q)).length) := hL
        obtain ⟨X, hX⟩ : ∃ X, X = (enc (zs.take q)).map (Value.int .u8) := ⟨_, rfl⟩
        rw [← hX] at hown
        have HX : Hid (X = (enc (zs.take q)).map (Value.int .u8)) := hX
        have hbs := hat.bel.size
        have hc0 := hb8.1
        have hc1 := hb8.2
        clear hcc hL hX hs hc hltz hb8
        by_cases e34 : c = 34
        · have b34 : (c == 34) = true := by simpa using e34
          have HE : Hid (enc1 c = [92, 34]) := by show _ = _; rw [e34]; rfl
          clear e34
          go_wp2_with (at_builtin; refine wpList_append_own _ rfl (.tmp 28) (.tmp 29) 22 rfl w.heap.size 5 i0 (.int .u8 0) 1 1 Try.underlying22 hi hz0 hz1 hz2 rfl (by decide) _ L X rfl (hown.alloc _) ⟨wr.heap.size, 0, none⟩ 2 2 ([92, 34].map (Value.int .u8)) rfl rfl (cells_new _ _ _) (ints_oneCell _ _) (by unfold maxLen; omega) (by omega) (by simp; omega) ?_)
          intro v' w3 hown3 hgrow3 _
          have R : EncAt w w3 zs (q + 1) v' := hat.step HLTZ.out [92, 34] (by rw [← HC.out]; exact HE.out) (by rw [← HL.out, ← HX.out]; exact hown3) hgrow3
          clear hown3 hgrow3 hown
          go_wp2
          go_roundg (len - (q + 1))
          case measure => rw [HK.out]; omega
          case rel => exact ⟨q + 1, by omega, rfl, by go_num, R⟩
        have b34 : (c == 34) = false := by simpa using e34
        by_cases e92 : c = 92
        · have b92 : (c == 92) = true := by simpa using e92
          have HE : Hid (enc1 c = [92, 92]) := by show _ = _; rw [e92]; rfl
          clear e92
          go_wp2_with (at_builtin; refine wpList_append_own _ rfl (.tmp 34) (.tmp 35) 22 rfl w.heap.size 5 i0 (.int .u8 0) 1 1 Try.underlying22 hi hz0 hz1 hz2 rfl (by decide) _ L X rfl (hown.alloc _) ⟨wr.heap.size, 0, none⟩ 2 2 ([92, 92].map (Value.int .u8)) rfl rfl (cells_new _ _ _) (ints_oneCell _ _) (by unfold maxLen; omega) (by omega) (by simp; omega) ?_)
          intro v' w3 hown3 hgrow3 _
          have R : EncAt w w3 zs (q + 1) v' := hat.step HLTZ.out [92, 92] (by rw [← HC.out]; exact HE.out) (by rw [← HL.out, ← HX.out]; exact hown3) hgrow3
          clear hown3 hgrow3 hown
          go_wp2
          go_roundg (len - (q + 1))
          case measure => rw [HK.out]; omega
          case rel => exact ⟨q + 1, by omega, rfl, by go_num, R⟩
        have b92 : (c == 92) = false := by simpa using e92
        by_cases e47 : c = 47
        · have b47 : (c == 47) = true := by simpa using e47
          have HE : Hid (enc1 c = [92, 47]) := by show _ = _; rw [e47]; rfl
          clear e47
          go_wp2_with (at_builtin; refine wpList_append_own _ rfl (.tmp 40) (.tmp 41) 22 rfl w.heap.size 5 i0 (.int .u8 0) 1 1 Try.underlying22 hi hz0 hz1 hz2 rfl (by decide) _ L X rfl (hown.alloc _) ⟨wr.heap.size, 0, none⟩ 2 2 ([92, 47].map (Value.int .u8)) rfl rfl (cells_new _ _ _) (ints_oneCell _ _) (by unfold maxLen; omega) (by omega) (by simp; omega) ?_)
          intro v' w3 hown3 hgrow3 _
          have R : EncAt w w3 zs (q + 1) v' := hat.step HLTZ.out [92, 47] (by rw [← HC.out]; exact HE.out) (by rw [← HL.out, ← HX.out]; exact hown3) hgrow3
          clear hown3 hgrow3 hown
          go_wp2
          go_roundg (len - (q + 1))
          case measure => rw [HK.out]; omega
          case rel => exact ⟨q + 1, by omega, rfl, by go_num, R⟩
        have b47 : (c == 47) = false := by simpa using e47
        by_cases e10 : c = 10
        · have b10 : (c == 10) = true := by simpa using e10
          have HE : Hid (enc1 c = [92, 110]) := by show _ = _; rw [e10]; rfl
          clear e10
          go_wp2_with (at_builtin; refine wpList_append_own _ rfl (.tmp 46) (.tmp 47) 22 rfl w.heap.size 5 i0 (.int .u8 0) 1 1 Try.underlying22 hi hz0 hz1 hz2 rfl (by decide) _ L X rfl (hown.alloc _) ⟨wr.heap.size, 0, none⟩ 2 2 ([92, 110].map (Value.int .u8)) rfl rfl (cells_new _ _ _) (ints_oneCell _ _) (by unfold maxLen; omega) (by omega) (by simp; omega) ?_)
          intro v' w3 hown3 hgrow3 _
          have R : EncAt w w3 zs (q + 1) v' := hat.step HLTZ.out [92, 110] (by rw [← HC.out]; exact HE.out) (by rw [← HL.out, ← HX.out]; exact hown3) hgrow3
          clear hown3 hgrow3 hown
          go_wp2
          go_roundg (len - (q + 1))
          case measure => rw [HK.out]; omega
          case rel => exact ⟨q + 1, by omega, rfl, by go_num, R⟩
        have b10 : (c == 10) = false := by simpa using e10
        by_cases e9 : c = 9
        · have b9 : (c == 9) = true := by simpa using e9
          have HE : Hid (enc1 c = [92, 116]) := by show _ = _; rw [e9]; rfl
          clear e9
          go_wp2_with (at_builtin; refine wpList_append_own _ rfl (.tmp 52) (.tmp 53) 22 rfl w.heap.size 5 i0 (.int .u8 0) 1 1 Try.underlying22 hi hz0 hz1 hz2 rfl (by decide) _ L X rfl (hown.alloc _) ⟨wr.heap.size, 0, none⟩ 2 2 ([92, 116].map (Value.int .u8)) rfl rfl (cells_new _ _ _) (ints_oneCell _ _) (by unfold maxLen; omega) (by omega) (by simp; omega) ?_)
          intro v' w3 hown3 hgrow3 _
          have R : EncAt w w3 zs (q + 1) v' := hat.step HLTZ.out [92, 116] (by rw [← HC.out]; exact HE.out) (by rw [← HL.out, ← HX.out]; exact hown3) hgrow3
          clear hown3 hgrow3 hown
          go_wp2
          go_roundg (len - (q + 1))
          case measure => rw [HK.out]; omega
          case rel => exact ⟨q + 1, by omega, rfl, by go_num, R⟩
        have b9 : (c == 9) = false := by simpa using e9
        by_cases e13 : c = 13
        · have b13 : (c == 13) = true := by simpa using e13
          have HE : Hid (enc1 c = [92, 114]) := by show _ = _; rw [e13]; rfl
          clear e13
          go_wp2_with (at_builtin; refine wpList_append_own _ rfl (.tmp 58) (.tmp 59) 22 rfl w.heap.size 5 i0 (.int .u8 0) 1 1 Try.underlying22 hi hz0 hz1 hz2 rfl (by decide) _ L X rfl (hown.alloc _) ⟨wr.heap.size, 0, none⟩ 2 2 ([92, 114].map (Value.int .u8)) rfl rfl (cells_new _ _ _) (ints_oneCell _ _) (by unfold maxLen; omega) (by omega) (by simp; omega) ?_)
          intro v' w3 hown3 hgrow3 _
          have R : EncAt w w3 zs (q + 1) v' := hat.step HLTZ.out [92, 114] (by rw [← HC.out]; exact HE.out) (by rw [← HL.out, ← HX.out]; exact hown3) hgrow3
          clear hown3 hgrow3 hown
          go_wp2
          go_roundg (len - (q + 1))
          case measure => rw [HK.out]; omega
          case rel => exact ⟨q + 1, by omega, rfl, by go_num, R⟩
        have b13 : (c == 13) = false := by simpa using e13
        by_cases e8 : c = 8
        · have b8 : (c == 8) = true := by simpa using e8
          have HE : Hid (enc1 c = [92, 98]) := by show _ = _; rw [e8]; rfl
          clear e8
          go_wp2_with (at_builtin; refine wpList_append_own _ rfl (.tmp 64) (.tmp 65) 22 rfl w.heap.size 5 i0 (.int .u8 0) 1 1 Try.underlying22 hi hz0 hz1 hz2 rfl (by decide) _ L X rfl (hown.alloc _) ⟨wr.heap.size, 0, none⟩ 2 2 ([92, 98].map (Value.int .u8)) rfl rfl (cells_new _ _ _) (ints_oneCell _ _) (by unfold maxLen; omega) (by omega) (by simp; omega) ?_)
          intro v' w3 hown3 hgrow3 _
          have R : EncAt w w3 zs (q + 1) v' := hat.step HLTZ.out [92, 98] (by rw [← HC.out]; exact HE.out) (by rw [← HL.out, ← HX.out]; exact hown3) hgrow3
          clear hown3 hgrow3 hown
          go_wp2
          go_roundg (len - (q + 1))
          case measure => rw [HK.out]; omega
          case rel => exact ⟨q + 1, by omega, rfl, by go_num, R⟩
        have b8 : (c == 8) = false := by simpa using e8
        by_cases e12 : c = 12
        · have b12 : (c == 12) = true := by simpa using e12
          have HE : Hid (enc1 c = [92, 102]) := by show _ = _; rw [e12]; rfl
          clear e12
          go_wp2_with (at_builtin; refine wpList_append_own _ rfl (.tmp 70) (.tmp 71) 22 rfl w.heap.size 5 i0 (.int .u8 0) 1 1 Try.underlying22 hi hz0 hz1 hz2 rfl (by decide) _ L X rfl (hown.alloc _) ⟨wr.heap.size, 0, none⟩ 2 2 ([92, 102].map (Value.int .u8)) rfl rfl (cells_new _ _ _) (ints_oneCell _ _) (by unfold maxLen; omega) (by omega) (by simp; omega) ?_)
          intro v' w3 hown3 hgrow3 _
          have R : EncAt w w3 zs (q + 1) v' := hat.step HLTZ.out [92, 102] (by rw [← HC.out]; exact HE.out) (by rw [← HL.out, ← HX.out]; exact hown3) hgrow3
          clear hown3 hgrow3 hown
          go_wp2
          go_roundg (len - (q + 1))
          case measure => rw [HK.out]; omega
          case rel => exact ⟨q + 1, by omega, rfl, by go_num, R⟩
        have b12 : (c == 12) = false := by simpa using e12
        by_cases e32 : c < 32
        · have HE : Hid (enc1 c = [92, 117, 48, 48, hexd (c / 16) (upB c), hexd (c % 16) (upB c)]) := by show _ = _; unfold enc1; rw [if_neg e34, if_neg e92, if_neg e47, if_neg e10, if_neg e9, if_neg e13, if_neg e8, if_neg e12, if_pos e32]
          have e1 := and1_u8 c hc0 hc1
          have e15 := and15_u8 c hc0 hc1
          obtain ⟨u, hu⟩ : ∃ u, upB c = u := ⟨_, rfl⟩
          obtain ⟨d, hd⟩ : ∃ d, c % 16 = d := ⟨_, rfl⟩
          rw [hu] at e1 HE
          rw [hd] at e15 HE
          have hd0 : 0 ≤ d ∧ d ≤ 15 := by omega
          clear hu hd e34 e92 e47 e10 e9 e13 e8 e12
          go_wp2_with fail
          refine (hexDigit_any _ _ _ (by omega) (by omega)).mono ?_
          rintro ev w' ⟨rfl, rfl⟩
          go_wp2_with fail
          refine (hexDigit_any _ _ _ hd0.1 hd0.2).mono ?_
          rintro ev w' ⟨rfl, rfl⟩
          go_wp2_with (at_builtin; refine wpList_append_own _ rfl (.tmp 79) (.tmp 88) 22 rfl w.heap.size 5 i0 (.int .u8 0) 1 1 Try.underlying22 hi hz0 hz1 hz2 rfl (by decide) _ L X rfl (hown.alloc _) ⟨wr.heap.size, 0, none⟩ 6 6 ([92, 117, 48, 48, hexd (c / 16) u, hexd d u].map (Value.int .u8)) rfl rfl (cells_new _ _ _) (ints_oneCell _ _) (by unfold maxLen; omega) (by omega) (by simp; omega) ?_)
          intro v' w3 hown3 hgrow3 _
          have R : EncAt w w3 zs (q + 1) v' := hat.step HLTZ.out [92, 117, 48, 48, hexd (c / 16) u, hexd d u] (by rw [← HC.out]; exact HE.out) (by rw [← HL.out, ← HX.out]; exact hown3) hgrow3
          clear hown3 hgrow3 hown
          go_wp2
          go_roundg (len - (q + 1))
          case measure => rw [HK.out]; omega
          case rel => exact ⟨q + 1, by omega, rfl, by go_num, R⟩
        have HE : Hid (enc1 c = [c]) := by show _ = _; unfold enc1; rw [if_neg e34, if_neg e92, if_neg e47, if_neg e10, if_neg e9, if_neg e13, if_neg e8, if_neg e12, if_neg e32]
        clear e34 e92 e47 e10 e9 e13 e8 e12
        go_wp2_with (at_builtin; refine wpList_append_own _ rfl (.tmp 21) (.tmp 23) 22 rfl w.heap.size 5 i0 (.int .u8 0) 1 1 Try.underlying22 hi hz0 hz1 hz2 rfl (by decide) _ L X rfl (hown.alloc _) ⟨wr.heap.size, 0, none⟩ 1 1 ([c].map (Value.int .u8)) rfl rfl (cells_new _ _ _) (ints_oneCell _ _) (by unfold maxLen; omega) (by omega) (by simp; omega) ?_)
        intro v' w3 hown3 hgrow3 _
        have R : EncAt w w3 zs (q + 1) v' := hat.step HLTZ.out [c] (by rw [← HC.out]; exact HE.out) (by rw [← HL.out, ← HX.out]; exact hown3) hgrow3
        clear hown3 hgrow3 hown
        go_wp2
        go_roundg (len - (q + 1))
        case measure => rw [HK.out]; omega
        case rel => exact ⟨q + 1, by omega, rfl, by go_num, R⟩
    · go_wp2
      go_ret
      have hfin := hat.own
      rw [List.take_of_length_le (by rw [HZL.out]; omega)] at hfin
      obtain ⟨a', cap', rfl, hsl⟩ := Sl.of_row_own hfin (enc_by8 _ hs.by8)
      exact ⟨a', cap', rfl, hsl, hat.bel⟩
end Go.Proofs.Qxb6600039a
