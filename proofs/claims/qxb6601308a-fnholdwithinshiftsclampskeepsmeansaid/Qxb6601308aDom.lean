/-
  SEAT b6601308a: holdDomain, cloneF, slices.Min, slices.Max, mean.
-/
import Derived.Test.Qxb6601308aOps
namespace Go.Proofs.Qxb6601308a
open Go.ChangeShapes Go.WideShapes Go.ChangeAt Go.RowKit

/-- What holdDomain asks. -/
structure Dom (xs : List Nat) (lo hi : Nat) : Prop where
  ne : xs ≠ []
  le : key lo ≤ key hi
  flo : fin lo
  fhi : fin hi
  fx : ∀ i, i < xs.length → fin (xs.getD i 0)

def leB (x y : Nat) : Bool := FloatKind.f64.format.order x y == some .lt || FloatKind.f64.format.order x y == some .eq

theorem fin_nn {x : Nat} (h : fin x) : nn x := by unfold fin at h; unfold nn; omega

theorem leB_key {x y : Nat} (hx : nn x) (hy : nn y) : leB x y = decide (key x ≤ key y) := by
  unfold leB
  rw [order64, order_key x y hx hy]
  rcases Int.lt_trichotomy (key x) (key y) with h | h | h
  · rw [cmp_lt h]; simp; omega
  · rw [cmp_eq h]; simp; omega
  · rw [cmp_gt h]; simp; omega

set_option maxHeartbeats 1000000 in
theorem domain_any (w : World) (a : Option Addr) (len cap : Nat) (xs : List Nat) (h : Fl w a len cap xs) (lo hi : Nat) :
    Calls Try.prog 13 #[.slice a len cap, .float .f64 lo, .float .f64 hi] w fun e w' => ∃ B n, e = .returned (.bool B) ∧ w' = w.drewN n ∧ (B = true → Dom xs lo hi) := by
  have hm : len ≤ 9223372036854775807 := by have := h.mx; have := h.le; unfold maxLen at *; omega
  by_cases h0 : len = 0
  · have b0 : ((len : Int) == 0) = true := by simpa using h0
    clear h0
    go_enter Try.func13, Try.ntmps13
    go_wp2
    go_ret
    exact ⟨false, 0, rfl, rfl, by simp⟩
  have b0 : ((len : Int) == 0) = false := by simpa using h0
  obtain ⟨L, hL⟩ : ∃ L, (FloatKind.f64.format.order lo hi == some .lt || FloatKind.f64.format.order lo hi == some .eq) = L := ⟨_, rfl⟩
  have HL : Hid (leB lo hi = L) := hL
  obtain ⟨DL, hDL⟩ : ∃ D, D = decide (rungW lo < INF) := ⟨_, rfl⟩
  obtain ⟨DH, hDH⟩ : ∃ D, D = decide (rungW hi < INF) := ⟨_, rfl⟩
  have HDL : Hid (DL = decide (rungW lo < INF)) := hDL
  have HDH : Hid (DH = decide (rungW hi < INF)) := hDH
  clear hDL hDH h0
  cases L with
  | false =>
    go_enter Try.func13, Try.ntmps13
    go_wp2
    go_ret
    exact ⟨false, 0, rfl, rfl, by simp⟩
  | true =>
    cases DL with
    | false =>
      go_enter Try.func13, Try.ntmps13
      go_wp2_with (go_at_call 27; refine (isFinite_any _ _ _ HDL).mono ?_; rintro ev w' ⟨rfl, n1, rfl⟩)
      go_ret
      exact ⟨false, n1, rfl, rfl, by simp⟩
    | true =>
      cases DH with
      | false =>
        go_enter Try.func13, Try.ntmps13
        go_wp2_with fail
        refine (isFinite_any _ _ _ HDL).mono ?_
        rintro ev w' ⟨rfl, n1, rfl⟩
        go_wp2_with fail
        refine (isFinite_any _ _ _ HDH).mono ?_
        rintro ev w' ⟨rfl, n2, rfl⟩
        go_wp2
        go_ret
        exact ⟨false, n1 + n2, rfl, rfl, by simp⟩
      | true =>
        have HZL : Hid (xs.length = len) := h.len_eq
        go_enter Try.func13, Try.ntmps13
        go_wp2_with fail
        refine (isFinite_any _ _ _ HDL).mono ?_
        rintro ev w' ⟨rfl, n1, rfl⟩
        go_wp2_with fail
        refine (isFinite_any _ _ _ HDH).mono ?_
        rintro ev w' ⟨rfl, n2, rfl⟩
        go_wp2
        go_loopg [7] len (fun k i wr => ∃ q n : Nat, q ≤ len ∧ Hid (k = len - q) ∧ i = .int .i64 q ∧ wr = w.drewN n ∧ Hid (∀ i, i < q → fin (xs.getD i 0)))
        case atStart => exact ⟨0, n1 + n2, Nat.zero_le _, rfl, rfl, rfl, fun i hi => by omega⟩
        case round =>
          obtain ⟨q, n, hq, HK, rfl, rfl, HF⟩ := hrel
          by_cases hlt : q < len
          · rcases h.rd with h00 | ⟨b, off, rfl, hlb, hc⟩
            · have := HZL.out; rw [h00] at this; simp at this; omega
            · have g := hc q (by rw [HZL.out]; exact hlt)
              obtain ⟨x, hx⟩ : ∃ x, x = xs.getD q 0 := ⟨_, rfl⟩
              rw [← hx] at g
              have HX : Hid (x = xs.getD q 0) := hx
              obtain ⟨D, hD⟩ : ∃ D, D = decide (rungW x < INF) := ⟨_, rfl⟩
              have HD : Hid (D = decide (rungW x < INF)) := hD
              clear hx hD hc
              cases D with
              | false =>
                go_wp2_with (go_at_call 27; refine (isFinite_any _ _ _ HD).mono ?_; rintro ev w' ⟨rfl, n3, rfl⟩)
                go_ret
                exact ⟨false, n + n3, rfl, rfl, by simp⟩
              | true =>
                go_wp2_with (go_at_call 27; refine (isFinite_any _ _ _ HD).mono ?_; rintro ev w' ⟨rfl, n3, rfl⟩)
                go_roundg (len - (q + 1))
                case measure => rw [HK.out]; omega
                case rel =>
                  refine ⟨q + 1, n + n3, by omega, rfl, by go_num, rfl, fun i hi => ?_⟩
                  by_cases e : i = q
                  · rw [e, ← HX.out]; have := HD.out.symm; simpa [fin] using this
                  · exact HF.out i (by omega)
          · go_wp2
            go_ret
            refine ⟨true, n, rfl, rfl, fun _ => ?_⟩
            have fl : fin lo := by have := HDL.out.symm; simpa [fin] using this
            have fh : fin hi := by have := HDH.out.symm; simpa [fin] using this
            refine ⟨?_, ?_, fl, fh, fun i hi => HF.out i (by rw [HZL.out] at hi; omega)⟩
            · intro e
              have := HZL.out
              rw [e] at this
              simp at this
              simp [← this] at b0
            · have := HL.out
              rw [leB_key (fin_nn fl) (fin_nn fh)] at this
              simpa using this

set_option maxHeartbeats 1000000 in
theorem clone_any (w : World) (a : Option Addr) (len cap : Nat) (xs : List Nat) (h : Fl w a len cap xs) (hl : (len : Int) ≤ 131072) (h0 : 0 < len) :
    Calls Try.prog 16 #[.slice a len cap] w fun e w' => e = .returned (.slice (some ⟨w.heap.size, 0, none⟩) len len) ∧ Row w' w.heap.size 22 (flV xs) ∧ Below w.heap.size w w' := by
  have q28 : ∀ (w : World) (a : Option Addr) (n c n' c' : Nat), (binOp .eql 28 (.slice a n c) (.slice none n' c')).run Try.prog w = .ok (.bool a.isNone) w := fun w a n c n' c' => Lib.run_eql_slice_nil w _ _ a n c n' c' Try.underlying28
  obtain ⟨i0, hi, hz0, hz1, hz2⟩ := info_parts Try.info22
  obtain ⟨b, off, rfl, hb, hc⟩ := h.cellAt h0
  have HC : Hid (∀ i, i < len → w.cell? ⟨b, off + i, none⟩ = some (.float .f64 (xs.getD i 0))) := hc
  have HL : Hid (xs.length = len) := h.len_eq
  clear hc h
  go_enter Try.func16, Try.ntmps16
  go_wp2_with (at_make; refine wpList_make_full _ rfl _ _ 28 rfl w.heap.size 22 i0 (.float .f64 0) 1 Try.underlying28 hi hz0 hz1 _ _ _ _ len rfl rfl rfl rfl (by rw [hz2]; omega) (by unfold maxLen; omega) (Nat.le_refl _) ?_)
  intro w1 hown1 hgrow1
  have hb1 : Below w.heap.size w w1 := (Below.refl _ _).grown hgrow1 (Nat.le_refl _) (by simp)
  have hr1 : Row w1 w.heap.size 22 (flV (List.replicate len 0)) := by
    have := row_of_own hown1
    simpa [flV, toList_madeCells_one] using this
  clear hown1 hgrow1
  go_wp2
  go_loopg [4] len (fun k i wr => ∃ (q : Nat) (ys : List Nat), q ≤ len ∧ Hid (k = len - q) ∧ i = .int .i64 q ∧ Hid (ys.length = len) ∧ Hid (∀ i, i < q → ys.getD i 0 = xs.getD i 0) ∧ Row wr w.heap.size 22 (flV ys) ∧ Below w.heap.size w wr)
  case atStart => exact ⟨0, List.replicate len 0, Nat.zero_le _, rfl, rfl, by show _ = _; simp, fun i hi => by omega, hr1, hb1⟩
  case round =>
    obtain ⟨q, ys, hq, HK, rfl, HYL, HY, hrow, hbel⟩ := hrel
    clear hr1 hb1
    by_cases hlt : q < len
    · have g := HC.out q hlt
      rw [← hbel.cell (p := ⟨b, off + q, none⟩) hb] at g
      have gy := hrow.cell q
      rw [flV_get ys q (by rw [HYL.out]; exact hlt)] at gy
      have fy := hrow.frozen q
      obtain ⟨x, hx⟩ : ∃ x, x = xs.getD q 0 := ⟨_, rfl⟩
      obtain ⟨y, hy⟩ : ∃ y, y = ys.getD q 0 := ⟨_, rfl⟩
      rw [← hx] at g
      rw [← hy] at gy
      have HX : Hid (x = xs.getD q 0) := hx
      clear hx hy
      have hR := hrow.set q (.float .f64 x)
      rw [flV_set] at hR
      have hB := hbel.setCell (p := ⟨w.heap.size, q, none⟩) (Nat.le_refl _) (.float .f64 x)
      go_wp2
      go_roundg (len - (q + 1))
      case measure => rw [HK.out]; omega
      case rel =>
        refine ⟨q + 1, ys.set q x, by omega, rfl, by go_num, by show _ = _; rw [List.length_set]; exact HYL.out, fun i hi => ?_, hR, hB⟩
        by_cases e : i = q
        · rw [e, getD_set_same _ _ _ _ (by rw [HYL.out]; exact hlt)]; exact HX.out
        · rw [getD_set_ne _ _ _ _ _ (fun k => e k.symm)]; exact HY.out i (by omega)
    · go_wp2
      go_ret
      have e : ys = xs := list_ext_getD (by rw [HYL.out, HL.out]) (fun i hi => HY.out i (by rw [HYL.out] at hi; omega))
      rw [e] at hrow
      exact ⟨rfl, hrow, hbel⟩
end Go.Proofs.Qxb6601308a
