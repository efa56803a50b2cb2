/-
  SEAT b6601308a: slices.Min, slices.Max.
-/
import Derived.Test.Qxb6601308aMeanWalk
namespace Go.Proofs.Qxb6601308a
open Go.ChangeShapes Go.WideShapes Go.ChangeAt Go.RowKit

def minsW (xs : List Nat) : Nat := (xs.drop 1).foldl minW (xs.getD 0 0)

theorem minsW_one (xs : List Nat) (h : 0 < xs.length) : minsW (xs.take 1) = xs.getD 0 0 := by
  unfold minsW
  cases xs with
  | nil => simp at h
  | cons x r => simp [List.getD]

theorem minsW_step (xs : List Nat) (q : Nat) (h1 : 1 ≤ q) (h : q < xs.length) : minsW (xs.take (q + 1)) = minW (minsW (xs.take q)) (xs.getD q 0) := by
  unfold minsW
  rw [List.take_succ_eq_append_getElem h, List.drop_append, List.foldl_append]
  have e0 : (xs.take q).length = q := by simp; omega
  have e1 : 1 - (xs.take q).length = 0 := by omega
  have e2 : (xs.take q ++ [xs[q]]).getD 0 0 = (xs.take q).getD 0 0 := by
    simp only [List.getD]
    rw [List.getElem?_append_left (by omega)]
  rw [e1, e2]
  simp [List.getD, h]

theorem minsW_ok (xs : List Nat) (hf : ∀ i, i < xs.length → fin (xs.getD i 0)) : ∀ q, 1 ≤ q → q ≤ xs.length → fin (minsW (xs.take q)) ∧ minsW (xs.take q) ∈ xs ∧ ∀ i, i < q → key (minsW (xs.take q)) ≤ key (xs.getD i 0) := by
  intro q
  induction q with
  | zero => intro h; omega
  | succ q ih =>
    intro _ hq
    by_cases h0 : q = 0
    · subst h0
      rw [minsW_one xs (by omega)]
      refine ⟨hf 0 (by omega), getD_mem' (by omega), fun i hi => ?_⟩
      have : i = 0 := by omega
      rw [this]; exact Int.le_refl _
    · have hh := ih (by omega) (by omega)
      rw [minsW_step xs q (by omega) (by omega)]
      have hok := minW_ok (minsW (xs.take q)) (xs.getD q 0) (fin_nn hh.1) (fin_nn (hf q (by omega)))
      refine ⟨?_, ?_, fun i hi => ?_⟩
      · rcases hok.1 with e | e
        · rw [e]; exact hh.1
        · rw [e]; exact hf q (by omega)
      · rcases hok.1 with e | e
        · rw [e]; exact hh.2.1
        · rw [e]; exact getD_mem' (by omega)
      · rw [hok.2]
        by_cases e : i = q
        · rw [e]; omega
        · have := hh.2.2 i (by omega); omega

set_option maxHeartbeats 1000000 in
theorem min_any (w : World) (a : Option Addr) (len cap : Nat) (xs : List Nat) (h : Fl w a len cap xs) (h0 : 0 < len) (hf : ∀ i, i < xs.length → fin (xs.getD i 0)) (M : Nat) (HM : Hid (M = minsW xs)) :
    Calls Try.prog 34 #[.slice a len cap] w fun e w' => e = .returned (.float .f64 M) ∧ w' = w := by
  have hm : len ≤ 9223372036854775807 := by have := h.mx; have := h.le; unfold maxLen at *; omega
  obtain ⟨b, off, rfl, hb, hc⟩ := h.cellAt h0
  have HC : Hid (∀ i, i < len → w.cell? ⟨b, off + i, none⟩ = some (.float .f64 (xs.getD i 0))) := hc
  have HL : Hid (xs.length = len) := h.len_eq
  have HF : Hid (∀ i, i < xs.length → fin (xs.getD i 0)) := hf
  have g0 := hc 0 h0
  rw [Nat.add_zero] at g0
  obtain ⟨x0, hx0⟩ : ∃ x, x = xs.getD 0 0 := ⟨_, rfl⟩
  rw [← hx0] at g0
  have HX0 : Hid (x0 = minsW (xs.take 1)) := by show _ = _; rw [minsW_one xs (by rw [HL.out]; exact h0)]; exact hx0
  have h0I : (0 : Int) < (len : Int) := by omega
  clear hc h hf hx0
  go_enter Try.func34, Try.ntmps34
  go_wp2
  go_loopg [3, 4] (len - 1) (fun k s i wr => ∃ q m : Nat, 1 ≤ q ∧ q ≤ len ∧ Hid (k = len - q) ∧ i = .int .i64 q ∧ s = .float .f64 m ∧ Hid (m = minsW (xs.take q)) ∧ w = wr)
  case atStart => exact ⟨1, x0, Nat.le_refl _, h0, rfl, rfl, rfl, HX0, rfl⟩
  case round =>
    obtain ⟨q, m, hq1, hq, HK, rfl, rfl, HMM, rfl⟩ := hrel
    by_cases hlt : q < len
    · have g := HC.out q hlt
      obtain ⟨x, hx⟩ : ∃ x, x = xs.getD q 0 := ⟨_, rfl⟩
      rw [← hx] at g
      have hfx : fin x := by rw [hx]; exact HF.out q (by rw [HL.out]; exact hlt)
      have hfm : fin m := by rw [HMM.out]; exact (minsW_ok xs HF.out q hq1 (by rw [HL.out]; exact hq)).1
      have hrun := min_runW m x (fin_nn hfm) (fin_nn hfx)
      have HST : Hid (minW m x = minsW (xs.take (q + 1))) := by show _ = _; rw [minsW_step xs q hq1 (by rw [HL.out]; exact hlt), ← HMM.out, hx]
      clear hx hfx hfm
      go_wp2
      go_roundg (len - (q + 1))
      case measure => rw [HK.out]; omega
      case rel => exact ⟨q + 1, minW m x, by omega, by omega, rfl, by go_num, rfl, HST, rfl⟩
    · have e : m = M := by rw [HMM.out, HM.out, List.take_of_length_le (by rw [HL.out]; omega)]
      have HEM : Hid (m = M) := e
      clear e
      go_wp2
      go_ret
      exact ⟨by rw [HEM.out]; rfl, rfl⟩

def maxsW (xs : List Nat) : Nat := (xs.drop 1).foldl maxW (xs.getD 0 0)

theorem maxsW_one (xs : List Nat) (h : 0 < xs.length) : maxsW (xs.take 1) = xs.getD 0 0 := by
  unfold maxsW
  cases xs with
  | nil => simp at h
  | cons x r => simp [List.getD]

theorem maxsW_step (xs : List Nat) (q : Nat) (h1 : 1 ≤ q) (h : q < xs.length) : maxsW (xs.take (q + 1)) = maxW (maxsW (xs.take q)) (xs.getD q 0) := by
  unfold maxsW
  rw [List.take_succ_eq_append_getElem h, List.drop_append, List.foldl_append]
  have e0 : (xs.take q).length = q := by simp; omega
  have e1 : 1 - (xs.take q).length = 0 := by omega
  have e2 : (xs.take q ++ [xs[q]]).getD 0 0 = (xs.take q).getD 0 0 := by
    simp only [List.getD]
    rw [List.getElem?_append_left (by omega)]
  rw [e1, e2]
  simp [List.getD, h]

theorem maxsW_ok (xs : List Nat) (hf : ∀ i, i < xs.length → fin (xs.getD i 0)) : ∀ q, 1 ≤ q → q ≤ xs.length → fin (maxsW (xs.take q)) ∧ maxsW (xs.take q) ∈ xs ∧ ∀ i, i < q → key (xs.getD i 0) ≤ key (maxsW (xs.take q)) := by
  intro q
  induction q with
  | zero => intro h; omega
  | succ q ih =>
    intro _ hq
    by_cases h0 : q = 0
    · subst h0
      rw [maxsW_one xs (by omega)]
      refine ⟨hf 0 (by omega), getD_mem' (by omega), fun i hi => ?_⟩
      have : i = 0 := by omega
      rw [this]; exact Int.le_refl _
    · have hh := ih (by omega) (by omega)
      rw [maxsW_step xs q (by omega) (by omega)]
      have hok := maxW_ok (maxsW (xs.take q)) (xs.getD q 0) (fin_nn hh.1) (fin_nn (hf q (by omega)))
      refine ⟨?_, ?_, fun i hi => ?_⟩
      · rcases hok.1 with e | e
        · rw [e]; exact hh.1
        · rw [e]; exact hf q (by omega)
      · rcases hok.1 with e | e
        · rw [e]; exact hh.2.1
        · rw [e]; exact getD_mem' (by omega)
      · rw [hok.2]
        by_cases e : i = q
        · rw [e]; omega
        · have := hh.2.2 i (by omega); omega

set_option maxHeartbeats 1000000 in
theorem max_any (w : World) (a : Option Addr) (len cap : Nat) (xs : List Nat) (h : Fl w a len cap xs) (h0 : 0 < len) (hf : ∀ i, i < xs.length → fin (xs.getD i 0)) (M : Nat) (HM : Hid (M = maxsW xs)) :
    Calls Try.prog 35 #[.slice a len cap] w fun e w' => e = .returned (.float .f64 M) ∧ w' = w := by
  have hm : len ≤ 9223372036854775807 := by have := h.mx; have := h.le; unfold maxLen at *; omega
  obtain ⟨b, off, rfl, hb, hc⟩ := h.cellAt h0
  have HC : Hid (∀ i, i < len → w.cell? ⟨b, off + i, none⟩ = some (.float .f64 (xs.getD i 0))) := hc
  have HL : Hid (xs.length = len) := h.len_eq
  have HF : Hid (∀ i, i < xs.length → fin (xs.getD i 0)) := hf
  have g0 := hc 0 h0
  rw [Nat.add_zero] at g0
  obtain ⟨x0, hx0⟩ : ∃ x, x = xs.getD 0 0 := ⟨_, rfl⟩
  rw [← hx0] at g0
  have HX0 : Hid (x0 = maxsW (xs.take 1)) := by show _ = _; rw [maxsW_one xs (by rw [HL.out]; exact h0)]; exact hx0
  have h0I : (0 : Int) < (len : Int) := by omega
  clear hc h hf hx0
  go_enter Try.func35, Try.ntmps35
  go_wp2
  go_loopg [3, 4] (len - 1) (fun k s i wr => ∃ q m : Nat, 1 ≤ q ∧ q ≤ len ∧ Hid (k = len - q) ∧ i = .int .i64 q ∧ s = .float .f64 m ∧ Hid (m = maxsW (xs.take q)) ∧ w = wr)
  case atStart => exact ⟨1, x0, Nat.le_refl _, h0, rfl, rfl, rfl, HX0, rfl⟩
  case round =>
    obtain ⟨q, m, hq1, hq, HK, rfl, rfl, HMM, rfl⟩ := hrel
    by_cases hlt : q < len
    · have g := HC.out q hlt
      obtain ⟨x, hx⟩ : ∃ x, x = xs.getD q 0 := ⟨_, rfl⟩
      rw [← hx] at g
      have hfx : fin x := by rw [hx]; exact HF.out q (by rw [HL.out]; exact hlt)
      have hfm : fin m := by rw [HMM.out]; exact (maxsW_ok xs HF.out q hq1 (by rw [HL.out]; exact hq)).1
      have hrun := max_runW m x (fin_nn hfm) (fin_nn hfx)
      have HST : Hid (maxW m x = maxsW (xs.take (q + 1))) := by show _ = _; rw [maxsW_step xs q hq1 (by rw [HL.out]; exact hlt), ← HMM.out, hx]
      clear hx hfx hfm
      go_wp2
      go_roundg (len - (q + 1))
      case measure => rw [HK.out]; omega
      case rel => exact ⟨q + 1, maxW m x, by omega, by omega, rfl, by go_num, rfl, HST, rfl⟩
    · have e : m = M := by rw [HMM.out, HM.out, List.take_of_length_le (by rw [HL.out]; omega)]
      have HEM : Hid (m = M) := e
      clear e
      go_wp2
      go_ret
      exact ⟨by rw [HEM.out]; rfl, rfl⟩
end Go.Proofs.Qxb6601308a
