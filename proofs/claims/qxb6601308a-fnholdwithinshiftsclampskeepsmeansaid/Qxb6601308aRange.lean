/-
  SEAT b6601308a: what holdWithin leaves lies in range and keeps the order; its callers.
-/
import Derived.Test.Qxb6601308aSort
namespace Go.Proofs.Qxb6601308a
open Go.ChangeShapes Go.WideShapes Go.ChangeAt Go.RowKit

structure Good (xs ys : List Nat) (lo hi : Nat) : Prop where
  len : ys.length = xs.length
  fy : ∀ i, i < xs.length → fin (ys.getD i 0)
  lo : ∀ i, i < xs.length → key lo ≤ key (ys.getD i 0)
  hi : ∀ i, i < xs.length → key (ys.getD i 0) ≤ key hi
  mono : ∀ a b, a < xs.length → b < xs.length → key (xs.getD a 0) ≤ key (xs.getD b 0) → key (ys.getD a 0) ≤ key (ys.getD b 0)

theorem geB_key {x y : Nat} (hx : nn x) (hy : nn y) : geB x y = decide (key y ≤ key x) := by
  unfold geB
  rw [order64, order_key x y hx hy]
  rcases Int.lt_trichotomy (key x) (key y) with h | h | h
  · rw [cmp_lt h]; simp; omega
  · rw [cmp_eq h]; simp; omega
  · rw [cmp_gt h]; simp; omega

theorem eqB_key {x y : Nat} (hx : nn x) (hy : nn y) : (FloatKind.f64.format.order x y == some .eq) = decide (key x = key y) := by
  rw [order64, order_key x y hx hy]
  rcases Int.lt_trichotomy (key x) (key y) with h | h | h
  · rw [cmp_lt h]; simp; omega
  · rw [cmp_eq h]; simp; omega
  · rw [cmp_gt h]; simp; omega

theorem gtB_key {x y : Nat} (hx : nn x) (hy : nn y) : (FloatKind.f64.format.order x y == some .gt) = decide (key y < key x) := by
  rw [order64, order_key x y hx hy]
  rcases Int.lt_trichotomy (key x) (key y) with h | h | h
  · rw [cmp_lt h]; simp; omega
  · rw [cmp_eq h]; simp; omega
  · rw [cmp_gt h]; simp; omega

theorem good_of_held {xs ys : List Nat} {lo hi : Nat} (hd : Dom xs lo hi) (h : Held xs lo hi ys) : Good xs ys lo hi := by
  have hp : 0 < xs.length := by
    cases e : xs with
    | nil => exact absurd e hd.ne
    | cons a l => simp
  have hmi := minsW_ok xs hd.fx xs.length hp (Nat.le_refl _)
  have hma := maxsW_ok xs hd.fx xs.length hp (Nat.le_refl _)
  rw [List.take_length] at hmi hma
  rcases h with ⟨h, rfl⟩ | ⟨_, below, above, hh, rfl⟩
  · rw [Bool.and_eq_true, geB_key (fin_nn hmi.1) (fin_nn hd.flo), leB_key (fin_nn hma.1) (fin_nn hd.fhi), decide_eq_true_iff, decide_eq_true_iff] at h
    exact ⟨rfl, hd.fx, fun i hi => Int.le_trans h.1 (hmi.2.2 i hi), fun i hi => Int.le_trans (hma.2.2 i hi) h.2, fun _ _ _ _ h => h⟩
  · have hc : ∀ i, i < xs.length → (xs.map (clampW lo hi above)).getD i 0 = clampW lo hi above (xs.getD i 0) := fun i hi => map_getD _ _ _ hi
    have hok := fun i (h : i < xs.length) => clampW_ok lo hi above (xs.getD i 0) hd.flo hd.fhi hd.le hh.na (hd.fx i h)
    refine ⟨by simp, fun i h => ?_, fun i h => ?_, fun i h => ?_, fun a b h1 h2 h3 => ?_⟩
    · rw [hc i h]; exact (hok i h).2
    · rw [hc i h, (hok i h).1]; have := hd.le; omega
    · rw [hc i h, (hok i h).1]; omega
    · rw [hc a h1, hc b h2]; exact clampW_mono lo hi above _ _ hd.flo hd.fhi hd.le hh.na (hd.fx a h1) (hd.fx b h2) h3

set_option maxHeartbeats 1000000 in
theorem hold17 (w : World) (G len : Nat) (xs : List Nat) (lo hi : Nat) (hrow : Row w G 22 (flV xs)) (hl : xs.length = len) (h0 : 0 < len) (h1 : len ≤ 131072) (hw : ∀ n ∈ xs, n < 18446744073709551616) (hd : Dom xs lo hi) :
    Calls Try.prog 17 #[.slice (some ⟨G, 0, none⟩) len len, .float .f64 lo, .float .f64 hi] w fun e w' => ∃ ys, e = .returned (.tuple #[]) ∧ Row w' G 22 (flV ys) ∧ Held xs lo hi ys ∧ OffB G w.heap.size w w' := by
  have H := hold_any w G len xs lo hi hrow hl h0 h1 hw hd
  clear hrow hl h0 h1 hw hd
  go_enter Try.func17, Try.ntmps17
  go_wp2_with fail
  refine H.mono ?_
  rintro ev w' ⟨ys, rfl, p1, p2, p3⟩
  go_wp2
  go_end0
  exact ⟨ys, rfl, p1, p2, p3⟩

set_option maxHeartbeats 1000000 in
theorem zz18 (w : World) (a : Option Addr) (len cap lo hi : Nat) (hl : len ≤ 9223372036854775807) :
    Calls Try.prog 18 #[.slice a len cap, .float .f64 lo, .float .f64 hi] w fun e w' => e = .returned (.bool (decide (len ≤ 1048576))) ∧ w = w' := by
  by_cases h : len ≤ 1048576
  · have h1 : (len : Int) ≤ 1048576 := by omega
    go_enter Try.func18, Try.ntmps18
    go_wp2
    go_ret
    exact ⟨by first | (rw [decide_eq_true h]; rfl) | rfl, rfl⟩
  · have h1 : ¬ (len : Int) ≤ 1048576 := by omega
    go_enter Try.func18, Try.ntmps18
    go_wp2
    go_ret
    exact ⟨by first | (rw [decide_eq_false h]; rfl) | rfl, rfl⟩
end Go.Proofs.Qxb6601308a
