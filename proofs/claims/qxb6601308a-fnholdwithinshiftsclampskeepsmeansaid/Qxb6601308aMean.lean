/-
  SEAT b6601308a: slices.Min, slices.Max, mean, the closure of holdWithin, as functions of the words.
-/
import Derived.Test.Qxb6601308aDom
namespace Go.Proofs.Qxb6601308a
open Go.ChangeShapes Go.WideShapes Go.ChangeAt Go.RowKit

def maxW (x y : Nat) : Nat := match Ieee.double.order x y with | some .lt => y | some .gt => x | _ => if (Ieee.double.read x).neg then y else x
def minW (x y : Nat) : Nat := match Ieee.double.order x y with | some .lt => x | some .gt => y | _ => if (Ieee.double.read x).neg then x else y
def subW (x y : Nat) : Nat := (Ieee.double.sub x y).getD 0
def addW (x y : Nat) : Nat := (Ieee.double.add x y).getD 0
def divW (x y : Nat) : Nat := (Ieee.double.div x y).getD 0
/-- One value, shifted and clamped. -/
def clampW (lo hi c x : Nat) : Nat := minW (maxW (subW x c) lo) hi
def sumW (xs : List Nat) : Nat := xs.foldl addW 0
def meanW (xs : List Nat) : Nat := divW (sumW xs) (floatOfInt .f64 xs.length)
def heldW (xs : List Nat) (lo hi c : Nat) : Nat := meanW (xs.map (clampW lo hi c))

theorem max_runW (x y : Nat) (hx : nn x) (hy : nn y) (ts : Array TypeId) (t : TypeId) (W : World) : (Builtin.max_ ts t #[.float .f64 x, .float .f64 y]).run Try.prog W = .ok (.float .f64 (maxW x y)) W := by
  have ho := order_key x y hx hy
  rcases Int.lt_trichotomy (key x) (key y) with h | h | h
  · rw [cmp_lt h] at ho
    simp [Builtin.max_, Builtin.max2, order64, ho, maxW]
  · rw [cmp_eq h] at ho
    simp [Builtin.max_, Builtin.max2, ho, maxW, FloatKind.decode, FloatKind.format]
    rfl
  · rw [cmp_gt h] at ho
    simp [Builtin.max_, Builtin.max2, order64, ho, maxW]

theorem min_runW (x y : Nat) (hx : nn x) (hy : nn y) (ts : Array TypeId) (t : TypeId) (W : World) : (Builtin.min_ ts t #[.float .f64 x, .float .f64 y]).run Try.prog W = .ok (.float .f64 (minW x y)) W := by
  have ho := order_key x y hx hy
  rcases Int.lt_trichotomy (key x) (key y) with h | h | h
  · rw [cmp_lt h] at ho
    simp [Builtin.min_, Builtin.min2, order64, ho, minW]
  · rw [cmp_eq h] at ho
    simp [Builtin.min_, Builtin.min2, ho, minW, FloatKind.decode, FloatKind.format]
    rfl
  · rw [cmp_gt h] at ho
    simp [Builtin.min_, Builtin.min2, order64, ho, minW]

theorem maxW_ok (x y : Nat) (hx : nn x) (hy : nn y) : (maxW x y = x ∨ maxW x y = y) ∧ key (maxW x y) = max (key x) (key y) := by
  have ho := order_key x y hx hy
  rcases Int.lt_trichotomy (key x) (key y) with h | h | h
  · have e : maxW x y = y := by unfold maxW; rw [ho, cmp_lt h]
    rw [e]; exact ⟨.inr rfl, by omega⟩
  · have e : maxW x y = if (Ieee.double.read x).neg then y else x := by unfold maxW; rw [ho, cmp_eq h]
    rw [e]
    split
    · exact ⟨.inr rfl, by omega⟩
    · exact ⟨.inl rfl, by omega⟩
  · have e : maxW x y = x := by unfold maxW; rw [ho, cmp_gt h]
    rw [e]; exact ⟨.inl rfl, by omega⟩

theorem minW_ok (x y : Nat) (hx : nn x) (hy : nn y) : (minW x y = x ∨ minW x y = y) ∧ key (minW x y) = min (key x) (key y) := by
  have ho := order_key x y hx hy
  rcases Int.lt_trichotomy (key x) (key y) with h | h | h
  · have e : minW x y = x := by unfold minW; rw [ho, cmp_lt h]
    rw [e]; exact ⟨.inl rfl, by omega⟩
  · have e : minW x y = if (Ieee.double.read x).neg then x else y := by unfold minW; rw [ho, cmp_eq h]
    rw [e]
    split
    · exact ⟨.inl rfl, by omega⟩
    · exact ⟨.inr rfl, by omega⟩
  · have e : minW x y = y := by unfold minW; rw [ho, cmp_gt h]
    rw [e]; exact ⟨.inr rfl, by omega⟩

theorem nn_cases {c : Nat} (h : nn c) : fin c ∨ rungW c = INF := by unfold nn at h; unfold fin; omega

/-- A finite number less a word that is no NaN: it is valid. -/
theorem subW_ok (x c : Nat) (hx : fin x) (hc : nn c) : Ieee.double.sub x c = some (subW x c) ∧ nn (subW x c) ∧ subW x c < 18446744073709551616 := by
  rcases nn_cases hc with h | h
  · obtain ⟨r, h1, _, h3, h4⟩ := sub_key x c hx h
    unfold subW; rw [h1]; exact ⟨rfl, h3, h4⟩
  · obtain ⟨r, h1, _, h3, h4⟩ := sub_inf x c hx h
    unfold subW; rw [h1]; exact ⟨rfl, h3, h4⟩

/-- .. and it does not go down as the number goes up. -/
theorem subW_mono (x y c : Nat) (hx : fin x) (hy : fin y) (hc : nn c) (h : key x ≤ key y) : key (subW x c) ≤ key (subW y c) := by
  rcases nn_cases hc with hc | hc
  · obtain ⟨r, h1, h2, _⟩ := sub_key x c hx hc
    obtain ⟨s, k1, k2, _⟩ := sub_key y c hy hc
    unfold subW
    rw [h1, k1]
    show key r ≤ key s
    rw [h2, k2]
    refine rk_mono ?_
    have := V_lt_iff y x
    omega
  · obtain ⟨r, h1, h2, _⟩ := sub_inf x c hx hc
    obtain ⟨s, k1, k2, _⟩ := sub_inf y c hy hc
    unfold subW
    rw [h1, k1]
    show key r ≤ key s
    rw [h2, k2]
    exact Int.le_refl _

/-- A sum of a word that is no NaN and a finite number: it is valid. -/
theorem addW_ok (s x : Nat) (hs : nn s) (hx : fin x) : Ieee.double.add s x = some (addW s x) ∧ nn (addW s x) ∧ addW s x < 18446744073709551616 := by
  rcases nn_cases hs with h | h
  · obtain ⟨r, h1, _, h3, h4⟩ := add_key s x h hx
    unfold addW; rw [h1]; exact ⟨rfl, h3, h4⟩
  · obtain ⟨m, i, e1, hi, v1⟩ := read_fin x hx
    have hk := key_word (negW s) INF (Nat.le_refl _)
    have e : Ieee.double.add s x = some (Ieee.double.word (negW s) INF) := by
      unfold Ieee.Format.add
      rw [e1, read_inf s h]
      rfl
    unfold addW
    rw [e]
    exact ⟨rfl, hk.2.1, hk.2.2.2⟩

theorem maxW_nn {x y : Nat} (hx : nn x) (hy : nn y) : nn (maxW x y) := by rcases (maxW_ok x y hx hy).1 with h | h <;> rw [h] <;> assumption
theorem minW_nn {x y : Nat} (hx : nn x) (hy : nn y) : nn (minW x y) := by rcases (minW_ok x y hx hy).1 with h | h <;> rw [h] <;> assumption

theorem key_fin {x : Nat} (h : fin x) : -(INF : Int) < key x ∧ key x < (INF : Int) := by unfold fin at h; unfold key; split <;> omega
theorem fin_key {x : Nat} (_hn : nn x) (h : -(INF : Int) < key x ∧ key x < (INF : Int)) : fin x := by
  unfold fin; unfold key at h; split at h <;> omega

theorem clampW_ok (lo hi c x : Nat) (hlo : fin lo) (hhi : fin hi) (_hle : key lo ≤ key hi) (hc : nn c) (hx : fin x) :
    key (clampW lo hi c x) = min (max (key (subW x c)) (key lo)) (key hi) ∧ fin (clampW lo hi c x) := by
  have h1 := (subW_ok x c hx hc).2.1
  have h2 := maxW_ok (subW x c) lo h1 (fin_nn hlo)
  have h3 := maxW_nn h1 (fin_nn hlo)
  have h4 := minW_ok (maxW (subW x c) lo) hi h3 (fin_nn hhi)
  have h5 := minW_nn h3 (fin_nn hhi)
  have e : key (clampW lo hi c x) = min (max (key (subW x c)) (key lo)) (key hi) := by unfold clampW; rw [h4.2, h2.2]
  refine ⟨e, fin_key h5 ?_⟩
  have k1 := key_fin hlo
  have k2 := key_fin hhi
  show -(INF : Int) < key (clampW lo hi c x) ∧ key (clampW lo hi c x) < (INF : Int)
  rw [e]
  omega

theorem clampW_wf (lo hi c x : Nat) (hlo : fin lo) (hhi : fin hi) (hc : nn c) (hx : fin x) (wl : lo < 18446744073709551616) (wh : hi < 18446744073709551616) : clampW lo hi c x < 18446744073709551616 := by
  have h1 := subW_ok x c hx hc
  have h2 := maxW_ok (subW x c) lo h1.2.1 (fin_nn hlo)
  have h3 := maxW_nn h1.2.1 (fin_nn hlo)
  have h4 := minW_ok (maxW (subW x c) lo) hi h3 (fin_nn hhi)
  unfold clampW
  rcases h4.1 with h | h
  · rw [h]
    rcases h2.1 with k | k
    · rw [k]; exact h1.2.2
    · rw [k]; exact wl
  · rw [h]; exact wh

theorem clampW_mono (lo hi c x y : Nat) (hlo : fin lo) (hhi : fin hi) (hle : key lo ≤ key hi) (hc : nn c) (hx : fin x) (hy : fin y) (h : key x ≤ key y) : key (clampW lo hi c x) ≤ key (clampW lo hi c y) := by
  rw [(clampW_ok lo hi c x hlo hhi hle hc hx).1, (clampW_ok lo hi c y hlo hhi hle hc hy).1]
  have := subW_mono x y c hx hy hc h
  omega

theorem sumW_nn (xs : List Nat) (h : ∀ i, i < xs.length → fin (xs.getD i 0)) : ∀ q, q ≤ xs.length → nn (sumW (xs.take q)) := by
  intro q
  induction q with
  | zero => intro _; show nn 0; unfold nn rungW INF; omega
  | succ q ih =>
    intro hq
    have := ih (by omega)
    rw [List.take_succ_eq_append_getElem (by omega)]
    unfold sumW
    rw [List.foldl_append]
    have hx := h q (by omega)
    have e : xs.getD q 0 = xs[q] := by simp [List.getD, show q < xs.length by omega]
    rw [e] at hx
    exact (addW_ok _ _ this hx).2.1

theorem sumW_step (xs : List Nat) (q : Nat) (h : q < xs.length) : sumW (xs.take (q + 1)) = addW (sumW (xs.take q)) (xs.getD q 0) := by
  rw [List.take_succ_eq_append_getElem h]
  unfold sumW
  rw [List.foldl_append]
  simp [List.getD, h]

end Go.Proofs.Qxb6601308a
