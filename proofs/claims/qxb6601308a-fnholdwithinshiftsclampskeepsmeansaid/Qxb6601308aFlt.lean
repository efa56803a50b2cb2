/-
  SEAT b6601308a: double precision words as integers: their order, and that rounding keeps it. No Go in sight.
-/
import Derived.Laws.FloatArith
import Derived.WalkKit
namespace Go.Proofs.Qxb6601308a
open Ieee

def rungW (x : Nat) : Nat := x % 9223372036854775808
def negW (x : Nat) : Bool := x / 9223372036854775808 % 2 == 1
/-- The rung of infinity. -/
def INF : Nat := 9218868437227405312
/-- It is no NaN. -/
def nn (x : Nat) : Prop := rungW x ≤ INF
def fin (x : Nat) : Prop := rungW x < INF
/-- The words in their order, as integers. -/
def key (x : Nat) : Int := if negW x then -(rungW x : Int) else (rungW x : Int)

/-- A rung's magnitude, in units of the least place. -/
def sc (r : Nat) : Nat := if r < 4503599627370496 then r else (4503599627370496 + r % 4503599627370496) * 2 ^ (r / 4503599627370496 - 1)
def sgI (s : Bool) (n : Nat) : Int := if s then -(n : Int) else (n : Int)
/-- A finite word's value, in units of the least place. -/
def V (x : Nat) : Int := sgI (negW x) (sc (rungW x))

theorem dbl_binade : double.binade = 4503599627370496 := rfl
theorem dbl_inf : double.infRung = INF := rfl
theorem dbl_sign : double.signWeight = 9223372036854775808 := rfl
theorem dbl_least : double.leastPlace = -1074 := rfl

theorem read_eq (x : Nat) : double.read x = if rungW x < 4503599627370496 then .number (negW x) (rungW x) (-1074) else if rungW x < INF then .number (negW x) (4503599627370496 + rungW x % 4503599627370496) (-1074 + (rungW x / 4503599627370496 - 1 : Nat)) else if rungW x = INF then .infinity (negW x) else .nan (negW x) (rungW x - INF) := rfl

theorem read_fin (x : Nat) (h : fin x) : ∃ m p, double.read x = .number (negW x) m p ∧ -1074 ≤ p ∧ m * 2 ^ (p + 1074).toNat = sc (rungW x) := by
  unfold fin at h
  rw [read_eq]
  by_cases h1 : rungW x < 4503599627370496
  · rw [if_pos h1]
    refine ⟨_, _, rfl, Int.le_refl _, ?_⟩
    simp [sc, h1]
  · rw [if_neg h1, if_pos h]
    refine ⟨_, _, rfl, by omega, ?_⟩
    have e : (-1074 + ((rungW x / 4503599627370496 - 1 : Nat) : Int) + 1074).toNat = rungW x / 4503599627370496 - 1 := by omega
    rw [e]
    simp [sc, h1]

theorem read_inf (x : Nat) (h : rungW x = INF) : double.read x = .infinity (negW x) := by
  rw [read_eq]
  have h1 : ¬ rungW x < 4503599627370496 := by rw [h]; unfold INF; omega
  rw [if_neg h1, if_neg (by omega), if_pos h]

theorem read_nan (x : Nat) (h : ¬ nn x) : double.read x = .nan (negW x) (rungW x - INF) := by
  unfold nn at h
  rw [read_eq]
  have h1 : ¬ rungW x < 4503599627370496 := by unfold INF at h; omega
  rw [if_neg h1, if_neg (by omega), if_neg (by omega)]

theorem sc_succ (r : Nat) : sc r < sc (r + 1) := by
  unfold sc
  by_cases h1 : r + 1 < 4503599627370496
  · rw [if_pos (by omega), if_pos h1]; omega
  · rw [if_neg h1]
    by_cases h2 : r < 4503599627370496
    · rw [if_pos h2]
      have e : r + 1 = 4503599627370496 := by omega
      rw [e]
      simp
      omega
    · rw [if_neg h2]
      obtain ⟨q, t, hr, ht⟩ : ∃ q t, r = (q + 1) * 4503599627370496 + t ∧ t < 4503599627370496 :=
        ⟨r / 4503599627370496 - 1, r % 4503599627370496, by omega, by omega⟩
      by_cases h3 : t + 1 < 4503599627370496
      · have e1 : r % 4503599627370496 = t := by omega
        have e2 : r / 4503599627370496 - 1 = q := by omega
        have e3 : (r + 1) % 4503599627370496 = t + 1 := by omega
        have e4 : (r + 1) / 4503599627370496 - 1 = q := by omega
        rw [e1, e2, e3, e4]
        exact Nat.mul_lt_mul_of_pos_right (by omega) (Nat.two_pow_pos q)
      · have e1 : r % 4503599627370496 = 4503599627370495 := by omega
        have e2 : r / 4503599627370496 - 1 = q := by omega
        have e3 : (r + 1) % 4503599627370496 = 0 := by omega
        have e4 : (r + 1) / 4503599627370496 - 1 = q + 1 := by omega
        rw [e1, e2, e3, e4, Nat.pow_succ]
        have hp := Nat.two_pow_pos q
        have : (4503599627370496 + 0) * (2 ^ q * 2) = 9007199254740992 * 2 ^ q := by rw [Nat.mul_comm (2 ^ q) 2, ← Nat.mul_assoc]
        rw [this]
        exact Nat.mul_lt_mul_of_pos_right (by omega) hp

theorem sc_lt {r s : Nat} (h : r < s) : sc r < sc s := by
  induction s with
  | zero => omega
  | succ s ih =>
    by_cases e : r = s
    · rw [e]; exact sc_succ s
    · exact Nat.lt_trans (ih (by omega)) (sc_succ s)

theorem sc_zero : sc 0 = 0 := by simp [sc]

theorem V_lt_iff (x y : Nat) : V x < V y ↔ key x < key y := by
  unfold V key sgI
  have hl := @sc_lt
  rcases Nat.lt_trichotomy (rungW x) (rungW y) with h | h | h
  · have h1 := sc_lt h
    cases negW x <;> cases negW y <;> simp <;> omega
  · rw [h]
    by_cases h0 : rungW y = 0
    · rw [h0, sc_zero]
    · have h1 : 0 < sc (rungW y) := by have := sc_lt (show 0 < rungW y by omega); rw [sc_zero] at this; exact this
      cases negW x <;> cases negW y <;> simp <;> omega
  · have h1 := sc_lt h
    cases negW x <;> cases negW y <;> simp <;> omega

theorem V_eq_iff (x y : Nat) : V x = V y ↔ key x = key y := by
  have h1 := V_lt_iff x y
  have h2 := V_lt_iff y x
  omega

theorem cmp_int (a b : Int) : compare a b = if a < b then .lt else if a = b then .eq else .gt := rfl

theorem cmp_lt {a b : Int} (h : a < b) : compare a b = .lt := by rw [cmp_int, if_pos h]
theorem cmp_gt {a b : Int} (h : b < a) : compare a b = .gt := by rw [cmp_int, if_neg (by omega), if_neg (by omega)]
theorem cmp_eq {a b : Int} (h : a = b) : compare a b = .eq := by rw [cmp_int, if_neg (by omega), if_pos h]

theorem cmp_of {a b c d : Int} (h1 : a < b ↔ c < d) (h2 : a = b ↔ c = d) : compare a b = compare c d := by
  rw [cmp_int, cmp_int]
  by_cases h : a < b
  · rw [if_pos h, if_pos (h1.1 h)]
  · rw [if_neg h, if_neg (fun k => h (h1.2 k))]
    by_cases e : a = b
    · rw [if_pos e, if_pos (h2.1 e)]
    · rw [if_neg e, if_neg (fun k => e (h2.2 k))]

theorem signed_eq (s : Bool) (m k : Nat) : signed s m k = sgI s (m * 2 ^ k) := by
  unfold signed sgI
  rw [Nat.shiftLeft_eq]

theorem sgI_mul (s : Bool) (n k : Nat) : sgI s (n * k) = sgI s n * (k : Int) := by
  unfold sgI
  cases s <;> simp [Int.neg_mul]

/-- A number's value in units of the least place, out of a finer base. -/
theorem base_mul (s : Bool) (m : Nat) (i base : Int) (h1 : base ≤ i) (h2 : -1074 ≤ base) : signed s m (i - base).toNat * ((2 ^ (base + 1074).toNat : Nat) : Int) = sgI s (m * 2 ^ (i + 1074).toNat) := by
  rw [signed_eq, ← sgI_mul, Nat.mul_assoc, ← Nat.pow_add]
  congr 3
  omega

theorem order_fin (x y : Nat) (hx : fin x) (hy : fin y) : double.order x y = some (compare (key x) (key y)) := by
  obtain ⟨m, i, e1, hi, v1⟩ := read_fin x hx
  obtain ⟨n, j, e2, hj, v2⟩ := read_fin y hy
  unfold Format.order
  rw [e1, e2]
  show some (compare (signed (negW x) m (i - min i j).toNat) (signed (negW y) n (j - min i j).toNat)) = _
  have b1 := base_mul (negW x) m i (min i j) (by omega) (by omega)
  have b2 := base_mul (negW y) n j (min i j) (by omega) (by omega)
  rw [v1] at b1
  rw [v2] at b2
  have hp : (0 : Int) < ((2 ^ (min i j + 1074).toNat : Nat) : Int) := Int.natCast_pos.2 (Nat.two_pow_pos _)
  congr 1
  refine cmp_of ?_ ?_
  · rw [← V_lt_iff]; unfold V; rw [← b1, ← b2]; exact (Int.mul_lt_mul_right hp).symm
  · rw [← V_eq_iff]; unfold V; rw [← b1, ← b2]; exact ⟨fun h => by rw [h], fun h => Int.eq_of_mul_eq_mul_right (by omega) h⟩

theorem order_key (x y : Nat) (hx : nn x) (hy : nn y) : double.order x y = some (compare (key x) (key y)) := by
  unfold nn at hx hy
  by_cases fx : fin x
  · by_cases fy : fin y
    · exact order_fin x y fx fy
    · have ey : rungW y = INF := by unfold fin at fy; omega
      obtain ⟨m, i, e1, _, _⟩ := read_fin x fx
      unfold Format.order
      rw [e1, read_inf y ey]
      show some (if negW y then Ordering.gt else Ordering.lt) = _
      unfold fin at fx
      have hx' : key x < (INF : Int) ∧ -(INF : Int) < key x := by unfold key; split <;> omega
      have hy' : key y = if negW y then -(INF : Int) else (INF : Int) := by unfold key; rw [ey]
      cases hn : negW y with
      | true => rw [cmp_gt (by rw [hy', hn]; exact hx'.2)]; rfl
      | false => rw [cmp_lt (by rw [hy', hn]; exact hx'.1)]; rfl
  · have ex : rungW x = INF := by unfold fin at fx; omega
    by_cases fy : fin y
    · obtain ⟨m, i, e1, _, _⟩ := read_fin y fy
      unfold Format.order
      rw [e1, read_inf x ex]
      show some (if negW x then Ordering.lt else Ordering.gt) = _
      unfold fin at fy
      have hy' : key y < (INF : Int) ∧ -(INF : Int) < key y := by unfold key; split <;> omega
      have hx' : key x = if negW x then -(INF : Int) else (INF : Int) := by unfold key; rw [ex]
      cases hn : negW x with
      | true => rw [cmp_lt (by rw [hx', hn]; exact hy'.2)]; rfl
      | false => rw [cmp_gt (by rw [hx', hn]; exact hy'.1)]; rfl
    · have ey : rungW y = INF := by unfold fin at fy; omega
      unfold Format.order
      rw [read_inf x ex, read_inf y ey]
      show some (compare (negW y).toNat (negW x).toNat) = _
      unfold key
      rw [ex, ey]
      cases negW x <;> cases negW y <;> rfl

theorem order_nan (x y : Nat) (h : ¬ nn x ∨ ¬ nn y) : double.order x y = none := by
  unfold Format.order
  rcases h with h | h
  · rw [read_nan x h]; rfl
  · rw [read_nan y h]
    cases double.read x <;> rfl

end Go.Proofs.Qxb6601308a
