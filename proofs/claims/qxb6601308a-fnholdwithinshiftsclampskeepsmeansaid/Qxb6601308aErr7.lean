/-
  SEAT b6601308a: the held values' mean lies near the mean. No Go in sight.
-/
import Derived.Test.Qxb6601308aErr6
namespace Go.Proofs.Qxb6601308a
open Ieee

theorem sumV_up (zs : List Nat) (d : Int) (h : ∀ i, i < zs.length → V (zs.getD i 0) ≤ d) : ∀ q, q ≤ zs.length → sumV (zs.take q) ≤ d * (q : Int) := by
  intro q
  induction q with
  | zero => intro _; simp [sumV]
  | succ q ih =>
    intro hq
    rw [sumV_step zs q hq]
    have h1 := ih (by omega)
    have h2 := h q hq
    have e : d * ((q + 1 : Nat) : Int) = d * (q : Int) + d := by rw [Int.natCast_add, Int.mul_add]; simp
    omega

theorem sumV_dn (zs : List Nat) (d : Int) (h : ∀ i, i < zs.length → d ≤ V (zs.getD i 0)) : ∀ q, q ≤ zs.length → d * (q : Int) ≤ sumV (zs.take q) := by
  intro q
  induction q with
  | zero => intro _; simp [sumV]
  | succ q ih =>
    intro hq
    rw [sumV_step zs q hq]
    have h1 := ih (by omega)
    have h2 := h q hq
    have e : d * ((q + 1 : Nat) : Int) = d * (q : Int) + d := by rw [Int.natCast_add, Int.mul_add]; simp
    omega

theorem sumV_two (zs ws : List Nat) (d : Int) (hl : zs.length = ws.length) (h : ∀ i, i < zs.length → V (zs.getD i 0) ≤ V (ws.getD i 0) + d) : ∀ q, q ≤ zs.length → sumV (zs.take q) ≤ sumV (ws.take q) + d * (q : Int) := by
  intro q
  induction q with
  | zero => intro _; simp [sumV]
  | succ q ih =>
    intro hq
    rw [sumV_step zs q hq, sumV_step ws q (by omega)]
    have h1 := ih (by omega)
    have h2 := h q hq
    have e : d * ((q + 1 : Nat) : Int) = d * (q : Int) + d := by rw [Int.natCast_add, Int.mul_add]; simp
    omega

theorem mem_V {xs : List Nat} {S x : Nat} (h : ∀ i, i < xs.length → (V (xs.getD i 0)).natAbs ≤ S) (hx : x ∈ xs) : (V x).natAbs ≤ S := by
  obtain ⟨i, hi, e⟩ := List.getElem_of_mem hx
  have := h i hi
  have e2 : xs.getD i 0 = xs[i] := by simp [List.getD, hi]
  rw [e2, e] at this
  exact this

structure Ends (xs : List Nat) (lo hi S below above : Nat) : Prop where
  fb : fin below
  fa : fin above
  bb : (V below).natAbs ≤ 3 * S + 134217728
  ba : (V above).natAbs ≤ 3 * S + 134217728
  gap : V above - V below ≤ 4 * (dl S : Int)
  le : V below ≤ V above

theorem ends_ok {xs : List Nat} {lo hi S below above : Nat} (hI : Inp xs lo hi S) (hh : Halved xs lo hi below above) : Ends xs lo hi S below above := by
  have h0 := hI.pos
  have hmi := minsW_ok xs hI.dom.fx xs.length h0 (Nat.le_refl _)
  have hma := maxsW_ok xs hI.dom.fx xs.length h0 (Nat.le_refl _)
  rw [List.take_length] at hmi hma
  have vmi := mem_V hI.xs hmi.2.1
  have vma := mem_V hI.xs hma.2.1
  have hl := hI.lo
  have hr := hI.hi
  have hdl := dl_le S
  have s1 := sub_dl S (minsW xs) hi hI.big hmi.1 hI.dom.fhi (by omega)
  have s2 := sub_dl S (maxsW xs) lo hI.big hma.1 hI.dom.flo (by omega)
  have k1 := key_fin s1.1
  have k2 := key_fin s2.1
  have l0 := hh.l0
  have r0 := hh.r0
  have md := hh.mid
  have fb : fin below := fin_key hh.nb (by omega)
  have fa : fin above := fin_key hh.na (by omega)
  have m1 := (V_le_iff _ _).2 l0
  have m2 := (V_le_iff _ _).2 r0
  have m3 := (V_le_iff _ _).2 md
  have bb : (V below).natAbs ≤ 3 * S + 134217728 := by omega
  have ba : (V above).natAbs ≤ 3 * S + 134217728 := by omega
  exact ⟨fb, fa, bb, ba, gap_ok hI.big fb fa (by omega) (by omega) m3 hh.fin, m3⟩

/-- A value less one of the ends. -/
theorem less_end {xs : List Nat} {lo hi S c : Nat} (hI : Inp xs lo hi S) (fc : fin c) (bc : (V c).natAbs ≤ 3 * S + 134217728) (i : Nat) (h : i < xs.length) :
    fin (subW (xs.getD i 0) c) ∧ V (subW (xs.getD i 0) c) ≤ V (xs.getD i 0) - V c + dl S ∧ V (xs.getD i 0) - V c ≤ V (subW (xs.getD i 0) c) + dl S := by
  have := hI.xs i h
  exact sub_dl S _ c hI.big (hI.dom.fx i h) fc (by omega)

theorem held_mean {xs : List Nat} {lo hi S c : Nat} (hI : Inp xs lo hi S) (fc : fin c) :
    fin (heldW xs lo hi c) ∧ V (heldW xs lo hi c) * (xs.length : Int) ≤ sumV (xs.map (clampW lo hi c)) + 2 * (xs.length * dl S : Nat) ∧ sumV (xs.map (clampW lo hi c)) ≤ V (heldW xs lo hi c) * (xs.length : Int) + 2 * (xs.length * dl S : Nat) := by
  have hl := hI.lo
  have hr := hI.hi
  have h := mean_err (xs.map (clampW lo hi c)) S hI.big (by simpa using hI.pos) (by simpa using hI.len) (by
    intro i h
    rw [List.length_map] at h
    rw [map_getD _ _ _ h]
    exact (clampW_ok lo hi c _ hI.dom.flo hI.dom.fhi hI.dom.le (fin_nn fc) (hI.dom.fx i h)).2) (by
    intro i h
    rw [List.length_map] at h
    rw [map_getD _ _ _ h]
    rcases clamp_V lo hi c (xs.getD i 0) hI.dom.flo hI.dom.fhi hI.dom.le (fin_nn fc) (hI.dom.fx i h) with k | k | k <;> omega)
  rw [List.length_map] at h
  exact h

theorem gtB_k {x y : Nat} (hx : nn x) (hy : nn y) : gtB x y = decide (key y < key x) := by
  unfold gtB
  rw [order64, order_key x y hx hy]
  rcases Int.lt_trichotomy (key x) (key y) with h | h | h
  · rw [cmp_lt h]; simp; omega
  · rw [cmp_eq h]; simp; omega
  · rw [cmp_gt h]; simp; omega

theorem mean_up {xs : List Nat} {lo hi S below above : Nat} (hI : Inp xs lo hi S) (hh : Halved xs lo hi below above) (hE : Ends xs lo hi S below above) (fm : fin (meanW xs)) (hlo : V lo ≤ V (meanW xs)) :
    V (heldW xs lo hi above) ≤ V (meanW xs) + 4 * (dl S : Int) := by
  have hm := held_mean hI hE.fa
  rcases hh.ab with e | e
  · have h0 := hI.pos
    have hma := maxsW_ok xs hI.dom.fx xs.length h0 (Nat.le_refl _)
    rw [List.take_length] at hma
    have vma := mem_V hI.xs hma.2.1
    have hl := hI.lo
    have s2 := sub_dl S (maxsW xs) lo hI.big hma.1 hI.dom.flo (by omega)
    rw [← e] at s2
    have hz := sumV_up (xs.map (clampW lo hi above)) (V lo + 2 * (dl S : Int)) (by
      intro i h
      rw [List.length_map] at h
      rw [map_getD _ _ _ h]
      have k1 := less_end hI hE.fa hE.ba i h
      have k2 := (V_le_iff _ _).2 (hma.2.2 i h)
      rcases clamp_V lo hi above (xs.getD i 0) hI.dom.flo hI.dom.fhi hI.dom.le (fin_nn hE.fa) (hI.dom.fx i h) with k | k | k <;> omega) xs.length (by simp)
    rw [List.take_of_length_le (by simp)] at hz
    have e1 : (V lo + 2 * (dl S : Int)) * (xs.length : Int) + 2 * (xs.length * dl S : Nat) = (V lo + 4 * (dl S : Int)) * (xs.length : Int) := by
      rw [Int.add_mul, Int.add_mul, Int.natCast_mul, Int.mul_comm (xs.length : Int), Int.mul_assoc 2, Int.mul_assoc 4]; omega
    have h1 : V (heldW xs lo hi above) * (xs.length : Int) ≤ (V lo + 4 * (dl S : Int)) * (xs.length : Int) := by rw [← e1]; have := hm.2.1; omega
    have := Int.le_of_mul_le_mul_right h1 (by omega)
    omega
  · rw [gtB_k (fin_nn hm.1) (fin_nn fm)] at e
    have k := of_decide_eq_false e
    have := V_lt_iff (meanW xs) (heldW xs lo hi above)
    omega

theorem mean_dn {xs : List Nat} {lo hi S below above : Nat} (hI : Inp xs lo hi S) (hh : Halved xs lo hi below above) (hE : Ends xs lo hi S below above) (fm : fin (meanW xs)) (hhi : V (meanW xs) ≤ V hi) :
    V (meanW xs) ≤ V (heldW xs lo hi above) + 12 * (dl S : Int) := by
  have hm := held_mean hI hE.fa
  have hmb := held_mean hI hE.fb
  have h0 := hI.pos
  -- the sum at below
  have hsb : (V (meanW xs) - 2 * (dl S : Int)) * (xs.length : Int) ≤ sumV (xs.map (clampW lo hi below)) := by
    rcases hh.be with e | e
    · have hmi := minsW_ok xs hI.dom.fx xs.length h0 (Nat.le_refl _)
      rw [List.take_length] at hmi
      have vmi := mem_V hI.xs hmi.2.1
      have hr := hI.hi
      have s1 := sub_dl S (minsW xs) hi hI.big hmi.1 hI.dom.fhi (by omega)
      rw [← e] at s1
      have hz := sumV_dn (xs.map (clampW lo hi below)) (V (meanW xs) - 2 * (dl S : Int)) (by
        intro i h
        rw [List.length_map] at h
        rw [map_getD _ _ _ h]
        have k1 := less_end hI hE.fb hE.bb i h
        have k2 := (V_le_iff _ _).2 (hmi.2.2 i h)
        rcases clamp_V lo hi below (xs.getD i 0) hI.dom.flo hI.dom.fhi hI.dom.le (fin_nn hE.fb) (hI.dom.fx i h) with k | k | k <;> omega) xs.length (by simp)
      rw [List.take_of_length_le (by simp)] at hz
      exact hz
    · rw [gtB_k (fin_nn hmb.1) (fin_nn fm)] at e
      have k := of_decide_eq_true e
      have k2 := (V_lt_iff (meanW xs) (heldW xs lo hi below)).2 k
      have h1 : V (meanW xs) * (xs.length : Int) ≤ V (heldW xs lo hi below) * (xs.length : Int) := Int.mul_le_mul_of_nonneg_right (by omega) (by omega)
      have e1 : (V (meanW xs) - 2 * (dl S : Int)) * (xs.length : Int) = V (meanW xs) * (xs.length : Int) - 2 * (xs.length * dl S : Nat) := by
        rw [Int.sub_mul, Int.natCast_mul, Int.mul_comm (xs.length : Int), Int.mul_assoc 2]
      rw [e1]
      have := hmb.2.1
      omega
  have hz := sumV_two (xs.map (clampW lo hi below)) (xs.map (clampW lo hi above)) (6 * (dl S : Int)) (by simp) (by
    intro i h
    rw [List.length_map] at h
    rw [map_getD _ _ _ h, map_getD _ _ _ h]
    have k1 := less_end hI hE.fb hE.bb i h
    have k2 := less_end hI hE.fa hE.ba i h
    have g := hE.gap
    have hle := (V_le_iff _ _).2 hI.dom.le
    rcases clamp_V lo hi below (xs.getD i 0) hI.dom.flo hI.dom.fhi hI.dom.le (fin_nn hE.fb) (hI.dom.fx i h) with k | k | k <;>
      rcases clamp_V lo hi above (xs.getD i 0) hI.dom.flo hI.dom.fhi hI.dom.le (fin_nn hE.fa) (hI.dom.fx i h) with j | j | j <;> omega) xs.length (by simp)
  rw [List.take_of_length_le (by simp), List.take_of_length_le (by simp)] at hz
  have e1 : (V (meanW xs) - 2 * (dl S : Int)) * (xs.length : Int) - (6 * (dl S : Int)) * (xs.length : Int) - 2 * (xs.length * dl S : Nat) = (V (meanW xs) - 10 * (dl S : Int)) * (xs.length : Int) := by
    rw [Int.sub_mul, Int.sub_mul, Int.natCast_mul, Int.mul_comm (xs.length : Int), Int.mul_assoc 2, Int.mul_assoc 6, Int.mul_assoc 10]; omega
  have h1 : (V (meanW xs) - 10 * (dl S : Int)) * (xs.length : Int) ≤ V (heldW xs lo hi above) * (xs.length : Int) := by rw [← e1]; have := hm.2.2; omega
  have := Int.le_of_mul_le_mul_right h1 (by omega)
  omega
end Go.Proofs.Qxb6601308a
