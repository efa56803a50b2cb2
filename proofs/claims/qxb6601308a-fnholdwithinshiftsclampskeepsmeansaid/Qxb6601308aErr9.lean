/-
  SEAT b6601308a: the law's scale and the law's shifts. No Go in sight.
-/
import Derived.Test.Qxb6601308aAbs
namespace Go.Proofs.Qxb6601308a

/-- The law's scale behind q values, and its flag. -/
structure Scl (xs : List Nat) (lo hi q sw : Nat) (ins : Bool) : Prop where
  f : fin sw
  pos : 0 ≤ V sw
  big : V sw ≤ (BIG : Int)
  vlo : ((V lo).natAbs : Int) ≤ V sw
  vhi : ((V hi).natAbs : Int) ≤ V sw
  vxs : ∀ i, i < q → ((V (xs.getD i 0)).natAbs : Int) ≤ V sw
  iin : ins = true → ∀ i, i < q → key lo ≤ key (xs.getD i 0) ∧ key (xs.getD i 0) ≤ key hi
  out : ins = false → ∃ i, i < q ∧ (key (xs.getD i 0) < key lo ∨ key hi < key (xs.getD i 0))

theorem Scl.step {xs : List Nat} {lo hi q sw : Nat} {ins : Bool} (h : Scl xs lo hi q sw ins) {x sw' : Nat} {ins' : Bool} (hx : x = xs.getD q 0) (f' : fin sw') (h1 : V sw ≤ V sw') (h2 : V sw' ≤ (BIG : Int)) (h3 : ((V x).natAbs : Int) ≤ V sw')
    (h4 : ins' = (ins && (decide (key lo ≤ key x) && decide (key x ≤ key hi)))) : Scl xs lo hi (q + 1) sw' ins' := by
  have a1 := h.pos
  have a2 := h.vlo
  have a3 := h.vhi
  refine ⟨f', by omega, h2, by omega, by omega, fun i hi => ?_, fun e i hi => ?_, fun e => ?_⟩
  · by_cases k : i = q
    · rw [k, ← hx]; exact h3
    · have := h.vxs i (by omega); omega
  · rw [e] at h4
    have h5 := h4.symm
    rw [Bool.and_eq_true, Bool.and_eq_true, decide_eq_true_iff, decide_eq_true_iff] at h5
    by_cases k : i = q
    · rw [k, ← hx]; exact h5.2
    · exact h.iin h5.1 i (by omega)
  · rw [e] at h4
    cases hb : ins with
    | false =>
      obtain ⟨i, hi, k⟩ := h.out hb
      exact ⟨i, by omega, k⟩
    | true =>
      rw [hb, Bool.true_and] at h4
      refine ⟨q, by omega, ?_⟩
      rw [← hx]
      by_cases k1 : key lo ≤ key x
      · rw [decide_eq_true k1, Bool.true_and] at h4
        have := of_decide_eq_false h4.symm
        exact .inr (by omega)
      · exact .inl (by omega)

theorem Scl.inp {xs : List Nat} {lo hi q sw : Nat} {ins : Bool} (h : Scl xs lo hi q sw ins) (hd : Dom xs lo hi) (hq : xs.length = q) (hl : q ≤ 131072) : Inp xs lo hi (V sw).toNat := by
  have a1 := h.pos
  have a2 := h.vlo
  have a3 := h.vhi
  have a4 := h.big
  refine ⟨hd, by omega, by omega, by omega, by omega, fun i hi => ?_⟩
  have := h.vxs i (by omega)
  omega

/-- Where all lie inside, holdWithin leaves them; else it does not. -/
theorem Scl.held {xs ys : List Nat} {lo hi q sw : Nat} {ins : Bool} (h : Scl xs lo hi q sw ins) (hd : Dom xs lo hi) (hq : xs.length = q) (hh : Held xs lo hi ys) :
    (ins = true ∧ ys = xs) ∨ (ins = false ∧ ∃ below above, Halved xs lo hi below above ∧ ys = xs.map (clampW lo hi above)) := by
  have hp : 0 < xs.length := by
    cases e : xs with
    | nil => exact absurd e hd.ne
    | cons a l => simp
  have hmi := minsW_ok xs hd.fx xs.length hp (Nat.le_refl _)
  have hma := maxsW_ok xs hd.fx xs.length hp (Nat.le_refl _)
  rw [List.take_length] at hmi hma
  have hb : (geB (minsW xs) lo && leB (maxsW xs) hi) = ins := by
    rw [geB_key (fin_nn hmi.1) (fin_nn hd.flo), leB_key (fin_nn hma.1) (fin_nn hd.fhi)]
    cases hi : ins with
    | true =>
      have k := h.iin hi
      obtain ⟨i, l1, e1⟩ := List.getElem_of_mem hmi.2.1
      obtain ⟨j, l2, e2⟩ := List.getElem_of_mem hma.2.1
      have g1 := k i (by omega)
      have g2 := k j (by omega)
      have d1 : xs.getD i 0 = xs[i] := by simp [List.getD, l1]
      have d2 : xs.getD j 0 = xs[j] := by simp [List.getD, l2]
      rw [d1, e1] at g1
      rw [d2, e2] at g2
      rw [decide_eq_true g1.1, decide_eq_true g2.2]
      rfl
    | false =>
      obtain ⟨i, l1, k⟩ := h.out hi
      have g1 := hmi.2.2 i (by omega)
      have g2 := hma.2.2 i (by omega)
      rcases k with k | k
      · rw [decide_eq_false (by omega), Bool.false_and]
      · rw [decide_eq_false (p := key (maxsW xs) ≤ _) (by omega), Bool.and_false]
  rcases hh with ⟨e, rfl⟩ | ⟨e, k⟩
  · exact .inl ⟨hb.symm.trans e, rfl⟩
  · exact .inr ⟨hb.symm.trans e, k⟩

/-- The shifts that the law reads off: at the low end, at the high end, between. -/
structure LoS (S above c : Nat) : Prop where
  f : fin c
  b : (V c).natAbs ≤ 4 * S + 536870912
  u : V c ≤ V above + 2 * (dl S : Int)
structure HiS (S above c : Nat) : Prop where
  f : fin c
  b : (V c).natAbs ≤ 4 * S + 536870912
  l : V above ≤ V c + 2 * (dl S : Int)

theorem shift_lo {xs : List Nat} {lo hi S below above : Nat} (hI : Inp xs lo hi S) (hE : Ends xs lo hi S below above) (hne : key lo ≠ key hi) (i : Nat) (h : i < xs.length)
    (hk : key (clampW lo hi above (xs.getD i 0)) = key lo) : LoS S above (subW (xs.getD i 0) lo) := by
  have hx := hI.xs i h
  have hl := hI.lo
  have hdl := dl_le S
  have s1 := sub_dl S (xs.getD i 0) lo hI.big (hI.dom.fx i h) hI.dom.flo (by omega)
  have s2 := less_end hI hE.fa hE.ba i h
  have hkv := (V_eq_iff _ _).2 hk
  have hle := hI.dom.le
  have hlt := (V_lt_iff lo hi).2 (by omega)
  refine ⟨s1.1, by omega, ?_⟩
  rcases clamp_V lo hi above (xs.getD i 0) hI.dom.flo hI.dom.fhi hI.dom.le (fin_nn hE.fa) (hI.dom.fx i h) with k | k | k <;> omega

theorem shift_hi {xs : List Nat} {lo hi S below above : Nat} (hI : Inp xs lo hi S) (hE : Ends xs lo hi S below above) (hne : key lo ≠ key hi) (i : Nat) (h : i < xs.length)
    (hk : key (clampW lo hi above (xs.getD i 0)) = key hi) : HiS S above (subW (xs.getD i 0) hi) := by
  have hx := hI.xs i h
  have hr := hI.hi
  have hdl := dl_le S
  have s1 := sub_dl S (xs.getD i 0) hi hI.big (hI.dom.fx i h) hI.dom.fhi (by omega)
  have s2 := less_end hI hE.fa hE.ba i h
  have hkv := (V_eq_iff _ _).2 hk
  have hle := hI.dom.le
  have hlt := (V_lt_iff lo hi).2 (by omega)
  refine ⟨s1.1, by omega, ?_⟩
  rcases clamp_V lo hi above (xs.getD i 0) hI.dom.flo hI.dom.fhi hI.dom.le (fin_nn hE.fa) (hI.dom.fx i h) with k | k | k <;> omega

theorem shift_mid {xs : List Nat} {lo hi S below above : Nat} (hI : Inp xs lo hi S) (hE : Ends xs lo hi S below above) (i : Nat) (h : i < xs.length)
    (h1 : key (clampW lo hi above (xs.getD i 0)) ≠ key lo) (h2 : key (clampW lo hi above (xs.getD i 0)) ≠ key hi) :
    LoS S above (subW (xs.getD i 0) (clampW lo hi above (xs.getD i 0))) ∧ HiS S above (subW (xs.getD i 0) (clampW lo hi above (xs.getD i 0))) := by
  have hx := hI.xs i h
  have hl := hI.lo
  have hr := hI.hi
  have hdl := dl_le S
  have hfc := (clampW_ok lo hi above (xs.getD i 0) hI.dom.flo hI.dom.fhi hI.dom.le (fin_nn hE.fa) (hI.dom.fx i h)).2
  have s2 := less_end hI hE.fa hE.ba i h
  have v1 := fun e => h1 ((V_eq_iff _ _).1 e)
  have v2 := fun e => h2 ((V_eq_iff _ _).1 e)
  rcases clamp_V lo hi above (xs.getD i 0) hI.dom.flo hI.dom.fhi hI.dom.le (fin_nn hE.fa) (hI.dom.fx i h) with k | k | k
  · have s1 := sub_dl S (xs.getD i 0) _ hI.big (hI.dom.fx i h) hfc (by omega)
    exact ⟨⟨s1.1, by omega, by omega⟩, ⟨s1.1, by omega, by omega⟩⟩
  · exact absurd k.1 v1
  · exact absurd k.1 v2

/-- No test of the law on two shifts fails. -/
theorem shift_far {S above c d tol : Nat} (hS : S ≤ BIG) (hc : LoS S above c) (hd : HiS S above d) (ft : fin tol) (t1 : 64 * (dl S : Int) ≤ V tol) (t2 : V tol ≤ 2 * (S : Int) + 302231454903657293676544) :
    Ieee.double.add d tol = some (addW d tol) ∧ (FloatKind.f64.format.order c (addW d tol) == some .gt) = false := by
  have hb := hd.b
  have hcu := hc.u
  have hdl := hd.l
  have ha := add_dl S d tol hS hd.f ft (by omega)
  refine ⟨(addW_ok d tol (fin_nn hd.f) ft).1, ?_⟩
  rw [gtB_key (fin_nn hc.f) (fin_nn ha.1)]
  refine decide_eq_false ?_
  rw [← V_lt_iff]
  omega

theorem shift_near {S above c d tol : Nat} (hS : S ≤ BIG) (hc : LoS S above c) (hd : HiS S above d) (ft : fin tol) (t1 : 64 * (dl S : Int) ≤ V tol) :
    Ieee.double.sub c d = some (subW c d) ∧ (FloatKind.f64.format.order (subW c d) tol == some .gt) = false := by
  have hb := hd.b
  have hcb := hc.b
  have hcu := hc.u
  have hdl := hd.l
  have ha := sub_dl S c d hS hc.f hd.f (by omega)
  refine ⟨(subW_ok c d hc.f (fin_nn hd.f)).1, ?_⟩
  rw [gtB_key (fin_nn ha.1) (fin_nn ft)]
  refine decide_eq_false ?_
  rw [← V_lt_iff]
  omega

/-- The mean is kept. -/
theorem mean_kept {xs : List Nat} {lo hi S below above tol : Nat} (hI : Inp xs lo hi S) (hh : Halved xs lo hi below above) (h1 : key lo ≤ key (meanW xs)) (h2 : key (meanW xs) ≤ key hi) (ft : fin tol) (t1 : 64 * (dl S : Int) ≤ V tol) :
    Ieee.double.sub (heldW xs lo hi above) (meanW xs) = some (subW (heldW xs lo hi above) (meanW xs)) ∧ (FloatKind.f64.format.order (absW (subW (heldW xs lo hi above) (meanW xs))) tol == some .gt) = false := by
  have hE := ends_ok hI hh
  have fm := (mean_err xs S hI.big hI.pos hI.len hI.dom.fx hI.xs).1
  have v1 := (V_le_iff _ _).2 h1
  have v2 := (V_le_iff _ _).2 h2
  have u := mean_up hI hh hE fm v1
  have d := mean_dn hI hh hE fm v2
  have fh := (held_mean hI hE.fa).1
  have hdl := dl_le S
  have hs := sub_dl S (heldW xs lo hi above) (meanW xs) hI.big fh fm (by omega)
  refine ⟨(subW_ok _ _ fh (fin_nn fm)).1, ?_⟩
  have ha := abs_ok _ hs.1
  rw [gtB_key (fin_nn ha.1) (fin_nn ft)]
  refine decide_eq_false ?_
  rw [← V_lt_iff, ha.2]
  omega
end Go.Proofs.Qxb6601308a
