/-
  SEAT b6601308a: mergeSortIdx.
-/
import Derived.Test.Qxb6601308aHold
namespace Go.Proofs.Qxb6601308a
open Go.ChangeShapes Go.WideShapes Go.ChangeAt Go.RowKit

def ixV (xs : List Nat) : List Value := xs.map (fun (n : Nat) => Value.int .i64 (n : Int))
theorem ixV_get (xs : List Nat) (i : Nat) (h : i < xs.length) : (ixV xs)[i]? = some (.int .i64 (xs.getD i 0 : Nat)) := by simp [ixV, List.getD, h]
theorem ixV_set (xs : List Nat) (i v : Nat) : (ixV xs).set i (.int .i64 (v : Int)) = ixV (xs.set i v) := by simp [ixV]

/-- Below the old size no block but A and B has turned. -/
structure Off2 (A B : Nat) (w w' : World) : Prop where
  os : w'.os = w.os
  tape : w'.tape = w.tape
  output : w'.output = w.output
  size : w.heap.size ≤ w'.heap.size
  block : ∀ k, k < w.heap.size → k ≠ A → k ≠ B → w'.heap[k]? = w.heap[k]?

theorem Off2.refl (A B : Nat) (w : World) : Off2 A B w w := ⟨rfl, rfl, rfl, Nat.le_refl _, fun _ _ _ _ => rfl⟩
theorem Off2.drewN {A B : Nat} {w w' : World} (h : Off2 A B w w') (n : Nat) : Off2 A B w (w'.drewN n) := ⟨h.os, h.tape, h.output, h.size, h.block⟩
theorem Off2.trans {A B : Nat} {w w' w'' : World} (h : Off2 A B w w') (g : Off2 A B w' w'') : Off2 A B w w'' :=
  ⟨g.os.trans h.os, g.tape.trans h.tape, g.output.trans h.output, Nat.le_trans h.size g.size, fun k a b c => (g.block k (Nat.lt_of_lt_of_le a h.size) b c).trans (h.block k a b c)⟩
theorem Off2.setA {A B : Nat} {w w' : World} (h : Off2 A B w w') (i : Nat) (v : Value) : Off2 A B w (w'.setCell ⟨A, i, none⟩ v) :=
  ⟨h.os, h.tape, h.output, by simpa [World.setCell] using h.size, fun k h1 h2 h3 => (Below.heap_setCell _ _ _ _ h2).trans (h.block k h1 h2 h3)⟩
theorem Off2.setB {A B : Nat} {w w' : World} (h : Off2 A B w w') (i : Nat) (v : Value) : Off2 A B w (w'.setCell ⟨B, i, none⟩ v) :=
  ⟨h.os, h.tape, h.output, by simpa [World.setCell] using h.size, fun k h1 h2 h3 => (Below.heap_setCell _ _ _ _ h3).trans (h.block k h1 h2 h3)⟩

/-- The key slice reads ks, and lies neither in A nor in B. -/
structure Keys (A B : Nat) (w : World) (kb koff : Nat) (ks : List Nat) : Prop where
  lt : kb < w.heap.size
  na : kb ≠ A
  nb : kb ≠ B
  rd : ∀ i, i < ks.length → w.cell? ⟨kb, koff + i, none⟩ = some (.float .f64 (ks.getD i 0))

theorem Keys.off {A B : Nat} {w w' : World} {kb koff : Nat} {ks : List Nat} (h : Keys A B w kb koff ks) (g : Off2 A B w w') : Keys A B w' kb koff ks :=
  ⟨Nat.lt_of_lt_of_le h.lt g.size, h.na, h.nb, fun i hi => (World.cell?_of_block (w := w) (g.block kb h.lt h.na h.nb)).trans (h.rd i hi)⟩

/-- One round of the merge, with no Go in sight: P reads the row's segment, Q the scratch's. -/
structure Mg (P Q : Nat → Int) (h n i j k : Nat) : Prop where
  ki : k + h = i + j
  ih : i ≤ h
  hj : h ≤ j
  jn : j ≤ n
  srt : ∀ s t, s ≤ t → t < k → Q s ≤ Q t
  le1 : ∀ s, s < k → ∀ i', i ≤ i' → i' < h → Q s ≤ P i'
  le2 : ∀ s, s < k → ∀ j', j ≤ j' → j' < n → Q s ≤ P j'

theorem Mg.left {P Q Q' : Nat → Int} {h n i j k : Nat} (m : Mg P Q h n i j k) (p1 : ∀ a b, a ≤ b → b < h → P a ≤ P b) (p2 : ∀ a b, h ≤ a → a ≤ b → b < n → P a ≤ P b) (hi : i < h) (hc : j < n → P i ≤ P j)
    (q1 : ∀ s, s < k → Q' s = Q s) (q2 : Q' k = P i) : Mg P Q' h n (i + 1) j (k + 1) := by
  refine ⟨by have := m.ki; omega, hi, m.hj, m.jn, ?_, ?_, ?_⟩
  · intro s t h1 h2
    by_cases e : t = k
    · subst e
      by_cases e2 : s = t
      · subst e2; exact Int.le_refl _
      · rw [q1 s (by omega), q2]; exact m.le1 s (by omega) i (Nat.le_refl _) hi
    · rw [q1 s (by omega), q1 t (by omega)]; exact m.srt s t h1 (by omega)
  · intro s h1 i' h2 h3
    by_cases e : s = k
    · subst e; rw [q2]; exact p1 i i' (by omega) h3
    · rw [q1 s (by omega)]; exact m.le1 s (by omega) i' (by omega) h3
  · intro s h1 j' h2 h3
    by_cases e : s = k
    · subst e; rw [q2]; exact Int.le_trans (hc (by omega)) (p2 j j' m.hj h2 h3)
    · rw [q1 s (by omega)]; exact m.le2 s (by omega) j' h2 h3

theorem Mg.right {P Q Q' : Nat → Int} {h n i j k : Nat} (m : Mg P Q h n i j k) (p1 : ∀ a b, a ≤ b → b < h → P a ≤ P b) (p2 : ∀ a b, h ≤ a → a ≤ b → b < n → P a ≤ P b) (hj : j < n) (hc : i < h → P j ≤ P i)
    (q1 : ∀ s, s < k → Q' s = Q s) (q2 : Q' k = P j) : Mg P Q' h n i (j + 1) (k + 1) := by
  refine ⟨by have := m.ki; omega, m.ih, by have := m.hj; omega, hj, ?_, ?_, ?_⟩
  · intro s t h1 h2
    by_cases e : t = k
    · subst e
      by_cases e2 : s = t
      · subst e2; exact Int.le_refl _
      · rw [q1 s (by omega), q2]; exact m.le2 s (by omega) j (Nat.le_refl _) hj
    · rw [q1 s (by omega), q1 t (by omega)]; exact m.srt s t h1 (by omega)
  · intro s h1 i' h2 h3
    by_cases e : s = k
    · subst e; rw [q2]; exact Int.le_trans (hc (by omega)) (p1 i i' h2 h3)
    · rw [q1 s (by omega)]; exact m.le1 s (by omega) i' h2 h3
  · intro s h1 j' h2 h3
    by_cases e : s = k
    · subst e; rw [q2]; exact p2 j j' m.hj (by omega) h3
    · rw [q1 s (by omega)]; exact m.le2 s (by omega) j' (by omega) h3

/-- How R' comes of R: outside o .. o + n as it was; inside, indices into ks, by rising key. -/
structure Srt (ks : List Nat) (o n : Nat) (R R' : List Nat) : Prop where
  len : R'.length = R.length
  out : ∀ i, (i < o ∨ o + n ≤ i) → R'.getD i 0 = R.getD i 0
  rng : ∀ i, i < n → R'.getD (o + i) 0 < ks.length
  srt : ∀ i j, i ≤ j → j < n → key (ks.getD (R'.getD (o + i) 0) 0) ≤ key (ks.getD (R'.getD (o + j) 0) 0)

def SortPost (A B : Nat) (ks : List Nat) (o n : Nat) (R T : List Nat) (w w' : World) : Prop :=
  ∃ R' T', Row w' A 3 (ixV R') ∧ Row w' B 3 (ixV T') ∧ T'.length = T.length ∧ Srt ks o n R R' ∧ Off2 A B w w'

theorem Row.same {w w' : World} {G : Nat} {t : TypeId} {vs : List Value} (h : Row w G t vs) (e : w'.heap = w.heap) : Row w' G t vs := by unfold Row; rw [e]; exact h
theorem Off2.left {A B : Nat} {w v w' : World} (h : Off2 A B v w') (e : v.heap = w.heap) (e1 : v.os = w.os) (e2 : v.tape = w.tape) (e3 : v.output = w.output) : Off2 A B w w' :=
  ⟨h.os.trans e1, h.tape.trans e2, h.output.trans e3, by rw [← e]; exact h.size, fun k a b c => by rw [← e]; exact h.block k (by rw [e]; exact a) b c⟩

set_option maxHeartbeats 4000000 in
set_option maxRecDepth 20000 in
theorem sort_any (A B kb koff kcap : Nat) (hAB : A ≠ B) (ks : List Nat) (_hkl : (ks.length : Int) ≤ 131072) (hks : ∀ i, i < ks.length → nn (ks.getD i 0)) :
    ∀ n, ∀ (w : World) (oa ob ca cb : Nat) (R T : List Nat), n ≤ ca → n ≤ cb → ca ≤ 131072 → cb ≤ 131072 → Row w A 3 (ixV R) → Row w B 3 (ixV T) → Keys A B w kb koff ks → oa + n ≤ R.length → ob + n ≤ T.length → (∀ i, i < n → R.getD (oa + i) 0 < ks.length) →
    Calls Try.prog 19 #[.slice (some ⟨A, oa, none⟩) n ca, .slice (some ⟨B, ob, none⟩) n cb, .slice (some ⟨kb, koff, none⟩) ks.length kcap] w fun e w' => e = .returned (.tuple #[]) ∧ SortPost A B ks oa n R T w w' := by
  intro n
  induction n using Nat.strongRecOn with
  | ind n IH =>
  intro w oa ob ca cb R T hca hcb hca2 hcb2 hA hB hK hR hT hrg
  have HIH : Hid (∀ m, m < n → ∀ (w : World) (oa ob ca cb : Nat) (R T : List Nat), m ≤ ca → m ≤ cb → ca ≤ 131072 → cb ≤ 131072 → Row w A 3 (ixV R) → Row w B 3 (ixV T) → Keys A B w kb koff ks → oa + m ≤ R.length → ob + m ≤ T.length → (∀ i, i < m → R.getD (oa + i) 0 < ks.length) →
    Calls Try.prog 19 #[.slice (some ⟨A, oa, none⟩) m ca, .slice (some ⟨B, ob, none⟩) m cb, .slice (some ⟨kb, koff, none⟩) ks.length kcap] w fun e w' => e = .returned (.tuple #[]) ∧ SortPost A B ks oa m R T w w') := IH
  have HRG : Hid (∀ i, i < n → R.getD (oa + i) 0 < ks.length) := hrg
  have HKS : Hid (∀ i, i < ks.length → nn (ks.getD i 0)) := hks
  have HA : Hid (Row w A 3 (ixV R)) := hA
  have HB : Hid (Row w B 3 (ixV T)) := hB
  have HKK : Hid (Keys A B w kb koff ks) := hK
  have HRL : Hid (oa + n ≤ R.length) := hR
  have HTL : Hid (ob + n ≤ T.length) := hT
  clear IH hrg hks hA hB hK hR hT
  by_cases h2 : n < 2
  · go_enter Try.func19, Try.ntmps19
    go_wp2
    refine bodyPost_ret (results_none rfl _ _ _) rfl ?_
    refine ⟨rfl, R, T, HA.out, HB.out, rfl, ⟨rfl, fun _ _ => rfl, HRG.out, fun i j hij hj => ?_⟩, Off2.refl _ _ _⟩
    have : i = j := by omega
    rw [this]; exact Int.le_refl _
  · obtain ⟨h, hh⟩ : ∃ h, h = n / 2 := ⟨_, rfl⟩
    have HH : Hid (h = n / 2) := hh
    have hh1 : 0 < h := by omega
    have hh2 : h < n := by omega
    clear hh
    go_enter Try.func19, Try.ntmps19
    go_upto_region 2 with fail
    go_cut [7] (fun s wx => s = .int .i64 (h : Nat) ∧ w = wx)
    case first =>
      go_wp2_with fail
      go_meet
      refine ⟨?_, rfl⟩
      rw [HH.out]
      go_num
    case rest =>
      obtain ⟨rfl, rfl⟩ := hcut
      have i1 : (h : Int) ≤ (n : Int) := by omega
      have i2 : (h : Int) ≤ (ca : Int) := by omega
      have i3 : (h : Int) ≤ (cb : Int) := by omega
      have i4 : (n : Int) ≤ (ca : Int) := by omega
      have i5 : (n : Int) ≤ (cb : Int) := by omega
      have i6 : (0 : Int) ≤ (h : Int) := by omega
      have i7 : ¬ ca = h := by omega
      have i8 : ¬ cb = h := by omega
      go_upto_region 3 with fail
      go_cut [] (fun wx => SortPost A B ks oa h R T w wx)
      case first =>
        go_region_with (go_at_call 19; refine (HIH.out h hh2 _ oa ob ca cb R T (by omega) (by omega) hca2 hcb2 (by exact HA.out) (by exact HB.out) (by exact ⟨HKK.out.lt, HKK.out.na, HKK.out.nb, HKK.out.rd⟩) (by have := HRL.out; omega) (by have := HTL.out; omega) (by intro i hi; exact HRG.out i (by omega))).mono ?_; rintro ev w' ⟨rfl, HP⟩)
        all_goals
          go_wp2_with fail
          go_meet
          obtain ⟨R', T', p1, p2, p3, p4, p5⟩ := HP
          exact ⟨R', T', p1, p2, p3, p4, ⟨p5.os, p5.tape, p5.output, p5.size, p5.block⟩⟩
      case rest =>
        obtain ⟨R1, T1, hA1, hB1, hT1, hS1, ho1⟩ := hcut
        have HA1 : Hid (Row wc A 3 (ixV R1)) := hA1
        have HB1 : Hid (Row wc B 3 (ixV T1)) := hB1
        have HT1 : Hid (T1.length = T.length) := hT1
        have HS1 : Hid (Srt ks oa h R R1) := hS1
        have HO1 : Hid (Off2 A B w wc) := ho1
        have HK1 : Hid (Keys A B wc kb koff ks) := HKK.out.off ho1
        have HRG1 : Hid (∀ i, i < n - h → R1.getD (oa + h + i) 0 < ks.length) := by
          show ∀ i, _
          intro i hi
          rw [HS1.out.out (oa + h + i) (by omega), Nat.add_assoc]
          exact HRG.out (h + i) (by omega)
        clear hA1 hB1 hT1 hS1 ho1
        go_upto_region 4 with fail
        go_cut [] (fun wx => SortPost A B ks (oa + h) (n - h) R1 T1 wc wx)
        case first =>
          go_region_with (go_at_call 19; refine (HIH.out (n - h) (by omega) _ (oa + h) (ob + h) (ca - h) (cb - h) R1 T1 (by omega) (by omega) (by omega) (by omega) (by exact HA1.out) (by exact HB1.out) (by exact ⟨HK1.out.lt, HK1.out.na, HK1.out.nb, HK1.out.rd⟩) (by have := HRL.out; have := HS1.out.len; omega) (by have := HTL.out; have := HT1.out; omega) (by exact HRG1.out)).mono ?_; rintro ev w' ⟨rfl, HP⟩)
          all_goals
            go_wp2_with fail
            go_meet
            obtain ⟨R', T', p1, p2, p3, p4, p5⟩ := HP
            exact ⟨R', T', p1, p2, p3, p4, ⟨p5.os, p5.tape, p5.output, p5.size, p5.block⟩⟩
        case rest =>
          obtain ⟨R2, T2, hA2, hB2, hT2, hS2, ho2⟩ := hcut
          have HT2 : Hid (T2.length = T.length) := hT2.trans HT1.out
          have HR2 : Hid (R2.length = R.length) := hS2.len.trans HS1.out.len
          have HO2 := HO1.out.trans ho2
          have HK2 : Hid (Keys A B w kb koff ks) := HKK
          have HOUT : Hid (∀ i, (i < oa ∨ oa + n ≤ i) → R2.getD i 0 = R.getD i 0) := by
            show ∀ i, _
            intro i hi
            rw [hS2.out i (by omega), HS1.out.out i (by omega)]
          have HRG2 : Hid (∀ i, i < n → R2.getD (oa + i) 0 < ks.length) := by
            show ∀ i, _
            intro i hi
            by_cases e : i < h
            · rw [hS2.out (oa + i) (by omega)]; exact HS1.out.rng i e
            · have := hS2.rng (i - h) (by omega)
              have e2 : oa + h + (i - h) = oa + i := by omega
              rw [e2] at this; exact this
          have HP1 : Hid (∀ a b, a ≤ b → b < h → key (ks.getD (R2.getD (oa + a) 0) 0) ≤ key (ks.getD (R2.getD (oa + b) 0) 0)) := by
            show ∀ a b, _
            intro a b h1 h2
            rw [hS2.out (oa + a) (by omega), hS2.out (oa + b) (by omega)]
            exact HS1.out.srt a b h1 h2
          have HP2 : Hid (∀ a b, h ≤ a → a ≤ b → b < n → key (ks.getD (R2.getD (oa + a) 0) 0) ≤ key (ks.getD (R2.getD (oa + b) 0) 0)) := by
            show ∀ a b, _
            intro a b h0 h1 h2
            have := hS2.srt (a - h) (b - h) (by omega) (by omega)
            have e1 : oa + h + (a - h) = oa + a := by omega
            have e2 : oa + h + (b - h) = oa + b := by omega
            rw [e1, e2] at this; exact this
          clear hT2 hS2 ho2 HS1 HT1 HA1 HB1 HO1 HK1 HRG1 HIH HA HB HRG i2 i3 i4 i5 i7 i8 HKK
          go_wp2_with fail
          go_loopg [8, 9, 10] n (fun k s8 s9 s10 wr => ∃ (i j q : Nat) (T3 : List Nat), s8 = .int .i64 i ∧ s9 = .int .i64 j ∧ s10 = .int .i64 q ∧ Hid (k = n - q) ∧ q ≤ n ∧ Row wr A 3 (ixV R2) ∧ Row wr B 3 (ixV T3) ∧ Hid (T3.length = T.length) ∧ Hid (∀ s, s < q → T3.getD (ob + s) 0 < ks.length) ∧ Hid (Mg (fun i => key (ks.getD (R2.getD (oa + i) 0) 0)) (fun s => key (ks.getD (T3.getD (ob + s) 0) 0)) h n i j q) ∧ Off2 A B w wr)
          case atStart => exact ⟨0, h, 0, T2, rfl, rfl, rfl, rfl, by omega, hA2, hB2, HT2, fun s hs => by omega, ⟨by omega, by omega, by omega, by omega, fun s t _ h => by omega, fun s h => by omega, fun s h => by omega⟩, HO2⟩
          case round =>
            obtain ⟨i, j, q, T3, rfl, rfl, rfl, HK, hq, hA3, hB3, HT3, HTR, HMG, hO3⟩ := hrel
            clear hA2 hB2 HO2
            by_cases hlt : q < n
            · obtain ⟨a1, ha1⟩ : ∃ a, a = R2.getD (oa + i) 0 := ⟨_, rfl⟩
              obtain ⟨a2, ha2⟩ : ∃ a, a = R2.getD (oa + j) 0 := ⟨_, rfl⟩
              obtain ⟨x1, hx1⟩ : ∃ a, a = ks.getD a1 0 := ⟨_, rfl⟩
              obtain ⟨x2, hx2⟩ : ∃ a, a = ks.getD a2 0 := ⟨_, rfl⟩
              have hki := HMG.out.ki
              have hih' := HMG.out.ih
              have hhj' := HMG.out.hj
              have hjn' := HMG.out.jn
              obtain ⟨TK, hTK⟩ : ∃ b, b = (decide (n ≤ j) || (decide (i < h) && leB x1 x2)) := ⟨_, rfl⟩
              have HTK : Hid (TK = (decide (n ≤ j) || (decide (i < h) && leB x1 x2))) := hTK
              have HG1 : Hid (i < h → wr.cell? ⟨A, oa + i, none⟩ = some (.int .i64 (a1 : Nat)) ∧ (a1 : Int) < (ks.length : Int) ∧ wr.cell? ⟨kb, koff + a1, none⟩ = some (.float .f64 x1)) := by
                show _ → _
                intro hi
                have g := hA3.cell (oa + i)
                rw [ixV_get R2 (oa + i) (by have := HR2.out; have := HRL.out; omega), ← ha1] at g
                have hr := HRG2.out i (by omega)
                rw [← ha1] at hr
                refine ⟨g, by omega, ?_⟩
                rw [hx1]
                exact (HK2.out.off hO3).rd a1 hr
              have HG2 : Hid (j < n → wr.cell? ⟨A, oa + j, none⟩ = some (.int .i64 (a2 : Nat)) ∧ (a2 : Int) < (ks.length : Int) ∧ wr.cell? ⟨kb, koff + a2, none⟩ = some (.float .f64 x2)) := by
                show _ → _
                intro hi
                have g := hA3.cell (oa + j)
                rw [ixV_get R2 (oa + j) (by have := HR2.out; have := HRL.out; omega), ← ha2] at g
                have hr := HRG2.out j (by omega)
                rw [← ha2] at hr
                refine ⟨g, by omega, ?_⟩
                rw [hx2]
                exact (HK2.out.off hO3).rd a2 hr
              have HC1 : Hid (TK = true → i < h ∧ (j < n → key x1 ≤ key x2)) := by
                show _ → _
                intro ht
                rw [hTK] at ht
                by_cases e : n ≤ j
                · exact ⟨by omega, fun h => by omega⟩
                · rw [decide_eq_false e, Bool.false_or, Bool.and_eq_true, decide_eq_true_iff] at ht
                  refine ⟨ht.1, fun hj => ?_⟩
                  have g1 := HKS.out a1 (by rw [ha1]; exact HRG2.out i (by omega))
                  have g2 := HKS.out a2 (by rw [ha2]; exact HRG2.out j (by omega))
                  rw [← hx1] at g1
                  rw [← hx2] at g2
                  have := ht.2
                  rw [leB_key g1 g2] at this
                  exact of_decide_eq_true this
              have HC2 : Hid (TK = false → j < n ∧ (i < h → key x2 ≤ key x1)) := by
                show _ → _
                intro ht
                rw [hTK] at ht
                by_cases e : n ≤ j
                · rw [decide_eq_true e] at ht; simp at ht
                · refine ⟨by omega, fun hi => ?_⟩
                  rw [decide_eq_false e, decide_eq_true hi, Bool.false_or, Bool.true_and] at ht
                  have g1 := HKS.out a1 (by rw [ha1]; exact HRG2.out i (by omega))
                  have g2 := HKS.out a2 (by rw [ha2]; exact HRG2.out j (by omega))
                  rw [← hx1] at g1
                  rw [← hx2] at g2
                  rw [leB_key g1 g2] at ht
                  have := of_decide_eq_false ht
                  omega
              have HX1 : Hid (key x1 = key (ks.getD (R2.getD (oa + i) 0) 0)) := by show _ = _; rw [hx1, ha1]
              have HX2 : Hid (key x2 = key (ks.getD (R2.getD (oa + j) 0) 0)) := by show _ = _; rw [hx2, ha2]
              have HA1 : Hid (a1 = R2.getD (oa + i) 0) := ha1
              have HA2 : Hid (a2 = R2.getD (oa + j) 0) := ha2
              have n0 : q < 9223372036854775807 := by omega
              clear ha1 ha2 hx1 hx2 hTK
              go_upto_region 10 with fail
              go_cut [64] (fun s wx => s = .bool TK ∧ ∃ m, wx = wr.drewN m)
              case first =>
                by_cases e : n ≤ j
                · have e1 : decide ((n : Int) ≤ (j : Int)) = true := decide_eq_true (by omega)
                  have HTT : Hid (TK = true) := by show _ = _; rw [HTK.out, decide_eq_true e]; rfl
                  go_quiet (fail)
                  go_wp2_with fail
                  go_meet
                  exact ⟨by rw [HTT.out], _, rfl⟩
                · have e1 : decide ((n : Int) ≤ (j : Int)) = false := decide_eq_false (by omega)
                  by_cases e2 : i < h
                  · have e3 : decide ((i : Int) < (h : Int)) = true := decide_eq_true (by omega)
                    obtain ⟨g1, g2, g3⟩ := HG1.out e2
                    obtain ⟨g4, g5, g6⟩ := HG2.out (by omega)
                    obtain ⟨LE, hLE⟩ : ∃ B, (FloatKind.f64.format.order x1 x2 == some .lt || FloatKind.f64.format.order x1 x2 == some .eq) = B := ⟨_, rfl⟩
                    have HTT : Hid (TK = LE) := by show _ = _; rw [HTK.out, decide_eq_false e, decide_eq_true e2, ← hLE]; simp [leB]
                    have k1 : (i : Int) < (n : Int) := by omega
                    have k2 : (j : Int) < (n : Int) := by omega
                    go_quiet (fail)
                    go_wp2_with fail
                    go_meet
                    exact ⟨by rw [HTT.out], _, rfl⟩
                  · have e3 : decide ((i : Int) < (h : Int)) = false := decide_eq_false (by omega)
                    have HTT : Hid (TK = false) := by show _ = _; rw [HTK.out, decide_eq_false e, decide_eq_false e2]; rfl
                    go_quiet (fail)
                    go_wp2_with fail
                    go_meet
                    exact ⟨by rw [HTT.out], _, rfl⟩
              case rest =>
                obtain ⟨rfl, m, rfl⟩ := hcut
                cases TK with
                | true =>
                  obtain ⟨hca0, hcb⟩ := HC1.out rfl
                  have HCB : Hid (_ → _) := hcb
                  obtain ⟨g1, g2, g3⟩ := HG1.out hca0
                  have k1 : (i : Int) < (n : Int) := by omega
                  have gb := hB3.cell (ob + q)
                  rw [ixV_get T3 (ob + q) (by have := HT3.out; have := HTL.out; omega)] at gb
                  have fb := hB3.frozen (ob + q)
                  have HRB : Hid (Row _ B 3 _) := (hB3.drewN m).set (ob + q) (.int .i64 (a1 : Nat))
                  have HRA : Hid (Row _ A 3 _) := (hA3.drewN m).other B hAB (ob + q) (.int .i64 (a1 : Nat))
                  have HOO : Hid (Off2 A B w _) := (hO3.drewN m).setB (ob + q) (.int .i64 (a1 : Nat))
                  clear hcb hA3 hB3 hO3
                  go_wp2
                  go_roundg (n - (q + 1))
                  case measure => rw [HK.out]; omega
                  case rel =>
                    have hrb := HRB.out
                    rw [ixV_set] at hrb
                    have hl1 : ob + q < T3.length := by have := HT3.out; have := HTL.out; omega
                    refine ⟨i + 1, j, q + 1, T3.set (ob + q) a1, by go_num, rfl, by go_num, rfl, hlt, HRA.out, hrb, by show _ = _; rw [List.length_set]; exact HT3.out, fun s hs => ?_, HMG.out.left HP1.out HP2.out hca0 (fun hjj => by show key _ ≤ key _; rw [← HX1.out, ← HX2.out]; exact HCB.out hjj) (fun s hs => by show key _ = key _; rw [getD_set_ne _ _ _ _ _ (by omega)]) (by show key _ = key _; rw [getD_set_same _ _ _ _ hl1, HA1.out]), HOO.out⟩
                    by_cases es : s = q
                    · rw [es, getD_set_same _ _ _ _ hl1, HA1.out]; exact HRG2.out i (by omega)
                    · rw [getD_set_ne _ _ _ _ _ (by omega)]; exact HTR.out s (by omega)
                | false =>
                  obtain ⟨hca0, hcb⟩ := HC2.out rfl
                  have HCB : Hid (_ → _) := hcb
                  obtain ⟨g1, g2, g3⟩ := HG2.out hca0
                  have k1 : (j : Int) < (n : Int) := by omega
                  have gb := hB3.cell (ob + q)
                  rw [ixV_get T3 (ob + q) (by have := HT3.out; have := HTL.out; omega)] at gb
                  have fb := hB3.frozen (ob + q)
                  have HRB : Hid (Row _ B 3 _) := (hB3.drewN m).set (ob + q) (.int .i64 (a2 : Nat))
                  have HRA : Hid (Row _ A 3 _) := (hA3.drewN m).other B hAB (ob + q) (.int .i64 (a2 : Nat))
                  have HOO : Hid (Off2 A B w _) := (hO3.drewN m).setB (ob + q) (.int .i64 (a2 : Nat))
                  clear hcb hA3 hB3 hO3
                  go_wp2
                  go_roundg (n - (q + 1))
                  case measure => rw [HK.out]; omega
                  case rel =>
                    have hrb := HRB.out
                    rw [ixV_set] at hrb
                    have hl1 : ob + q < T3.length := by have := HT3.out; have := HTL.out; omega
                    refine ⟨i, j + 1, q + 1, T3.set (ob + q) a2, rfl, by go_num, by go_num, rfl, hlt, HRA.out, hrb, by show _ = _; rw [List.length_set]; exact HT3.out, fun s hs => ?_, HMG.out.right HP1.out HP2.out hca0 (fun hjj => by show key _ ≤ key _; rw [← HX1.out, ← HX2.out]; exact HCB.out hjj) (fun s hs => by show key _ = key _; rw [getD_set_ne _ _ _ _ _ (by omega)]) (by show key _ = key _; rw [getD_set_same _ _ _ _ hl1, HA2.out]), HOO.out⟩
                    by_cases es : s = q
                    · rw [es, getD_set_same _ _ _ _ hl1, HA2.out]; exact HRG2.out j (by omega)
                    · rw [getD_set_ne _ _ _ _ _ (by omega)]; exact HTR.out s (by omega)
            · have e : q = n := by omega
              subst e
              clear HK
              go_wp2
              go_loopg [11] q (fun k s11 wr2 => ∃ (p : Nat) (R3 : List Nat), s11 = .int .i64 p ∧ Hid (k = q - p) ∧ p ≤ q ∧ Row wr2 A 3 (ixV R3) ∧ Row wr2 B 3 (ixV T3) ∧ Hid (R3.length = R.length) ∧ Hid (∀ s, s < p → R3.getD (oa + s) 0 = T3.getD (ob + s) 0) ∧ Hid (∀ i, (i < oa ∨ oa + q ≤ i) → R3.getD i 0 = R.getD i 0) ∧ Off2 A B w wr2)
              case atStart => exact ⟨0, R2, rfl, rfl, by omega, hA3, hB3, HR2, fun s hs => by omega, HOUT, hO3⟩
              case round =>
                obtain ⟨p, R3, rfl, HK, hp, hA4, hB4, HR3, HEQ, HOU, hO4⟩ := hrel
                clear hA3 hB3 hO3
                by_cases hlp : p < q
                · have gb := hB4.cell (ob + p)
                  rw [ixV_get T3 (ob + p) (by have := HT3.out; have := HTL.out; omega)] at gb
                  obtain ⟨t, ht⟩ : ∃ t, t = T3.getD (ob + p) 0 := ⟨_, rfl⟩
                  rw [← ht] at gb
                  have HTT : Hid (t = T3.getD (ob + p) 0) := ht
                  have ga := hA4.cell (oa + p)
                  rw [ixV_get R3 (oa + p) (by have := HR3.out; have := HRL.out; omega)] at ga
                  have fa := hA4.frozen (oa + p)
                  have HRA : Hid (Row _ A 3 _) := hA4.set (oa + p) (.int .i64 (t : Nat))
                  have HRB : Hid (Row _ B 3 _) := hB4.other A (fun e => hAB e.symm) (oa + p) (.int .i64 (t : Nat))
                  have HOO : Hid (Off2 A B w _) := hO4.setA (oa + p) (.int .i64 (t : Nat))
                  clear ht hA4 hB4 hO4
                  go_wp2
                  go_roundg (q - (p + 1))
                  case measure => rw [HK.out]; omega
                  case rel =>
                    have hra := HRA.out
                    rw [ixV_set] at hra
                    refine ⟨p + 1, R3.set (oa + p) t, by go_num, rfl, hlp, hra, HRB.out, by show _ = _; rw [List.length_set]; exact HR3.out, fun s hs => ?_, fun i hi => ?_, HOO.out⟩
                    · by_cases es : s = p
                      · rw [es, getD_set_same _ _ _ _ (by have := HR3.out; have := HRL.out; omega)]; exact HTT.out
                      · rw [getD_set_ne _ _ _ _ _ (by omega)]; exact HEQ.out s (by omega)
                    · rw [getD_set_ne _ _ _ _ _ (by omega)]; exact HOU.out i hi
                · have e : p = q := by omega
                  subst e
                  go_wp2
                  go_end0
                  refine ⟨rfl, R3, T3, hA4, hB4, HT3.out, ⟨HR3.out, HOU.out, fun i hi => ?_, fun i j hij hj => ?_⟩, hO4⟩
                  · rw [HEQ.out i hi]; exact HTR.out i hi
                  · rw [HEQ.out i (by omega), HEQ.out j hj]; exact HMG.out.srt i j hij hj
end Go.Proofs.Qxb6601308a
