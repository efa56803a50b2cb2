/-
  SEAT b6601308a: holdWithin.
-/
import Derived.Test.Qxb6601308aMinMax
namespace Go.Proofs.Qxb6601308a
open Go.ChangeShapes Go.WideShapes Go.ChangeAt Go.RowKit

def ltB (x y : Nat) : Bool := FloatKind.f64.format.order x y == some .lt
def gtB (x y : Nat) : Bool := FloatKind.f64.format.order x y == some .gt
def geB (x y : Nat) : Bool := FloatKind.f64.format.order x y == some .gt || FloatKind.f64.format.order x y == some .eq
/-- 2.0 -/
def TWO : Nat := 4611686018427387904

/-- Below B no block but G has turned. -/
structure OffB (G B : Nat) (w w' : World) : Prop where
  os : w'.os = w.os
  tape : w'.tape = w.tape
  output : w'.output = w.output
  size : w.heap.size ≤ w'.heap.size
  block : ∀ k, k < B → k ≠ G → w'.heap[k]? = w.heap[k]?

theorem OffB.of_below {G B : Nat} {w w' : World} (h : Below B w w') : OffB G B w w' := ⟨h.os, h.tape, h.output, h.size, fun k hk _ => h.block k hk⟩
theorem OffB.drewN {G B : Nat} {w w' : World} (h : OffB G B w w') (n : Nat) : OffB G B w (w'.drewN n) := ⟨h.os, h.tape, h.output, h.size, h.block⟩
theorem OffB.set {G B : Nat} {w w' : World} (h : OffB G B w w') (i : Nat) (v : Value) : OffB G B w (w'.setCell ⟨G, i, none⟩ v) :=
  ⟨h.os, h.tape, h.output, by simpa [World.setCell] using h.size, fun k h1 h2 => (Below.heap_setCell _ _ _ _ h2).trans (h.block k h1 h2)⟩

/-- What the halving keeps: both ends are no NaNs; what was seen at them; how they lie. -/
structure Mid (xs : List Nat) (lo hi below above : Nat) : Prop where
  nb : nn below
  na : nn above
  ab : above = subW (maxsW xs) lo ∨ gtB (heldW xs lo hi above) (meanW xs) = false
  be : below = subW (minsW xs) hi ∨ gtB (heldW xs lo hi below) (meanW xs) = true
  l0 : key (subW (minsW xs) hi) ≤ key below
  mid : key below ≤ key above
  r0 : key above ≤ key (subW (maxsW xs) lo)

/-- How the halving ended: no double was found between. -/
structure Halved (xs : List Nat) (lo hi below above : Nat) : Prop extends Mid xs lo hi below above where
  fin : ∀ d h c, Ieee.double.sub above below = some d → Ieee.double.div d TWO = some h → Ieee.double.add below h = some c → (ltB below c && ltB c above) = false

theorem start_le {xs : List Nat} {lo hi : Nat} (hd : Dom xs lo hi) (h0 : 0 < xs.length) : key (subW (minsW xs) hi) ≤ key (subW (maxsW xs) lo) := by
  have hmi := minsW_ok xs hd.fx xs.length h0 (Nat.le_refl _)
  have hma := maxsW_ok xs hd.fx xs.length h0 (Nat.le_refl _)
  rw [List.take_length] at hmi hma
  obtain ⟨r, h1, h2, _⟩ := sub_key (minsW xs) hi hmi.1 hd.fhi
  obtain ⟨s, k1, k2, _⟩ := sub_key (maxsW xs) lo hma.1 hd.flo
  unfold subW
  rw [h1, k1]
  show key r ≤ key s
  rw [h2, k2]
  refine rk_mono ?_
  have a1 := hmi.2.2 0 h0
  have a2 := hma.2.2 0 h0
  have a3 := hd.le
  have b1 := V_lt_iff (maxsW xs) (minsW xs)
  have b2 := V_lt_iff hi lo
  omega

/-- What holdWithin leaves in its slice. -/
def Held (xs : List Nat) (lo hi : Nat) (ys : List Nat) : Prop :=
  ((geB (minsW xs) lo && leB (maxsW xs) hi) = true ∧ ys = xs) ∨ ((geB (minsW xs) lo && leB (maxsW xs) hi) = false ∧ ∃ below above, Halved xs lo hi below above ∧ ys = xs.map (clampW lo hi above))

theorem Fl.drewN {w : World} {a : Option Addr} {len cap : Nat} {xs : List Nat} (h : Fl w a len cap xs) (n : Nat) : Fl (w.drewN n) a len cap xs := ⟨h.len_eq, h.le, h.mx, h.nil, h.rd, h.wf⟩
theorem Boxes.drewN {w : World} {bv bl bh : Nat} {a : Option Addr} {len cap lo hi : Nat} (h : Boxes w bv bl bh a len cap lo hi) (n : Nat) : Boxes (w.drewN n) bv bl bh a len cap lo hi := ⟨h.v, h.l, h.h⟩

theorem Boxes.set {w : World} {B : Nat} {a : Option Addr} {len cap lo hi : Nat} (h : Boxes w B (B + 1) (B + 2) a len cap lo hi) (G : Nat) (hG : G < B) (i : Nat) (v : Value) : Boxes (w.setCell ⟨G, i, none⟩ v) B (B + 1) (B + 2) a len cap lo hi := by
  have q : ∀ k, G ≠ k → ∀ o, (w.setCell ⟨G, i, none⟩ v).cell? ⟨k, o, none⟩ = w.cell? ⟨k, o, none⟩ := fun k hk o => World.cell?_of_block (w := w) (Below.heap_setCell w _ v k (fun e => hk e.symm))
  exact ⟨(q _ (by omega) _).trans h.v, (q _ (by omega) _).trans h.l, (q _ (by omega) _).trans h.h⟩

theorem lt_nn {x y : Nat} (h : ltB x y = true) : nn x ∧ nn y ∧ key x < key y := by
  unfold ltB at h
  rw [order64] at h
  by_cases hx : nn x
  · by_cases hy : nn y
    · refine ⟨hx, hy, ?_⟩
      rw [order_key x y hx hy] at h
      rcases Int.lt_trichotomy (key x) (key y) with k | k | k
      · exact k
      · rw [cmp_eq k] at h; simp at h
      · rw [cmp_gt k] at h; simp at h
    · rw [order_nan x y (.inr hy)] at h; simp at h
  · rw [order_nan x y (.inl hx)] at h; simp at h

set_option maxHeartbeats 4000000 in
set_option maxRecDepth 20000 in
theorem hold_any (w : World) (G len : Nat) (xs : List Nat) (lo hi : Nat) (hrow : Row w G 22 (flV xs)) (hl : xs.length = len) (h0 : 0 < len) (h1 : len ≤ 131072) (hw : ∀ n ∈ xs, n < 18446744073709551616) (hd : Dom xs lo hi) :
    Calls Try.prog 28 #[.slice (some ⟨G, 0, none⟩) len len, .float .f64 lo, .float .f64 hi] w fun e w' => ∃ ys, e = .returned (.tuple #[]) ∧ Row w' G 22 (flV ys) ∧ Held xs lo hi ys ∧ OffB G w.heap.size w w' := by
  have hflw : Fl w (some ⟨G, 0, none⟩) len len xs := by have := Fl.of_row hrow (by unfold maxLen; omega) hw; rw [hl] at this; exact this
  obtain ⟨W3, hW3⟩ : ∃ W3, W3 = ((w.alloc (.cells #[.slice (some ⟨G, 0, none⟩) len len] 28)).alloc (.cells #[.float .f64 lo] 22)).alloc (.cells #[.float .f64 hi] 22) := ⟨_, rfl⟩
  have hb3 : Below w.heap.size w W3 := by rw [hW3]; exact (((Below.refl _ _).alloc (Nat.le_refl _) _).alloc (by simp) _).alloc (by simp; omega) _
  have hfl := hflw.below hb3 (Nat.le_refl _)
  have hrow3 := hrow.below hb3 hrow.lt
  have hbx : Boxes W3 w.heap.size (w.heap.size + 1) (w.heap.size + 2) (some ⟨G, 0, none⟩) len len lo hi := by
    rw [hW3]
    exact ⟨by go_simp, by go_simp, by go_simp⟩
  have hGlt : G < w.heap.size := hrow.lt
  obtain ⟨vMin, hvMin⟩ : ∃ m, m = minsW xs := ⟨_, rfl⟩
  obtain ⟨vMax, hvMax⟩ : ∃ m, m = maxsW xs := ⟨_, rfl⟩
  have HMin : Hid (vMin = minsW xs) := hvMin
  have HMax : Hid (vMax = maxsW xs) := hvMax
  have HDM : Hid (Dom xs lo hi) := hd
  have HL : Hid (xs.length = len) := hl
  have HW3 : Hid (W3 = ((w.alloc (.cells #[.slice (some ⟨G, 0, none⟩) len len] 28)).alloc (.cells #[.float .f64 lo] 22)).alloc (.cells #[.float .f64 hi] 22)) := hW3
  clear hvMin hvMax hflw hrow hw hl
  have HF : Hid (∀ i, i < xs.length → fin (xs.getD i 0)) := hd.fx
  have c1 := hbx.v
  have c2 := hbx.l
  have c3 := hbx.h
  clear hW3 hbx
  obtain ⟨GE, hGE⟩ : ∃ B, (FloatKind.f64.format.order vMin lo == some .gt || FloatKind.f64.format.order vMin lo == some .eq) = B := ⟨_, rfl⟩
  obtain ⟨LE, hLE⟩ : ∃ B, (FloatKind.f64.format.order vMax hi == some .lt || FloatKind.f64.format.order vMax hi == some .eq) = B := ⟨_, rfl⟩
  have HGE : Hid (geB vMin lo = GE) := hGE
  have HLE : Hid (leB vMax hi = LE) := hLE
  go_enter Try.func28, Try.ntmps28
  go_upto_region 0 with fail
  go_cut [3, 4, 5] (fun a b c wx => a = .pointer (some ⟨w.heap.size, 0, none⟩) ∧ b = .pointer (some ⟨w.heap.size + 1, 0, none⟩) ∧ c = .pointer (some ⟨w.heap.size + 2, 0, none⟩) ∧ W3 = wx)
  case first =>
    go_wp2_with fail
    go_meet
    exact ⟨rfl, rfl, rfl, HW3.out⟩
  case rest =>
    obtain ⟨rfl, rfl, rfl, rfl⟩ := hcut
    go_upto_region 1 with fail
    go_cut [6, 7] (fun a b wx => a = .float .f64 vMin ∧ b = .float .f64 vMax ∧ ∃ n, wx = W3.drewN n)
    case first =>
      go_quiet ((first | (go_at_call 34; exact Calls.quiet_of_same (min_any _ _ _ _ _ (hfl.drewN _) h0 HF.out _ HMin)) | (go_at_call 35; exact Calls.quiet_of_same (max_any _ _ _ _ _ (hfl.drewN _) h0 HF.out _ HMax))))
      go_wp2_with fail
      go_meet
      exact ⟨rfl, rfl, _, rfl⟩
    case rest =>
      obtain ⟨rfl, rfl, n1, rfl⟩ := hcut
      go_upto_region 2 with fail
      go_cut [26] (fun a wx => a = .bool (GE && LE) ∧ wx = W3.drewN n1)
      case first =>
        cases GE with
        | false =>
          go_wp2_with fail
          go_meet
          exact ⟨rfl, rfl⟩
        | true =>
          cases LE with
          | false =>
            go_wp2_with fail
            go_meet
            exact ⟨rfl, rfl⟩
          | true =>
            go_wp2_with fail
            go_meet
            exact ⟨rfl, rfl⟩
      case rest =>
        obtain ⟨rfl, rfl⟩ := hcut
        clear hGE hLE
        obtain ⟨IN, hIN⟩ : ∃ B, B = (GE && LE) := ⟨_, rfl⟩
        have HIN : Hid ((geB (minsW xs) lo && leB (maxsW xs) hi) = IN) := by show _ = _; rw [hIN, ← HGE.out, ← HLE.out, HMin.out, HMax.out]
        rw [← hIN]
        clear hIN
        cases IN with
        | true =>
          go_wp2
          refine bodyPost_ret (results_none rfl _ _ _) rfl ?_
          exact ⟨xs, rfl, hrow3.drewN n1, .inl ⟨HIN.out, rfl⟩, (OffB.of_below hb3).drewN n1⟩
        | false =>
          have hmi := minsW_ok xs HF.out xs.length (by rw [HL.out]; exact h0) (Nat.le_refl _)
          have hma := maxsW_ok xs HF.out xs.length (by rw [HL.out]; exact h0) (Nat.le_refl _)
          rw [List.take_length, ← HMin.out] at hmi
          rw [List.take_length, ← HMax.out] at hma
          have hsb := subW_ok vMin hi hmi.1 (fin_nn HDM.out.fhi)
          have hsa := subW_ok vMax lo hma.1 (fin_nn HDM.out.flo)
          have HM0 : Hid (Mid xs lo hi (subW vMin hi) (subW vMax lo)) := ⟨hsb.2.1, hsa.2.1, .inl (by rw [HMax.out]), .inl (by rw [HMin.out]), by rw [HMin.out]; exact Int.le_refl _, by rw [HMin.out, HMax.out]; exact start_le HDM.out (by rw [HL.out]; exact h0), by rw [HMax.out]; exact Int.le_refl _⟩
          obtain ⟨b0, hb0⟩ : ∃ b, b = subW vMin hi := ⟨_, rfl⟩
          obtain ⟨a0, ha0⟩ : ∃ b, b = subW vMax lo := ⟨_, rfl⟩
          have f1 := fun W => fa_ok .sub 22 vMin hi b0 (by rw [hb0]; exact hsb.1) W
          have f2 := fun W => fa_ok .sub 22 vMax lo a0 (by rw [ha0]; exact hsa.1) W
          rw [← hb0, ← ha0] at HM0
          clear hmi hma hsb hsa hb0 ha0
          go_upto_region 5 with (go_at_call 36; refine (mean_any _ _ _ _ _ (hfl.drewN _) h0 h1 HF.out).mono ?_; rintro ev w' ⟨rfl, rfl⟩)
          go_cut [10, 11] (fun b a wx => b = .float .f64 b0 ∧ a = .float .f64 a0 ∧ ∃ n, wx = W3.drewN n)
          case first =>
            go_quiet (fail)
            go_wp2_with fail
            go_meet
            exact ⟨rfl, rfl, _, World.drewN_drewN _ _ _⟩
          case rest =>
            obtain ⟨rfl, rfl, n2, rfl⟩ := hcut
            clear f1 f2
            go_upto_block 0 with fail
            go_cut [10, 11, 12] (fun b a _ wx => ∃ below above n, b = .float .f64 below ∧ a = .float .f64 above ∧ Hid (Halved xs lo hi below above) ∧ wx = W3.drewN n)
            case first =>
              go_wp2_with fail
              go_loopg [10, 11, 12] ((key a0 - key b0).toNat) (fun k b a _ wr => ∃ below above n, b = .float .f64 below ∧ a = .float .f64 above ∧ Hid (k = (key above - key below).toNat) ∧ Hid (Mid xs lo hi below above) ∧ wr = W3.drewN n)
              case atStart => exact ⟨b0, a0, n2, rfl, rfl, rfl, HM0, rfl⟩
              case round =>
                obtain ⟨below, above, n, rfl, rfl, HK, HM, rfl⟩ := hrel
                obtain ⟨d, k1, r1, e1⟩ := fa_any .sub (.inr (.inl rfl)) 22 above below (W3.drewN n)
                rw [World.drewN_drewN] at r1
                obtain ⟨h, k2, r2, e2⟩ := fa_any .quo (.inr (.inr (.inl rfl))) 22 d 4611686018427387904 (W3.drewN (n + k1))
                rw [World.drewN_drewN] at r2
                obtain ⟨c, k3, r3, e3⟩ := fa_any .add (.inl rfl) 22 below h (W3.drewN (n + k1 + k2))
                rw [World.drewN_drewN] at r3
                obtain ⟨L1, hL1⟩ : ∃ B, (FloatKind.f64.format.order below c == some .lt) = B := ⟨_, rfl⟩
                obtain ⟨L2, hL2⟩ : ∃ B, (FloatKind.f64.format.order c above == some .lt) = B := ⟨_, rfl⟩
                have HL1 : Hid (ltB below c = L1) := hL1
                have HL2 : Hid (ltB c above = L2) := hL2
                have HE : Hid (∀ d' h' c', Ieee.double.sub above below = some d' → Ieee.double.div d' TWO = some h' → Ieee.double.add below h' = some c' → c' = c) := by
                  show ∀ d' h' c', _
                  intro d' h' c' g1 g2 g3
                  have q1 : d' = d := by
                    rcases e1 with e | e
                    · exact Option.some.inj (g1.symm.trans e)
                    · have := g1.symm.trans e.1; simp at this
                  subst q1
                  have q2 : h' = h := by
                    rcases e2 with e | e
                    · exact Option.some.inj (g2.symm.trans e)
                    · have := g2.symm.trans e.1; simp at this
                  subst q2
                  rcases e3 with e | e
                  · exact Option.some.inj (g3.symm.trans e)
                  · have := g3.symm.trans e.1; simp at this
                clear e1 e2 e3
                cases L1 with
                | false =>
                  go_wp2_with fail
                  go_meet
                  refine ⟨below, above, _, rfl, rfl, ⟨HM.out, fun d' h' c' g1 g2 g3 => ?_⟩, rfl⟩
                  rw [HE.out d' h' c' g1 g2 g3, HL1.out]; rfl
                | true =>
                  cases L2 with
                  | false =>
                    go_wp2_with fail
                    go_meet
                    refine ⟨below, above, _, rfl, rfl, ⟨HM.out, fun d' h' c' g1 g2 g3 => ?_⟩, rfl⟩
                    rw [HE.out d' h' c' g1 g2 g3, HL2.out]; simp
                  | true =>
                    have HT1 := lt_nn HL1.out
                    have HT2 := lt_nn HL2.out
                    have HLT : Hid (key below < key c ∧ key c < key above) := ⟨HT1.2.2, HT2.2.2⟩
                    have hcn : nn c := HT1.2.1
                    obtain ⟨GT, hGT⟩ : ∃ B, (FloatKind.f64.format.order (heldW xs lo hi c) (meanW xs) == some .gt) = B := ⟨_, rfl⟩
                    have HGT : Hid (gtB (heldW xs lo hi c) (meanW xs) = GT) := hGT
                    clear HT1 HT2
                    cases GT with
                    | false =>
                      go_wp2_with (go_at_call 37; refine (held_any _ _ _ _ _ _ _ _ _ _ (Boxes.drewN ⟨c1, c2, c3⟩ _) (hfl.drewN _) h0 h1 HDM.out _ hcn).mono ?_; rintro ev w' ⟨rfl, rfl⟩)
                      go_roundg ((key c - key below).toNat)
                      case measure => have h1 := HLT.out; have h2 := HK.out; omega
                      case rel => exact ⟨below, c, _, rfl, rfl, rfl, ⟨HM.out.nb, hcn, .inr HGT.out, HM.out.be, HM.out.l0, Int.le_of_lt HLT.out.1, Int.le_trans (Int.le_of_lt HLT.out.2) HM.out.r0⟩, rfl⟩
                    | true =>
                      go_wp2_with (go_at_call 37; refine (held_any _ _ _ _ _ _ _ _ _ _ (Boxes.drewN ⟨c1, c2, c3⟩ _) (hfl.drewN _) h0 h1 HDM.out _ hcn).mono ?_; rintro ev w' ⟨rfl, rfl⟩)
                      go_roundg ((key above - key c).toNat)
                      case measure => have h1 := HLT.out; have h2 := HK.out; omega
                      case rel => exact ⟨c, above, _, rfl, rfl, rfl, ⟨hcn, HM.out.na, HM.out.ab, .inr HGT.out, Int.le_trans HM.out.l0 (Int.le_of_lt HLT.out.1), Int.le_of_lt HLT.out.2, HM.out.r0⟩, rfl⟩
            case rest =>
              obtain ⟨below, above, n3, rfl, rfl, HH, rfl⟩ := hcut
              clear HM0
              have HBX : Boxes W3 w.heap.size (w.heap.size + 1) (w.heap.size + 2) (some ⟨G, 0, none⟩) len len lo hi := ⟨c1, c2, c3⟩
              go_wp2_with fail
              go_loopg [13, 14, 60] len (fun k _ _ i wr => ∃ (q : Nat) (zs : List Nat), q ≤ len ∧ Hid (k = len - q) ∧ i = .int .i64 q ∧ Hid (zs.length = len) ∧ Hid (∀ i, i < q → zs.getD i 0 = clampW lo hi above (xs.getD i 0)) ∧ Hid (∀ i, q ≤ i → zs.getD i 0 = xs.getD i 0) ∧ Row wr G 22 (flV zs) ∧ Boxes wr w.heap.size (w.heap.size + 1) (w.heap.size + 2) (some ⟨G, 0, none⟩) len len lo hi ∧ OffB G w.heap.size w wr)
              case atStart => exact ⟨0, xs, Nat.zero_le _, rfl, rfl, HL, fun i hi => by omega, fun i _ => rfl, hrow3.drewN n3, HBX.drewN n3, (OffB.of_below hb3).drewN n3⟩
              case round =>
                obtain ⟨q, zs, hq, HK, rfl, HZL, HZ1, HZ2, hrow, hbx, hoff⟩ := hrel
                clear hrow3 HBX c1 c2 c3 hfl hb3
                by_cases hlt : q < len
                · have g := hrow.cell q
                  rw [flV_get zs q (by rw [HZL.out]; exact hlt), HZ2.out q (Nat.le_refl _)] at g
                  have fz := hrow.frozen q
                  have c1 := hbx.v
                  have c2 := hbx.l
                  have c3 := hbx.h
                  obtain ⟨x, hx⟩ : ∃ x, x = xs.getD q 0 := ⟨_, rfl⟩
                  rw [← hx] at g
                  have hfx : fin x := by rw [hx]; exact HF.out q (by rw [HL.out]; exact hlt)
                  have hsb := subW_ok x above hfx HH.out.na
                  have har := fun W => fa_ok .sub 22 x above (subW x above) hsb.1 W
                  obtain ⟨d, hd⟩ : ∃ d, d = subW x above := ⟨_, rfl⟩
                  rw [← hd] at har hsb
                  have hmx := max_runW d lo hsb.2.1 (fin_nn HDM.out.flo)
                  have hmn := maxW_nn hsb.2.1 (fin_nn HDM.out.flo)
                  obtain ⟨m, hm⟩ : ∃ m, m = maxW d lo := ⟨_, rfl⟩
                  rw [← hm] at hmx hmn
                  have hmi := min_runW m hi hmn (fin_nn HDM.out.fhi)
                  obtain ⟨y, hy⟩ : ∃ y, y = minW m hi := ⟨_, rfl⟩
                  rw [← hy] at hmi
                  have HYY : Hid (y = clampW lo hi above (xs.getD q 0)) := by show _ = _; rw [← hx, hy, hm, hd]; rfl
                  have HR : Hid (Row (_ : World) G 22 _) := hrow.set q (.float .f64 y)
                  have HO : Hid (OffB G w.heap.size w _) := hoff.set q (.float .f64 y)
                  have HBN : Hid (Boxes _ w.heap.size (w.heap.size + 1) (w.heap.size + 2) (some ⟨G, 0, none⟩) len len lo hi) := hbx.set G hGlt q (.float .f64 y)
                  clear hx hfx hsb hd hmn hm hy hrow hbx hoff
                  go_wp2
                  go_roundg (len - (q + 1))
                  case measure => rw [HK.out]; omega
                  case rel =>
                    have hR := HR.out
                    rw [flV_set] at hR
                    refine ⟨q + 1, zs.set q y, by omega, rfl, by go_num, by show _ = _; rw [List.length_set]; exact HZL.out, fun i hi => ?_, fun i hi => ?_, hR, HBN.out, HO.out⟩
                    · by_cases e : i = q
                      · rw [e, getD_set_same _ _ _ _ (by rw [HZL.out]; exact hlt)]; exact HYY.out
                      · rw [getD_set_ne _ _ _ _ _ (fun k => e k.symm)]; exact HZ1.out i (by omega)
                    · rw [getD_set_ne _ _ _ _ _ (by omega)]; exact HZ2.out i (by omega)
                · go_wp2
                  go_end0
                  have e : zs = xs.map (clampW lo hi above) := list_ext_getD (by rw [HZL.out, List.length_map, HL.out]) (fun i hi => by
                    rw [HZ1.out i (by rw [HZL.out] at hi; omega), map_getD _ _ _ (by rw [HL.out]; rw [HZL.out] at hi; exact hi)])
                  exact ⟨zs, rfl, hrow, .inr ⟨HIN.out, below, above, HH.out, e⟩, hoff⟩
end Go.Proofs.Qxb6601308a
