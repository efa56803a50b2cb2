/-
  SEAT b6001410a: decimal, isDigit: the walks.
-/
import Derived.Test.Qxb6001410aSkip
import Derived.Test.Qxb6001410aDec
import Derived.Laws.Bits64
import Derived.Deep.DeepCutAuto
namespace Go.Proofs.Qxb6001410a
open Go.ChangeShapes Go.WideShapes Go.ChangeAt Go.RowKit

theorem isDigit_any (w : World) (c : Int) :
    Calls Try.prog 19 #[.int .u8 c] w fun e w' => e = .returned (.bool (dgB c)) ∧ w = w' := by
  by_cases h48 : 48 ≤ c
  · go_enter Try.func19, Try.ntmps19
    go_wp2
    go_ret
    exact ⟨ret_bool (by simp [dgB, h48]), rfl⟩
  · have hd : decide (48 ≤ c) = false := decide_eq_false h48
    go_enter Try.func19, Try.ntmps19
    go_wp2
    go_ret
    exact ⟨ret_bool (by simp [dgB, hd]), rfl⟩

/-- The buffer: its last j cells hold the j lowest digits of U. -/
structure Buf (w wr : World) (U j : Nat) (pre : List Int) : Prop where
  bel : Below w.heap.size w wr
  row : ∃ cs : List Value, cs.length = 20 ∧ wr.heap[w.heap.size]? = some (.cells cs.toArray 46 (0, 0)) ∧ cs.drop (20 - (pre.length + j)) = (pre ++ dg U j).map (Value.int .u8)

theorem Buf.cell {w wr : World} {U j : Nat} {pre : List Int} (h : Buf w wr U j pre) (k : Nat) (hk : k < 20) : ∃ v, wr.cell? ⟨w.heap.size, k, none⟩ = some v ∧ wr.frozen? ⟨w.heap.size, k, none⟩ = false := by
  obtain ⟨cs, hl, hh, _⟩ := h.row
  refine ⟨cs[k]'(by omega), ?_, frozen_of_row wr _ k _ _ hh⟩
  rw [cell_of_row wr _ k _ _ _ hh]
  simp

theorem drop_set_one {α : Type} (cs : List α) (m : Nat) (x : α) (h : m < cs.length) : (cs.set m x).drop m = x :: cs.drop (m + 1) := by
  rw [List.drop_eq_getElem_cons (by simpa using h)]
  simp [List.drop_set]

theorem Buf.step {w wr : World} {U j : Nat} (h : Buf w wr U j []) (hj : j < 20) (x : Int) (hx : x = 48 + ((U / 10 ^ j % 10 : Nat) : Int)) :
    Buf w (wr.setCell ⟨w.heap.size, 20 - j - 1, none⟩ (.int .u8 x)) U (j + 1) [] := by
  obtain ⟨cs, hl, hh, hd⟩ := h.row
  refine ⟨h.bel.setCell (Nat.le_refl _) _, cs.set (20 - j - 1) (.int .u8 x), by simpa using hl, ?_, ?_⟩
  · rw [heap_setCell_same wr _ _ _ _ _ hh]; simp
  · have e : 20 - (([] : List Int).length + (j + 1)) = 20 - j - 1 := by simp; omega
    rw [e, drop_set_one _ _ _ (by omega)]
    have e2 : 20 - j - 1 + 1 = 20 - (([] : List Int).length + j) := by simp; omega
    rw [e2, hd, hx]
    simp [dg]

theorem Buf.sign {w wr : World} {U j : Nat} (h : Buf w wr U j []) (hj : j < 20) :
    Buf w (wr.setCell ⟨w.heap.size, 20 - j - 1, none⟩ (.int .u8 45)) U j [45] := by
  obtain ⟨cs, hl, hh, hd⟩ := h.row
  refine ⟨h.bel.setCell (Nat.le_refl _) _, cs.set (20 - j - 1) (.int .u8 45), by simpa using hl, ?_, ?_⟩
  · rw [heap_setCell_same wr _ _ _ _ _ hh]; simp
  · have e : 20 - (([45] : List Int).length + j) = 20 - j - 1 := by simp; omega
    rw [e, drop_set_one _ _ _ (by omega)]
    have e2 : 20 - j - 1 + 1 = 20 - (([] : List Int).length + j) := by simp; omega
    rw [e2, hd]
    simp

theorem Buf.src {w wr : World} {U j : Nat} {pre : List Int} (h : Buf w wr U j pre) : ∀ t u, ((pre ++ dg U j).map (Value.int .u8))[t]? = some u → wr.cell? ⟨w.heap.size, 20 - (pre.length + j) + t, none⟩ = some u := by
  obtain ⟨cs, hl, hh, hd⟩ := h.row
  intro t u hu
  rw [← hd] at hu
  rw [cell_of_row wr _ _ _ _ _ hh, ← hu]
  simp

theorem Buf.lt {w wr : World} {U j : Nat} {pre : List Int} (h : Buf w wr U j pre) : w.heap.size < wr.heap.size := by
  obtain ⟨cs, hl, hh, hd⟩ := h.row
  exact (Array.getElem?_eq_some_iff.1 hh).1

theorem txt_by8 (neg : Bool) (U j : Nat) : ∀ n ∈ txt neg U j, 0 ≤ n ∧ n ≤ 255 := by
  intro n hn
  unfold txt at hn
  rcases List.mem_append.1 hn with h | h
  · cases neg
    · simp at h
    · simp at h; omega
  · have := List.all_eq_true.1 (dg_dig U j) n h
    simp [dgB] at this; omega

theorem decimal_pos (w : World) (U : Nat) (h1 : U < 1000000000000000000) :
    Calls Try.prog 20 #[.int .i64 U] w fun e w' => ∃ g len j, e = .returned (.slice (some ⟨g, 0, none⟩) len len) ∧ Sl w' (some ⟨g, 0, none⟩) len len (txt false U j) ∧ 1 ≤ j ∧ j ≤ 18 ∧ U / 10 ^ j = 0 ∧ (j = 1 ∨ U / 10 ^ (j - 1) ≠ 0) ∧ Below w.heap.size w w' := by
  obtain ⟨i0, hi, hz0, hz1, hz2⟩ := info_parts Try.info5
  go_enter Try.func20, Try.ntmps20
  go_wp2_with fail
  go_loopg [4, 6] 18 (fun k u i wr => ∃ j m x : Nat, Hid (j + m = 20) ∧ Hid (j = 0 ∨ U / 10 ^ j ≠ 0) ∧ j ≤ 17 ∧ Hid (k = 18 - j) ∧ u = .int .u64 x ∧ Hid (x = U / 10 ^ j) ∧ i = .int .i64 m ∧ Buf w wr U j [])
  case atStart =>
    refine ⟨0, 20, U, rfl, .inl rfl, by omega, rfl, rfl, by show _ = _; simp, rfl, ?_⟩
    refine ⟨(Below.refl _ _).alloc (Nat.le_refl _) _, List.replicate 20 (.int .u8 0), rfl, ?_, rfl⟩
    rw [heap_alloc_new]; rfl
  case round =>
    obtain ⟨j, m, x, HM, HJ, hj, HK, rfl, HX, rfl, hbuf⟩ := hrel
    obtain ⟨mi, rfl⟩ : ∃ mi, m = mi + 1 := ⟨m - 1, by have := HM.out; omega⟩
    have hm : 2 ≤ mi ∧ mi ≤ 19 := by have := HM.out; omega
    have hx : x < 1000000000000000000 := by rw [HX.out]; exact Nat.lt_of_le_of_lt (Nat.div_le_self _ _) h1
    obtain ⟨v0, c0, f0⟩ := hbuf.cell (mi) (by omega)
    have hm1 := hm.1
    have hm2 := hm.2
    have hmI : (mi : Int) ≤ 20 := by omega
    have hmJ : (mi : Int) < 20 := by omega
    clear hm
    have hst : Buf w (wr.setCell ⟨w.heap.size, mi, none⟩ (.int .u8 (48 + (x : Int) % 10))) U (j + 1) [] := by
      have e : mi = 20 - j - 1 := by have := HM.out; omega
      rw [e]
      exact hbuf.step (by omega) _ (by rw [HX.out]; rfl)
    by_cases hz : (x : Int) / 10 = 0
    · have hzb : ((x : Int) / 10 == 0) = true := by simpa using hz
      have HZ : Hid (U / 10 ^ (j + 1) = 0) := by
        show _ = _
        rw [Nat.pow_succ, ← Nat.div_div_eq_div_mul, ← HX.out]; omega
      clear hz
      have hsz : w.heap.size < wr.heap.size := by have := cell_lt c0; simpa using this
      go_wp2_with (at_make; refine wpList_make_full _ rfl _ _ 22 rfl (w.heap.size + 1) 5 i0 (.int .u8 0) 1 Try.underlying22 hi hz0 hz1 _ _ _ _ (j + 1) rfl rfl (by have := HM.out; omega) (by have := HM.out; omega) (by rw [hz2]; omega) (by unfold maxLen; omega) (by simp; omega) ?_)
      intro w1 hown1 hgrow1
      have hb1 : Below (wr.setCell ⟨w.heap.size, mi, none⟩ (.int .u8 (48 + (x : Int) % 10))).heap.size (wr.setCell ⟨w.heap.size, mi, none⟩ (.int .u8 (48 + (x : Int) % 10))) w1 := (Below.refl _ _).grown hgrow1 (Nat.le_refl _) (by simp)
      have hg1 := heap_of_own hown1
      clear hown1 hgrow1
      have hw1 : Below w.heap.size w w1 := hst.bel.trans (hb1.mono hst.bel.size)
      have hsrc : ∀ t u, ((txt false U (j + 1)).map (Value.int .u8))[t]? = some u → w1.cell? ⟨w.heap.size, mi + t, none⟩ = some u := by
        intro t u hu
        rw [hb1.cell (p := ⟨w.heap.size, mi + t, none⟩) hst.lt]
        have e : mi = 20 - (([] : List Int).length + (j + 1)) := by have := HM.out; simp; omega
        have hk := hst.src t u hu
        rwa [← e] at hk
      have HSRC : Hid (∀ t u, ((txt false U (j + 1)).map (Value.int .u8))[t]? = some u → w1.cell? ⟨w.heap.size, mi + t, none⟩ = some u) := hsrc
      obtain ⟨Z, hZ⟩ : ∃ Z, Z = (txt false U (j + 1)).map (Value.int .u8) := ⟨_, rfl⟩
      have HZL : Hid (Z.length = j + 1) := by show _ = _; rw [hZ]; simp [txt, dg_length]
      have HZ2 : Hid (Z = (txt false U (j + 1)).map (Value.int .u8)) := hZ
      clear hZ hsrc hst hbuf c0 f0
      go_wp2_with (refine wpList_copy_splice rfl (.tmp 36) (.tmp 38) 22 22 rfl 5 Try.underlying22 Try.size5 _ _ _ _ _ _ rfl rfl wr.heap.size 0 _ 5 hg1 Z ?_ ?_ ?_ ?_ w.heap.size w hw1 (by omega) ?_)
      · rw [HZL.out]; show j + 1 = min (20 - mi) (j + 1); have := HM.out; omega
      · intro _ t u hu
        rw [HZ2.out] at hu
        exact HSRC.out t u hu
      · rw [HZL.out]; simp [toList_madeCells_one]
      · rw [HZ2.out]; exact ints_oneCell _ _
      · intro w2 hg2 hw2
        go_wp2
        go_ret
        refine ⟨wr.heap.size, j + 1, j + 1, rfl, Sl.of_own (base := w.heap.size) (own_of_heap ?_ (by omega) (by simp [txt, dg_length]) (by unfold maxLen; omega)) (txt_by8 _ _ _), by omega, by omega, HZ.out, ?_, hw2⟩
        · rw [hg2.out, splice_all _ _ (by rw [HZL.out]; simp [toList_madeCells_one]), HZ2.out]
        · rcases HJ.out with h | h
          · exact .inl (by omega)
          · exact .inr (by simpa using h)
    · have hzb : ((x : Int) / 10 == 0) = false := by simpa using hz
      have HZ : Hid (U / 10 ^ (j + 1) = x / 10) := by
        show _ = _
        rw [Nat.pow_succ, ← Nat.div_div_eq_div_mul, ← HX.out]
      have hne : U / 10 ^ (j + 1) ≠ 0 := by rw [HZ.out]; omega
      have hj16 : j + 1 ≤ 17 := by
        rcases Nat.lt_or_ge 17 (j + 1) with h | h
        · exfalso
          have e : j + 1 = 18 := by omega
          rw [e] at hne
          exact hne (Nat.div_eq_of_lt h1)
        · exact h
      have HNE : Hid (U / 10 ^ (j + 1) ≠ 0) := hne
      clear hz hne
      go_wp2
      go_roundg (18 - (j + 1))
      case measure => rw [HK.out]; omega
      case rel => exact ⟨j + 1, mi, x / 10, by have := HM.out; show _ = _; omega, .inr HNE.out, hj16, rfl, by go_num, HZ.out.symm, rfl, hst⟩
theorem neg_u64 (U : Nat) (h1 : U < 1000000000000000000) : IntKind.u64.wrap (-IntKind.u64.wrap (-(U : Int))) = (U : Int) := by
  rw [IntKind.wrap_u64, IntKind.wrap_u64]; omega

theorem decimal_neg (w : World) (U : Nat) (hp : 0 < U) (h1 : U < 1000000000000000000) :
    Calls Try.prog 20 #[.int .i64 (-(U : Int))] w fun e w' => ∃ g len j, e = .returned (.slice (some ⟨g, 0, none⟩) len len) ∧ Sl w' (some ⟨g, 0, none⟩) len len (txt true U j) ∧ 1 ≤ j ∧ j ≤ 18 ∧ U / 10 ^ j = 0 ∧ (j = 1 ∨ U / 10 ^ (j - 1) ≠ 0) ∧ Below w.heap.size w w' := by
  obtain ⟨i0, hi, hz0, hz1, hz2⟩ := info_parts Try.info5
  have eU : IntKind.u64.wrap (-IntKind.u64.wrap (-(U : Int))) = (U : Int) := neg_u64 U h1
  have hneg : -(U : Int) < 0 := by omega
  go_enter Try.func20, Try.ntmps20
  go_wp2_with fail
  go_loopg [4, 6] 18 (fun k u i wr => ∃ j m x : Nat, Hid (j + m = 20) ∧ Hid (j = 0 ∨ U / 10 ^ j ≠ 0) ∧ j ≤ 17 ∧ Hid (k = 18 - j) ∧ u = .int .u64 x ∧ Hid (x = U / 10 ^ j) ∧ i = .int .i64 m ∧ Buf w wr U j [])
  case atStart =>
    refine ⟨0, 20, U, rfl, .inl rfl, by omega, rfl, rfl, by show _ = _; simp, rfl, ?_⟩
    refine ⟨(Below.refl _ _).alloc (Nat.le_refl _) _, List.replicate 20 (.int .u8 0), rfl, ?_, rfl⟩
    rw [heap_alloc_new]; rfl
  case round =>
    obtain ⟨j, m, x, HM, HJ, hj, HK, rfl, HX, rfl, hbuf⟩ := hrel
    obtain ⟨mi, rfl⟩ : ∃ mi, m = mi + 1 := ⟨m - 1, by have := HM.out; omega⟩
    have hm : 2 ≤ mi ∧ mi ≤ 19 := by have := HM.out; omega
    have hx : x < 1000000000000000000 := by rw [HX.out]; exact Nat.lt_of_le_of_lt (Nat.div_le_self _ _) h1
    obtain ⟨v0, c0, f0⟩ := hbuf.cell (mi) (by omega)
    have hm1 := hm.1
    have hm2 := hm.2
    have hmI : (mi : Int) ≤ 20 := by omega
    have hmJ : (mi : Int) < 20 := by omega
    clear hm
    have hst : Buf w (wr.setCell ⟨w.heap.size, mi, none⟩ (.int .u8 (48 + (x : Int) % 10))) U (j + 1) [] := by
      have e : mi = 20 - j - 1 := by have := HM.out; omega
      rw [e]
      exact hbuf.step (by omega) _ (by rw [HX.out]; rfl)
    by_cases hz : (x : Int) / 10 = 0
    · have hzb : ((x : Int) / 10 == 0) = true := by simpa using hz
      have HZ : Hid (U / 10 ^ (j + 1) = 0) := by
        show _ = _
        rw [Nat.pow_succ, ← Nat.div_div_eq_div_mul, ← HX.out]; omega
      clear hz
      obtain ⟨mk, rfl⟩ : ∃ mk, mi = mk + 1 := ⟨mi - 1, by omega⟩
      obtain ⟨v1, c1, f1⟩ := hbuf.cell mk (by omega)
      have hkI : (mk : Int) ≤ 20 := by omega
      have hkJ : (mk : Int) < 20 := by omega
      have hsg : Buf w ((wr.setCell ⟨w.heap.size, mk + 1, none⟩ (.int .u8 (48 + (x : Int) % 10))).setCell ⟨w.heap.size, mk, none⟩ (.int .u8 45)) U (j + 1) [45] := by
        have e : mk = 20 - (j + 1) - 1 := by have := HM.out; omega
        have hk := hst.sign (by omega)
        rwa [← e] at hk
      have hsz : w.heap.size < wr.heap.size := by have := cell_lt c0; simpa using this
      go_wp2_with (at_make; refine wpList_make_full _ rfl _ _ 22 rfl (w.heap.size + 1) 5 i0 (.int .u8 0) 1 Try.underlying22 hi hz0 hz1 _ _ _ _ (j + 2) rfl rfl (by have := HM.out; omega) (by have := HM.out; omega) (by rw [hz2]; omega) (by unfold maxLen; omega) (by simp; omega) ?_)
      intro w1 hown1 hgrow1
      have hb1 : Below ((wr.setCell ⟨w.heap.size, mk + 1, none⟩ (.int .u8 (48 + (x : Int) % 10))).setCell ⟨w.heap.size, mk, none⟩ (.int .u8 45)).heap.size ((wr.setCell ⟨w.heap.size, mk + 1, none⟩ (.int .u8 (48 + (x : Int) % 10))).setCell ⟨w.heap.size, mk, none⟩ (.int .u8 45)) w1 := (Below.refl _ _).grown hgrow1 (Nat.le_refl _) (by simp)
      have hg1 := heap_of_own hown1
      clear hown1 hgrow1
      have hw1 : Below w.heap.size w w1 := hsg.bel.trans (hb1.mono hsg.bel.size)
      have hsrc : ∀ t u, ((txt true U (j + 1)).map (Value.int .u8))[t]? = some u → w1.cell? ⟨w.heap.size, mk + t, none⟩ = some u := by
        intro t u hu
        rw [hb1.cell (p := ⟨w.heap.size, mk + t, none⟩) hsg.lt]
        have e : mk = 20 - (([45] : List Int).length + (j + 1)) := by have := HM.out; simp; omega
        have hk := hsg.src t u hu
        rwa [← e] at hk
      have HSRC : Hid (∀ t u, ((txt true U (j + 1)).map (Value.int .u8))[t]? = some u → w1.cell? ⟨w.heap.size, mk + t, none⟩ = some u) := hsrc
      obtain ⟨Z, hZ⟩ : ∃ Z, Z = (txt true U (j + 1)).map (Value.int .u8) := ⟨_, rfl⟩
      have HZL : Hid (Z.length = j + 2) := by show _ = _; rw [hZ]; simp [txt, dg_length]
      have HZ2 : Hid (Z = (txt true U (j + 1)).map (Value.int .u8)) := hZ
      clear hZ hsrc hst hbuf c0 f0 c1 f1 hsg
      go_wp2_with (refine wpList_copy_splice rfl (.tmp 36) (.tmp 38) 22 22 rfl 5 Try.underlying22 Try.size5 _ _ _ _ _ _ rfl rfl wr.heap.size 0 _ 5 hg1 Z ?_ ?_ ?_ ?_ w.heap.size w hw1 (by omega) ?_)
      · rw [HZL.out]; show j + 2 = min (20 - mk) (j + 2); have := HM.out; omega
      · intro _ t u hu
        rw [HZ2.out] at hu
        exact HSRC.out t u hu
      · rw [HZL.out]; simp [toList_madeCells_one]
      · rw [HZ2.out]; exact ints_oneCell _ _
      · intro w2 hg2 hw2
        go_wp2
        go_ret
        refine ⟨wr.heap.size, j + 2, j + 1, rfl, Sl.of_own (base := w.heap.size) (own_of_heap ?_ (by omega) (by simp [txt, dg_length]) (by unfold maxLen; omega)) (txt_by8 _ _ _), by omega, by omega, HZ.out, ?_, hw2⟩
        · rw [hg2.out, splice_all _ _ (by rw [HZL.out]; simp [toList_madeCells_one]), HZ2.out]
        · rcases HJ.out with h | h
          · exact .inl (by omega)
          · exact .inr (by simpa using h)
    · have hzb : ((x : Int) / 10 == 0) = false := by simpa using hz
      have HZ : Hid (U / 10 ^ (j + 1) = x / 10) := by
        show _ = _
        rw [Nat.pow_succ, ← Nat.div_div_eq_div_mul, ← HX.out]
      have hne : U / 10 ^ (j + 1) ≠ 0 := by rw [HZ.out]; omega
      have hj16 : j + 1 ≤ 17 := by
        rcases Nat.lt_or_ge 17 (j + 1) with h | h
        · exfalso
          have e : j + 1 = 18 := by omega
          rw [e] at hne
          exact hne (Nat.div_eq_of_lt h1)
        · exact h
      have HNE : Hid (U / 10 ^ (j + 1) ≠ 0) := hne
      clear hz hne
      go_wp2
      go_roundg (18 - (j + 1))
      case measure => rw [HK.out]; omega
      case rel => exact ⟨j + 1, mi, x / 10, by have := HM.out; show _ = _; omega, .inr HNE.out, hj16, rfl, by go_num, HZ.out.symm, rfl, hst⟩
end Go.Proofs.Qxb6001410a
