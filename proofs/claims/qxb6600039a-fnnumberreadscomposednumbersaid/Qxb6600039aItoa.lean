/-
  SEAT b6600039a: jsb1Itoa, jsb1AppendDigits, jsb1ExpLetter, jsb1IsDigit.
-/
import Derived.Test.Qxb6600039aKit
import Derived.Test.Qxb6600039aNum
namespace Go.Proofs.Qxb6600039a
open Go.ChangeShapes Go.WideShapes Go.ChangeAt Go.RowKit

theorem isDigit22 (w : World) (c : Int) (D : Bool) (HD : Hid (D = dgB c)) :
    Calls Try.prog 22 #[.int .u8 c] w fun e w' => e = .returned (.bool D) ∧ w = w' := by
  by_cases h48 : 48 ≤ c
  · go_enter Try.func22, Try.ntmps22
    go_wp2
    go_ret
    exact ⟨ret_bool (by rw [HD.out]; simp [dgB, h48]), rfl⟩
  · have hd : decide (48 ≤ c) = false := decide_eq_false h48
    go_enter Try.func22, Try.ntmps22
    go_wp2
    go_ret
    exact ⟨ret_bool (by rw [HD.out]; simp [dgB, hd]), rfl⟩

def expL (u : Bool) : Int := if u then 69 else 101
theorem exp_any (w : World) (u : Bool) : Calls Try.prog 25 #[.bool u] w fun e w' => e = .returned (.int .u8 (expL u)) ∧ w = w' := by
  cases u with
  | true =>
    go_enter Try.func25, Try.ntmps25
    go_wp2
    go_ret
    exact ⟨rfl, rfl⟩
  | false =>
    go_enter Try.func25, Try.ntmps25
    go_wp2
    go_ret
    exact ⟨rfl, rfl⟩

/-- A row of the call's own that holds the text T. -/
structure Tx (w wr : World) (v : Value) (T : List Int) : Prop where
  own : wr.ownsRow w.heap.size 5 1 v T.length (T.map (Value.int .u8))
  bel : Below w.heap.size w wr

theorem Tx.one {w wr w3 : World} {v v' : Value} {T : List Int} {o : Obj} (h : Tx w wr v T) (ns : List Int) (hown : w3.ownsRow w.heap.size 5 1 v' (T.length + ns.length) (T.map (Value.int .u8) ++ ns.map (Value.int .u8))) (hg : (wr.alloc o).grownBy w3 v.ownBlock) : Tx w w3 v' (T ++ ns) :=
  ⟨by rw [List.length_append, List.map_append]; exact hown, below_app h.bel h.bel.size h.own (Nat.le_refl _) hg⟩

set_option maxHeartbeats 1000000 in
theorem appendDigits_any (w wi : World) (v : Value) (T : List Int) (ht : Tx w wi v T) (a : Option Addr) (len cap : Nat) (zs : List Int) (hs : Sl w a len cap zs) (hl : (len : Int) ≤ 65536) (hT : T.length ≤ 1048576) :
    Calls Try.prog 24 #[v, .slice a len cap] wi fun e w' => ∃ v', e = .returned v' ∧ Tx w w' v' (T ++ dgs zs) := by
  obtain ⟨i0, hi, hz0, hz1, hz2⟩ := info_parts Try.info5
  have HZL : Hid (zs.length = len) := hs.len_eq
  go_enter Try.func24, Try.ntmps24
  go_wp2
  go_loopg [0, 5] len (fun k v i wx => ∃ q : Nat, q ≤ len ∧ Hid (k = len - q) ∧ i = .int .i64 q ∧ Tx w wx v (T ++ dgs (zs.take q)))
  case atStart => exact ⟨0, Nat.zero_le _, rfl, rfl, by simpa [dgs] using ht⟩
  case round =>
    obtain ⟨q, hq, HK, rfl, hat⟩ := hrel
    clear ht
    by_cases hlt : q < len
    · rcases hs.rd with h00 | ⟨b, off, rfl, hlb, hc⟩
      · have := HZL.out; rw [h00] at this; simp at this; omega
      · have hltz : q < zs.length := by rw [HZL.out]; exact hlt
        have HLTZ : Hid (q < zs.length) := hltz
        have hcq := hc q hltz
        rw [← hat.bel.cell (p := ⟨b, off + q, none⟩) hlb] at hcq
        have hb8 : 0 ≤ zs.getD q 0 ∧ zs.getD q 0 ≤ 255 := hs.by8 _ (getD_mem hltz)
        obtain ⟨c, hcc⟩ : ∃ c, c = zs.getD q 0 := ⟨_, rfl⟩
        rw [← hcc] at hcq hb8
        have HC : Hid (c = zs.getD q 0) := hcc
        obtain ⟨X, hX⟩ : ∃ X, X = T ++ dgs (zs.take q) := ⟨_, rfl⟩
        have hown := hat.own
        rw [← hX] at hown
        have HX : Hid (X = T ++ dgs (zs.take q)) := hX
        have hXl : X.length ≤ 1114112 := by
          have h2 : (zs.take q).length ≤ q := List.length_take_le _ _
          rw [hX, List.length_append, dgs_length]; omega
        have hbs := hat.bel.size
        have hc0 := hb8.1
        have hc1 := hb8.2
        clear hcc hX hs hc hltz hb8
        go_wp2_with (at_builtin; refine wpList_append_own _ rfl (.tmp 12) (.tmp 19) 22 rfl w.heap.size 5 i0 (.int .u8 0) 1 1 Try.underlying22 hi hz0 hz1 hz2 rfl (by decide) _ X.length (X.map (Value.int .u8)) rfl (hown.alloc _) ⟨wr.heap.size, 0, none⟩ 1 1 ([48 + c % 10].map (Value.int .u8)) rfl rfl (cells_new _ _ _) (ints_oneCell _ _) (by unfold maxLen; omega) (by omega) (by simp; omega) ?_)
        intro v' w3 hown3 hgrow3 _
        have R : Tx w w3 v' (T ++ dgs (zs.take (q + 1))) := by
          have h1 := hat.one [48 + c % 10] (by rw [← HX.out]; exact hown3) hgrow3
          rw [dgs_take zs q HLTZ.out, ← HC.out, ← List.append_assoc]
          exact h1
        clear hown3 hgrow3 hown
        go_wp2
        go_roundg (len - (q + 1))
        case measure => rw [HK.out]; omega
        case rel => exact ⟨q + 1, by omega, rfl, by go_num, R⟩
    · go_wp2
      go_ret
      rw [List.take_of_length_le (by rw [HZL.out]; omega)] at hat
      exact ⟨_, rfl, hat⟩
/-- The buffer: its last j cells hold the j lowest digits of U. -/
structure Buf (w wr : World) (U j : Nat) (pre : List Int) : Prop where
  bel : Below w.heap.size w wr
  row : ∃ cs : List Value, cs.length = 20 ∧ wr.heap[w.heap.size]? = some (.cells cs.toArray 47 (0, 0)) ∧ cs.drop (20 - (pre.length + j)) = (pre ++ dg U j).map (Value.int .u8)

theorem Buf.cell {w wr : World} {U j : Nat} {pre : List Int} (h : Buf w wr U j pre) (k : Nat) (hk : k < 20) : ∃ v, wr.cell? ⟨w.heap.size, k, none⟩ = some v ∧ wr.frozen? ⟨w.heap.size, k, none⟩ = false := by
  obtain ⟨cs, hl, hh, _⟩ := h.row
  refine ⟨cs[k]'(by omega), ?_, frozen_of_row wr _ k _ _ hh⟩
  rw [cell_of_row wr _ k _ _ _ hh]
  simp

theorem drop_set_one {α : Type} (cs : List α) (m : Nat) (x : α) (h : m < cs.length) : (cs.set m x).drop m = x :: cs.drop (m + 1) := by
  rw [List.drop_eq_getElem_cons (by simpa using h)]
  simp [List.drop_set]

theorem Buf.step {w wr : World} {U j : Nat} (h : Buf w wr U j []) (hj : j < 20) (x : Int) (hx : x = 48 + ((U / 10 ^ j % 10 : Nat) : Int)) :
    Buf w (wr.setCell ⟨w.heap.size, 20 - j - 1, none⟩ (.int .u8 x)) U (j + 1) [] := by
  obtain ⟨cs, hl, hh, hd⟩ := h.row
  refine ⟨h.bel.setCell (Nat.le_refl _) _, cs.set (20 - j - 1) (.int .u8 x), by simpa using hl, ?_, ?_⟩
  · rw [heap_setCell_same wr _ _ _ _ _ hh]; simp
  · have e : 20 - (([] : List Int).length + (j + 1)) = 20 - j - 1 := by simp; omega
    rw [e, drop_set_one _ _ _ (by omega)]
    have e2 : 20 - j - 1 + 1 = 20 - (([] : List Int).length + j) := by simp; omega
    rw [e2, hd, hx]
    simp [dg]

theorem Buf.src {w wr : World} {U j : Nat} {pre : List Int} (h : Buf w wr U j pre) : ∀ t u, ((pre ++ dg U j).map (Value.int .u8))[t]? = some u → wr.cell? ⟨w.heap.size, 20 - (pre.length + j) + t, none⟩ = some u := by
  obtain ⟨cs, hl, hh, hd⟩ := h.row
  intro t u hu
  rw [← hd] at hu
  rw [cell_of_row wr _ _ _ _ _ hh, ← hu]
  simp

theorem Buf.lt {w wr : World} {U j : Nat} {pre : List Int} (h : Buf w wr U j pre) : w.heap.size < wr.heap.size := by
  obtain ⟨cs, hl, hh, hd⟩ := h.row
  exact (Array.getElem?_eq_some_iff.1 hh).1


theorem itoa_zero (w : World) :
    Calls Try.prog 23 #[.int .u64 0] w fun e w' => e = .returned (.slice (some ⟨w.heap.size, 0, none⟩) 1 1) ∧ Sl w' (some ⟨w.heap.size, 0, none⟩) 1 1 [48] ∧ Below w.heap.size w w' := by
  go_enter Try.func23, Try.ntmps23
  go_wp2
  go_ret
  refine ⟨rfl, Sl.of_own (base := w.heap.size) (own_of_heap (heap_alloc_new w _) (Nat.le_refl _) rfl (by unfold maxLen; omega)) (by simp), (Below.refl _ _).alloc (Nat.le_refl _) _⟩

set_option maxHeartbeats 1000000 in
theorem itoa_pos (w : World) (U : Nat) (h0 : 0 < U) (h1 : U < 18446744073709551616) :
    Calls Try.prog 23 #[.int .u64 U] w fun e w' => ∃ g j, e = .returned (.slice (some ⟨g, 0, none⟩) (j + 1) (j + 1)) ∧ Sl w' (some ⟨g, 0, none⟩) (j + 1) (j + 1) (dg U (j + 1)) ∧ j + 1 ≤ 20 ∧ U / 10 ^ (j + 1) = 0 ∧ U / 10 ^ j ≠ 0 ∧ Below w.heap.size w w' := by
  obtain ⟨i0, hi, hz0, hz1, hz2⟩ := info_parts Try.info5
  have hU0 : ((U : Int) == 0) = false := by simp; omega
  go_enter Try.func23, Try.ntmps23
  go_wp2_with fail
  go_loopg [0, 4] 20 (fun k u i wr => ∃ j m x : Nat, Hid (j + m = 20) ∧ Hid (j = 0 ∨ U / 10 ^ (j - 1) ≠ 0) ∧ Hid (k = 20 - j) ∧ u = .int .u64 x ∧ Hid (x = U / 10 ^ j) ∧ i = .int .i64 m ∧ Buf w wr U j [])
  case atStart =>
    refine ⟨0, 20, U, rfl, .inl rfl, rfl, rfl, by show _ = _; simp, rfl, ?_⟩
    refine ⟨(Below.refl _ _).alloc (Nat.le_refl _) _, List.replicate 20 (.int .u8 0), rfl, ?_, rfl⟩
    rw [heap_alloc_new]; rfl
  case round =>
    obtain ⟨j, m, x, HM, HJ, HK, rfl, HX, rfl, hbuf⟩ := hrel
    have hx : x < 18446744073709551616 := by rw [HX.out]; exact Nat.lt_of_le_of_lt (Nat.div_le_self _ _) h1
    by_cases hx0 : x = 0
    · have HZ0 : Hid (U / 10 ^ j = 0) := by show _ = _; rw [← HX.out]; exact hx0
      have hj1 : j ≠ 0 := by
        intro e
        have := HZ0.out
        rw [e] at this
        simp at this
        omega
      obtain ⟨i, rfl⟩ : ∃ i, j = i + 1 := ⟨j - 1, by omega⟩
      have HJ' : Hid (U / 10 ^ i ≠ 0) := by
        rcases HJ.out with h | h
        · omega
        · exact h
      have hm20 : m ≤ 19 := by have := HM.out; omega
      have hmI : (m : Int) ≤ 20 := by omega
      have hmJ : (m : Int) < 20 := by omega
      have hsz : w.heap.size < wr.heap.size := hbuf.lt
      have hxI : ¬ (0 : Int) < (x : Int) := by omega
      clear hx0 hj1
      go_wp2_with (at_make; refine wpList_make_own _ rfl _ _ 22 rfl (w.heap.size + 1) 5 i0 (.int .u8 0) 1 Try.underlying22 hi hz0 hz1 _ _ _ (i + 1) rfl rfl (by have := HM.out; omega) (by rw [hz2]; have := HM.out; omega) (by unfold maxLen; have := HM.out; omega) (by omega) ?_)
      intro w1 hown1 hgrow1
      have hb1 : Below wr.heap.size wr w1 := (Below.refl _ _).grown hgrow1 (Nat.le_refl _) (by simp)
      have hw1 : Below w.heap.size w w1 := hbuf.bel.trans (hb1.mono hbuf.bel.size)
      have HSRC : Hid (∀ t u, ((dg U (i + 1)).map (Value.int .u8))[t]? = some u → w1.cell? ⟨w.heap.size, m + t, none⟩ = some u) := by
        intro t u hu
        rw [hb1.cell (p := ⟨w.heap.size, m + t, none⟩) hbuf.lt]
        have e : m = 20 - (([] : List Int).length + (i + 1)) := by have := HM.out; simp; omega
        have hk := hbuf.src t u hu
        rwa [← e] at hk
      have H1 : Hid (w1.ownsRow (w.heap.size + 1) 5 1 (.slice (some ⟨wr.heap.size, 0, none⟩) 0 (i + 1)) 0 []) := hown1
      have hml : 20 - m = i + 1 := by have := HM.out; omega
      clear hown1 hgrow1 hbuf
      go_wp2_with (at_builtin; refine wpList_append_fits_any _ rfl (.tmp 24) (.tmp 26) 22 rfl (w.heap.size + 1) 5 i0 1 Try.underlying22 hi hz1 wr.heap.size 0 (i + 1) [] rfl H1.out (some ⟨w.heap.size, m, none⟩) (i + 1) (i + 1) ((dg U (i + 1)).map (Value.int .u8)) ?hx ?hn ?hnone ?hc (ints_oneCell _ _) (by omega) ?_)
      case hx =>
        show Value.slice _ _ _ = _
        simp
        try omega
      case hn => simp [dg_length]
      case hnone => intro h; cases h
      case hc =>
        intro ad had t u hu
        obtain rfl := Option.some.inj had
        rw [Addr.add_lit]
        exact HSRC.out t u hu
      · intro w2 hown2 hgrow2
        have hw2 : Below w.heap.size w w2 := hw1.grown hgrow2 hw1.size (by intro k e; cases e; omega)
        have HO : Hid (w2.ownsRow (w.heap.size + 1) 5 1 (.slice (some ⟨wr.heap.size, 0, none⟩) (i + 1) (i + 1)) (i + 1) ((dg U (i + 1)).map (Value.int .u8))) := hown2
        clear hown2 hgrow2
        go_wp2
        go_ret
        exact ⟨wr.heap.size, i, rfl, Sl.of_own HO.out (dig_by8 (dg_dig _ _)), by have := HM.out; omega, HZ0.out, HJ'.out, hw2⟩
    · have hj19 : j ≤ 19 := by
        rcases Nat.lt_or_ge 19 j with h | h
        · exfalso
          have e : j = 20 := by have := HM.out; omega
          rw [HX.out, e] at hx0
          exact hx0 (Nat.div_eq_of_lt (Nat.lt_trans h1 (by decide)))
        · exact h
      obtain ⟨mi, rfl⟩ : ∃ mi, m = mi + 1 := ⟨m - 1, by have := HM.out; omega⟩
      have hm : mi ≤ 19 := by have := HM.out; omega
      obtain ⟨v0, c0, f0⟩ := hbuf.cell mi (by omega)
      have hmI : (mi : Int) ≤ 20 := by omega
      have hmJ : (mi : Int) < 20 := by omega
      have hst : Buf w (wr.setCell ⟨w.heap.size, mi, none⟩ (.int .u8 (48 + (x : Int) % 10))) U (j + 1) [] := by
        have e : mi = 20 - j - 1 := by have := HM.out; omega
        rw [e]
        exact hbuf.step (by omega) _ (by rw [HX.out]; rfl)
      have HZ : Hid (x / 10 = U / 10 ^ (j + 1)) := by
        show _ = _
        rw [Nat.pow_succ, ← Nat.div_div_eq_div_mul, ← HX.out]
      have HNE : Hid (U / 10 ^ j ≠ 0) := by show _ ≠ _; rw [← HX.out]; exact hx0
      have hxI : (0 : Int) < (x : Int) := by omega
      go_wp2
      go_roundg (20 - (j + 1))
      case measure => rw [HK.out]; omega
      case rel => exact ⟨j + 1, mi, x / 10, by have := HM.out; show _ = _; omega, .inr HNE.out, rfl, by go_num, HZ, rfl, hst⟩
end Go.Proofs.Qxb6600039a
