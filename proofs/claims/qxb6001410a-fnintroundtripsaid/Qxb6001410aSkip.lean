/-
  SEAT b6001410a: blank, skipSpace.
-/
import Derived.Test.Qxb6001410aKit
import Derived.Test.Qxb6001410aPlain
import Derived.Deep.QuietTactic
import Derived.BigQuiet
import Derived.Deep.LoopGhost
namespace Go.Proofs.Qxb6001410a
open Go.ChangeShapes Go.WideShapes Go.ChangeAt Go.RowKit

/-- The reader lies in block R: its data, its position; nothing of it is frozen. -/
structure Rdr (w : World) (R : Nat) (a : Option Addr) (len cap : Nat) (p : Nat) : Prop where
  data : w.cell? ⟨R, 0, none⟩ = some (.slice a len cap)
  pos : w.cell? ⟨R, 1, none⟩ = some (.int .i64 p)
  fr : w.frozen? ⟨R, 1, none⟩ = false

/-- Block R alone may have turned. -/
structure Off (R : Nat) (w w' : World) : Prop where
  os : w'.os = w.os
  tape : w'.tape = w.tape
  output : w'.output = w.output
  size : w'.heap.size = w.heap.size
  block : ∀ k, k ≠ R → w'.heap[k]? = w.heap[k]?

/-- The bytes of the data, none of them in block R. -/
structure Dat (w : World) (R : Nat) (a : Option Addr) (len : Nat) (zs : List Int) : Prop where
  len_eq : zs.length = len
  mx : len ≤ maxLen
  rd : zs = [] ∨ ∃ b off, a = some ⟨b, off, none⟩ ∧ b ≠ R ∧ ∀ i, i < zs.length → w.cell? ⟨b, off + i, none⟩ = some (.int .u8 (zs.getD i 0))

theorem Off.refl (R : Nat) (w : World) : Off R w w := ⟨rfl, rfl, rfl, rfl, fun _ _ => rfl⟩
theorem Off.trans {R : Nat} {a b c : World} (h : Off R a b) (k : Off R b c) : Off R a c := ⟨k.os.trans h.os, k.tape.trans h.tape, k.output.trans h.output, k.size.trans h.size, fun i hi => (k.block i hi).trans (h.block i hi)⟩
theorem Off.drewN {R : Nat} {a b : World} (h : Off R a b) (n : Nat) : Off R a (b.drewN n) := ⟨h.os, h.tape, h.output, h.size, h.block⟩
theorem Off.setCell {R : Nat} {a b : World} (h : Off R a b) (o : Nat) (v : Value) : Off R a (b.setCell ⟨R, o, none⟩ v) :=
  h.trans ⟨rfl, rfl, rfl, by simp [World.setCell], fun k hk => Below.heap_setCell _ _ _ _ hk⟩
theorem Off.cell {R : Nat} {w w' : World} (h : Off R w w') {p : Addr} (hp : p.block ≠ R) : w'.cell? p = w.cell? p := World.cell?_of_block (w := w) (h.block p.block hp)
theorem Dat.off {R : Nat} {w w' : World} {a : Option Addr} {len : Nat} {zs : List Int} (h : Dat w R a len zs) (ho : Off R w w') : Dat w' R a len zs := by
  refine ⟨h.len_eq, h.mx, ?_⟩
  rcases h.rd with h0 | ⟨b, off, e, hne, hc⟩
  · exact .inl h0
  · exact .inr ⟨b, off, e, hne, fun i hi => by rw [ho.cell (p := ⟨b, off + i, none⟩) hne]; exact hc i hi⟩

theorem Rdr.drewN {w : World} {R : Nat} {a : Option Addr} {len cap p : Nat} (h : Rdr w R a len cap p) (n : Nat) : Rdr (w.drewN n) R a len cap p := ⟨h.data, h.pos, h.fr⟩
theorem Rdr.set {w : World} {R : Nat} {a : Option Addr} {len cap p : Nat} (h : Rdr w R a len cap p) (n q : Nat) : Rdr ((w.drewN n).setCell ⟨R, 1, none⟩ (.int .i64 ((q : Int) + 1))) R a len cap (q + 1) := by
  have h1 := (h.drewN n).data
  have h2 := (h.drewN n).pos
  have h3 := (h.drewN n).fr
  refine ⟨?_, ?_, ?_⟩
  · go_simp
  · go_simp
  · go_simp

theorem sp32 {c : Int} (h : (c == 32) = true) : spB c = true := by simp [spB, h]
theorem sp9 {c : Int} (h : (c == 9) = true) : spB c = true := by simp [spB, h]
theorem sp10 {c : Int} (h : (c == 10) = true) : spB c = true := by simp [spB, h]
theorem sp13 {c : Int} (h : (c == 13) = true) : spB c = true := by simp [spB, h]
theorem spNo {c : Int} (h0 : (c == 32) = false) (h1 : (c == 9) = false) (h2 : (c == 10) = false) (h3 : (c == 13) = false) : spB c = false := by simp [spB, h0, h1, h2, h3]

theorem skip_any (w : World) (R : Nat) (a : Option Addr) (len cap p : Nat) (zs : List Int) (hr : Rdr w R a len cap p) (hd : Dat w R a len zs) (hp : p ≤ len) :
    Calls Try.prog 33 #[.pointer (some ⟨R, 0, none⟩)] w fun e w' => e = .returned (.tuple #[]) ∧ Rdr w' R a len cap (runTo spB zs p) ∧ Off R w w' := by
  go_enter Try.func33, Try.ntmps33
  go_wp2
  go_loopg [] (len - p) (fun k wr => ∃ q, q ≤ len ∧ k = len - q ∧ runTo spB zs q = runTo spB zs p ∧ Rdr wr R a len cap q ∧ Off R w wr)
  case atStart => exact ⟨p, hp, rfl, rfl, hr, Off.refl _ _⟩
  case round =>
    obtain ⟨q, hq, hk, hrun, hrr, hoff⟩ := hrel
    have HK : Hid (gk = len - q) := hk
    have HRUN : Hid (runTo spB zs q = runTo spB zs p) := hrun
    clear hk hrun
    have hm : len ≤ 9223372036854775807 := by have := hd.mx; unfold maxLen at this; omega
    have c0 := hrr.data
    have c1 := hrr.pos
    have fr := hrr.fr
    by_cases hlt : q < len
    · have hzl := hd.len_eq
      have HZL : Hid (zs.length = len) := hzl
      rcases hd.rd with h0 | ⟨b, off, rfl, hne, hc⟩
      · subst h0; simp at hzl; omega
      · have hcq := hc q (by omega)
        rw [← hoff.cell (p := ⟨b, off + q, none⟩) hne] at hcq
        obtain ⟨c, hcc⟩ : ∃ c, c = zs.getD q 0 := ⟨_, rfl⟩
        rw [← hcc] at hcq
        have HC : Hid (c = zs.getD q 0) := hcc
        clear hc hcc hzl hd
        have hltI : (q : Int) < (len : Int) := by omega
        go_wp2
        go_quiet (fail)
        go_wp2
        go_quiet (fail)
        go_wp2
        rotate_right
        · refine bodyPost_ret (results_none rfl _ _ _) rfl ?_
          have hs := spNo ‹(c == 32) = false› ‹(c == 9) = false› ‹(c == 10) = false› ‹(c == 13) = false›
          have e : runTo spB zs p = q := by rw [← HRUN.out, runTo_stop (by rw [HZL.out]; exact hlt) (by rw [← HC.out]; exact hs)]
          rw [e]
          exact ⟨rfl, hrr.drewN _, hoff.drewN _⟩
        all_goals
          have hs : spB c = true := by first | exact sp32 ‹_› | exact sp9 ‹_› | exact sp10 ‹_› | exact sp13 ‹_›
          go_roundg (len - (q + 1))
          case measure => rw [HK.out]; omega
          case rel => exact ⟨q + 1, by omega, rfl, (runTo_step (by rw [HZL.out]; exact hlt) (by rw [← HC.out]; exact hs)).symm.trans HRUN.out, hrr.set _ q, (hoff.drewN _).setCell 1 _⟩
    · have hge : ¬ (q : Int) < (len : Int) := by omega
      go_wp2
      go_quiet (fail)
      go_wp2
      go_end0
      have e : runTo spB zs p = q := by rw [← HRUN.out, runTo_end (by rw [hd.len_eq]; omega)]
      rw [e]
      exact ⟨rfl, hrr.drewN _, hoff.drewN _⟩

def blankB (zs : List Int) : Bool := zs.all spB

theorem blank_take (zs : List Int) (k : Nat) (h : k < zs.length) (h1 : (zs.take k).all spB = true) (h2 : spB (zs.getD k 0) = true) : (zs.take (k + 1)).all spB = true := by
  rw [List.take_succ_eq_append_getElem h, List.all_append, h1]
  simpa [List.getD, h] using h2

theorem blank_no (zs : List Int) (k : Nat) (h : k < zs.length) (h2 : spB (zs.getD k 0) = false) : blankB zs = false := by
  unfold blankB
  rw [List.all_eq_false]
  refine ⟨zs[k], List.getElem_mem h, ?_⟩
  have : zs.getD k 0 = zs[k] := by simp [List.getD, h]
  rw [← this, h2]; simp

theorem ret_bool {a b : Bool} (h : a = b) : Ending.returned (.bool a) = .returned (.bool b) := by rw [h]

theorem blank_any (w : World) (a : Option Addr) (len cap : Nat) (zs : List Int) (hs : Sl w a len cap zs) :
    Calls Try.prog 30 #[.slice a len cap] w fun e w' => e = .returned (.bool (blankB zs)) ∧ w = w' := by
  have hm : len ≤ 9223372036854775807 := by have := hs.mx; have := hs.le; unfold maxLen at *; omega
  have HZL : Hid (zs.length = len) := hs.len_eq
  have HRD := hs.rd
  clear hs
  go_enter Try.func30, Try.ntmps30
  go_wp2
  go_loop [7] (fun i => ∃ k : Nat, k ≤ len ∧ i = .int .i64 k ∧ Hid ((zs.take k).all spB = true)) (fun i => len - (intOf i).toNat)
  case atStart => exact ⟨0, Nat.zero_le _, rfl, rfl⟩
  case round =>
    obtain ⟨k, hk, rfl, HK⟩ := hrel
    by_cases hlt : k < len
    · rcases HRD with h0 | ⟨b, off, rfl, hlb, hc⟩
      · have := HZL.out; subst h0; simp at this; omega
      · have hcq := hc k (by rw [HZL.out]; exact hlt)
        obtain ⟨c, hcc⟩ : ∃ c, c = zs.getD k 0 := ⟨_, rfl⟩
        rw [← hcc] at hcq
        have HC : Hid (c = zs.getD k 0) := hcc
        clear hc hcc
        go_wp2
        rotate_right
        · go_ret
          have hs := spNo ‹(c == 32) = false› ‹(c == 9) = false› ‹(c == 10) = false› ‹(c == 13) = false›
          exact ⟨ret_bool (blank_no zs k (by rw [HZL.out]; exact hlt) (by rw [← HC.out]; exact hs)).symm, rfl⟩
        all_goals
          have hs : spB c = true := by first | exact sp32 ‹_› | exact sp9 ‹_› | exact sp10 ‹_› | exact sp13 ‹_›
          go_round
          case rel => exact ⟨k + 1, by omega, by go_num, blank_take zs k (by rw [HZL.out]; exact hlt) HK.out (by rw [← HC.out]; exact hs)⟩
          case measure => simp [intOf]; omega
    · go_wp2
      go_ret
      have e : blankB zs = true := by
        have := HK.out
        rwa [List.take_of_length_le (by rw [HZL.out]; omega)] at this
      exact ⟨ret_bool e.symm, rfl⟩

theorem zzBlank_any (w : World) (a : Option Addr) (len cap : Nat) (zs : List Int) (hs : Sl w a len cap zs) :
    Calls Try.prog 14 #[.slice a len cap] w fun e w' => e = .returned (.bool (blankB zs)) ∧ w = w' := by
  have H := blank_any w a len cap zs hs
  clear hs
  go_enter Try.func14, Try.ntmps14
  go_wp2_with (go_at_call 30; refine H.mono ?_; rintro e w' ⟨rfl, rfl⟩)
  go_ret
  exact ⟨rfl, rfl⟩
end Go.Proofs.Qxb6001410a
