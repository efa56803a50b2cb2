/-
  SEAT b6001410a: ZZReadInt.
-/
import Derived.Test.Qxb6001410aInt
namespace Go.Proofs.Qxb6001410a
open Go.ChangeShapes Go.WideShapes Go.ChangeAt Go.RowKit

theorem read_any (w : World) (a : Option Addr) (len cap p : Nat) (n0 : Int) (zs : List Int) (hsl : Sl w a len cap zs) (hp : p ≤ len) (hlen : len ≤ 4194304) (q s e d : Nat) (hq : q = runTo spB zs p) (hs : s = stOf zs q) (he : e = endOf zs q) (hdd : d = e - s) (bad : Bool) (n1 : Int) (HB : Hid (bad = badB zs s d)) (HN1 : Hid (n1 = outOf zs q s d n0)) :
    Calls Try.prog 16 #[.slice a len cap, .int .i64 p, .int .i64 n0] w fun ev w' => ev = .returned (.tuple #[.int .i64 n1, .int .i64 e, .bool (!bad)]) ∧ Below w.heap.size w w' := by
  have HQ : Hid (q = runTo spB zs p) := hq
  have HS : Hid (s = stOf zs q) := hs
  have HE : Hid (e = endOf zs q) := he
  have HD : Hid (d = e - s) := hdd
  clear hq hs he hdd
  go_enter Try.func16, Try.ntmps16
  go_wp2_with fail
  have hrdr : Rdr ((w.alloc (.cells #[.int .i64 n0] 3)).alloc (.cells #[.slice a len cap, .int .i64 p, .slice none 0 0] 42)) (w.heap.size + 1) a len cap p := ⟨by go_simp, by go_simp, by go_simp⟩
  have hbel : Below w.heap.size w ((w.alloc (.cells #[.int .i64 n0] 3)).alloc (.cells #[.slice a len cap, .int .i64 p, .slice none 0 0] 42)) := ((Below.refl _ _).alloc (Nat.le_refl _) _).alloc (by simp) _
  have hdat : Dat ((w.alloc (.cells #[.int .i64 n0] 3)).alloc (.cells #[.slice a len cap, .int .i64 p, .slice none 0 0] 42)) (w.heap.size + 1) a len zs := by
    refine ⟨hsl.len_eq, Nat.le_trans hsl.le hsl.mx, ?_⟩
    rcases hsl.rd with h0 | ⟨b, off, e, hb, hc⟩
    · exact .inl h0
    · exact .inr ⟨b, off, e, by omega, fun i hi => by rw [hbel.cell (p := ⟨b, off + i, none⟩) hb]; exact hc i hi⟩
  refine (int_any _ (w.heap.size + 1) w.heap.size a len cap p n0 zs hrdr hdat hp hlen (by omega) (by go_simp) (by go_simp) q s e d HQ.out HS.out HE.out HD.out bad n1 HB HN1).mono ?_
  rintro ev w1 ⟨rfl, hr1, hn1, ho1⟩
  have hb1 : Below w.heap.size w w1 := by
    refine ⟨ho1.os.trans hbel.os, ho1.tape.trans hbel.tape, ho1.output.trans hbel.output, by rw [ho1.size]; exact hbel.size, fun k hk => ?_⟩
    rw [ho1.block k (by omega) (by omega)]
    exact hbel.block k hk
  have c1 := hr1.pos
  clear hrdr hbel hdat ho1
  go_wp2
  go_quiet (fail)
  go_wp2
  go_ret3
  exact ⟨rfl, ⟨hb1.os, hb1.tape, hb1.output, hb1.size, hb1.block⟩⟩
end Go.Proofs.Qxb6001410a
