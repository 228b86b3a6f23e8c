/- Walks of the package's great numbers: Sub of Int, signs alike. -/
import Derived.Test.YtidkdjnfpepnfaaBig21
namespace Go.Proofs.Ytidkdjnfpepnfaa
open Go.RowKit

set_option maxRecDepth 100000 in
set_option maxHeartbeats 4000000 in
theorem f52_ge (g gx gy : Nat) (zx zy : Int) (Bx By : Nat) (slx sly : Value) (xs ys : List Nat) (w : World) (hnew : New w g) (hx : BInt Bx w gx zx slx xs) (hy : BInt By w gy zy sly ys) (hlx : xs.length ≤ 800) (hly : ys.length ≤ 800)
    (a b : Bool) (ha : decide (zx < 0) = a) (hb : decide (zy < 0) = b) (hab : a = b) (hge : zy.natAbs ≤ zx.natAbs) :
    Calls Try.prog 52 #[.pointer (some ⟨g, 0, none⟩), .pointer (some ⟨gx, 0, none⟩), .pointer (some ⟨gy, 0, none⟩)] w (SetPost g (zx - zy) w) := by
  have HZ : Hid (zx - zy = signed a (zx.natAbs - zy.natAbs)) := by
    have := sub_split zx zy a b ha hb
    show _ = _
    rw [this]; rw [if_pos hab, if_pos hge]
  have zl : g < w.heap.size := (Array.getElem?_eq_some_iff.1 hnew).1
  have z1 : w.cell? ⟨g, 1, none⟩ = some (.slice none 0 0) := by simp [World.cell?, show w.heap[g]? = _ from hnew]
  have x0 := hx.neg
  have x1 := hx.abs
  have y0 := hy.neg
  have y1 := hy.abs
  rw [ha] at x0
  rw [hb] at y0
  have HX := Lib.hid hx
  have HY := Lib.hid hy
  have HN := Lib.hid (show w.heap[g]? = _ from hnew)
  have HLW : Hid (xs.length ≤ 800 ∧ ys.length ≤ 800) := ⟨hlx, hly⟩
  have xl := hx.lt
  have yl := hy.lt
  clear hx hy hnew ha hb hlx hly
  subst hab
  cases a
  all_goals
    go_enter Try.func52, Try.ntmps52
    go_wp2_with fail
    go_quiet (fail)
    have HNQ : Hid ((w.drewN nq).heap = w.heap ∧ (w.drewN nq).os = w.os ∧ (w.drewN nq).tape = w.tape ∧ (w.drewN nq).output = w.output) := ⟨rfl, rfl, rfl, rfl⟩
    have x1q : (w.drewN nq).cell? ⟨gx, 1, none⟩ = some slx := x1
    have y1q : (w.drewN nq).cell? ⟨gy, 1, none⟩ = some sly := y1
    clear x1 y1 x0 y0
    generalize w.drewN nq = w0 at *
    have HF : Hid (∀ W : World, W.heap = w0.heap → Calls Try.prog 65 #[slx, sly] W fun e w' => e = .returned (.int .i64 (ord3n zx.natAbs zy.natAbs)) ∧ ∃ m, w' = W.drewN m) := fun W hW =>
      f65_any Bx By slx sly xs ys (by have := HLW.out; omega) zx.natAbs zy.natAbs HX.out.num HY.out.num W (HX.out.row.ofHeap (hW.trans HNQ.out.1)) (HY.out.row.ofHeap (hW.trans HNQ.out.1))
    have hr : 0 ≤ ord3n zx.natAbs zy.natAbs := (by unfold ord3n; split <;> (try split) <;> omega)
    generalize ord3n zx.natAbs zy.natAbs = r at *
    go_wp2_with fail
    go_quiet ((go_at_call 65; exact Calls.quiet_of (HF.out _ rfl)))
    clear HF
    have z1' : (w0.drewN nq).cell? ⟨g, 1, none⟩ = some (.slice none 0 0) := (World.cell?_of_block (by rw [show (w0.drewN nq).heap = w0.heap from rfl, HNQ.out.1])).trans z1
    have x1' : (w0.drewN nq).cell? ⟨gx, 1, none⟩ = some slx := x1q
    have y1' : (w0.drewN nq).cell? ⟨gy, 1, none⟩ = some sly := y1q
    have RX : Hid (Row Bx .u64 (w0.drewN nq) slx xs) := HX.out.row.ofHeap HNQ.out.1
    have RY : Hid (Row By .u64 (w0.drewN nq) sly ys) := HY.out.row.ofHeap HNQ.out.1
    have BW : Hid (Below w.heap.size w (w0.drewN nq)) := ⟨HNQ.out.2.1, HNQ.out.2.2.1, HNQ.out.2.2.2, Nat.le_of_eq (by rw [show (w0.drewN nq).heap = w0.heap from rfl, HNQ.out.1]), fun k _ => by rw [show (w0.drewN nq).heap = w0.heap from rfl, HNQ.out.1]⟩
    have HSZ : Hid ((w0.drewN nq).heap.size = w.heap.size) := by show _ = _; rw [show (w0.drewN nq).heap = w0.heap from rfl, HNQ.out.1]
    clear z1 x1q y1q HNQ
    generalize w0.drewN nq = w1 at *
    go_wp2_with fail
    go_region_with
      ((go_at_call 66; refine (f66_any Bx By slx sly xs ys (by have := HLW.out; omega) zx.natAbs zy.natAbs HX.out.num HY.out.num hge w1.drew (Row.drew RX.out) (Row.drew RY.out)).mono ?_; rintro e w2 ⟨v2, zs, rfl, hrow, hnum, hbl⟩; obtain ⟨a2, k2, rfl⟩ := hrow.len; have HNUM := Lib.hid hnum; have HR := Lib.hid hrow; have HB2 : Hid (Below w.heap.size w w2) := BW.out.trans ((Below.mono ⟨hbl.os, hbl.tape, hbl.output, hbl.size, hbl.block⟩ (by have := HSZ.out; simp; omega))); have HBK := Lib.hid ((HB2.out.block g zl).trans HN.out); have f2 := fun i => Joins.unfrozen_of_block HBK.out i; have c2 := fun i => Joins.cell_of_block HBK.out i; clear hnum hbl hrow))
    all_goals
      have HRr : Hid (Row w.heap.size .u64 w2 (.slice a2 zs.length k2) zs) := HR.out.le (by have := HSZ.out; simp; omega)
      have HLL : Hid (zs.length ≤ 1000) := by
        show _ ≤ _
        exact Nat.le_trans (HNUM.out.len_sub HX.out.num HLW.out.1) (by omega)
      by_cases hzl : 0 < zs.length
      all_goals
        have HE := Lib.hid (sub_sign HZ.out HNUM.out)
        go_wp2
        go_ret
        refine ⟨rfl, ?_, .slice a2 zs.length k2, zs, ?_, ?_, ?_, HLL.out⟩
        · exact ((below_grownBy HB2.out _).setCell g 1 _).setCell g 0 _
        · rw [HE.out]
          simp only [hzl, decide_true, decide_false, Bool.and_true, Bool.and_false]
          exact Joins.block_setCell (Joins.block_setCell HBK.out (i := 1) _) (i := 0) _
        · exact Row.setOld (Row.setOld HRr.out zl _) zl _
        · rw [HZ.out, signed_abs]; exact HNUM.out
end Go.Proofs.Ytidkdjnfpepnfaa
