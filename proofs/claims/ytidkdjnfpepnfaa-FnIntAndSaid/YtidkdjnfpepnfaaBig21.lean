/- Walks of the package's great numbers: Sub of Int. -/
import Derived.Test.YtidkdjnfpepnfaaBig20
namespace Go.Proofs.Ytidkdjnfpepnfaa
open Go.RowKit

theorem pos_words {n : Nat} {xs : List Nat} (h : IsW n xs) : decide (0 < n) = decide (0 < xs.length) := by
  have := h.zero
  rw [Bool.eq_iff_iff]; simp
  constructor
  · intro h1
    by_cases h2 : xs = []
    · exact absurd (this.2 h2) (by omega)
    · exact List.length_pos_iff.2 h2
  · intro h1
    by_cases h2 : n = 0
    · have := this.1 h2; simp [this] at h1
    · omega

/-- The number that Sub lays. -/
theorem sub_split (zx zy : Int) (a b : Bool) (ha : decide (zx < 0) = a) (hb : decide (zy < 0) = b) :
    zx - zy = if a = b then (if zy.natAbs ≤ zx.natAbs then signed a (zx.natAbs - zy.natAbs) else signed (!a) (zy.natAbs - zx.natAbs)) else signed a (zx.natAbs + zy.natAbs) := by
  cases a <;> cases b <;> simp at ha hb <;> simp [signed] <;> (try split) <;> omega

theorem sub_sign {z : Int} {a : Bool} {m : Nat} {zs : List Nat} (hz : z = signed a m) (hn : IsW m zs) : decide (z < 0) = (a && decide (0 < zs.length)) := by
  rw [hz, signed_neg, pos_words hn]
theorem Row.ofHeap {B : Nat} {k : IntKind} {w w' : World} {v : Value} {l : List Nat} (h : Row B k w v l) (e : w'.heap = w.heap) : Row B k w' v l := by
  rcases h with h | ⟨h0, g, off, c, hv, hc, hB', hg, hcell⟩
  · exact .inl h
  · exact .inr ⟨h0, g, off, c, hv, hc, hB', by rw [e]; exact hg, fun i hi => (World.cell?_of_block (by rw [e])).trans (hcell i hi)⟩

set_option maxRecDepth 100000 in
set_option maxHeartbeats 4000000 in
theorem f52_diff (g gx gy : Nat) (zx zy : Int) (Bx By : Nat) (slx sly : Value) (xs ys : List Nat) (w : World) (hnew : New w g) (hx : BInt Bx w gx zx slx xs) (hy : BInt By w gy zy sly ys) (hlx : xs.length ≤ 800) (hly : ys.length ≤ 800)
    (a b : Bool) (ha : decide (zx < 0) = a) (hb : decide (zy < 0) = b) (hab : a ≠ b) :
    Calls Try.prog 52 #[.pointer (some ⟨g, 0, none⟩), .pointer (some ⟨gx, 0, none⟩), .pointer (some ⟨gy, 0, none⟩)] w (SetPost g (zx - zy) w) := by
  have HZ : Hid (zx - zy = signed a (zx.natAbs + zy.natAbs)) := by
    have := sub_split zx zy a b ha hb
    show _ = _
    rw [this]; rw [if_neg hab]
  have zl : g < w.heap.size := (Array.getElem?_eq_some_iff.1 hnew).1
  have z1 : w.cell? ⟨g, 1, none⟩ = some (.slice none 0 0) := by simp [World.cell?, show w.heap[g]? = _ from hnew]
  have x0 := hx.neg
  have x1 := hx.abs
  have y0 := hy.neg
  have y1 := hy.abs
  rw [ha] at x0
  rw [hb] at y0
  have HX := Lib.hid hx
  have HY := Lib.hid hy
  have HN := Lib.hid (show w.heap[g]? = _ from hnew)
  have HLW : Hid (xs.length ≤ 800 ∧ ys.length ≤ 800) := ⟨hlx, hly⟩
  have xl := hx.lt
  have yl := hy.lt
  clear hx hy hnew ha hb hlx hly
  cases a <;> cases b <;> first | exact absurd rfl hab | skip
  all_goals
    clear hab
    go_enter Try.func52, Try.ntmps52
    go_wp2_with fail
    go_quiet (fail)
    have z1' : (w.drewN nq).cell? ⟨g, 1, none⟩ = some (.slice none 0 0) := z1
    have x1' : (w.drewN nq).cell? ⟨gx, 1, none⟩ = some slx := x1
    have y1' : (w.drewN nq).cell? ⟨gy, 1, none⟩ = some sly := y1
    have RX : Hid (Row Bx .u64 (w.drewN nq) slx xs) := HX.out.row
    have RY : Hid (Row By .u64 (w.drewN nq) sly ys) := HY.out.row
    have BW : Hid (Below w.heap.size w (w.drewN nq)) := below_drewN (Below.refl _ _) nq
    have HSZ : Hid ((w.drewN nq).heap.size = w.heap.size) := rfl
    clear z1 x1 y1 x0 y0
    generalize w.drewN nq = w1 at *
    go_wp2_with fail
    go_region_with
      ((go_at_call 64; refine (f64_any Bx By slx sly xs ys (by have := HLW.out; omega) (by have := HLW.out; omega) zx.natAbs zy.natAbs HX.out.num HY.out.num w1.drew (Row.drew RX.out) (Row.drew RY.out)).mono ?_; rintro e w2 ⟨v2, zs, rfl, hrow, hnum, hbl⟩; obtain ⟨a2, k2, rfl⟩ := hrow.len; have HNUM := Lib.hid hnum; have HR := Lib.hid hrow; have HB2 : Hid (Below w.heap.size w w2) := BW.out.trans ((Below.mono ⟨hbl.os, hbl.tape, hbl.output, hbl.size, hbl.block⟩ (by have := HSZ.out; simp; omega))); have HBK := Lib.hid ((HB2.out.block g zl).trans HN.out); have f2 := fun i => Joins.unfrozen_of_block HBK.out i; have c2 := fun i => Joins.cell_of_block HBK.out i; clear hnum hbl hrow))
    all_goals
      have HRr : Hid (Row w.heap.size .u64 w2 (.slice a2 zs.length k2) zs) := HR.out.le (by have := HSZ.out; simp; omega)
      have HLL : Hid (zs.length ≤ 1000) := by
        show _ ≤ _
        exact Nat.le_trans (HNUM.out.len_sum HX.out.num HY.out.num HLW.out.1 HLW.out.2) (by omega)
      by_cases hzl : 0 < zs.length
      all_goals
        have HE := Lib.hid (sub_sign HZ.out HNUM.out)
        go_wp2
        go_ret
        refine ⟨rfl, ?_, .slice a2 zs.length k2, zs, ?_, ?_, ?_, HLL.out⟩
        · exact ((below_grownBy HB2.out _).setCell g 1 _).setCell g 0 _
        · rw [HE.out]
          simp only [hzl, decide_true, decide_false, Bool.and_true, Bool.and_false]
          exact Joins.block_setCell (Joins.block_setCell HBK.out (i := 1) _) (i := 0) _
        · exact Row.setOld (Row.setOld HRr.out zl _) zl _
        · rw [HZ.out, signed_abs]; exact HNUM.out
end Go.Proofs.Ytidkdjnfpepnfaa
