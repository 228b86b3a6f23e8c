/- Written by wip/tools/port2.py out of the text Big8 of seat Ytidkdjnfpepnfaa. -/
/- Walks of the package's great numbers: SetBytes, Neg, and the whole number of a value of the thin package. -/
import Derived.Test.YtllgogkjcbdpkaaGreatZBig7
namespace Go.Proofs.YtllgogkjcbdpkaaGreat.Z
open Go.RowKit

theorem f59_row (B : Nat) (v : Value) (l : List Nat) (hl : l.length ≤ 4000) (hd : ∀ d ∈ l, d < 256) (w : World) (hr : Row B .u8 w v l) : Calls Tryz.prog 59 #[.slice none 0 0, v] w (MakesNat (bv l) w) := by
  rcases hr with ⟨rfl, hv⟩ | ⟨h0, g, off, c, rfl, hc, _, hg, hcell⟩
  · exact f59_nil w v hv
  · exact f59_any g off c l h0 hl hc hd w hg hcell

theorem pow_words (n k : Nat) (h : n ≤ 8 * k) : 256 ^ n ≤ W ^ k := by
  have h2 : (256 : Nat) ^ n ≤ 256 ^ (8 * k) := Nat.pow_le_pow_right (by decide) h
  rw [Nat.pow_mul] at h2
  have h3 : (256 : Nat) ^ 8 = W := by decide
  rwa [h3] at h2

theorem IsW.len_of_bv {l xs : List Nat} (h : IsW (bv l) xs) (hd : ∀ d ∈ l, d < 256) (k : Nat) (hl : l.length ≤ 8 * k) : xs.length ≤ k :=
  h.len_le (Nat.lt_of_lt_of_le (bv_lt l hd) (pow_words _ k hl))

theorem natAbs_nat (n : Nat) : decide ((n : Int) < 0) = false := by simp

set_option maxRecDepth 100000 in
set_option maxHeartbeats 1000000 in
theorem f47_any (g : Nat) (B : Nat) (v : Value) (l : List Nat) (hl : l.length ≤ 4000) (hd : ∀ d ∈ l, d < 256) (w : World) (hn : New w g) (hr : Row B .u8 w v l) :
    Calls Tryz.prog 47 #[.pointer (some ⟨g, 0, none⟩), v] w (SetPost g (bv l) w) := by
  have HF := Lib.hid (f59_row B v l hl hd w hr)
  have HD := Lib.hid hd
  have zl : g < w.heap.size := (Array.getElem?_eq_some_iff.1 hn).1
  have z1 : w.cell? ⟨g, 1, none⟩ = some (.slice none 0 0) := by simp [World.cell?, show w.heap[g]? = _ from hn]
  have HN := Lib.hid (show w.heap[g]? = _ from hn)
  clear hn hr hd
  go_enter Tryz.func47, Tryz.ntmps47
  go_wp2_with fail
  refine HF.out.mono ?_
  rintro e w2 ⟨v2, xs, rfl, hrow, hnum, hb⟩
  obtain ⟨a2, k2, rfl⟩ := hrow.len
  have HR := Lib.hid hrow
  have HM := Lib.hid hnum
  have HB := Lib.hid hb
  have HBK := Lib.hid ((hb.block g zl).trans HN.out)
  have f2 := fun i => Joins.unfrozen_of_block HBK.out i
  have c2 := fun i => Joins.cell_of_block HBK.out i
  clear hrow hnum hb
  go_wp2_with fail
  go_ret
  refine ⟨rfl, ?_, .slice a2 xs.length k2, xs, ?_, ?_, by simpa using HM.out, HM.out.len_of_bv HD.out 1000 (by omega)⟩
  · exact ((below_grownBy HB.out _).setCell g 1 _).setCell g 0 _
  · rw [natAbs_nat]
    exact Joins.block_setCell (Joins.block_setCell HBK.out (i := 1) _) (i := 0) _
  · exact Row.setOld (Row.setOld HR.out zl _) zl _

set_option maxRecDepth 100000 in
theorem f60_self (g : Nat) (w : World) : Calls Tryz.prog 60 #[.pointer (some ⟨g, 0, none⟩), .pointer (some ⟨g, 0, none⟩)] w fun e w' => e = .returned (.pointer (some ⟨g, 0, none⟩)) ∧ w = w' := by
  have hp := ptr_same (w := w) (g := g)
  go_enter Tryz.func60, Tryz.ntmps60
  go_wp2_with fail
  go_ret
  exact ⟨rfl, rfl⟩

/-- z.Neg(z). -/
theorem neg_flag (z : Int) (xs : List Nat) (h : IsW z.natAbs xs) : decide (-z < 0) = (decide (0 < xs.length) && !decide (z < 0)) := by
  have := h.zero
  by_cases h0 : z = 0
  · subst h0
    have : xs = [] := this.1 rfl
    subst this; simp
  · have : xs ≠ [] := fun e => by have := this.2 e; omega
    have : 0 < xs.length := List.length_pos_iff.2 this
    rw [Bool.eq_iff_iff]; simp; omega

set_option maxRecDepth 100000 in
set_option maxHeartbeats 1000000 in
theorem f48_any (g : Nat) (z : Int) (B : Nat) (sl : Value) (xs : List Nat) (w : World) (hg : g < B) (hx : BInt B w g z sl xs) :
    Calls Tryz.prog 48 #[.pointer (some ⟨g, 0, none⟩), .pointer (some ⟨g, 0, none⟩)] w fun e w' => e = .returned (.pointer (some ⟨g, 0, none⟩)) ∧ BInt B w' g (-z) sl xs ∧ w.grownBy w' (some g) := by
  have x0 := hx.neg
  have x1 := hx.abs
  have f0 := hx.free
  obtain ⟨a, k, rfl⟩ := hx.row.len
  have HX := Lib.hid hx
  have HF := Lib.hid (neg_flag z xs hx.num)
  clear hx
  generalize hd : decide (z < 0) = d at *
  have HD := Lib.hid hd
  clear hd
  by_cases h0 : xs.length = 0
  · have e0 : Hid (decide (-z < 0) = false) := by show _ = _; rw [HF.out]; simp [h0]
    rw [h0] at x1
    go_enter Tryz.func48, Tryz.ntmps48
    go_wp2_with (go_at_call 60; refine (f60_self g _).mono ?_; rintro e w' ⟨rfl, rfl⟩)
    go_ret
    refine ⟨rfl, ⟨?_, Row.setOld HX.out.row hg _, by simpa using HX.out.num, HX.out.len⟩, ?_⟩
    · rw [e0.out]
      exact Joins.block_setCell HX.out.blk (i := 0) _
    · exact (World.grownBy.refl w _).setCell g 0 _
  · have e0 : Hid (decide (-z < 0) = !d) := by show _ = _; rw [HF.out]; simp; omega
    have hpos : (0 : Int) < xs.length := by omega
    go_enter Tryz.func48, Tryz.ntmps48
    go_wp2_with (go_at_call 60; refine (f60_self g _).mono ?_; rintro e w' ⟨rfl, rfl⟩)
    go_ret
    refine ⟨rfl, ⟨?_, Row.setOld HX.out.row hg _, by simpa using HX.out.num, HX.out.len⟩, ?_⟩
    · rw [e0.out]
      exact Joins.block_setCell HX.out.blk (i := 0) _
    · exact (World.grownBy.refl w _).setCell g 0 _
end Go.Proofs.YtllgogkjcbdpkaaGreat.Z
