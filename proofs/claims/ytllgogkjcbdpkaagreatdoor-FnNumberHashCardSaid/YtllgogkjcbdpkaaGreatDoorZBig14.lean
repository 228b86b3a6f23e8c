/- Written by wip/tools/port2.py out of the text Big14 of seat Ytidkdjnfpepnfaa. -/
/- Walks of the package's great numbers and ints: Lsh. -/
import Derived.Test.YtllgogkjcbdpkaaGreatDoorZBig13
namespace Go.Proofs.YtllgogkjcbdpkaaGreatDoor.Z
open Go.RowKit

theorem f87_any (B : Nat) (v : Value) (xs : List Nat) (z n : Nat) (hl : xs.length ≤ 900) (hn : n ≤ 4096) (w : World) (hr : Row B .u64 w v xs) (hx : IsW z xs) :
    Calls Tryz.prog 87 #[.slice none 0 0, v, .int .u64 n] w (MakesNat (z * 2 ^ n) w) := by
  by_cases h0 : n = 0
  · subst h0
    have := f87_same B v xs z hl w hr hx
    simpa using this
  · rcases hr with ⟨rfl, hv⟩ | hr'
    · have : z = 0 := by rw [← hx.val]; rfl
      subst this
      simpa using f87_nil v hv n h0 w
    · have h := hr'
      obtain ⟨h1, g, off, c, rfl, hc, hB, hg, hcell⟩ := hr'
      exact f87_core B g off c xs z n h1 hl h0 hn w (.inr h) hg hx

theorem shl_abs (z : Int) (n : Nat) : (z * 2 ^ n).natAbs = z.natAbs * 2 ^ n := by
  rw [Int.natAbs_mul, Int.natAbs_pow]; rfl
theorem shl_sign (z : Int) (n : Nat) : decide (z * 2 ^ n < 0) = decide (z < 0) := by
  have hp : (0 : Int) < 2 ^ n := Int.pow_pos (by decide)
  rw [Bool.eq_iff_iff]; simp
  constructor
  · intro h
    by_cases h0 : 0 ≤ z
    · have := Int.mul_nonneg h0 (Int.le_of_lt hp); omega
    · omega
  · intro h
    exact Int.mul_neg_of_neg_of_pos h hp
theorem shl_low (m n k : Nat) (hm : m < W ^ k) (hn : n ≤ 4096) : m * 2 ^ n < W ^ (k + 64) := by
  have e : ∀ j : Nat, (2 : Nat) ^ (64 * j) = W ^ j := fun j => by rw [Nat.pow_mul]; rfl
  have h1 : ∀ j : Nat, j = 64 → 2 ^ n ≤ W ^ j := fun j hj => by rw [← e j]; exact Nat.pow_le_pow_right (by decide) (by omega)
  rw [Nat.pow_add]
  have h2 : 0 < 2 ^ n := Nat.pow_pos (by decide)
  exact Nat.lt_of_lt_of_le (Nat.mul_lt_mul_of_pos_right hm h2) (Nat.mul_le_mul_left _ (h1 64 rfl))

set_option maxRecDepth 100000 in
set_option maxHeartbeats 1000000 in
theorem f78_any (g gx : Nat) (z : Int) (n : Nat) (hn : n ≤ 4096) (k : Nat) (hk : k ≤ 900) (hz : z.natAbs < W ^ k) (B : Nat) (sl : Value) (xs : List Nat) (w : World) (hnew : New w g) (hx : BInt B w gx z sl xs) (hne : g ≠ gx) :
    Calls Tryz.prog 78 #[.pointer (some ⟨g, 0, none⟩), .pointer (some ⟨gx, 0, none⟩), .int .u64 n] w (SetPost g (z * 2 ^ n) w) := by
  have zl : g < w.heap.size := (Array.getElem?_eq_some_iff.1 hnew).1
  have xl := hx.lt
  have z1 : w.cell? ⟨g, 1, none⟩ = some (.slice none 0 0) := by simp [World.cell?, show w.heap[g]? = _ from hnew]
  have x1 := hx.abs
  have HL : Hid (xs.length ≤ 900) := Nat.le_trans (hx.num.len_le hz) hk
  have HZ := Lib.hid hz
  have HX := Lib.hid hx
  have HN := Lib.hid (show w.heap[g]? = _ from hnew)
  have HK := Lib.hid hk
  have hn' := Lib.hid hn
  clear hx hnew hz hk hn
  have hne' : gx ≠ g := Ne.symm hne
  go_enter Tryz.func78, Tryz.ntmps78
  go_wp2_with fail
  go_region_with
    ((go_at_call 87; refine (f87_any B sl xs z.natAbs n HL.out hn'.out w.drew (Row.drew HX.out.row) HX.out.num).mono ?_; rintro e w2 ⟨v2, ys, rfl, hrow, hnum, hb⟩; obtain ⟨a2, k2, rfl⟩ := hrow.len; have HNUM := Lib.hid hnum; have HB2 : Hid (Below w.heap.size w w2) := ⟨hb.os, hb.tape, hb.output, hb.size, hb.block⟩; have HBK := Lib.hid ((hb.block g zl).trans HN.out); have f2 := fun i => Joins.unfrozen_of_block HBK.out i; have c2 := fun i => Joins.cell_of_block HBK.out i; have c2x : w2.cell? ⟨gx, 0, none⟩ = some (.bool (decide (z < 0))) := (hb.cell (p := ⟨gx, 0, none⟩) xl).trans HX.out.neg; clear hnum))
  all_goals
    go_wp2
    go_ret
    refine ⟨rfl, ?_, .slice a2 ys.length k2, ys, ?_, ?_, ?_, ?_⟩
    · exact ((below_grownBy HB2.out _).setCell g 1 _).setCell g 0 _
    · rw [shl_sign]
      exact Joins.block_setCell (Joins.block_setCell HBK.out (i := 1) _) (i := 0) _
    · exact Row.setOld (Row.setOld hrow zl _) zl _
    · rw [shl_abs]; exact HNUM.out
    · have := HNUM.out.len_le (shl_low z.natAbs n k HZ.out hn'.out)
      have := HK.out
      omega

end Go.Proofs.YtllgogkjcbdpkaaGreatDoor.Z
