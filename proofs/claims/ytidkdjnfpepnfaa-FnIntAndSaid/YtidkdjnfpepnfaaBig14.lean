/- Walks of the package's great numbers and ints: Lsh. -/
import Derived.Test.YtidkdjnfpepnfaaBig13
namespace Go.Proofs.Ytidkdjnfpepnfaa
open Go.RowKit

theorem f63_any (B : Nat) (v : Value) (xs : List Nat) (z n : Nat) (hl : xs.length ≤ 900) (hn : n ≤ 4096) (w : World) (hr : Row B .u64 w v xs) (hx : IsW z xs) :
    Calls Try.prog 63 #[.slice none 0 0, v, .int .u64 n] w (MakesNat (z * 2 ^ n) w) := by
  by_cases h0 : n = 0
  · subst h0
    have := f63_same B v xs z hl w hr hx
    simpa using this
  · rcases hr with ⟨rfl, hv⟩ | hr'
    · have : z = 0 := by rw [← hx.val]; rfl
      subst this
      simpa using f63_nil v hv n h0 w
    · have h := hr'
      obtain ⟨h1, g, off, c, rfl, hc, hB, hg, hcell⟩ := hr'
      exact f63_core B g off c xs z n h1 hl h0 hn w (.inr h) hg hx

theorem shl_abs (z : Int) (n : Nat) : (z * 2 ^ n).natAbs = z.natAbs * 2 ^ n := by
  rw [Int.natAbs_mul, Int.natAbs_pow]; rfl
theorem shl_sign (z : Int) (n : Nat) : decide (z * 2 ^ n < 0) = decide (z < 0) := by
  have hp : (0 : Int) < 2 ^ n := Int.pow_pos (by decide)
  rw [Bool.eq_iff_iff]; simp
  constructor
  · intro h
    by_cases h0 : 0 ≤ z
    · have := Int.mul_nonneg h0 (Int.le_of_lt hp); omega
    · omega
  · intro h
    exact Int.mul_neg_of_neg_of_pos h hp
theorem shl_low (m n k : Nat) (hm : m < W ^ k) (hn : n ≤ 4096) : m * 2 ^ n < W ^ (k + 64) := by
  have e : ∀ j : Nat, (2 : Nat) ^ (64 * j) = W ^ j := fun j => by rw [Nat.pow_mul]; rfl
  have h1 : ∀ j : Nat, j = 64 → 2 ^ n ≤ W ^ j := fun j hj => by rw [← e j]; exact Nat.pow_le_pow_right (by decide) (by omega)
  rw [Nat.pow_add]
  have h2 : 0 < 2 ^ n := Nat.pow_pos (by decide)
  exact Nat.lt_of_lt_of_le (Nat.mul_lt_mul_of_pos_right hm h2) (Nat.mul_le_mul_left _ (h1 64 rfl))

set_option maxRecDepth 100000 in
set_option maxHeartbeats 1000000 in
theorem f49_any (g gx : Nat) (z : Int) (n : Nat) (hn : n ≤ 4096) (k : Nat) (hk : k ≤ 900) (hz : z.natAbs < W ^ k) (B : Nat) (sl : Value) (xs : List Nat) (w : World) (hnew : New w g) (hx : BInt B w gx z sl xs) (hne : g ≠ gx) :
    Calls Try.prog 49 #[.pointer (some ⟨g, 0, none⟩), .pointer (some ⟨gx, 0, none⟩), .int .u64 n] w (SetPost g (z * 2 ^ n) w) := by
  have zl : g < w.heap.size := (Array.getElem?_eq_some_iff.1 hnew).1
  have xl := hx.lt
  have z1 : w.cell? ⟨g, 1, none⟩ = some (.slice none 0 0) := by simp [World.cell?, show w.heap[g]? = _ from hnew]
  have x1 := hx.abs
  have HL : Hid (xs.length ≤ 900) := Nat.le_trans (hx.num.len_le hz) hk
  have HZ := Lib.hid hz
  have HX := Lib.hid hx
  have HN := Lib.hid (show w.heap[g]? = _ from hnew)
  have HK := Lib.hid hk
  have hn' := Lib.hid hn
  clear hx hnew hz hk hn
  have hne' : gx ≠ g := Ne.symm hne
  go_enter Try.func49, Try.ntmps49
  go_wp2_with fail
  go_region_with
    ((go_at_call 63; refine (f63_any B sl xs z.natAbs n HL.out hn'.out w.drew (Row.drew HX.out.row) HX.out.num).mono ?_; rintro e w2 ⟨v2, ys, rfl, hrow, hnum, hb⟩; obtain ⟨a2, k2, rfl⟩ := hrow.len; have HNUM := Lib.hid hnum; have HB2 : Hid (Below w.heap.size w w2) := ⟨hb.os, hb.tape, hb.output, hb.size, hb.block⟩; have HBK := Lib.hid ((hb.block g zl).trans HN.out); have f2 := fun i => Joins.unfrozen_of_block HBK.out i; have c2 := fun i => Joins.cell_of_block HBK.out i; have c2x : w2.cell? ⟨gx, 0, none⟩ = some (.bool (decide (z < 0))) := (hb.cell (p := ⟨gx, 0, none⟩) xl).trans HX.out.neg; clear hnum))
  all_goals
    go_wp2
    go_ret
    refine ⟨rfl, ?_, .slice a2 ys.length k2, ys, ?_, ?_, ?_, ?_⟩
    · exact ((below_grownBy HB2.out _).setCell g 1 _).setCell g 0 _
    · rw [shl_sign]
      exact Joins.block_setCell (Joins.block_setCell HBK.out (i := 1) _) (i := 0) _
    · exact Row.setOld (Row.setOld hrow zl _) zl _
    · rw [shl_abs]; exact HNUM.out
    · have := HNUM.out.len_le (shl_low z.natAbs n k HZ.out hn'.out)
      have := HK.out
      omega

set_option maxRecDepth 100000 in
set_option maxHeartbeats 1000000 in
theorem f29_any (v : Value) (z : Int) (n : Nat) (hn : n ≤ 4096) (k : Nat) (hk : k ≤ 900) (hz : z.natAbs < W ^ k) (B : Nat) (w : World) (hv : KInt B w v z) :
    Calls Try.prog 29 #[v, .int .u64 n] w (MakesK (z * 2 ^ n) w) := by
  obtain ⟨ka, kp, rfl⟩ := hv.shape
  have HP := Lib.hid hv.ptrLt
  have hA : Below w.heap.size w (((w.alloc (.cells #[.int .i64 ka, .pointer kp] 49)).alloc (.cells #[.int .i64 0, .pointer none] 49)).alloc (.cells #[.bool false, .slice none 0 0] 71)) :=
    (((Below.refl _ _).alloc (Nat.le_refl _) _).alloc (by simp) _).alloc (by simp; omega) _
  have HK := Lib.hid (hv.below hA (Nat.le_refl _))
  have HA := Lib.hid hA
  have HN : Hid (New (((w.alloc (.cells #[.int .i64 ka, .pointer kp] 49)).alloc (.cells #[.int .i64 0, .pointer none] 49)).alloc (.cells #[.bool false, .slice none 0 0] 71)) (w.heap.size + 2)) := by
    show New _ _
    have := New.made ((w.alloc (.cells #[.int .i64 ka, .pointer kp] 49)).alloc (.cells #[.int .i64 0, .pointer none] 49))
    simpa using this
  have HH : Hid (n ≤ 4096 ∧ k ≤ 900 ∧ z.natAbs < W ^ k) := ⟨hn, hk, hz⟩
  clear hv hA hn hk hz
  go_enter Try.func29, Try.ntmps29
  go_wp2_with fail
  refine (f50_any _ z B _ HK.out _ HP.out).mono ?_
  rintro e w1 ⟨g, sl, xs, rfl, hg, hx, hb⟩
  have hgn : w.heap.size + 2 ≠ g := by simp at hg; omega
  have hz1 : w.heap.size + 3 ≤ w1.heap.size := by have := hb.size; simpa using this
  have HN1 : Hid (New w1 (w.heap.size + 2)) := (hb.block _ (by simp)).trans HN.out
  have HB := Lib.hid hb
  have HX := Lib.hid hx
  clear hb hx hg HN HK
  go_wp2_with fail
  refine (f49_any _ g z n HH.out.1 k HH.out.2.1 HH.out.2.2 0 sl xs w1 HN1.out HX.out hgn).mono ?_
  rintro e w2 ⟨rfl, hgr, sl2, xs2, hx2⟩
  have HX2 := Lib.hid (hx2.le (B' := w.heap.size) (by omega))
  have HB2 : Hid (Below (w.heap.size + 2) ((w.alloc (.cells #[.int .i64 ka, .pointer kp] 49)).alloc (.cells #[.int .i64 0, .pointer none] 49)) w2) :=
    (((Below.refl _ _).alloc (by simp) _).trans (HB.out.mono (by simp))).grown hgr (by have := HB.out.size; omega) (by intro q hq; cases hq; exact Nat.le_refl _)
  have hz2 : w.heap.size + 3 ≤ w2.heap.size := by have := hgr.size; omega
  clear hx2 hgr HN1 HX HB
  go_wp2_with fail
  refine (f48_any _ (w.heap.size + 2) _ sl2 xs2 w2 HX2.out).mono ?_
  rintro e w3 ⟨v3, rfl, hk3, hb3⟩
  obtain ⟨ka3, kp3, rfl⟩ := hk3.shape
  have HK3 := Lib.hid (hk3.le (B' := w.heap.size + 3) hz2)
  have HB3 := Lib.hid (HB2.out.trans (hb3.mono (by omega)))
  obtain ⟨c0, f0, c1, f1⟩ := later2 HB3.out (Nat.le_refl _)
  clear hk3 hb3 HB2 HX2
  go_wp2_with fail
  refine bodyPost_ret (v := .agg #[.int .i64 ka3, .pointer kp3]) (by simp [results, Try.results29, go_sem, c1]) rfl ?_
  refine ⟨_, rfl, ?_, ?_⟩
  · refine KInt.le (B := w.heap.size + 3) ?_ (by omega)
    iterate 2 (refine KInt.setOld ?_ (show w.heap.size + 1 < w.heap.size + 3 by omega) _)
    exact HK3.out
  · iterate 2 (refine Below.setCell ?_ (show w.heap.size ≤ w.heap.size + 1 by omega) _)
    exact (((Below.refl _ _).alloc (Nat.le_refl _) _).alloc (by simp) _).trans (HB3.out.mono (by omega))

set_option maxRecDepth 100000 in
set_option maxHeartbeats 1000000 in
theorem f14_any (m : Nat) (hm : m ≤ 4000) (v : Value) (z : Int) (n : Nat) (hn : n ≤ 4096) (B : Nat) (w : World) (hv : VInt B m w v z) : Calls Try.prog 14 #[v, .int .u64 n] w (MakesV 8000 (z * 2 ^ n) w) := by
  have HL : Hid (z.natAbs < W ^ (m / 8 + 1)) := by
    obtain ⟨_, l, _, _, hb, hl⟩ := hv
    exact Nat.lt_of_lt_of_le hb.lt (pow_words _ _ (by omega))
  obtain ⟨d, a, k, c, rfl⟩ := hv.shape
  have HV := Lib.hid ((hv.below ((Below.refl w.heap.size w).alloc (Nat.le_refl _) (.cells #[.int .i64 2, .bool d, .slice a k c, .int .u64 0, .string ⟨#[]⟩, .slice none 0 0] 27)) (Nat.le_refl _)).below ((Below.refl (w.heap.size + 1) (w.alloc (.cells #[.int .i64 2, .bool d, .slice a k c, .int .u64 0, .string ⟨#[]⟩, .slice none 0 0] 27))).alloc (by simp) (.cells #[.int .i64 0, .bool false, .slice none 0 0, .int .u64 0, .string ⟨#[]⟩, .slice none 0 0] 27)) (by simp))
  have HM := Lib.hid hm
  clear hv hm
  go_enter Try.func14, Try.ntmps14
  go_wp2_with fail
  refine (f28_any m HM.out _ z _ _ HV.out).mono ?_
  rintro e w1 ⟨v1, rfl, hk, hb⟩
  have hz1 : w.heap.size + 2 ≤ w1.heap.size := by have := hb.size; simpa using this
  have HB : Hid (Below (w.heap.size + 2) _ w1) := hb.mono (by simp)
  have HK := Lib.hid hk
  clear hk hb
  go_wp2_with fail
  refine (f29_any _ z n hn (m / 8 + 1) (by have := HM.out; omega) HL.out _ _ HK.out).mono ?_
  rintro e w2 ⟨v2, rfl, hk2, hb⟩
  have hz2 : w.heap.size + 2 ≤ w2.heap.size := by have := hb.size; omega
  have HK2 := Lib.hid hk2
  have HB2 := Lib.hid (HB.out.trans (hb.mono hz1))
  clear hk2 hb HK HB HL HM
  go_wp2_with fail
  refine (f20_any _ _ _ _ HK2.out).mono ?_
  rintro e w3 ⟨v3, rfl, hv3, hb⟩
  obtain ⟨d2, a2, k2, c2, rfl⟩ := hv3.shape
  have HV3 := Lib.hid (hv3.le hz2 (Nat.le_refl _))
  have HB3 := Lib.hid (HB2.out.trans (hb.mono hz2))
  obtain ⟨c0, f0, c1, f1⟩ := later2 HB3.out (Nat.le_refl _)
  clear hv3 hb HK2 HV
  go_wp2_with fail
  refine bodyPost_ret (v := .agg #[.int .i64 2, .bool d2, .slice a2 k2 c2, .int .u64 0, .string ⟨#[]⟩, .slice none 0 0]) (by simp [results, Try.results14, go_sem, c1]) rfl ?_
  refine ⟨_, rfl, ?_, ?_⟩
  · refine VInt.le (B := w.heap.size + 2) (n := 8000) ?_ (by omega) (Nat.le_refl _)
    iterate 6 (refine VInt.setOld ?_ (show w.heap.size + 1 < w.heap.size + 2 by omega) _)
    exact HV3.out
  · iterate 6 (refine Below.setCell ?_ (show w.heap.size ≤ w.heap.size + 1 by omega) _)
    exact (((Below.refl _ _).alloc (Nat.le_refl _) _).alloc (by simp) _).trans (HB3.out.mono (by omega))
end Go.Proofs.Ytidkdjnfpepnfaa
