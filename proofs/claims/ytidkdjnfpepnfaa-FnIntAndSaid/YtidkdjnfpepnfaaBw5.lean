/- Walks of the package's great numbers: And of Int, both below 0. -/
import Derived.Test.YtidkdjnfpepnfaaBw4
import Derived.Test.YtidkdjnfpepnfaaBig21
namespace Go.Proofs.Ytidkdjnfpepnfaa
open Go.RowKit

/-- A new 1. -/
def MakesOne (w : World) (e : Ending) (w' : World) : Prop := ∃ v, e = .returned v ∧ Row w.heap.size .u64 w' v [1] ∧ Below w.heap.size w w'
theorem f67_one (w : World) : Calls Try.prog 67 #[] w (MakesOne w) :=
  (f67_any w).mono fun _ _ ⟨he, hw⟩ => ⟨_, he, by rw [hw]; exact one_row w, by rw [hw]; exact (Below.refl _ _).alloc (Nat.le_refl _) _⟩
theorem one_lt_W : 1 < W := by decide
theorem isW_1 : IsW 1 [1] := isW_one 1 (by omega) one_lt_W

/-- The three numbers of a call stand in a later world. -/
structure Three (w w1 : World) (g gx gy : Nat) (zx zy : Int) (Bx By : Nat) (slx sly : Value) (xs ys : List Nat) : Prop where
  below : Below w.heap.size w w1
  new : w1.heap[g]? = some (.cells #[.bool false, .slice none 0 0] 71 (0, 0))
  x : BInt Bx w1 gx zx slx xs
  y : BInt By w1 gy zy sly ys
theorem Three.start {w : World} {g gx gy : Nat} {zx zy : Int} {Bx By : Nat} {slx sly : Value} {xs ys : List Nat} (hnew : New w g) (hx : BInt Bx w gx zx slx xs) (hy : BInt By w gy zy sly ys) : Three w w g gx gy zx zy Bx By slx sly xs ys := ⟨Below.refl _ _, hnew, hx, hy⟩
theorem Three.next {w w1 w2 : World} {g gx gy : Nat} {zx zy : Int} {Bx By : Nat} {slx sly : Value} {xs ys : List Nat} (h : Three w w1 g gx gy zx zy Bx By slx sly xs ys) (hb : Below w1.heap.size w1 w2) : Three w w2 g gx gy zx zy Bx By slx sly xs ys :=
  ⟨h.below.trans (hb.mono h.below.size), (hb.block g (Array.getElem?_eq_some_iff.1 h.new).1).trans h.new, h.x.below hb (Nat.le_refl _), h.y.below hb (Nat.le_refl _)⟩
theorem Three.drew {w w1 : World} {g gx gy : Nat} {zx zy : Int} {Bx By : Nat} {slx sly : Value} {xs ys : List Nat} (h : Three w w1 g gx gy zx zy Bx By slx sly xs ys) (n : Nat) : Three w (w1.drewN n) g gx gy zx zy Bx By slx sly xs ys := h.next (below_drewN (Below.refl _ _) n)
theorem Three.z1 {w w1 : World} {g gx gy : Nat} {zx zy : Int} {Bx By : Nat} {slx sly : Value} {xs ys : List Nat} (h : Three w w1 g gx gy zx zy Bx By slx sly xs ys) : w1.cell? ⟨g, 1, none⟩ = some (.slice none 0 0) := by simp [World.cell?, h.new]

theorem andZ_nn {x y : Int} (hx : x < 0) (hy : y < 0) : (andZ x y).natAbs = ((x.natAbs - 1) ||| (y.natAbs - 1)) + 1 ∧ decide (andZ x y < 0) = true := by
  unfold andZ
  rw [if_pos hx, if_pos hy]
  constructor
  · omega
  · simp
theorem or_len {a b k : Nat} (ha : a < W ^ k) (hb : b < W ^ k) : a ||| b < W ^ k := by
  rw [W_pow] at *
  exact Nat.or_lt_two_pow ha hb
theorem or1_len {a b k : Nat} (ha : a < W ^ k) (hb : b < W ^ k) : (a ||| b) + 1 < W ^ (k + 1) := by
  have h := or_len ha hb
  have h1 : 0 < W ^ k := Nat.pow_pos W_pos
  have h2 : W ^ k * 2 ≤ W ^ k * W := Nat.mul_le_mul_left _ one_lt_W
  rw [Nat.pow_succ]; omega

set_option maxRecDepth 100000 in
set_option maxHeartbeats 4000000 in
theorem f54_nn (g gx gy : Nat) (zx zy : Int) (Bx By : Nat) (slx sly : Value) (xs ys : List Nat) (w : World) (hnew : New w g) (hx : BInt Bx w gx zx slx xs) (hy : BInt By w gy zy sly ys) (K : Nat) (hK : K ≤ 800) (hlx : xs.length ≤ K) (hly : ys.length ≤ K) (ha : zx < 0) (hb : zy < 0) :
    Calls Try.prog 54 #[.pointer (some ⟨g, 0, none⟩), .pointer (some ⟨gx, 0, none⟩), .pointer (some ⟨gy, 0, none⟩)] w (SetPost g (andZ zx zy) w) := by
  have HZ := Lib.hid (andZ_nn ha hb)
  have HT := Lib.hid (Three.start hnew hx hy)
  have HLW : Hid (xs.length ≤ K ∧ ys.length ≤ K ∧ K ≤ 800) := ⟨hlx, hly, hK⟩
  have HP : Hid (1 ≤ zx.natAbs ∧ 1 ≤ zy.natAbs) := ⟨by omega, by omega⟩
  have zl : g < w.heap.size := (Array.getElem?_eq_some_iff.1 hnew).1
  have x0 := hx.neg
  have y0 := hy.neg
  rw [show decide (zx < 0) = true from by simpa using ha] at x0
  rw [show decide (zy < 0) = true from by simpa using hb] at y0
  clear hnew hx hy ha hb hlx hly hK
  go_enter Try.func54, Try.ntmps54
  go_wp2_with fail
  go_quiet (fail)
  have HT1 := Lib.hid (HT.out.drew nq)
  have x0' : (w.drewN nq).cell? ⟨gx, 0, none⟩ = some (.bool true) := x0
  have x1' := HT1.out.x.abs
  clear x0 y0 HT
  generalize w.drewN nq = w1 at *
  go_wp2_with fail
  go_region_held3 (fun w' => w'.cell? ⟨gx, 1, none⟩ = some slx)
    (first | exact cx3 | exact cx4 | exact x1' | go_keep)
    (first
      | (go_at_call 67; refine (f67_one _).mono ?_; rintro e w3 ⟨v3, rfl, hr3, hb3⟩; have HT3 := Lib.hid (HT1.out.next (w2 := w3) ⟨hb3.os, hb3.tape, hb3.output, hb3.size, hb3.block⟩); have HR3 := Lib.hid hr3; have cx3 := HT3.out.x.abs; clear hr3 hb3)
      | (go_at_call 66; refine (f66_any Bx _ slx v3 xs [1] (by have := HLW.out; omega) zx.natAbs 1 HT3.out.x.num isW_1 HP.out.1 w3 HT3.out.x.row HR3.out).mono ?_; rintro e w4 ⟨v4, us, rfl, hr4, hn4, hb4⟩; obtain ⟨a4, k4, rfl⟩ := hr4.len; have HT4 := Lib.hid (HT3.out.next hb4); have HR4 := Lib.hid hr4; have HN4 := Lib.hid hn4; have cx4 := HT4.out.x.abs; clear hr4 hb4 hn4))
  have y4 := HT4.out.y.abs
  clear x1' cx3 cx4 x0' HT3 HR3 HT1
  go_wp2_with fail
  go_region_held3 (fun w' => w'.cell? ⟨gy, 1, none⟩ = some sly)
    (first | exact cy5 | exact cy6 | exact y4 | go_keep)
    (first
      | (go_at_call 67; refine (f67_one _).mono ?_; rintro e w5 ⟨v5, rfl, hr5, hb5⟩; have HT5 := Lib.hid (HT4.out.next (w2 := w5) ⟨hb5.os, hb5.tape, hb5.output, hb5.size, hb5.block⟩); have HR45 := Lib.hid (HR4.out.below (w' := w5) (show Below w4.heap.size w4 w5 from ⟨hb5.os, hb5.tape, hb5.output, hb5.size, hb5.block⟩) (Nat.le_refl _)); have HR5 := Lib.hid hr5; have cy5 := HT5.out.y.abs; clear hr5 hb5)
      | (go_at_call 66; refine (f66_any By _ sly v5 ys [1] (by have := HLW.out; omega) zy.natAbs 1 HT5.out.y.num isW_1 HP.out.2 w5 HT5.out.y.row HR5.out).mono ?_; rintro e w6 ⟨v6, vs, rfl, hr6, hn6, hb6⟩; obtain ⟨a6, k6, rfl⟩ := hr6.len; have HT6 := Lib.hid (HT5.out.next hb6); have HR46 := Lib.hid (HR45.out.below hb6 (Nat.le_refl _)); have HR6 := Lib.hid hr6; have HN6 := Lib.hid hn6; have cy6 := HT6.out.y.abs; clear hr6 hb6 hn6))
  have z6 := HT6.out.z1
  have HLu : Hid (us.length ≤ K) := HN4.out.len_sub HT6.out.x.num HLW.out.1
  have HLv : Hid (vs.length ≤ K) := HN6.out.len_sub HT6.out.y.num HLW.out.2.1
  clear y4 cy5 cy6 HT5 HR5 HT4 HR4 HR45
  go_wp2_with fail
  go_region_with
    (first
      | (go_at_call 68; refine (f68_any _ _ (.slice a4 us.length k4) (.slice a6 vs.length k6) us vs (by have := HLu.out; have := HLW.out; omega) (by have := HLv.out; have := HLW.out; omega) (zx.natAbs - 1) (zy.natAbs - 1) HN4.out HN6.out _ (by exact HR46.out) (by exact HR6.out)).mono ?_; rintro e w7 ⟨v7, os, rfl, hr7, hn7, hb7⟩; obtain ⟨a7, k7, rfl⟩ := hr7.len; have HT7 := Lib.hid (HT6.out.next (w2 := w7) ⟨hb7.os, hb7.tape, hb7.output, hb7.size, hb7.block⟩); have HR7 := Lib.hid hr7; have HN7 := Lib.hid hn7; have z7 := HT7.out.z1; clear hr7 hb7 hn7)
      | (go_at_call 67; refine (f67_one _).mono ?_; rintro e w8 ⟨v8, rfl, hr8, hb8⟩; have HT8 := Lib.hid (HT7.out.next hb8); have HR78 := Lib.hid (HR7.out.below hb8 (Nat.le_refl _)); have HR8 := Lib.hid hr8; have z8 := HT8.out.z1; clear hr8 hb8)
      | (go_at_call 64; refine (f64_any _ _ (.slice a7 os.length k7) v8 os [1] (Nat.le_trans (HN7.out.len_le (or_len (HN4.out.lt_pow HLu.out) (HN6.out.lt_pow HLv.out))) (by have := HLW.out; omega)) (by simp) _ 1 HN7.out isW_1 _ (by exact HR78.out) (by exact HR8.out)).mono ?_; rintro e w9 ⟨v9, ps, rfl, hr9, hn9, hb9⟩; obtain ⟨a9, k9, rfl⟩ := hr9.len; have HT9 := Lib.hid (HT8.out.next (w2 := w9) ⟨hb9.os, hb9.tape, hb9.output, hb9.size, hb9.block⟩); have HR9 := Lib.hid (hr9.le (B' := w.heap.size) HT8.out.below.size); have HN9 := Lib.hid hn9; have f9 := fun i => Joins.unfrozen_of_block HT9.out.new i; have c9 := fun i => Joins.cell_of_block HT9.out.new i; clear hr9 hb9 hn9))
  all_goals
    go_wp2
    go_ret
    refine ⟨rfl, ?_, .slice a9 ps.length k9, ps, ?_, ?_, ?_, ?_⟩
    · exact ((below_grownBy HT9.out.below _).setCell g 1 _).setCell g 0 _
    · rw [HZ.out.2]
      exact Joins.block_setCell (Joins.block_setCell HT9.out.new (i := 1) _) (i := 0) _
    · exact Row.setOld (Row.setOld HR9.out zl _) zl _
    · rw [HZ.out.1]; exact HN9.out
    · exact Nat.le_trans (HN9.out.len_le (or1_len (HN4.out.lt_pow HLu.out) (HN6.out.lt_pow HLv.out))) (by have := HLW.out; omega)
end Go.Proofs.Ytidkdjnfpepnfaa
