/- Walks of the package's great numbers: And of Int. (Printed by mkand.py.) -/
import Derived.Test.YtidkdjnfpepnfaaBw5
namespace Go.Proofs.Ytidkdjnfpepnfaa
open Go.RowKit

theorem andZ_pp {x y : Int} (hx : ¬ x < 0) (hy : ¬ y < 0) : (andZ x y).natAbs = x.natAbs &&& y.natAbs ∧ decide (andZ x y < 0) = false := by
  unfold andZ
  rw [if_neg hx, if_neg hy]
  exact ⟨Int.natAbs_natCast _, by simp⟩
theorem andZ_pn {x y : Int} (hx : ¬ x < 0) (hy : y < 0) : (andZ x y).natAbs = adn x.natAbs (y.natAbs - 1) ∧ decide (andZ x y < 0) = false := by
  unfold andZ
  rw [if_neg hx, if_pos hy]
  exact ⟨Int.natAbs_natCast _, by simp⟩
theorem andZ_np {x y : Int} (hx : x < 0) (hy : ¬ y < 0) : (andZ x y).natAbs = adn y.natAbs (x.natAbs - 1) ∧ decide (andZ x y < 0) = false := by
  unfold andZ
  rw [if_pos hx, if_neg hy]
  exact ⟨Int.natAbs_natCast _, by simp⟩
set_option maxRecDepth 100000 in
set_option maxHeartbeats 4000000 in
theorem f54_pp (g gx gy : Nat) (zx zy : Int) (Bx By : Nat) (slx sly : Value) (xs ys : List Nat) (w : World) (hnew : New w g) (hx : BInt Bx w gx zx slx xs) (hy : BInt By w gy zy sly ys) (K : Nat) (hK : K ≤ 800) (hlx : xs.length ≤ K) (hly : ys.length ≤ K) (ha : ¬ zx < 0) (hb : ¬ zy < 0) :
    Calls Try.prog 54 #[.pointer (some ⟨g, 0, none⟩), .pointer (some ⟨gx, 0, none⟩), .pointer (some ⟨gy, 0, none⟩)] w (SetPost g (andZ zx zy) w) := by
  have HZ := Lib.hid (andZ_pp ha hb)
  have HT := Lib.hid (Three.start hnew hx hy)
  have HLW : Hid (xs.length ≤ K ∧ ys.length ≤ K ∧ K ≤ 800) := ⟨hlx, hly, hK⟩
  have zl : g < w.heap.size := (Array.getElem?_eq_some_iff.1 hnew).1
  have x0 := hx.neg
  have y0 := hy.neg
  rw [show decide (zx < 0) = false from by simpa using ha] at x0
  rw [show decide (zy < 0) = false from by simpa using hb] at y0
  clear hnew hx hy ha hb hlx hly hK
  go_enter Try.func54, Try.ntmps54
  go_wp2_with fail
  go_quiet (fail)
  have HT1 := Lib.hid (HT.out.drew nq)
  have x0' : (w.drewN nq).cell? ⟨gx, 0, none⟩ = some (.bool false) := x0
  have y0' : (w.drewN nq).cell? ⟨gy, 0, none⟩ = some (.bool false) := y0
  clear x0 y0 HT
  generalize w.drewN nq = w1 at *
  have x1' := HT1.out.x.abs
  have y1' := HT1.out.y.abs
  have z1' := HT1.out.z1
  go_wp2_with fail
  go_region_with
    ((go_at_call 69; refine (f69_any _ _ slx sly xs ys (by have := HLW.out; omega) (by have := HLW.out; omega) zx.natAbs zy.natAbs HT1.out.x.num HT1.out.y.num _ (by exact HT1.out.x.row) (by exact HT1.out.y.row)).mono ?_; rintro e w9 ⟨v9, ps, rfl, hr9, hn9, hb9⟩; obtain ⟨a9, k9, rfl⟩ := hr9.len; have HT9 := Lib.hid (HT1.out.next (w2 := w9) ⟨hb9.os, hb9.tape, hb9.output, hb9.size, hb9.block⟩); have HR9 := Lib.hid (hr9.le (B' := w.heap.size) HT1.out.below.size); have HN9 := Lib.hid hn9; have f9 := fun i => Joins.unfrozen_of_block HT9.out.new i; have c9 := fun i => Joins.cell_of_block HT9.out.new i; clear hr9 hb9 hn9))
  all_goals
    go_wp2
    go_ret
    refine ⟨rfl, ?_, .slice a9 ps.length k9, ps, ?_, ?_, ?_, ?_⟩
    · exact ((below_grownBy HT9.out.below _).setCell g 1 _).setCell g 0 _
    · rw [HZ.out.2]
      exact Joins.block_setCell (Joins.block_setCell HT9.out.new (i := 1) _) (i := 0) _
    · exact Row.setOld (Row.setOld HR9.out zl _) zl _
    · rw [HZ.out.1]; exact HN9.out
    · exact Nat.le_trans (HN9.out.len_le (Nat.lt_of_le_of_lt Nat.and_le_left (HT1.out.x.num.lt_pow HLW.out.1))) (by have := HLW.out; omega)

set_option maxRecDepth 100000 in
set_option maxHeartbeats 4000000 in
theorem f54_pn (g gx gy : Nat) (zx zy : Int) (Bx By : Nat) (slx sly : Value) (xs ys : List Nat) (w : World) (hnew : New w g) (hx : BInt Bx w gx zx slx xs) (hy : BInt By w gy zy sly ys) (K : Nat) (hK : K ≤ 800) (hlx : xs.length ≤ K) (hly : ys.length ≤ K) (ha : ¬ zx < 0) (hb : zy < 0) :
    Calls Try.prog 54 #[.pointer (some ⟨g, 0, none⟩), .pointer (some ⟨gx, 0, none⟩), .pointer (some ⟨gy, 0, none⟩)] w (SetPost g (andZ zx zy) w) := by
  have HZ := Lib.hid (andZ_pn ha hb)
  have HT := Lib.hid (Three.start hnew hx hy)
  have HLW : Hid (xs.length ≤ K ∧ ys.length ≤ K ∧ K ≤ 800) := ⟨hlx, hly, hK⟩
  have HP : Hid (1 ≤ zy.natAbs) := by show _ ≤ _; omega
  have zl : g < w.heap.size := (Array.getElem?_eq_some_iff.1 hnew).1
  have x0 := hx.neg
  have y0 := hy.neg
  rw [show decide (zx < 0) = false from by simpa using ha] at x0
  rw [show decide (zy < 0) = true from by simpa using hb] at y0
  clear hnew hx hy ha hb hlx hly hK
  go_enter Try.func54, Try.ntmps54
  go_wp2_with fail
  go_quiet (fail)
  have HT1 := Lib.hid (HT.out.drew nq)
  have x0' : (w.drewN nq).cell? ⟨gx, 0, none⟩ = some (.bool false) := x0
  have y0' : (w.drewN nq).cell? ⟨gy, 0, none⟩ = some (.bool true) := y0
  clear x0 y0 HT
  generalize w.drewN nq = w1 at *
  have n1' := HT1.out.y.abs
  go_wp2_with fail
  go_region_held3 (fun w' => w'.cell? ⟨gy, 1, none⟩ = some sly)
    (first | exact cx3 | exact cx4 | exact n1' | go_keep)
    (first
      | (go_at_call 67; refine (f67_one _).mono ?_; rintro e w3 ⟨v3, rfl, hr3, hb3⟩; have HT3 := Lib.hid (HT1.out.next (w2 := w3) ⟨hb3.os, hb3.tape, hb3.output, hb3.size, hb3.block⟩); have HR3 := Lib.hid hr3; have cx3 := HT3.out.y.abs; clear hr3 hb3)
      | (go_at_call 66; refine (f66_any By _ sly v3 ys [1] (by have := HLW.out; omega) zy.natAbs 1 HT3.out.y.num isW_1 HP.out w3 HT3.out.y.row HR3.out).mono ?_; rintro e w4 ⟨v4, us, rfl, hr4, hn4, hb4⟩; obtain ⟨a4, k4, rfl⟩ := hr4.len; have HT4 := Lib.hid (HT3.out.next hb4); have HR4 := Lib.hid hr4; have HN4 := Lib.hid hn4; have cx4 := HT4.out.y.abs; clear hr4 hb4 hn4))
  have z4 := HT4.out.z1
  have p4 := HT4.out.x.abs
  have HLu : Hid (us.length ≤ K) := HN4.out.len_sub HT4.out.y.num HLW.out.2.1
  clear n1' cx3 cx4 x0' y0' HT3 HR3 HT1
  go_wp2_with fail
  go_region_with
    ((go_at_call 70; refine (f70_any _ _ slx (.slice a4 us.length k4) xs us (by have := HLW.out; omega) (by have := HLu.out; have := HLW.out; omega) zx.natAbs (zy.natAbs - 1) HT4.out.x.num HN4.out _ (by exact HT4.out.x.row) (by exact HR4.out)).mono ?_; rintro e w9 ⟨v9, ps, rfl, hr9, hn9, hb9⟩; obtain ⟨a9, k9, rfl⟩ := hr9.len; have HT9 := Lib.hid (HT4.out.next (w2 := w9) ⟨hb9.os, hb9.tape, hb9.output, hb9.size, hb9.block⟩); have HR9 := Lib.hid (hr9.le (B' := w.heap.size) HT4.out.below.size); have HN9 := Lib.hid hn9; have f9 := fun i => Joins.unfrozen_of_block HT9.out.new i; have c9 := fun i => Joins.cell_of_block HT9.out.new i; clear hr9 hb9 hn9))
  all_goals
    go_wp2
    go_ret
    refine ⟨rfl, ?_, .slice a9 ps.length k9, ps, ?_, ?_, ?_, ?_⟩
    · exact ((below_grownBy HT9.out.below _).setCell g 1 _).setCell g 0 _
    · rw [HZ.out.2]
      exact Joins.block_setCell (Joins.block_setCell HT9.out.new (i := 1) _) (i := 0) _
    · exact Row.setOld (Row.setOld HR9.out zl _) zl _
    · rw [HZ.out.1]; exact HN9.out
    · exact Nat.le_trans (HN9.out.len_le (Nat.lt_of_le_of_lt (adn_le _ _) (HT4.out.x.num.lt_pow HLW.out.1))) (by have := HLW.out; omega)

set_option maxRecDepth 100000 in
set_option maxHeartbeats 4000000 in
theorem f54_np (g gx gy : Nat) (zx zy : Int) (Bx By : Nat) (slx sly : Value) (xs ys : List Nat) (w : World) (hnew : New w g) (hx : BInt Bx w gx zx slx xs) (hy : BInt By w gy zy sly ys) (K : Nat) (hK : K ≤ 800) (hlx : xs.length ≤ K) (hly : ys.length ≤ K) (ha : zx < 0) (hb : ¬ zy < 0) :
    Calls Try.prog 54 #[.pointer (some ⟨g, 0, none⟩), .pointer (some ⟨gx, 0, none⟩), .pointer (some ⟨gy, 0, none⟩)] w (SetPost g (andZ zx zy) w) := by
  have HZ := Lib.hid (andZ_np ha hb)
  have HT := Lib.hid (Three.start hnew hx hy)
  have HLW : Hid (xs.length ≤ K ∧ ys.length ≤ K ∧ K ≤ 800) := ⟨hlx, hly, hK⟩
  have HP : Hid (1 ≤ zx.natAbs) := by show _ ≤ _; omega
  have zl : g < w.heap.size := (Array.getElem?_eq_some_iff.1 hnew).1
  have x0 := hx.neg
  have y0 := hy.neg
  rw [show decide (zx < 0) = true from by simpa using ha] at x0
  rw [show decide (zy < 0) = false from by simpa using hb] at y0
  clear hnew hx hy ha hb hlx hly hK
  go_enter Try.func54, Try.ntmps54
  go_wp2_with fail
  go_quiet (fail)
  have HT1 := Lib.hid (HT.out.drew nq)
  have x0' : (w.drewN nq).cell? ⟨gx, 0, none⟩ = some (.bool true) := x0
  have y0' : (w.drewN nq).cell? ⟨gy, 0, none⟩ = some (.bool false) := y0
  clear x0 y0 HT
  generalize w.drewN nq = w1 at *
  have n1' := HT1.out.x.abs
  go_wp2_with fail
  go_region_held3 (fun w' => w'.cell? ⟨gx, 1, none⟩ = some slx)
    (first | exact cx3 | exact cx4 | exact n1' | go_keep)
    (first
      | (go_at_call 67; refine (f67_one _).mono ?_; rintro e w3 ⟨v3, rfl, hr3, hb3⟩; have HT3 := Lib.hid (HT1.out.next (w2 := w3) ⟨hb3.os, hb3.tape, hb3.output, hb3.size, hb3.block⟩); have HR3 := Lib.hid hr3; have cx3 := HT3.out.x.abs; clear hr3 hb3)
      | (go_at_call 66; refine (f66_any Bx _ slx v3 xs [1] (by have := HLW.out; omega) zx.natAbs 1 HT3.out.x.num isW_1 HP.out w3 HT3.out.x.row HR3.out).mono ?_; rintro e w4 ⟨v4, us, rfl, hr4, hn4, hb4⟩; obtain ⟨a4, k4, rfl⟩ := hr4.len; have HT4 := Lib.hid (HT3.out.next hb4); have HR4 := Lib.hid hr4; have HN4 := Lib.hid hn4; have cx4 := HT4.out.x.abs; clear hr4 hb4 hn4))
  have z4 := HT4.out.z1
  have p4 := HT4.out.y.abs
  have HLu : Hid (us.length ≤ K) := HN4.out.len_sub HT4.out.x.num HLW.out.1
  clear n1' cx3 cx4 x0' y0' HT3 HR3 HT1
  go_wp2_with fail
  go_region_with
    ((go_at_call 70; refine (f70_any _ _ sly (.slice a4 us.length k4) ys us (by have := HLW.out; omega) (by have := HLu.out; have := HLW.out; omega) zy.natAbs (zx.natAbs - 1) HT4.out.y.num HN4.out _ (by exact HT4.out.y.row) (by exact HR4.out)).mono ?_; rintro e w9 ⟨v9, ps, rfl, hr9, hn9, hb9⟩; obtain ⟨a9, k9, rfl⟩ := hr9.len; have HT9 := Lib.hid (HT4.out.next (w2 := w9) ⟨hb9.os, hb9.tape, hb9.output, hb9.size, hb9.block⟩); have HR9 := Lib.hid (hr9.le (B' := w.heap.size) HT4.out.below.size); have HN9 := Lib.hid hn9; have f9 := fun i => Joins.unfrozen_of_block HT9.out.new i; have c9 := fun i => Joins.cell_of_block HT9.out.new i; clear hr9 hb9 hn9))
  all_goals
    go_wp2
    go_ret
    refine ⟨rfl, ?_, .slice a9 ps.length k9, ps, ?_, ?_, ?_, ?_⟩
    · exact ((below_grownBy HT9.out.below _).setCell g 1 _).setCell g 0 _
    · rw [HZ.out.2]
      exact Joins.block_setCell (Joins.block_setCell HT9.out.new (i := 1) _) (i := 0) _
    · exact Row.setOld (Row.setOld HR9.out zl _) zl _
    · rw [HZ.out.1]; exact HN9.out
    · exact Nat.le_trans (HN9.out.len_le (Nat.lt_of_le_of_lt (adn_le _ _) (HT4.out.y.num.lt_pow HLW.out.2.1))) (by have := HLW.out; omega)

theorem f54_any (g gx gy : Nat) (zx zy : Int) (Bx By : Nat) (slx sly : Value) (xs ys : List Nat) (w : World) (hnew : New w g) (hx : BInt Bx w gx zx slx xs) (hy : BInt By w gy zy sly ys) (hlx : xs.length ≤ 800) (hly : ys.length ≤ 800) :
    Calls Try.prog 54 #[.pointer (some ⟨g, 0, none⟩), .pointer (some ⟨gx, 0, none⟩), .pointer (some ⟨gy, 0, none⟩)] w (SetPost g (andZ zx zy) w) := by
  by_cases ha : zx < 0 <;> by_cases hb : zy < 0
  · exact f54_nn g gx gy zx zy Bx By slx sly xs ys w hnew hx hy 800 (Nat.le_refl _) hlx hly ha hb
  · exact f54_np g gx gy zx zy Bx By slx sly xs ys w hnew hx hy 800 (Nat.le_refl _) hlx hly ha hb
  · exact f54_pn g gx gy zx zy Bx By slx sly xs ys w hnew hx hy 800 (Nat.le_refl _) hlx hly ha hb
  · exact f54_pp g gx gy zx zy Bx By slx sly xs ys w hnew hx hy 800 (Nat.le_refl _) hlx hly ha hb
end Go.Proofs.Ytidkdjnfpepnfaa
