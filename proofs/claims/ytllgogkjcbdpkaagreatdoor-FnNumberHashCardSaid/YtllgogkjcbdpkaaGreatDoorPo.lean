/- The parts of a quotient of the package: one set to a word, one to an integer, one shifted in its place. -/
import Derived.Test.YtllgogkjcbdpkaaGreatDoorPn
namespace Go.Proofs.YtllgogkjcbdpkaaGreatDoor.Z
open Go.RowKit

/-- A quotient's block. -/
def Rat (w : World) (g : Nat) (x0 x1 x2 x3 : Value) : Prop := w.heap[g]? = some (.cells #[x0, x1, x2, x3] 109 (0, 0))
theorem Rat.cell {w : World} {g : Nat} {x0 x1 x2 x3 : Value} (h : Rat w g x0 x1 x2 x3) (i : Nat) : w.cell? ⟨g, i, none⟩ = #[x0, x1, x2, x3][i]? := by simp [World.cell?, show w.heap[g]? = _ from h]
theorem Rat.free {w : World} {g : Nat} {x0 x1 x2 x3 : Value} (h : Rat w g x0 x1 x2 x3) (i : Nat) : w.frozen? ⟨g, i, none⟩ = false := by simp [World.frozen?, show w.heap[g]? = _ from h]
theorem Rat.lt {w : World} {g : Nat} {x0 x1 x2 x3 : Value} (h : Rat w g x0 x1 x2 x3) : g < w.heap.size := (Array.getElem?_eq_some_iff.1 h).1
def SetW (g x : Nat) (x2 x3 : Value) (w : World) (e : Ending) (w' : World) : Prop := e = .returned (.pointer (some ⟨g, 0, none⟩)) ∧ ∃ a, w.heap.size ≤ a ∧ Rat w' g (.bool false) (.slice (some ⟨a, 0, none⟩) 1 1) x2 x3 ∧ w'.heap[a]? = some (.cells #[.int .u64 x] 85 (0, 0)) ∧ w.grownBy w' (some g)
set_option maxRecDepth 100000 in
set_option maxHeartbeats 2000000 in
theorem f77_rat (g x : Nat) (h0 : x ≠ 0) (b : Bool) (x2 x3 : Value) (w : World) (hg : Rat w g (.bool b) (.slice none 0 0) x2 x3) : Calls Tryz.prog 77 #[.pointer (some ⟨g, 0, none⟩), .int .u64 x] w (SetW g x x2 x3 w) := by
  have H86 := Lib.hid (f86_any x h0)
  have c0 := hg.cell
  have f0 := hg.free
  have HG := Lib.hid hg
  have zl := hg.lt
  clear h0 hg
  go_enter Tryz.func77, Tryz.ntmps77
  go_wp2_with (go_at_call 86; refine (H86.out _).mono ?_; rintro e w' ⟨rfl, rfl⟩)
  go_ret
  have hb : Rat ((w.setCell ⟨g, 1, none⟩ (.slice (some ⟨w.heap.size, 0, none⟩) 1 1)).setCell ⟨g, 0, none⟩ (.bool false)) g (.bool false) (.slice (some ⟨w.heap.size, 0, none⟩) 1 1) x2 x3 := Joins.block_setCell (Joins.block_setCell HG.out (i := 1) _) (i := 0) _
  have hgr : w.grownBy ((w.setCell ⟨g, 1, none⟩ (.slice (some ⟨w.heap.size, 0, none⟩) 1 1)).setCell ⟨g, 0, none⟩ (.bool false)) (some g) := ((below_grownBy (Below.refl _ _) g).setCell g 1 _).setCell g 0 _
  have hs : ((w.setCell ⟨g, 1, none⟩ (.slice (some ⟨w.heap.size, 0, none⟩) 1 1)).setCell ⟨g, 0, none⟩ (.bool false)).heap.size = w.heap.size := by simp [World.setCell]
  generalize (w.setCell ⟨g, 1, none⟩ (.slice (some ⟨w.heap.size, 0, none⟩) 1 1)).setCell ⟨g, 0, none⟩ (.bool false) = W1 at *
  refine ⟨rfl, w.heap.size, Nat.le_refl _, ?_, ?_, ?_⟩
  · exact (Below.heap_alloc W1 _ g (by omega)).trans hb
  · have := heap_alloc_new W1 (.cells #[.int .u64 x] 85)
    rw [hs] at this
    exact this
  · exact ⟨hgr.os, hgr.tape, hgr.output, Nat.le_trans hgr.size (by simp), fun k hk hn => (Below.heap_alloc W1 _ k (by omega)).trans (hgr.block k hk hn)⟩
/-- What Set leaves, wherever the two integers lie. -/
def SetAt (gz oz : Nat) (b : Bool) (xs : List Nat) (w : World) (e : Ending) (w' : World) : Prop := e = .returned (.pointer (some ⟨gz, oz, none⟩)) ∧ ∃ w1 v, Row w.heap.size .u64 w1 v xs ∧ Below w.heap.size w w1 ∧ w' = (w1.setCell ⟨gz, oz + 1, none⟩ v).setCell ⟨gz, oz, none⟩ (.bool b)
theorem ptr_off {w : World} {g g' o o' : Nat} {ca cb : Array Value} {ta tb : TypeId} (hne : g ≠ g') (ha : w.heap[g]? = some (.cells ca ta (0, 0))) (hb : w.heap[g']? = some (.cells cb tb (0, 0))) :
    (binOp .neq 59 (.pointer (some ⟨g, o, none⟩)) (.pointer (some ⟨g', o', none⟩))).run Tryz.prog w = .ok (.bool true) w := by
  obtain ⟨j, hj, hs⟩ := Option.map_eq_some_iff.1 info79
  exact run_neq_ptr_other w Tryz.underlying59 hj (by rw [hs]; decide) (by intro h; exact hne (by injection h)) ha hb
set_option maxRecDepth 100000 in
set_option maxHeartbeats 2000000 in
theorem f51_at (gz oz gx ox : Nat) (bz b : Bool) (B : Nat) (sl : Value) (xs : List Nat) (w : World) (cz cx : Array Value) (tz tx : TypeId) (hz : w.heap[gz]? = some (.cells cz tz (0, 0))) (hx : w.heap[gx]? = some (.cells cx tx (0, 0))) (hne : gz ≠ gx)
    (z0 : w.cell? ⟨gz, oz, none⟩ = some (.bool bz)) (z1 : w.cell? ⟨gz, oz + 1, none⟩ = some (.slice none 0 0)) (x0 : w.cell? ⟨gx, ox, none⟩ = some (.bool b)) (x1 : w.cell? ⟨gx, ox + 1, none⟩ = some sl) (hr : Row B .u64 w sl xs) (hl : xs.length ≤ 1000) :
    Calls Tryz.prog 51 #[.pointer (some ⟨gz, oz, none⟩), .pointer (some ⟨gx, ox, none⟩)] w (SetAt gz oz b xs w) := by
  obtain ⟨ax, kx, rfl⟩ := hr.len
  have hp := ptr_off (o := oz) (o' := ox) hne hz hx
  have zl : gz < w.heap.size := (Array.getElem?_eq_some_iff.1 hz).1
  have xl : gx < w.heap.size := (Array.getElem?_eq_some_iff.1 hx).1
  have fz : ∀ i, w.frozen? ⟨gz, i, none⟩ = false := fun i => Joins.unfrozen_of_block hz i
  have H65 := Lib.hid (fun W (hb : Below w.heap.size w W) => f65_any B (.slice ax xs.length kx) xs hl W (hr.below hb (Nat.le_refl _)))
  have hne' : gx ≠ gz := Ne.symm hne
  generalize hLL : xs.length = L at *
  have HLL := Lib.hid hLL
  clear hz hx hr hl hne hLL
  go_enter Tryz.func51, Tryz.ntmps51
  go_wp2_with fail
  go_region_with
    ((go_at_call 65; refine (H65.out _ (Below.refl _ _).drew).mono ?_; rintro e w2 ⟨v2, rfl, hrow, hb⟩; obtain ⟨a2, k2, rfl⟩ := hrow.len; have HB2 : Hid (Below w.heap.size w w2) := ⟨hb.os, hb.tape, hb.output, hb.size, hb.block⟩; have f2 : ∀ i, w2.frozen? ⟨gz, i, none⟩ = false := (fun i => (HB2.out.frozen (p := ⟨gz, i, none⟩) zl).trans (fz i)); have c20 := cell_below z0 HB2.out; have c21 := cell_below z1 HB2.out; have c2x := cell_below x0 HB2.out; have HROW := Lib.hid hrow; clear hrow hb))
  all_goals
    go_wp2
    go_ret
    exact ⟨rfl, w2, _, HROW.out, HB2.out, rfl⟩
theorem SetAt.rat {g : Nat} {b : Bool} {xs : List Nat} {w w' : World} {e : Ending} {y0 y1 y2 y3 : Value} (h : SetAt g 2 b xs w e w') (hg : Rat w g y0 y1 y2 y3) : e = .returned (.pointer (some ⟨g, 2, none⟩)) ∧ ∃ v, Rat w' g y0 y1 (.bool b) v ∧ Row w.heap.size .u64 w' v xs ∧ w.grownBy w' (some g) := by
  obtain ⟨he, w1, v, hr, hb, rfl⟩ := h
  have hg1 : Rat w1 g y0 y1 y2 y3 := (hb.block g hg.lt).trans hg
  refine ⟨he, v, Joins.block_setCell (Joins.block_setCell hg1 (i := 3) _) (i := 2) _, Row.setOld (Row.setOld hr hg.lt _) hg.lt _, ?_⟩
  exact ((below_grownBy hb _).setCell g 3 _).setCell g 2 _
theorem SetAt.new {g : Nat} {b : Bool} {xs : List Nat} {w w' : World} {e : Ending} {y0 y1 : Value} (h : SetAt g 0 b xs w e w') (hg : w.heap[g]? = some (.cells #[y0, y1] 79 (0, 0))) : e = .returned (.pointer (some ⟨g, 0, none⟩)) ∧ ∃ v, w'.heap[g]? = some (.cells #[.bool b, v] 79 (0, 0)) ∧ Row w.heap.size .u64 w' v xs ∧ w.grownBy w' (some g) := by
  obtain ⟨he, w1, v, hr, hb, rfl⟩ := h
  have hl : g < w.heap.size := (Array.getElem?_eq_some_iff.1 hg).1
  have hg1 := (hb.block g hl).trans hg
  refine ⟨he, v, Joins.block_setCell (Joins.block_setCell hg1 (i := 1) _) (i := 0) _, Row.setOld (Row.setOld hr hl _) hl _, ?_⟩
  exact ((below_grownBy hb _).setCell g 1 _).setCell g 0 _
theorem f87_one (a x n : Nat) (hn : n ≠ 0) (hn2 : n ≤ 4096) (w : World) (ha : w.heap[a]? = some (.cells #[.int .u64 x] 85 (0, 0))) (hx : IsW x [x]) : Calls Tryz.prog 87 #[.slice (some ⟨a, 0, none⟩) 1 1, .slice (some ⟨a, 0, none⟩) 1 1, .int .u64 n] w (MakesNat (x * 2 ^ n) w) := by
  have hl : a < w.heap.size := (Array.getElem?_eq_some_iff.1 ha).1
  refine f87_self 0 a 0 1 [x] x n (by simp) (by simp) hn hn2 w (.inr ⟨by simp, a, 0, 1, rfl, by simp, Nat.zero_le _, hl, ?_⟩) hl hx (by simp)
  intro i hi
  obtain rfl : i = 0 := by simpa using hi
  simp [World.cell?, ha]
def LshW (g x n : Nat) (b : Bool) (x2 x3 : Value) (w : World) (e : Ending) (w' : World) : Prop := e = .returned (.pointer (some ⟨g, 0, none⟩)) ∧ ∃ v ys, Rat w' g (.bool b) v x2 x3 ∧ Row w.heap.size .u64 w' v ys ∧ IsW (x * 2 ^ n) ys ∧ w.grownBy w' (some g)
set_option maxRecDepth 100000 in
set_option maxHeartbeats 2000000 in
theorem f78_self (g a x n : Nat) (hn : n ≠ 0) (hn2 : n ≤ 4096) (b : Bool) (x2 x3 : Value) (w : World) (hg : Rat w g (.bool b) (.slice (some ⟨a, 0, none⟩) 1 1) x2 x3) (ha : w.heap[a]? = some (.cells #[.int .u64 x] 85 (0, 0))) (hx : IsW x [x]) :
    Calls Tryz.prog 78 #[.pointer (some ⟨g, 0, none⟩), .pointer (some ⟨g, 0, none⟩), .int .u64 n] w (LshW g x n b x2 x3 w) := by
  have c0 := hg.cell
  have f0 := hg.free
  have zl := hg.lt
  have HG := Lib.hid hg
  have H87 := Lib.hid (fun W (hb : Below w.heap.size w W) => f87_one a x n hn hn2 W ((hb.block a (Array.getElem?_eq_some_iff.1 ha).1).trans ha) hx)
  clear hn hn2 hg ha hx
  go_enter Tryz.func78, Tryz.ntmps78
  go_wp2_with fail
  go_region_with
    ((go_at_call 87; refine (H87.out _ (Below.refl _ _).drew).mono ?_; rintro e w2 ⟨v2, ys, rfl, hrow, hnum, hb⟩; obtain ⟨a2, k2, rfl⟩ := hrow.len; have HNUM := Lib.hid hnum; have HB2 : Hid (Below w.heap.size w w2) := ⟨hb.os, hb.tape, hb.output, hb.size, hb.block⟩; have HBK : Hid (Rat w2 g (.bool b) (.slice (some ⟨a, 0, none⟩) 1 1) x2 x3) := Lib.hid ((HB2.out.block g zl).trans HG.out); have f2 := HBK.out.free; have c2 := HBK.out.cell; have HROW := Lib.hid hrow; clear hnum hrow hb))
  all_goals
    go_wp2
    go_ret
    refine ⟨rfl, _, ys, ?_, Row.setOld (Row.setOld HROW.out zl _) zl _, HNUM.out, ?_⟩
    · exact Joins.block_setCell (Joins.block_setCell HBK.out (i := 1) _) (i := 0) _
    · exact ((below_grownBy HB2.out _).setCell g 1 _).setCell g 0 _
end Go.Proofs.YtllgogkjcbdpkaaGreatDoor.Z
