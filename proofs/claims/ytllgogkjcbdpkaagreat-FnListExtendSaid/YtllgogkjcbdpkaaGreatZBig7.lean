/- Written by wip/tools/port2.py out of the text Big7 of seat Ytidkdjnfpepnfaa. -/
/- Walks of the package's great numbers: Set, Neg, SetBytes of Int. -/
import Derived.Test.YtllgogkjcbdpkaaGreatZBig6
namespace Go.Proofs.YtllgogkjcbdpkaaGreat.Z
open Go.RowKit

section
variable {P : Program} (w : World)
theorem run_neq_ptr_same {tp te : TypeId} {j : TypeInfo} (a : Addr) (hp : P.underlying tp = some (.pointer te)) (hte : P.info? te = some j) :
    (binOp .neq tp (.pointer (some a)) (.pointer (some a))).run P w = .ok (.bool false) w := by
  have h : ∀ d : Nat, (Op.equalIn (d + 1) tp (.pointer (some a)) (.pointer (some a))).run P w = .ok true w := fun d => by
    simp [Op.equalIn, run_underlying hp, sizeOf, typeInfo, hte, run_sameAddr_same]
  simp only [binOp]
  simp [Op.equal, Op.maxDepth, h 9999]
theorem run_neq_ptr_other {tp te : TypeId} {j : TypeInfo} {a b : Addr} {ca cb : Array Value} {ta tb : TypeId} (hp : P.underlying tp = some (.pointer te)) (hte : P.info? te = some j) (hsz : j.size ≠ 0)
    (hne : a ≠ b) (ha : w.heap[a.block]? = some (.cells ca ta (0, 0))) (hb : w.heap[b.block]? = some (.cells cb tb (0, 0))) :
    (binOp .neq tp (.pointer (some a)) (.pointer (some b))).run P w = .ok (.bool true) w := by
  have h : ∀ d : Nat, (Op.equalIn (d + 1) tp (.pointer (some a)) (.pointer (some b))).run P w = .ok false w := fun d => by
    simp [Op.equalIn, run_underlying hp, sizeOf, typeInfo, hte, hsz, run_sameAddr_other w hne ha hb]
  simp only [binOp]
  simp [Op.equal, Op.maxDepth, h 9999]
end
theorem info104 : (Tryz.prog.info? 104).map (·.size) = some 2 := by kernel_rfl
theorem ptr_other {w : World} {g g' : Nat} {ca cb : Array Value} {ta tb : TypeId} (hne : g ≠ g') (ha : w.heap[g]? = some (.cells ca ta (0, 0))) (hb : w.heap[g']? = some (.cells cb tb (0, 0))) :
    (binOp .neq 72 (.pointer (some ⟨g, 0, none⟩)) (.pointer (some ⟨g', 0, none⟩))).run Tryz.prog w = .ok (.bool true) w := by
  obtain ⟨j, hj, hs⟩ := Option.map_eq_some_iff.1 info104
  exact run_neq_ptr_other w Tryz.underlying72 hj (by rw [hs]; decide) (by intro h; exact hne (by injection h)) ha hb
theorem ptr_same {w : World} {g : Nat} : (binOp .neq 72 (.pointer (some ⟨g, 0, none⟩)) (.pointer (some ⟨g, 0, none⟩))).run Tryz.prog w = .ok (.bool false) w := by
  obtain ⟨j, hj, hs⟩ := Option.map_eq_some_iff.1 info104
  exact run_neq_ptr_same w _ Tryz.underlying72 hj

theorem Row.drew {B : Nat} {k : IntKind} {w : World} {v : Value} {l : List Nat} (h : Row B k w v l) : Row B k w.drew v l := h

theorem below_grownBy {w w' : World} (h : Below w.heap.size w w') (g : Nat) : w.grownBy w' (some g) := ⟨h.os, h.tape, h.output, h.size, fun k hk _ => h.block k hk⟩
theorem _root_.Go.World.grownBy.setCell {w w' : World} {g : Nat} (h : w.grownBy w' (some g)) (g' j : Nat) (u : Value) (hg : g' = g := by rfl) : w.grownBy (w'.setCell ⟨g', j, none⟩ u) (some g) := by
  subst hg
  exact ⟨h.os, h.tape, h.output, by simpa [World.setCell] using h.size, fun k hk hne => (Below.heap_setCell w' ⟨g', j, none⟩ u k (fun e => hne (by rw [e]))).trans (h.block k hk hne)⟩
/-- A new Int. -/
def New (w : World) (g : Nat) : Prop := w.heap[g]? = some (.cells #[.bool false, .slice none 0 0] 104 (0, 0))

/-- The integer z has come into block g. -/
def SetPost (g : Nat) (z : Int) (w : World) (e : Ending) (w' : World) : Prop :=
  e = .returned (.pointer (some ⟨g, 0, none⟩)) ∧ w.grownBy w' (some g) ∧ ∃ sl xs, BInt w.heap.size w' g z sl xs

set_option maxRecDepth 100000 in
set_option maxHeartbeats 1000000 in
theorem f60_any (g gx : Nat) (z : Int) (B : Nat) (sl : Value) (xs : List Nat) (w : World) (hn : New w g) (hx : BInt B w gx z sl xs) (hne : g ≠ gx) :
    Calls Tryz.prog 60 #[.pointer (some ⟨g, 0, none⟩), .pointer (some ⟨gx, 0, none⟩)] w (SetPost g z w) := by
  have hp := ptr_other hne hn hx.blk
  have zl : g < w.heap.size := (Array.getElem?_eq_some_iff.1 hn).1
  have xl := hx.lt
  have z1 : w.cell? ⟨g, 1, none⟩ = some (.slice none 0 0) := by simp [World.cell?, show w.heap[g]? = _ from hn]
  have x1 := hx.abs
  have HX := Lib.hid hx
  have HN := Lib.hid (show w.heap[g]? = _ from hn)
  clear hx hn
  have hne' : gx ≠ g := Ne.symm hne
  go_enter Tryz.func60, Tryz.ntmps60
  go_wp2_with fail
  go_region_with
    ((go_at_call 76; refine (f76_any B sl xs HX.out.len w.drew (Row.drew HX.out.row)).mono ?_; rintro e w2 ⟨v2, rfl, hrow, hb⟩; obtain ⟨a2, k2, rfl⟩ := hrow.len; have HB2 : Hid (Below w.heap.size w w2) := ⟨hb.os, hb.tape, hb.output, hb.size, hb.block⟩; have HBK := Lib.hid ((hb.block g zl).trans HN.out); have f2 := fun i => Joins.unfrozen_of_block HBK.out i; have c2 := fun i => Joins.cell_of_block HBK.out i; have c2x : w2.cell? ⟨gx, 0, none⟩ = some (.bool (decide (z < 0))) := (hb.cell (p := ⟨gx, 0, none⟩) xl).trans HX.out.neg))
  all_goals
    go_wp2
    go_ret
    refine ⟨rfl, ?_, .slice a2 xs.length k2, xs, ?_, ?_, HX.out.num, HX.out.len⟩
    · exact ((below_grownBy HB2.out _).setCell g 1 _).setCell g 0 _
    · exact Joins.block_setCell (Joins.block_setCell HBK.out (i := 1) _) (i := 0) _
    · exact Row.setOld (Row.setOld hrow zl _) zl _
end Go.Proofs.YtllgogkjcbdpkaaGreat.Z
