/- An integer's absolute value, wherever it lies; a natural number of the package divided by one. -/
import Derived.Test.YtllgogkjcbdpkaaGreatDoorPo
namespace Go.Proofs.YtllgogkjcbdpkaaGreatDoor.Z
open Go.RowKit

/-- A new integer has come into block g: its sign and its words. -/
def NewIs (g : Nat) (b : Bool) (xs : List Nat) (w : World) (w' : World) : Prop := ∃ v, w'.heap[g]? = some (.cells #[.bool b, v] 79 (0, 0)) ∧ Row w.heap.size .u64 w' v xs ∧ w.grownBy w' (some g)
def AbsIs (g : Nat) (xs : List Nat) (w : World) (e : Ending) (w' : World) : Prop := e = .returned (.pointer (some ⟨g, 0, none⟩)) ∧ NewIs g false xs w w'
set_option maxRecDepth 100000 in
set_option maxHeartbeats 2000000 in
theorem f105_at (g gx ox : Nat) (b : Bool) (B : Nat) (sl : Value) (xs : List Nat) (w : World) (cx : Array Value) (tx : TypeId) (hg : New w g) (hx : w.heap[gx]? = some (.cells cx tx (0, 0))) (hne : g ≠ gx)
    (x0 : w.cell? ⟨gx, ox, none⟩ = some (.bool b)) (x1 : w.cell? ⟨gx, ox + 1, none⟩ = some sl) (hr : Row B .u64 w sl xs) (hl : xs.length ≤ 1000) :
    Calls Tryz.prog 105 #[.pointer (some ⟨g, 0, none⟩), .pointer (some ⟨gx, ox, none⟩)] w (AbsIs g xs w) := by
  have H51 := Lib.hid (f51_at g 0 gx ox false b B sl xs w _ cx 79 tx (show w.heap[g]? = _ from hg) hx hne (by simp [World.cell?, show w.heap[g]? = _ from hg]) (by simp [World.cell?, show w.heap[g]? = _ from hg]) x0 x1 hr hl)
  have HG := Lib.hid (show w.heap[g]? = _ from hg)
  have hlt : g < w.heap.size := (Array.getElem?_eq_some_iff.1 HG.out).1
  clear hg hx hne x0 x1 hr hl
  go_enter Tryz.func105, Tryz.ntmps105
  go_wp2_with fail
  go_at_call 51
  refine H51.out.mono ?_
  intro e w1 h
  obtain ⟨rfl, v, hv, hrow, hgr⟩ := h.new HG.out
  have z0 : w1.cell? ⟨g, 0, none⟩ = some (.bool b) := by simp [World.cell?, hv]
  have zf : ∀ i, w1.frozen? ⟨g, i, none⟩ = false := fun i => by simp [World.frozen?, hv]
  have HV := Lib.hid hv
  have HR := Lib.hid hrow
  have HGR := Lib.hid hgr
  clear h hv hrow hgr
  go_wp2
  go_ret
  exact ⟨rfl, v, Joins.block_setCell HV.out (i := 0) _, Row.setOld HR.out hlt _, HGR.out.setCell g 0 _⟩
set_option maxRecDepth 100000 in
theorem f88_zero (w : World) : Calls Tryz.prog 88 #[.slice none 0 0, .int .u64 0] w fun e w' => e = .returned (.slice none 0 0) ∧ w = w' := by
  go_enter Tryz.func88, Tryz.ntmps88
  go_wp2
  go_ret
  exact ⟨rfl, rfl⟩
def QuoW (xs : List Nat) (w : World) (e : Ending) (w' : World) : Prop := ∃ v, e = .returned (.tuple #[v, .int .u64 0]) ∧ Row w.heap.size .u64 w' v xs ∧ Below w.heap.size w w'
set_option maxRecDepth 100000 in
theorem f93_one (B : Nat) (sl : Value) (xs : List Nat) (hl : xs.length ≤ 1000) (w : World) (hr : Row B .u64 w sl xs) : Calls Tryz.prog 93 #[.slice none 0 0, sl, .int .u64 1] w (QuoW xs w) := by
  obtain ⟨a, c, rfl⟩ := hr.len
  have H65 := Lib.hid (f65_any B _ xs hl w hr)
  clear hr
  go_enter Tryz.func93, Tryz.ntmps93
  go_wp2_with fail
  go_at_call 65
  refine H65.out.mono ?_
  rintro e w1 ⟨v, rfl, hrow, hb⟩
  have HR := Lib.hid hrow
  have HB := Lib.hid hb
  obtain ⟨a2, c2, rfl⟩ := hrow.len
  clear hrow hb
  go_wp2
  go_ret2
  exact ⟨_, rfl, HR.out, HB.out⟩
def DivW (xs : List Nat) (w : World) (e : Ending) (w' : World) : Prop := ∃ v, e = .returned (.tuple #[v, .slice none 0 0]) ∧ Row w.heap.size .u64 w' v xs ∧ Below w.heap.size w w'
set_option maxRecDepth 100000 in
set_option maxHeartbeats 2000000 in
theorem f80_one (B : Nat) (p : Option Addr) (sl : Value) (xs : List Nat) (hl : xs.length ≤ 1000) (o oo c : Nat) (w : World) (hr : Row B .u64 w sl xs) (ho : w.cell? ⟨o, oo, none⟩ = some (.int .u64 1)) : Calls Tryz.prog 80 #[.slice none 0 0, .pointer p, .slice none 0 0, sl, .slice (some ⟨o, oo, none⟩) 1 c] w (DivW xs w) := by
  have H93 := Lib.hid (f93_one B sl xs hl w hr)
  obtain ⟨a, c', rfl⟩ := hr.len
  clear hr
  go_enter Tryz.func80, Tryz.ntmps80
  go_wp2_with fail
  go_at_call 93
  refine H93.out.mono ?_
  rintro e w1 ⟨v, rfl, hrow, hb⟩
  have HR := Lib.hid hrow
  have HB := Lib.hid hb
  obtain ⟨a2, c2, rfl⟩ := hrow.len
  clear hrow hb
  go_wp2_with (go_at_call 88; refine (f88_zero _).mono ?_; rintro e w' ⟨rfl, rfl⟩)
  go_ret2
  exact ⟨_, rfl, HR.out, HB.out⟩
end Go.Proofs.YtllgogkjcbdpkaaGreatDoor.Z
