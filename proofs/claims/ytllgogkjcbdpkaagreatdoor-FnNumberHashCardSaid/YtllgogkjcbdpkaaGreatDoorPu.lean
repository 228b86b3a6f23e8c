/- A quotient's norm, where the denominator is one. -/
import Derived.Test.YtllgogkjcbdpkaaGreatDoorPt
import Derived.Defers
namespace Go.Proofs.YtllgogkjcbdpkaaGreatDoor.Z
open Go.RowKit

set_option maxRecDepth 100000 in
theorem f68_zero (w : World) : Calls Tryz.prog 68 #[.int .i64 0] w fun e w' => e = .returned (.pointer (some ⟨w.heap.size, 0, none⟩)) ∧ w.alloc (.cells #[.bool false, .slice none 0 0] 79) = w' := by
  go_enter Tryz.func68, Tryz.ntmps68
  go_wp2
  go_ret
  exact ⟨rfl, rfl⟩
set_option maxRecDepth 100000 in
theorem f90_nil (k : Nat) (u : FrameMode) (w : World) (h : w.cell? ⟨k, 0, none⟩ = some (.pointer none)) : CallsD Tryz.prog 90 #[.pointer (some ⟨k, 0, none⟩)] u w fun e u' w' => u' = u ∧ (e = .returned (.tuple #[]) ∧ w = w') := by
  go_enter_d Tryz.func90, Tryz.ntmps90
  go_wp2
  go_end0
  exact ⟨rfl, rfl⟩
section
variable {P : Program} (w : World)
theorem run_eql_ptr_far {tp te : TypeId} {j : TypeInfo} {a b : Addr} {ca cb : Array Value} {ta tb : TypeId} (hp : P.underlying tp = some (.pointer te)) (hte : P.info? te = some j) (hsz : j.size ≠ 0)
    (hne : a ≠ b) (ha : w.heap[a.block]? = some (.cells ca ta (0, 0))) (hb : w.heap[b.block]? = some (.cells cb tb (0, 0))) :
    (binOp .eql tp (.pointer (some a)) (.pointer (some b))).run P w = .ok (.bool false) w := by
  have h : ∀ d : Nat, (Op.equalIn (d + 1) tp (.pointer (some a)) (.pointer (some b))).run P w = .ok false w := fun d => by
    simp [Op.equalIn, run_underlying hp, sizeOf, typeInfo, hte, hsz, run_sameAddr_other w hne ha hb]
  simp only [binOp]
  simp [Op.equal, Op.maxDepth, h 9999]
end
theorem ptr_eql_off {w : World} {g g' o o' : Nat} {ca cb : Array Value} {ta tb : TypeId} (hne : g ≠ g') (ha : w.heap[g]? = some (.cells ca ta (0, 0))) (hb : w.heap[g']? = some (.cells cb tb (0, 0))) :
    (binOp .eql 59 (.pointer (some ⟨g, o, none⟩)) (.pointer (some ⟨g', o', none⟩))).run Tryz.prog w = .ok (.bool false) w := by
  obtain ⟨j, hj, hs⟩ := Option.map_eq_some_iff.1 info79
  exact run_eql_ptr_far w Tryz.underlying59 hj (by rw [hs]; decide) (by intro h; exact hne (by injection h)) ha hb
theorem f82_same (B1 B2 : Nat) (v1 v2 : Value) (w : World) (h1 : Row B1 .u64 w v1 [1]) (h2 : Row B2 .u64 w v2 [1]) : Calls Tryz.prog 82 #[v1, v2] w (fun e w' => e = .returned (.int .i64 0) ∧ Below w.heap.size w w') := by
  refine (f82_any B1 B2 v1 v2 [1] [1] (by simp) 1 1 (isW_one 1 (by decide) (by decide)) (isW_one 1 (by decide) (by decide)) w h1 h2).mono ?_
  rintro e w' ⟨he, n, rfl⟩
  rw [ord3n_eq] at he
  exact ⟨he, below_drewN (Below.refl _ _) _⟩
set_option maxRecDepth 100000 in
set_option maxHeartbeats 4000000 in
theorem f92_one (gx gy : Nat) (vx vy : Value) (B1 B2 : Nat) (w : World) (hne : gx ≠ gy) (hx : w.heap[gx]? = some (.cells #[.bool false, vx] 79 (0, 0))) (hy : w.heap[gy]? = some (.cells #[.bool false, vy] 79 (0, 0))) (h1 : Row B1 .u64 w vx [1]) (h2 : Row B2 .u64 w vy [1]) :
    Calls Tryz.prog 92 #[.pointer (some ⟨gx, 0, none⟩), .pointer (some ⟨gy, 0, none⟩)] w (fun e w' => e = .returned (.int .i64 0) ∧ Below w.heap.size w w') := by
  have hp := ptr_eql_off (o := 0) (o' := 0) hne hx hy
  obtain ⟨a1, k1, rfl⟩ := h1.len
  obtain ⟨a2, k2, rfl⟩ := h2.len
  have H82 := Lib.hid (fun W (hb : Below w.heap.size w W) => f82_same _ _ _ _ W (h1.below hb (Nat.le_refl _)) (h2.below hb (Nat.le_refl _)))
  have x0 : w.cell? ⟨gx, 0, none⟩ = some (.bool false) := by simp [World.cell?, hx]
  have x1 : w.cell? ⟨gx, 1, none⟩ = some (.slice a1 1 k1) := by simp [World.cell?, hx]
  have y0 : w.cell? ⟨gy, 0, none⟩ = some (.bool false) := by simp [World.cell?, hy]
  have y1 : w.cell? ⟨gy, 1, none⟩ = some (.slice a2 1 k2) := by simp [World.cell?, hy]
  have e1 : [1].length = 1 := rfl
  clear hx hy h1 h2 hne e1
  go_enter Tryz.func92, Tryz.ntmps92
  go_wp2_with fail
  go_region_held3 (fun w' => w'.cell? ⟨gx, 0, none⟩ = some (.bool false) ∧ w'.cell? ⟨gy, 0, none⟩ = some (.bool false)) (exact ⟨x0, y0⟩) (fail)
  go_wp2_with fail
  go_region_held3 (fun w' => w'.cell? ⟨gx, 1, none⟩ = some (.slice a1 1 k1) ∧ w'.cell? ⟨gy, 1, none⟩ = some (.slice a2 1 k2))
    (first
      | exact S2
      | exact ⟨x1, y1⟩)
    (first
      | (go_at_call 82; refine (H82.out _ (((Below.refl _ _).drew).drew)).mono ?_; rintro e w2 ⟨rfl, hb⟩; have B2 : Hid (Below w.heap.size w w2) := Lib.hid ⟨hb.os, hb.tape, hb.output, hb.size, hb.block⟩; have S2 : w2.cell? ⟨gx, 1, none⟩ = some (.slice a1 1 k1) ∧ w2.cell? ⟨gy, 1, none⟩ = some (.slice a2 1 k2) := ⟨cell_below x1 B2.out, cell_below y1 B2.out⟩; have x02 := cell_below x0 B2.out; clear hb))
  go_wp2_with fail
  go_ret
  exact ⟨rfl, B2.out⟩
end Go.Proofs.YtllgogkjcbdpkaaGreatDoor.Z
