/- Written by wip/tools/port2.py out of the text Big1 of seat Ytidkdjnfpepnfaa. -/
/- Walks of the package's great numbers: bytes into words. -/
import Derived.Test.YtllgogkjcbdpkaaGreatDoorZSp2
import Derived.Lib.EndianBits
namespace Go.Proofs.YtllgogkjcbdpkaaGreatDoor.Z
open Go.RowKit

theorem be4_eq (b0 b1 b2 b3 : Nat) (h0 : b0 < 256) (h1 : b1 < 256) (h2 : b2 < 256) (h3 : b3 < 256) :
    bits BinOp.or IntKind.u32 (bits BinOp.or IntKind.u32 (bits BinOp.or IntKind.u32 (b3 : Int) ((b2 : Int) * 256)) ((b1 : Int) * 65536)) ((b0 : Int) * 16777216) = ((((b0 * 256 + b1) * 256 + b2) * 256 + b3 : Nat) : Int) := by
  rw [u32_or8 (b3 : Int) ((b2 : Int) * 256) (by omega) (by omega) (by omega) (by omega) (by omega), u32_or16 ((b3 : Int) + (b2 : Int) * 256) ((b1 : Int) * 65536) (by omega) (by omega) (by omega) (by omega) (by omega), u32_or24 ((b3 : Int) + (b2 : Int) * 256 + (b1 : Int) * 65536) ((b0 : Int) * 16777216) (by omega) (by omega) (by omega) (by omega) (by omega)]
  omega
theorem be8_eq (x y : Nat) (hx : x < 4294967296) (hy : y < 4294967296) : bits BinOp.or IntKind.u64 ((x : Int) * 4294967296) (y : Int) = ((x * 4294967296 + y : Nat) : Int) := by
  rw [bits_join .u64 64 (by decide) (fun n h1 h2 => wraps_u64 n h1 h2) 32 _ _ (by omega) (by omega) (by omega) (by omega) (by omega) (by omega)]
  omega

set_option maxRecDepth 100000 in
theorem f75_any (g off n c : Nat) (hn : 4 ≤ n) (_hc : n ≤ c) (b0 b1 b2 b3 : Nat) (h0 : b0 < 256) (h1 : b1 < 256) (h2 : b2 < 256) (h3 : b3 < 256) (w : World)
    (e0 : w.cell? ⟨g, off, none⟩ = some (.int .u8 (b0 : Int))) (e1 : w.cell? ⟨g, off + 1, none⟩ = some (.int .u8 (b1 : Int))) (e2 : w.cell? ⟨g, off + 2, none⟩ = some (.int .u8 (b2 : Int))) (e3 : w.cell? ⟨g, off + 3, none⟩ = some (.int .u8 (b3 : Int))) :
    Calls Tryz.prog 75 #[.slice (some ⟨g, off, none⟩) n c] w fun e w' => e = .returned (.int .u32 ((((b0 * 256 + b1) * 256 + b2) * 256 + b3 : Nat) : Int)) ∧ ∃ m, w' = w.drewN m := by
  have k3 : (3 : Int) < n := by omega
  have k2 : (2 : Int) < n := by omega
  have k1 : (1 : Int) < n := by omega
  have k0 : (0 : Int) < n := by omega
  go_enter Tryz.func75, Tryz.ntmps75
  go_wp2
  go_quiet (fail)
  go_wp2
  go_ret
  refine ⟨ret_int ?_, _, rfl⟩
  exact be4_eq b0 b1 b2 b3 h0 h1 h2 h3

theorem calls_val {P : Program} {f : FuncId} {args : Array Value} {w : World} {v v' : Value} {R : World → Prop} (h : Calls P f args w fun e w' => e = .returned v ∧ R w') (hv : v = v') : Calls P f args w fun e w' => e = .returned v' ∧ R w' := by
  subst hv; exact h

set_option maxRecDepth 100000 in
theorem f74_any (g off c : Nat) (hc : 8 ≤ c) (b : Nat → Nat) (hb : ∀ j, j < 8 → b j < 256) (w : World) (e : ∀ j, j < 8 → w.cell? ⟨g, off + j, none⟩ = some (.int .u8 (b j : Int))) :
    Calls Tryz.prog 74 #[.slice (some ⟨g, off, none⟩) 8 c] w fun e w' => e = .returned (.int .u64 (be8 b : Int)) ∧ ∃ m, w' = w.drewN m := by
  have e7 := e 7 (by omega)
  have c1 : ∀ W : World, W.heap = w.heap → Calls Tryz.prog 75 #[.slice (some ⟨g, off, none⟩) 8 c] W fun e w' => e = .returned (.int .u32 ((((b 0 * 256 + b 1) * 256 + b 2) * 256 + b 3 : Nat) : Int)) ∧ ∃ m, w' = W.drewN m := fun W hW =>
    f75_any g off 8 c (by omega) hc _ _ _ _ (hb 0 (by omega)) (hb 1 (by omega)) (hb 2 (by omega)) (hb 3 (by omega)) W ((World.cell?_of_block (by rw [hW])).trans (e 0 (by omega))) ((World.cell?_of_block (by rw [hW])).trans (e 1 (by omega))) ((World.cell?_of_block (by rw [hW])).trans (e 2 (by omega))) ((World.cell?_of_block (by rw [hW])).trans (e 3 (by omega)))
  have c2 : ∀ W : World, W.heap = w.heap → Calls Tryz.prog 75 #[.slice (some ⟨g, off + 4, none⟩) 4 (c - 4)] W fun e w' => e = .returned (.int .u32 ((((b 4 * 256 + b 5) * 256 + b 6) * 256 + b 7 : Nat) : Int)) ∧ ∃ m, w' = W.drewN m := fun W hW =>
    f75_any g (off + 4) 4 (c - 4) (by omega) (by omega) _ _ _ _ (hb 4 (by omega)) (hb 5 (by omega)) (hb 6 (by omega)) (hb 7 (by omega)) W ((World.cell?_of_block (by rw [hW])).trans (e 4 (by omega))) ((World.cell?_of_block (by rw [hW])).trans (e 5 (by omega))) ((World.cell?_of_block (by rw [hW])).trans (e 6 (by omega))) ((World.cell?_of_block (by rw [hW])).trans (e 7 (by omega)))
  have C1 := Lib.hid c1
  have C2 := Lib.hid c2
  have F := Lib.hid (be8_eq (((b 0 * 256 + b 1) * 256 + b 2) * 256 + b 3) (((b 4 * 256 + b 5) * 256 + b 6) * 256 + b 7) (by have := hb 0; have := hb 1; have := hb 2; have := hb 3; omega) (by have := hb 4; have := hb 5; have := hb 6; have := hb 7; omega))
  have hx : (((b 0 * 256 + b 1) * 256 + b 2) * 256 + b 3) < 4294967296 := by have := hb 0; have := hb 1; have := hb 2; have := hb 3; omega
  have hy : (((b 4 * 256 + b 5) * 256 + b 6) * 256 + b 7) < 4294967296 := by have := hb 4; have := hb 5; have := hb 6; have := hb 7; omega
  have HD : Hid (be8 b = (((b 0 * 256 + b 1) * 256 + b 2) * 256 + b 3) * 4294967296 + (((b 4 * 256 + b 5) * 256 + b 6) * 256 + b 7)) := rfl
  generalize (((b 0 * 256 + b 1) * 256 + b 2) * 256 + b 3) = x at *
  generalize (((b 4 * 256 + b 5) * 256 + b 6) * 256 + b 7) = y at *
  clear c1 c2 e hb
  have h4 : ¬ c = 4 := by omega
  go_enter Tryz.func74, Tryz.ntmps74
  go_wp2
  go_quiet ((first | (go_at_call_of 75 (Value.slice (some ⟨g, off, none⟩) 8 c); exact Calls.quiet_of (C1.out _ rfl)) | (go_at_call 75; exact Calls.quiet_of (C2.out _ rfl))))
  go_wp2
  go_ret
  exact ⟨ret_int (by rw [HD.out, ← F.out]), _, rfl⟩

set_option maxRecDepth 100000 in
theorem f63_any (g off c : Nat) (hc : 8 ≤ c) (b : Nat → Nat) (hb : ∀ j, j < 8 → b j < 256) (w : World) (e : ∀ j, j < 8 → w.cell? ⟨g, off + j, none⟩ = some (.int .u8 (b j : Int))) :
    Calls Tryz.prog 63 #[.slice (some ⟨g, off, none⟩) 8 c] w fun e w' => e = .returned (.int .u64 (be8 b : Int)) ∧ ∃ m, w' = w.drewN m := by
  have E := Lib.hid e
  have HB := Lib.hid hb
  clear e hb
  go_enter Tryz.func63, Tryz.ntmps63
  go_wp2_with (go_at_call 74; refine (f74_any g off c hc b HB.out _ E.out).mono ?_; rintro e w' ⟨rfl, n, rfl⟩)
  go_ret
  exact ⟨rfl, _, rfl⟩
end Go.Proofs.YtllgogkjcbdpkaaGreatDoor.Z
