/- Walks of the package's arguments by place: a value and a small integer. -/
import Derived.Test.YtgcofpmhojplhaaGreatDoorR5
namespace Go.Proofs.YtgcofpmhojplhaaGreatDoor
open Go.RowKit

/-- One old cell is written; beside it there may be new blocks. -/
structure Put1 (p : Nat) (v : Value) (w w' : World) : Prop where
  os : w'.os = w.os
  tape : w'.tape = w.tape
  output : w'.output = w.output
  size : w.heap.size ≤ w'.heap.size
  block : ∀ k, k < w.heap.size → k ≠ p → w'.heap[k]? = w.heap[k]?
  val : w'.cell? ⟨p, 0, none⟩ = some v
theorem Put1.below {p K : Nat} {v : Value} {w w' : World} (h : Put1 p v w w') (hK : K ≤ p) (hp : p < w.heap.size) : Below K w w' :=
  ⟨h.os, h.tape, h.output, h.size, fun k hk => h.block k (by omega) (by omega)⟩
theorem Put1.cell {p b o : Nat} {v u : Value} {w w' : World} (h : Put1 p v w w') (hb : b ≠ p) (hc : w.cell? ⟨b, o, none⟩ = some u) : w'.cell? ⟨b, o, none⟩ = some u := by
  have hlt := World.block_lt_of_cell? w _ hc
  rw [World.cell?_of_block (w := w) (h.block b hlt hb)]
  exact hc
theorem Put1.free {p b o : Nat} {v u : Value} {w w' : World} (h : Put1 p v w w') (hb : b ≠ p) (hc : w.cell? ⟨b, o, none⟩ = some u) (hf : w.frozen? ⟨b, o, none⟩ = false) : w'.frozen? ⟨b, o, none⟩ = false := by
  have hlt := World.block_lt_of_cell? w _ hc
  rw [World.frozen?_of_block (w := w) (h.block b hlt hb)]
  exact hf
theorem Put1.of_set {p : Nat} {v u : Value} {w w1 : World} (hb : Below w.heap.size w w1) (hc : w1.cell? ⟨p, 0, none⟩ = some u) : Put1 p v w (w1.setCell ⟨p, 0, none⟩ v) := by
  refine ⟨hb.os, hb.tape, hb.output, by rw [show (w1.setCell ⟨p, 0, none⟩ v).heap.size = w1.heap.size by simp]; exact hb.size, fun k hk hkp => ?_, World.cell?_setCell_same' _ _ _ (by rw [hc]; rfl)⟩
  rw [Below.heap_setCell w1 ⟨p, 0, none⟩ v k hkp]
  exact hb.block k hk
def PutsNil (p : Nat) (v : Value) (w : World) (e : Ending) (w' : World) : Prop := e = .returned .nilIface ∧ Put1 p v w w'
set_option maxRecDepth 100000 in
theorem f82_two (nm : ByteArray) (a : Option Addr) (n c : Nat) (hn : n ≤ 2) (w : World) : Calls Tryz.prog 82 #[.string nm, .slice a n c, .slice none 0 0, .int .i64 0, .int .i64 2] w fun e w' => e = .returned .nilIface ∧ w = w' := by
  have h1 : (n : Int) ≤ 2 := by omega
  have h2 : ¬ (n : Int) > 2 := by omega
  clear hn
  go_enter Tryz.func82, Tryz.ntmps82
  go_wp2
  go_ret
  exact ⟨rfl, rfl⟩
set_option maxRecDepth 100000 in
theorem f83_val (t : TypeId) (x : Value) (p : Nat) (u : Value) (w : World) (hc : w.cell? ⟨p, 0, none⟩ = some u) (hf : w.frozen? ⟨p, 0, none⟩ = false) : Calls Tryz.prog 83 #[.iface t x, .iface 116 (.pointer (some ⟨p, 0, none⟩))] w (PutsNil p (.iface t x) w) := by
  have a116 : ∀ w, (Instr.typeAssert (.iface 116 (.pointer (some ⟨p, 0, none⟩))) 20 116 true).run Tryz.prog w = .ok (.tuple #[.pointer (some ⟨p, 0, none⟩), .bool true]) w := fun _ => by kernel_rfl
  have HP := Lib.hid (Put1.of_set (v := .iface t x) (Below.refl w.heap.size w) hc)
  go_enter Tryz.func83, Tryz.ntmps83
  go_wp2
  go_ret
  exact ⟨rfl, HP.out⟩
set_option maxRecDepth 100000 in
theorem f118_small (z : Int) (w : World) : Calls Tryz.prog 118 #[.agg #[.int .i64 z, .pointer none]] w fun e w' => e = .returned (.tuple #[.int .i64 z, .pointer none]) ∧ ∃ n, w' = (w.alloc (.cells #[.int .i64 z, .pointer none] 150)).drewN n := by
  go_enter Tryz.func118, Tryz.ntmps118
  go_wp2
  go_quiet (fail)
  go_wp2
  go_ret2
  exact ⟨rfl, _, rfl⟩
set_option maxRecDepth 100000 in
theorem f108_small (z : Int) (w : World) : Calls Tryz.prog 108 #[.agg #[.int .i64 z, .pointer none]] w fun e w' => e = .returned (.tuple #[.int .i64 z, .bool true]) ∧ Below w.heap.size w w' := by
  go_enter Tryz.func108, Tryz.ntmps108
  go_wp2_with fail
  go_at_call 118
  refine (f118_small z _).mono ?_
  rintro e w1 ⟨rfl, n, hw⟩
  have HB : Hid (Below w.heap.size w w1) := by
    subst hw
    exact below_drewN (((Below.refl _ _).alloc (Nat.le_refl _) _).alloc (by simp) _) n
  clear hw
  go_wp2
  go_ret2
  exact ⟨rfl, HB.out⟩
set_option maxRecDepth 100000 in
set_option maxHeartbeats 1000000 in
theorem f99_int (z : Int) (p : Nat) (u : Value) (w : World) (hc : w.cell? ⟨p, 0, none⟩ = some u) (hf : w.frozen? ⟨p, 0, none⟩ = false) : Calls Tryz.prog 99 #[.iface 150 (.agg #[.int .i64 z, .pointer none]), .iface 117 (.pointer (some ⟨p, 0, none⟩))] w (PutsNil p (.int .i64 z) w) := by
  have a168 : ∀ w, (Instr.typeAssert (.iface 117 (.pointer (some ⟨p, 0, none⟩))) 20 168 true).run Tryz.prog w = .ok (.tuple #[.pointer none, .bool false]) w := fun _ => by kernel_rfl
  have a169 : ∀ w, (Instr.typeAssert (.iface 117 (.pointer (some ⟨p, 0, none⟩))) 20 169 true).run Tryz.prog w = .ok (.tuple #[.pointer none, .bool false]) w := fun _ => by kernel_rfl
  have a170 : ∀ w, (Instr.typeAssert (.iface 117 (.pointer (some ⟨p, 0, none⟩))) 20 170 true).run Tryz.prog w = .ok (.tuple #[.pointer none, .bool false]) w := fun _ => by kernel_rfl
  have a171 : ∀ w, (Instr.typeAssert (.iface 117 (.pointer (some ⟨p, 0, none⟩))) 20 171 true).run Tryz.prog w = .ok (.tuple #[.pointer none, .bool false]) w := fun _ => by kernel_rfl
  have a172 : ∀ w, (Instr.typeAssert (.iface 117 (.pointer (some ⟨p, 0, none⟩))) 20 172 true).run Tryz.prog w = .ok (.tuple #[.pointer none, .bool false]) w := fun _ => by kernel_rfl
  have a173 : ∀ w, (Instr.typeAssert (.iface 117 (.pointer (some ⟨p, 0, none⟩))) 20 173 true).run Tryz.prog w = .ok (.tuple #[.pointer none, .bool false]) w := fun _ => by kernel_rfl
  have a174 : ∀ w, (Instr.typeAssert (.iface 117 (.pointer (some ⟨p, 0, none⟩))) 20 174 true).run Tryz.prog w = .ok (.tuple #[.pointer none, .bool false]) w := fun _ => by kernel_rfl
  have a175 : ∀ w, (Instr.typeAssert (.iface 117 (.pointer (some ⟨p, 0, none⟩))) 20 175 true).run Tryz.prog w = .ok (.tuple #[.pointer none, .bool false]) w := fun _ => by kernel_rfl
  have a176 : ∀ w, (Instr.typeAssert (.iface 117 (.pointer (some ⟨p, 0, none⟩))) 20 176 true).run Tryz.prog w = .ok (.tuple #[.pointer none, .bool false]) w := fun _ => by kernel_rfl
  have a177 : ∀ w, (Instr.typeAssert (.iface 117 (.pointer (some ⟨p, 0, none⟩))) 20 177 true).run Tryz.prog w = .ok (.tuple #[.pointer none, .bool false]) w := fun _ => by kernel_rfl
  have a117 : ∀ w, (Instr.typeAssert (.iface 117 (.pointer (some ⟨p, 0, none⟩))) 20 117 true).run Tryz.prog w = .ok (.tuple #[.pointer (some ⟨p, 0, none⟩), .bool true]) w := fun _ => by kernel_rfl
  have a150 : ∀ w, (Instr.typeAssert (.iface 150 (.agg #[.int .i64 z, .pointer none])) 52 150 true).run Tryz.prog w = .ok (.tuple #[.agg #[.int .i64 z, .pointer none], .bool true]) w := fun _ => by kernel_rfl
  have HA : Hid (Below w.heap.size w (w.alloc (.cells #[.int .i64 z, .pointer none] 150))) := (Below.refl _ _).alloc (Nat.le_refl _) _
  have hlt := World.block_lt_of_cell? w _ hc
  have HC := Lib.hid hc
  have HF := Lib.hid hf
  have HL := Lib.hid hlt
  clear hc hf hlt
  go_enter Tryz.func99, Tryz.ntmps99
  go_wp2_with fail
  go_at_call 108
  refine (f108_small z _).mono ?_
  rintro e w1 ⟨rfl, hb1⟩
  have HB1 := Lib.hid (HA.out.trans (hb1.mono HA.out.size))
  have hc1 : w1.cell? ⟨p, 0, none⟩ = some u := (HB1.out.cell (p := ⟨p, 0, none⟩) HL.out).trans HC.out
  have hf1 : w1.frozen? ⟨p, 0, none⟩ = false := (HB1.out.frozen (p := ⟨p, 0, none⟩) HL.out).trans HF.out
  have HP := Lib.hid (Put1.of_set (v := .int .i64 z) HB1.out hc1)
  clear hb1
  go_wp2
  go_ret
  exact ⟨rfl, HP.out⟩
set_option maxRecDepth 100000 in
set_option maxHeartbeats 1000000 in
theorem f83_int (z : Int) (p : Nat) (u : Value) (w : World) (hc : w.cell? ⟨p, 0, none⟩ = some u) (hf : w.frozen? ⟨p, 0, none⟩ = false) : Calls Tryz.prog 83 #[.iface 150 (.agg #[.int .i64 z, .pointer none]), .iface 117 (.pointer (some ⟨p, 0, none⟩))] w (PutsNil p (.int .i64 z) w) := by
  have a116 : ∀ w, (Instr.typeAssert (.iface 117 (.pointer (some ⟨p, 0, none⟩))) 20 116 true).run Tryz.prog w = .ok (.tuple #[.pointer none, .bool false]) w := fun _ => by kernel_rfl
  have a105 : ∀ w, (Instr.typeAssert (.iface 117 (.pointer (some ⟨p, 0, none⟩))) 20 105 true).run Tryz.prog w = .ok (.tuple #[.pointer none, .bool false]) w := fun _ => by kernel_rfl
  have a166 : ∀ w, (Instr.typeAssert (.iface 117 (.pointer (some ⟨p, 0, none⟩))) 20 166 true).run Tryz.prog w = .ok (.tuple #[.pointer none, .bool false]) w := fun _ => by kernel_rfl
  have a168 : ∀ w, (Instr.typeAssert (.iface 117 (.pointer (some ⟨p, 0, none⟩))) 20 168 true).run Tryz.prog w = .ok (.tuple #[.pointer none, .bool false]) w := fun _ => by kernel_rfl
  have a169 : ∀ w, (Instr.typeAssert (.iface 117 (.pointer (some ⟨p, 0, none⟩))) 20 169 true).run Tryz.prog w = .ok (.tuple #[.pointer none, .bool false]) w := fun _ => by kernel_rfl
  have a170 : ∀ w, (Instr.typeAssert (.iface 117 (.pointer (some ⟨p, 0, none⟩))) 20 170 true).run Tryz.prog w = .ok (.tuple #[.pointer none, .bool false]) w := fun _ => by kernel_rfl
  have a171 : ∀ w, (Instr.typeAssert (.iface 117 (.pointer (some ⟨p, 0, none⟩))) 20 171 true).run Tryz.prog w = .ok (.tuple #[.pointer none, .bool false]) w := fun _ => by kernel_rfl
  have a172 : ∀ w, (Instr.typeAssert (.iface 117 (.pointer (some ⟨p, 0, none⟩))) 20 172 true).run Tryz.prog w = .ok (.tuple #[.pointer none, .bool false]) w := fun _ => by kernel_rfl
  have a173 : ∀ w, (Instr.typeAssert (.iface 117 (.pointer (some ⟨p, 0, none⟩))) 20 173 true).run Tryz.prog w = .ok (.tuple #[.pointer none, .bool false]) w := fun _ => by kernel_rfl
  have a174 : ∀ w, (Instr.typeAssert (.iface 117 (.pointer (some ⟨p, 0, none⟩))) 20 174 true).run Tryz.prog w = .ok (.tuple #[.pointer none, .bool false]) w := fun _ => by kernel_rfl
  have a175 : ∀ w, (Instr.typeAssert (.iface 117 (.pointer (some ⟨p, 0, none⟩))) 20 175 true).run Tryz.prog w = .ok (.tuple #[.pointer none, .bool false]) w := fun _ => by kernel_rfl
  have a176 : ∀ w, (Instr.typeAssert (.iface 117 (.pointer (some ⟨p, 0, none⟩))) 20 176 true).run Tryz.prog w = .ok (.tuple #[.pointer none, .bool false]) w := fun _ => by kernel_rfl
  have a177 : ∀ w, (Instr.typeAssert (.iface 117 (.pointer (some ⟨p, 0, none⟩))) 20 177 true).run Tryz.prog w = .ok (.tuple #[.pointer none, .bool false]) w := fun _ => by kernel_rfl
  have a117 : ∀ w, (Instr.typeAssert (.iface 117 (.pointer (some ⟨p, 0, none⟩))) 20 117 true).run Tryz.prog w = .ok (.tuple #[.pointer (some ⟨p, 0, none⟩), .bool true]) w := fun _ => by kernel_rfl
  have H99 := Lib.hid (f99_int z p u w hc hf)
  clear hc hf
  go_enter Tryz.func83, Tryz.ntmps83
  go_wp2_with fail
  go_at_call 99
  refine H99.out.mono ?_
  rintro e w1 ⟨rfl, hp⟩
  have HP := Lib.hid hp
  clear hp
  go_wp2
  go_ret
  exact ⟨rfl, HP.out⟩
end Go.Proofs.YtgcofpmhojplhaaGreatDoor
