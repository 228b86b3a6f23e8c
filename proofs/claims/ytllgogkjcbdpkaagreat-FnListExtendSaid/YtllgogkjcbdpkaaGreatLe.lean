/- The package's list as an object; a builtin bound to it; its arguments unpacked. -/
import Derived.Test.YtllgogkjcbdpkaaGreatLd
import Derived.StillTailTactics
namespace Go.Proofs.YtllgogkjcbdpkaaGreat
open Go.RowKit
open Z (Row VInt KInt BInt IsB IsW smallB MakesV MakesS MakesK)

/-- A list of the package: its object at block gl, its elements. -/
structure LIST (B : Nat) (ok : Nat → Prop) (w : World) (gl : Nat) (v : Value) (qs : Ps) : Prop where
  kl : KL B ok w v qs
  obj : w.heap[gl]? = some (.cells #[v, .bool false, .int .u32 0] 69 (0, 0))
  base : B ≤ gl
  notok : ¬ ok gl
  apart : v.ownBlock ≠ some gl
theorem LIST.lt {B : Nat} {ok : Nat → Prop} {w : World} {gl : Nat} {v : Value} {qs : Ps} (h : LIST B ok w gl v qs) : gl < w.heap.size := (Array.getElem?_eq_some_iff.1 h.obj).1
theorem LIST.below {B : Nat} {ok : Nat → Prop} {w w' : World} {gl : Nat} {v : Value} {qs : Ps} (h : LIST B ok w gl v qs) (hb : Below w.heap.size w w') : LIST B ok w' gl v qs :=
  ⟨h.kl.below goodK hb, (hb.block gl h.lt).trans h.obj, h.base, h.notok, h.apart⟩
theorem LIST.le {B B' : Nat} {ok : Nat → Prop} {w : World} {gl : Nat} {v : Value} {qs : Ps} (h : LIST B ok w gl v qs) (hB : B' ≤ B) : LIST B' ok w gl v qs := ⟨h.kl.le hB, h.obj, by have := h.base; omega, h.notok, h.apart⟩
theorem LIST.cells {B : Nat} {ok : Nat → Prop} {w : World} {gl : Nat} {v : Value} {qs : Ps} (h : LIST B ok w gl v qs) : w.cell? ⟨gl, 0, none⟩ = some v ∧ w.cell? ⟨gl, 1, none⟩ = some (.bool false) ∧ w.cell? ⟨gl, 2, none⟩ = some (.int .u32 0) ∧ ∀ i, w.frozen? ⟨gl, i, none⟩ = false := by
  refine ⟨?_, ?_, ?_, fun i => ?_⟩ <;> simp [World.cell?, World.frozen?, h.obj]
set_option maxRecDepth 100000 in
theorem f18_any (A : Option Addr) (n c : Nat) (w : World) : Calls Tryz.prog 18 #[.slice A n c] w fun e w' => e = .returned (.pointer (some ⟨w.heap.size, 0, none⟩)) ∧ w.alloc (.cells #[.slice A n c, .bool false, .int .u32 0] 69) = w' := by
  go_enter Tryz.func18, Tryz.ntmps18
  go_wp2
  go_ret
  exact ⟨rfl, rfl⟩
def ListOfIs (ps : Ps) (w : World) (e : Ending) (w' : World) : Prop := ∃ gl v qs ok, e = .returned (.tuple #[.pointer (some ⟨gl, 0, none⟩), .bool true]) ∧ LIST w.heap.size ok w' gl v qs ∧ qs.map Prod.snd = ps.map Prod.snd ∧ Below w.heap.size w w'
set_option maxRecDepth 100000 in
theorem f8_any (B : Nat) (ok : Nat → Prop) (w : World) (v : Value) (ps : Ps) (hp : ps.length ≤ 12) (h : VL B ok w v ps) : Calls Tryz.prog 8 #[v] w (ListOfIs ps w) := by
  have H9 := Lib.hid (f9_any B ok w v ps hp h)
  clear h
  go_enter Tryz.func8, Tryz.ntmps8
  go_wp2_with fail
  go_at_call 9
  refine H9.out.mono ?_
  rintro e w1 ⟨v1, qs, ok', rfl, hk, hm, hb, _⟩
  obtain ⟨A, c, rfl⟩ := own_len hk.1
  have HK := Lib.hid hk
  have HM := Lib.hid hm
  have HB := Lib.hid hb
  clear hk hm hb
  go_wp2_with (go_at_call 18; refine (f18_any _ _ _ _).mono ?_; rintro e w' ⟨rfl, rfl⟩)
  go_ret2
  refine ⟨_, _, qs, ok', rfl, ⟨HK.out.below goodK ((Below.refl _ _).alloc (Nat.le_refl _) _), heap_alloc_new w1 _, HB.out.size, fun hk => ?_, fun he => ?_⟩, HM.out, HB.out.alloc HB.out.size _⟩
  · exact Nat.lt_irrefl _ (HK.out.2.2.1 _ hk)
  · exact Nat.lt_irrefl _ (HK.out.1.lt _ he).2
abbrev F21 : Value := .func (.func 21) #[] #[]
set_option maxRecDepth 100000 in
theorem f32_any (s : ByteArray) (w : World) : Calls Tryz.prog 32 #[.string s, F21] w fun e w' => e = .returned (.pointer (some ⟨w.heap.size, 0, none⟩)) ∧ w.alloc (.cells #[.string s, F21, .nilIface] 109) = w' := by
  go_enter Tryz.func32, Tryz.ntmps32
  go_wp2
  go_ret
  exact ⟨rfl, rfl⟩
/-- A builtin's object. -/
def BUI (w : World) (b : Nat) (s : ByteArray) (r : Value) : Prop := w.heap[b]? = some (.cells #[.string s, F21, r] 109 (0, 0))
theorem BUI.cells {w : World} {b : Nat} {s : ByteArray} {r : Value} (h : BUI w b s r) : w.cell? ⟨b, 0, none⟩ = some (.string s) ∧ w.cell? ⟨b, 1, none⟩ = some F21 ∧ w.cell? ⟨b, 2, none⟩ = some r := by
  unfold BUI at h
  refine ⟨?_, ?_, ?_⟩ <;> simp [World.cell?, h]
set_option maxRecDepth 100000 in
theorem f33_any (s : ByteArray) (r0 : Value) (T : TypeId) (x : Value) (b : Nat) (w : World) (h : BUI w b s r0) : Calls Tryz.prog 33 #[.pointer (some ⟨b, 0, none⟩), .iface T x] w fun e w' => (∃ g, e = .returned (.pointer (some ⟨g, 0, none⟩)) ∧ w.heap.size ≤ g ∧ g < w'.heap.size ∧ BUI w' g s (.iface T x)) ∧ Below w.heap.size w w' := by
  obtain ⟨c0, c1, c2⟩ := h.cells
  clear h
  go_enter Tryz.func33, Tryz.ntmps33
  go_wp2
  go_still_tail 10, (by kernel_rfl)
  go_wp2
  go_ret
  exact ⟨⟨_, rfl, by simp, by simp, by exact heap_alloc_new w _⟩, ((Below.refl w.heap.size w).drew).alloc (Nat.le_refl _) _⟩
set_option maxRecDepth 100000 in
theorem f34_any (b : Nat) (r : Value) (w : World) (c2 : w.cell? ⟨b, 2, none⟩ = some r) : Calls Tryz.prog 34 #[.pointer (some ⟨b, 0, none⟩)] w fun e w' => e = .returned r ∧ w = w' := by
  go_enter Tryz.func34, Tryz.ntmps34
  go_wp2
  go_ret
  exact ⟨rfl, rfl⟩
set_option maxRecDepth 100000 in
theorem f36_any (b : Nat) (s : ByteArray) (w : World) (c0 : w.cell? ⟨b, 0, none⟩ = some (.string s)) : Calls Tryz.prog 36 #[.pointer (some ⟨b, 0, none⟩)] w fun e w' => e = .returned (.string s) ∧ w = w' := by
  go_enter Tryz.func36, Tryz.ntmps36
  go_wp2
  go_ret
  exact ⟨rfl, rfl⟩
set_option maxRecDepth 100000 in
theorem f37_any (s : ByteArray) (g : Nat) (w : World) (c1 : w.cell? ⟨g, 1, none⟩ = some (.bool false)) (c2 : w.cell? ⟨g, 2, none⟩ = some (.int .u32 0)) : Calls Tryz.prog 37 #[.pointer (some ⟨g, 0, none⟩), .string s] w fun e w' => e = .returned .nilIface ∧ w = w' := by
  go_enter Tryz.func37, Tryz.ntmps37
  go_wp2
  go_ret
  exact ⟨rfl, rfl⟩
set_option maxRecDepth 100000 in
theorem f50_any (s : ByteArray) (a : Option Addr) (c : Nat) (w : World) : Calls Tryz.prog 50 #[.string s, .slice a 1 c, .slice none 0 0, .int .i64 1, .int .i64 1] w fun e w' => e = .returned .nilIface ∧ w = w' := by
  go_enter Tryz.func50, Tryz.ntmps50
  go_wp2
  go_ret
  exact ⟨rfl, rfl⟩
set_option maxRecDepth 100000 in
set_option maxHeartbeats 2000000 in
theorem f51_any (T : TypeId) (x : Value) (hT : ∀ w, (Instr.typeAssert (.iface T x) 41 89 true).run Tryz.prog w = .ok (.tuple #[.iface T x, .bool true]) w) (b : Nat) (v0 : Value) (w : World)
    (h0 : w.cell? ⟨b, 0, none⟩ = some v0) (hf : w.frozen? ⟨b, 0, none⟩ = false) : Calls Tryz.prog 51 #[.iface T x, .iface 92 (.pointer (some ⟨b, 0, none⟩))] w fun e w' => e = .returned .nilIface ∧ w.setCell ⟨b, 0, none⟩ (.iface T x) = w' := by
  have t117 : ∀ w, (Instr.typeAssert (.iface 92 (.pointer (some ⟨b, 0, none⟩))) 20 117 true).run Tryz.prog w = .ok (.tuple #[.pointer none, .bool false]) w := fun _ => by kernel_rfl
  have t127 : ∀ w, (Instr.typeAssert (.iface 92 (.pointer (some ⟨b, 0, none⟩))) 20 127 true).run Tryz.prog w = .ok (.tuple #[.pointer none, .bool false]) w := fun _ => by kernel_rfl
  have t130 : ∀ w, (Instr.typeAssert (.iface 92 (.pointer (some ⟨b, 0, none⟩))) 20 130 true).run Tryz.prog w = .ok (.tuple #[.pointer none, .bool false]) w := fun _ => by kernel_rfl
  have t132 : ∀ w, (Instr.typeAssert (.iface 92 (.pointer (some ⟨b, 0, none⟩))) 20 132 true).run Tryz.prog w = .ok (.tuple #[.pointer none, .bool false]) w := fun _ => by kernel_rfl
  have t133 : ∀ w, (Instr.typeAssert (.iface 92 (.pointer (some ⟨b, 0, none⟩))) 20 133 true).run Tryz.prog w = .ok (.tuple #[.pointer none, .bool false]) w := fun _ => by kernel_rfl
  have t134 : ∀ w, (Instr.typeAssert (.iface 92 (.pointer (some ⟨b, 0, none⟩))) 20 134 true).run Tryz.prog w = .ok (.tuple #[.pointer none, .bool false]) w := fun _ => by kernel_rfl
  have t135 : ∀ w, (Instr.typeAssert (.iface 92 (.pointer (some ⟨b, 0, none⟩))) 20 135 true).run Tryz.prog w = .ok (.tuple #[.pointer none, .bool false]) w := fun _ => by kernel_rfl
  have t136 : ∀ w, (Instr.typeAssert (.iface 92 (.pointer (some ⟨b, 0, none⟩))) 20 136 true).run Tryz.prog w = .ok (.tuple #[.pointer none, .bool false]) w := fun _ => by kernel_rfl
  have t137 : ∀ w, (Instr.typeAssert (.iface 92 (.pointer (some ⟨b, 0, none⟩))) 20 137 true).run Tryz.prog w = .ok (.tuple #[.pointer none, .bool false]) w := fun _ => by kernel_rfl
  have t138 : ∀ w, (Instr.typeAssert (.iface 92 (.pointer (some ⟨b, 0, none⟩))) 20 138 true).run Tryz.prog w = .ok (.tuple #[.pointer none, .bool false]) w := fun _ => by kernel_rfl
  have t139 : ∀ w, (Instr.typeAssert (.iface 92 (.pointer (some ⟨b, 0, none⟩))) 20 139 true).run Tryz.prog w = .ok (.tuple #[.pointer none, .bool false]) w := fun _ => by kernel_rfl
  have t140 : ∀ w, (Instr.typeAssert (.iface 92 (.pointer (some ⟨b, 0, none⟩))) 20 140 true).run Tryz.prog w = .ok (.tuple #[.pointer none, .bool false]) w := fun _ => by kernel_rfl
  have t141 : ∀ w, (Instr.typeAssert (.iface 92 (.pointer (some ⟨b, 0, none⟩))) 20 141 true).run Tryz.prog w = .ok (.tuple #[.pointer none, .bool false]) w := fun _ => by kernel_rfl
  have t142 : ∀ w, (Instr.typeAssert (.iface 92 (.pointer (some ⟨b, 0, none⟩))) 20 142 true).run Tryz.prog w = .ok (.tuple #[.pointer none, .bool false]) w := fun _ => by kernel_rfl
  have t143 : ∀ w, (Instr.typeAssert (.iface 92 (.pointer (some ⟨b, 0, none⟩))) 20 143 true).run Tryz.prog w = .ok (.tuple #[.pointer none, .bool false]) w := fun _ => by kernel_rfl
  have t145 : ∀ w, (Instr.typeAssert (.iface 92 (.pointer (some ⟨b, 0, none⟩))) 20 145 true).run Tryz.prog w = .ok (.tuple #[.pointer none, .bool false]) w := fun _ => by kernel_rfl
  have t146 : ∀ w, (Instr.typeAssert (.iface 92 (.pointer (some ⟨b, 0, none⟩))) 20 146 true).run Tryz.prog w = .ok (.tuple #[.pointer none, .bool false]) w := fun _ => by kernel_rfl
  have t149 : ∀ w, (Instr.typeAssert (.iface 92 (.pointer (some ⟨b, 0, none⟩))) 20 149 true).run Tryz.prog w = .ok (.tuple #[.pointer none, .bool false]) w := fun _ => by kernel_rfl
  have t92 : ∀ w, (Instr.typeAssert (.iface 92 (.pointer (some ⟨b, 0, none⟩))) 20 92 true).run Tryz.prog w = .ok (.tuple #[.pointer (some ⟨b, 0, none⟩), .bool true]) w := fun _ => by kernel_rfl
  go_enter Tryz.func51, Tryz.ntmps51
  go_wp2
  go_ret
  exact ⟨rfl, rfl⟩
set_option maxRecDepth 100000 in
set_option maxHeartbeats 2000000 in
theorem f35_any (s : ByteArray) (T : TypeId) (x : Value) (hT : ∀ w, (Instr.typeAssert (.iface T x) 41 89 true).run Tryz.prog w = .ok (.tuple #[.iface T x, .bool true]) w) (b g gv c cv : Nat) (v0 : Value) (w : World)
    (h0 : w.cell? ⟨b, 0, none⟩ = some v0) (hf : w.frozen? ⟨b, 0, none⟩ = false) (ha : w.cell? ⟨g, 0, none⟩ = some (.iface T x)) (hv : w.cell? ⟨gv, 0, none⟩ = some (.iface 92 (.pointer (some ⟨b, 0, none⟩)))) :
    Calls Tryz.prog 35 #[.string s, .slice (some ⟨g, 0, none⟩) 1 c, .slice none 0 0, .int .i64 1, .slice (some ⟨gv, 0, none⟩) 1 cv] w fun e w' => e = .returned .nilIface ∧ w.setCell ⟨b, 0, none⟩ (.iface T x) = w' := by
  have H51 := Lib.hid (fun w h0 hf => f51_any T x hT b v0 w h0 hf)
  have HF := Lib.hid hf
  have H0 := Lib.hid h0
  clear hT hf h0
  go_enter Tryz.func35, Tryz.ntmps35
  go_wp2_with (go_at_call 50; refine (f50_any _ _ _ _).mono ?_; rintro e w' ⟨rfl, rfl⟩)
  go_loopw [27] (fun i wr => (i = .int .i64 0 ∧ wr = w) ∨ (i = .int .i64 1 ∧ wr = w.setCell ⟨b, 0, none⟩ (.iface T x))) (fun i _ => 1 - (RowKit.intOf i).toNat)
  case atStart => exact .inl ⟨rfl, rfl⟩
  case round =>
    rcases hrel with ⟨rfl, rfl⟩ | ⟨rfl, rfl⟩
    · go_wp2_with fail
      go_at_call 51
      refine (H51.out _ H0.out HF.out).mono ?_
      rintro e w1 ⟨rfl, rfl⟩
      go_wp2
      go_roundw
      case rel => simp
      case measure => simp [RowKit.intOf]
    · go_wp2
      go_ret
      exact ⟨rfl, rfl⟩
end Go.Proofs.YtllgogkjcbdpkaaGreat
