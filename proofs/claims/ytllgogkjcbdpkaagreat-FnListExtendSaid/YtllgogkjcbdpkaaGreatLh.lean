/- The package's extend as a method, called through the door. -/
import Derived.Test.YtllgogkjcbdpkaaGreatLg
namespace Go.Proofs.YtllgogkjcbdpkaaGreat
open Go.RowKit
open Z (Row VInt KInt BInt IsB IsW smallB MakesV MakesS MakesK)

def ExtendIs (B : Nat) (ok : Nat → Prop) (gl : Nat) (out : Ps) (w : World) (e : Ending) (w' : World) : Prop := e = .returned (.tuple #[.iface 70 (.int .u8 0), .nilIface]) ∧ ∃ v', LIST B ok w' gl v' out ∧ Below B w w'
set_option maxRecDepth 100000 in
set_option maxHeartbeats 4000000 in
theorem f21_any (B : Nat) (ok : Nat → Prop) (gl : Nat) (v : Value) (qs out : Ps) (T : TypeId) (x : Value) (hT : ∀ w, (Instr.typeAssert (.iface T x) 41 89 true).run Tryz.prog w = .ok (.tuple #[.iface T x, .bool true]) w)
    (b g c : Nat) (s : ByteArray) (w : World) (h : LIST B ok w gl v qs) (hb : BUI w b s (.iface 33 (.pointer (some ⟨gl, 0, none⟩)))) (ha : w.cell? ⟨g, 0, none⟩ = some (.iface T x))
    (H39 : ∀ w1, Below w.heap.size w w1 → Calls Tryz.prog 39 #[.pointer (some ⟨gl, 0, none⟩), .iface T x] w1 (GrownTo B ok gl out w1)) :
    Calls Tryz.prog 21 #[.pointer none, .pointer (some ⟨b, 0, none⟩), .slice (some ⟨g, 0, none⟩) 1 c, .slice none 0 0] w (ExtendIs B ok gl out w) := by
  have tb : ∀ w, (Instr.typeAssert (.iface 33 (.pointer (some ⟨gl, 0, none⟩))) 41 33 false).run Tryz.prog w = .ok (.pointer (some ⟨gl, 0, none⟩)) w := fun _ => by kernel_rfl
  obtain ⟨b0, b1, b2⟩ := hb.cells
  have HB2 := Lib.hid b2
  have bel1 : Below w.heap.size w (w.alloc (.cells #[.nilIface] 89)) := (Below.refl _ _).alloc (Nat.le_refl _) _
  have H36 := Lib.hid (f36_any b s (w.alloc (.cells #[.nilIface] 89)) (cell_below b0 bel1))
  have bel2 : Below w.heap.size w ((w.alloc (.cells #[.nilIface] 89)).alloc (.cells #[.iface 92 (.pointer (some ⟨w.heap.size, 0, none⟩))] 20)) := bel1.alloc (by simp) _
  have H35 := Lib.hid (f35_any s T x hT w.heap.size g (w.heap.size + 1) c 1 .nilIface ((w.alloc (.cells #[.nilIface] 89)).alloc (.cells #[.iface 92 (.pointer (some ⟨w.heap.size, 0, none⟩))] 20)) (by simp [go_sem]) (by simp [go_sem]) (cell_below ha bel2) (by simp [go_sem]))
  have bel3 : Below w.heap.size w (((w.alloc (.cells #[.nilIface] 89)).alloc (.cells #[.iface 92 (.pointer (some ⟨w.heap.size, 0, none⟩))] 20)).setCell ⟨w.heap.size, 0, none⟩ (.iface T x)) := bel2.setCell (Nat.le_refl _) _
  have HL3 := Lib.hid (h.below bel3)
  have HB3 := Lib.hid bel3
  have HBW : Hid (B ≤ w.heap.size) := Nat.le_of_lt (Nat.lt_of_le_of_lt h.base h.lt)
  have H39' := Lib.hid (H39 _ bel3)
  clear h hb ha H39 b0 b1 b2 bel1 bel2 bel3 hT
  go_enter Tryz.func21, Tryz.ntmps21
  go_wp2_with (first
    | (go_at_call 34; refine (f34_any b _ w HB2.out).mono ?_; rintro e w' ⟨rfl, rfl⟩)
    | (go_at_call 36; refine H36.out.mono ?_; rintro e w' ⟨rfl, rfl⟩))
  go_at_call 35
  refine H35.out.mono ?_
  rintro e w3 ⟨rfl, hw⟩
  have HL4 : Hid (LIST B ok w3 gl v qs) := hw ▸ HL3.out
  have HB4 : Hid (Below w.heap.size w w3) := hw ▸ HB3.out
  have H394 : Hid (Calls Tryz.prog 39 #[.pointer (some ⟨gl, 0, none⟩), .iface T x] w3 (GrownTo B ok gl out w3)) := hw ▸ H39'.out
  have hx : w3.cell? ⟨w.heap.size, 0, none⟩ = some (.iface T x) := by rw [← hw]; simp [go_sem]
  clear hw HL3 HB3 H39' H35 H36
  go_wp2_with fail
  go_at_call 37
  refine (f37_any _ gl w3 HL4.out.cells.2.1 HL4.out.cells.2.2.1).mono ?_
  rintro e w' ⟨rfl, rfl⟩
  go_wp2_with fail
  go_at_call 39
  refine H394.out.mono ?_
  rintro e w4 ⟨rfl, v', hl, hb⟩
  have HLF := Lib.hid hl
  have HBF := Lib.hid ((HB4.out.mono HBW.out).trans hb)
  clear hl hb hx
  go_wp2
  go_ret2
  exact ⟨rfl, v', HLF.out, HBF.out⟩
/-- The door. -/
theorem ExtendIs.pair {B : Nat} {ok : Nat → Prop} {gl : Nat} {out : Ps} {w : World} {e : Ending} {w' : World} (h : ExtendIs B ok gl out w e w') : e = .returned (.tuple #[.iface 70 (.int .u8 0), .nilIface]) := h.1
theorem ExtendIs.later {B : Nat} {ok : Nat → Prop} {gl : Nat} {out : Ps} {w w1 : World} (hb : Below B w w1) {e : Ending} {w' : World} (h : ExtendIs B ok gl out w1 e w') : ExtendIs B ok gl out w e w' := by
  obtain ⟨rfl, v', hl, hb2⟩ := h
  exact ⟨rfl, v', hl, hb.trans hb2⟩
set_option maxRecDepth 100000 in
set_option maxHeartbeats 4000000 in
theorem f20_any (B : Nat) (ok : Nat → Prop) (gl : Nat) (v : Value) (qs out : Ps) (T : TypeId) (x : Value) (hT : ∀ w, (Instr.typeAssert (.iface T x) 41 89 true).run Tryz.prog w = .ok (.tuple #[.iface T x, .bool true]) w)
    (g c : Nat) (s : ByteArray) (w : World) (h : LIST B ok w gl v qs) (ha : w.cell? ⟨g, 0, none⟩ = some (.iface T x))
    (H39 : ∀ w1, Below w.heap.size w w1 → Calls Tryz.prog 39 #[.pointer (some ⟨gl, 0, none⟩), .iface T x] w1 (GrownTo B ok gl out w1)) :
    Calls Tryz.prog 20 #[.string s, F21, .pointer (some ⟨gl, 0, none⟩), .slice (some ⟨g, 0, none⟩) 1 c] w (ExtendIs B ok gl out w) := by
  have en : ∀ args w, (callFunc 21 args).run Tryz.prog w = .ok (.enter 21 args) w := fun args w => enters_of Tryz.func21 (by kernel_rfl) rfl args w
  have HBW : Hid (B ≤ w.heap.size) := Nat.le_of_lt (Nat.lt_of_le_of_lt h.base h.lt)
  have bel1 : Below w.heap.size w (w.alloc (.cells #[.string s, F21, .nilIface] 109)) := (Below.refl _ _).alloc (Nat.le_refl _) _
  have HB1 := Lib.hid bel1
  have H33 := Lib.hid (f33_any s .nilIface 33 (.pointer (some ⟨gl, 0, none⟩)) w.heap.size (w.alloc (.cells #[.string s, F21, .nilIface] 109)) (by exact heap_alloc_new w _))
  have H21 := Lib.hid (fun w1 b (hb1 : Below w.heap.size w w1) hb => f21_any B ok gl v qs out T x hT b g c s w1 (h.below hb1) hb (cell_below ha hb1) (fun w2 h2 => H39 w2 (hb1.trans (h2.mono hb1.size))))
  clear h ha H39 bel1 hT
  go_enter Tryz.func20, Tryz.ntmps20
  go_wp2_with fail
  go_at_call 32
  refine (f32_any _ _).mono ?_
  rintro e w1 ⟨rfl, rfl⟩
  go_wp2_with fail
  go_at_call 33
  refine H33.out.mono ?_
  rintro e w2 ⟨⟨b, rfl, -, -, hbui⟩, hb2⟩
  have HB2 := Lib.hid (HB1.out.trans (hb2.mono HB1.out.size))
  have H21' := Lib.hid (H21.out w2 b HB2.out hbui)
  clear hb2 hbui H21 H33
  go_wp2_with fail
  go_at_call 21
  refine H21'.out.mono ?_
  intro e w3 hres
  have HR := Lib.hid (hres.later (HB2.out.mono HBW.out))
  obtain rfl := hres.pair
  clear hres
  go_wp2
  go_ret2
  exact HR.out
set_option maxRecDepth 100000 in
theorem f10_any (B : Nat) (ok : Nat → Prop) (gl : Nat) (v : Value) (qs out : Ps) (T : TypeId) (x : Value) (hT : ∀ w, (Instr.typeAssert (.iface T x) 41 89 true).run Tryz.prog w = .ok (.tuple #[.iface T x, .bool true]) w)
    (g c : Nat) (w : World) (h : LIST B ok w gl v qs) (ha : w.cell? ⟨g, 0, none⟩ = some (.iface T x))
    (H39 : ∀ w1, Below w.heap.size w w1 → Calls Tryz.prog 39 #[.pointer (some ⟨gl, 0, none⟩), .iface T x] w1 (GrownTo B ok gl out w1)) :
    Calls Tryz.prog 10 #[.pointer (some ⟨gl, 0, none⟩), .slice (some ⟨g, 0, none⟩) 1 c] w (ExtendIs B ok gl out w) := by
  have H20 := Lib.hid (fun s => f20_any B ok gl v qs out T x hT g c s w h ha H39)
  clear h ha H39 hT
  go_enter Tryz.func10, Tryz.ntmps10
  go_wp2_with fail
  go_at_call 20
  refine (H20.out _).mono ?_
  intro e w3 hres
  have HR := Lib.hid hres
  obtain rfl := hres.pair
  clear hres
  go_wp2
  go_ret2
  exact HR.out
end Go.Proofs.YtllgogkjcbdpkaaGreat
