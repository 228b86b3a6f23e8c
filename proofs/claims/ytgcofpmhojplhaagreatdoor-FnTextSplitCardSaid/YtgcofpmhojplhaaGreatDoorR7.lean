/- Walks of the package's strip, called as a method. -/
import Derived.Test.YtgcofpmhojplhaaGreatDoorR6
namespace Go.Proofs.YtgcofpmhojplhaaGreatDoor
open Go.RowKit

/-- What string_strip does of these arguments, at every later world. -/
def StripDoes (nm s : ByteArray) (ar : Value) (l : List UInt8) (w : World) : Prop :=
  ∀ w1, Below w.heap.size w w1 → ∀ b, BoxAt b nm s w1 → Calls Tryz.prog 35 #[.pointer none, .pointer (some ⟨b, 0, none⟩), ar, .slice none 0 0] w1 (TextIs l w1)
set_option maxRecDepth 100000 in
theorem f34_of (nm s : ByteArray) (ar : Value) (l : List UInt8) (w : World) (h : StripDoes nm s ar l w) : Calls Tryz.prog 34 #[.string nm, .func (.func 35) #[] #[], .string s, ar] w (TextIs l w) := by
  have HC := Lib.hid h
  clear h
  have en : ∀ args w, (callFunc 35 args).run Tryz.prog w = .ok (.enter 35 args) w := fun args w => enters_of Tryz.func35 (by kernel_rfl) rfl args w
  have HA : Hid (Below w.heap.size w (w.alloc (.cells #[.string nm, .func (.func 35) #[] #[], .nilIface] 134))) := (Below.refl _ _).alloc (Nat.le_refl _) _
  have H57 := Lib.hid (f57_any nm s w.heap.size (w.alloc (.cells #[.string nm, .func (.func 35) #[] #[], .nilIface] 134)) (by simp) (by simp))
  go_enter Tryz.func34, Tryz.ntmps34
  go_wp2_with fail
  go_at_call 56
  refine (f56_any _ _).mono ?_
  rintro e w1 ⟨rfl, rfl⟩
  go_wp2_with fail
  go_at_call 57
  refine H57.out.mono ?_
  rintro e w2 ⟨rfl, hbx, hb2⟩
  have hz : (w.alloc (.cells #[.string nm, .func (.func 35) #[] #[], .nilIface] 134)).heap.size = w.heap.size + 1 := by simp
  rw [hz] at hbx
  have HB2 := Lib.hid (HA.out.trans (hb2.mono HA.out.size))
  have H35 := Lib.hid (HC.out _ HB2.out _ hbx)
  clear hbx hb2 hz H57 HC
  go_wp2_with fail
  go_at_call 35
  refine H35.out.mono ?_
  rintro e w3 ⟨t, ht, rfl, hb3⟩
  have HT3 := Lib.hid ht
  have HB3 := Lib.hid (HB2.out.trans (hb3.mono HB2.out.size))
  clear ht hb3
  go_wp2
  go_ret2
  exact ⟨t, HT3.out, rfl, HB3.out⟩
set_option maxRecDepth 100000 in
theorem f16_of (nm s : ByteArray) (ar : Value) (l : List UInt8) (w : World) (h : StripDoes nm s ar l w) : Calls Tryz.prog 16 #[.string nm, .string s, ar] w (TextIs l w) := by
  have HC := Lib.hid (f34_of nm s ar l w h)
  clear h
  go_enter Tryz.func16, Tryz.ntmps16
  go_wp2_with (go_at_call 34; refine HC.out.mono ?_; rintro e w3 ⟨t, ht, rfl, hb3⟩; have HT3 := Lib.hid ht; have HB3 := Lib.hid hb3; clear ht hb3)
  go_ret2
  exact ⟨t, HT3.out, rfl, HB3.out⟩
end Go.Proofs.YtgcofpmhojplhaaGreatDoor
