/- Walks of the package's split, called as a method; of the thin package's texts of an answer. -/
import Derived.Test.YtgcofpmhojplhaaGreatDoorU4
import Derived.Test.YtgcofpmhojplhaaGreatDoorR7
namespace Go.Proofs.YtgcofpmhojplhaaGreatDoor
open Go.RowKit

/-- A list, or a refusal. -/
def SplitRes (o : Option (List (List UInt8))) (w : World) (e : Ending) (w' : World) : Prop := match o with
  | some l => SplitIs l w e w'
  | none => SplitNo w e w'
theorem SplitRes.later {o : Option (List (List UInt8))} {w w1 : World} (hb : Below w.heap.size w w1) {e : Ending} {w' : World} (h : SplitRes o w1 e w') : SplitRes o w e w' := by
  cases o with
  | some l =>
    obtain ⟨L, v, he, hc, ho, hb2⟩ := h
    exact ⟨L, v, he, hc, Joins.ownsRow_le ho hb.size, hb.trans (hb2.mono hb.size)⟩
  | none =>
    obtain ⟨t, x, he, hb2⟩ := h
    exact ⟨t, x, he, hb.trans (hb2.mono hb.size)⟩
theorem SplitRes.pair {o : Option (List (List UInt8))} {w : World} {e : Ending} {w' : World} (h : SplitRes o w e w') : ∃ a b, e = .returned (.tuple #[a, b]) := by
  cases o with
  | some l =>
    obtain ⟨L, v, he, _⟩ := h
    exact ⟨_, _, he⟩
  | none =>
    obtain ⟨t, x, he, _⟩ := h
    exact ⟨_, _, he⟩
def SplitDoes (nm s : ByteArray) (ar : Value) (o : Option (List (List UInt8))) (w : World) : Prop :=
  ∀ w1, Below w.heap.size w w1 → ∀ b, BoxAt b nm s w1 → Calls Tryz.prog 43 #[.pointer none, .pointer (some ⟨b, 0, none⟩), ar, .slice none 0 0] w1 (SplitRes o w1)
set_option maxRecDepth 100000 in
theorem f56_split (nm : ByteArray) (w : World) : Calls Tryz.prog 56 #[.string nm, .func (.func 43) #[] #[]] w fun e w' => e = .returned (.pointer (some ⟨w.heap.size, 0, none⟩)) ∧ w.alloc (.cells #[.string nm, .func (.func 43) #[] #[], .nilIface] 134) = w' := by
  go_enter Tryz.func56, Tryz.ntmps56
  go_wp2
  go_ret
  exact ⟨rfl, rfl⟩
set_option maxRecDepth 100000 in
theorem f57_split (nm s : ByteArray) (b : Nat) (w : World) (h0 : w.cell? ⟨b, 0, none⟩ = some (.string nm)) (h1 : w.cell? ⟨b, 1, none⟩ = some (.func (.func 43) #[] #[])) :
    Calls Tryz.prog 57 #[.pointer (some ⟨b, 0, none⟩), .iface 72 (.string s)] w (Boxed nm s w) := by
  go_enter Tryz.func57, Tryz.ntmps57
  go_wp2
  go_still_tail 10, (by kernel_rfl)
  go_wp2
  go_ret
  exact ⟨rfl, ⟨by simp, by simp⟩, ((Below.refl w.heap.size w).drew).alloc (Nat.le_refl _) _⟩
set_option maxRecDepth 100000 in
theorem f34_split (nm s : ByteArray) (ar : Value) (o : Option (List (List UInt8))) (w : World) (h : SplitDoes nm s ar o w) : Calls Tryz.prog 34 #[.string nm, .func (.func 43) #[] #[], .string s, ar] w (SplitRes o w) := by
  have HC := Lib.hid h
  clear h
  have en : ∀ args w, (callFunc 43 args).run Tryz.prog w = .ok (.enter 43 args) w := fun args w => enters_of Tryz.func43 (by kernel_rfl) rfl args w
  have HA : Hid (Below w.heap.size w (w.alloc (.cells #[.string nm, .func (.func 43) #[] #[], .nilIface] 134))) := (Below.refl _ _).alloc (Nat.le_refl _) _
  have H57 := Lib.hid (f57_split nm s w.heap.size (w.alloc (.cells #[.string nm, .func (.func 43) #[] #[], .nilIface] 134)) (by simp) (by simp))
  go_enter Tryz.func34, Tryz.ntmps34
  go_wp2_with fail
  go_at_call 56
  refine (f56_split _ _).mono ?_
  rintro e w1 ⟨rfl, rfl⟩
  go_wp2_with fail
  go_at_call 57
  refine H57.out.mono ?_
  rintro e w2 ⟨rfl, hbx, hb2⟩
  have hz : (w.alloc (.cells #[.string nm, .func (.func 43) #[] #[], .nilIface] 134)).heap.size = w.heap.size + 1 := by simp
  rw [hz] at hbx
  have HB2 := Lib.hid (HA.out.trans (hb2.mono HA.out.size))
  have H43 := Lib.hid (HC.out _ HB2.out _ hbx)
  clear hbx hb2 hz H57 HC
  go_wp2_with fail
  go_at_call 43
  refine H43.out.mono ?_
  intro e w3 hres
  have HR := Lib.hid (hres.later HB2.out)
  obtain ⟨a, b, rfl⟩ := hres.pair
  clear hres
  go_wp2
  go_ret2
  exact HR.out
set_option maxRecDepth 100000 in
theorem f24_of (nm s : ByteArray) (ar : Value) (o : Option (List (List UInt8))) (w : World) (h : SplitDoes nm s ar o w) : Calls Tryz.prog 24 #[.string nm, .string s, ar] w (SplitRes o w) := by
  have HC := Lib.hid (f34_split nm s ar o w h)
  clear h
  go_enter Tryz.func24, Tryz.ntmps24
  go_wp2_with fail
  go_at_call 34
  refine HC.out.mono ?_
  intro e w3 hres
  have HR := Lib.hid hres
  obtain ⟨a, b, rfl⟩ := hres.pair
  clear hres
  go_wp2
  go_ret2
  exact HR.out
/-- A list of the package's, with these strings. -/
def ListAt (L : Nat) (l : List (List UInt8)) (w : World) : Prop := ∃ v, w.cell? ⟨L, 0, none⟩ = some v ∧ w.ownsRow 0 52 1 v l.length (ifs l)
set_option maxRecDepth 100000 in
theorem f41_any (L : Nat) (a : Option Addr) (n c : Nat) (w : World) (h : w.cell? ⟨L, 0, none⟩ = some (.slice a n c)) : Calls Tryz.prog 41 #[.pointer (some ⟨L, 0, none⟩)] w fun e w' => e = .returned (.int .i64 n) ∧ w = w' := by
  go_enter Tryz.func41, Tryz.ntmps41
  go_wp2
  go_ret
  exact ⟨rfl, rfl⟩
set_option maxRecDepth 100000 in
theorem f42_any (L g n c k : Nat) (hk : k < n) (u : Value) (w : World) (h : w.cell? ⟨L, 0, none⟩ = some (.slice (some ⟨g, 0, none⟩) n c)) (hu : w.cell? ⟨g, k, none⟩ = some u) : Calls Tryz.prog 42 #[.pointer (some ⟨L, 0, none⟩), .int .i64 k] w fun e w' => e = .returned u ∧ w = w' := by
  go_enter Tryz.func42, Tryz.ntmps42
  go_wp2
  go_ret
  exact ⟨rfl, rfl⟩
end Go.Proofs.YtgcofpmhojplhaaGreatDoor
