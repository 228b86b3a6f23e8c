/- Walks of the package's small ints: made, and told. -/
import Derived.Test.YtbimbpplkhdeiaaDoorW5
namespace Go.Proofs.YtbimbpplkhdeiaaDoor
open Go.RowKit

/-- A small int of the package. -/
def MakesI (z : Int) (w : World) (e : Ending) (w' : World) : Prop := e = .returned (.agg #[.int .i64 z, .pointer none]) ∧ Below w.heap.size w w'
set_option maxRecDepth 100000 in
theorem f41_any (z : Int) (w : World) : Calls Tryd.prog 41 #[.int .i64 z] w (MakesI z w) := by
  go_enter Tryd.func41, Tryd.ntmps41
  go_wp2
  refine bodyPost_ret (v := .agg #[.int .i64 z, .pointer none]) (by simp [results, Tryd.results41, go_sem]) rfl ⟨rfl, ?_⟩
  exact (Below.refl _ _).alloc (Nat.le_refl _) _
set_option maxRecDepth 100000 in
theorem f37_any (z : Int) (h0 : -2147483648 ≤ z) (h1 : z ≤ 2147483647) (w : World) : Calls Tryd.prog 37 #[.int .i64 z] w (MakesI z w) := by
  go_enter Tryd.func37, Tryd.ntmps37
  go_wp2_with fail
  go_at_call 41
  refine (f41_any _ _).mono ?_
  rintro e w1 ⟨rfl, hb⟩
  have HB := Lib.hid (((Below.refl w.heap.size w).alloc (Nat.le_refl _) (.cells #[.int .i64 0, .pointer none] 52)).trans (hb.mono (by simp)))
  have hc := bcell hb
  clear hb
  have hc0 : ∀ o, w1.cell? ⟨w.heap.size, o, none⟩ = (w.alloc (.cells #[.int .i64 0, .pointer none] 52)).cell? ⟨w.heap.size, o, none⟩ := fun o => hc.1 _ o (by simp)
  have hf0 : ∀ o, w1.frozen? ⟨w.heap.size, o, none⟩ = (w.alloc (.cells #[.int .i64 0, .pointer none] 52)).frozen? ⟨w.heap.size, o, none⟩ := fun o => hc.2 _ o (by simp)
  clear hc
  go_wp2
  refine bodyPost_ret (v := .agg #[.int .i64 z, .pointer none]) (by simp [results, Tryd.results37, go_sem, hc0]) rfl ⟨rfl, ?_⟩
  iterate 2 (refine Below.setCell ?_ (show w.heap.size ≤ w.heap.size from Nat.le_refl _) _)
  exact HB.out
set_option maxRecDepth 100000 in
theorem f27_any (z : Int) (h0 : -2147483648 ≤ z) (h1 : z ≤ 2147483647) (w : World) : Calls Tryd.prog 27 #[.int .i64 z] w (MakesI z w) := by
  go_enter Tryd.func27, Tryd.ntmps27
  go_wp2_with fail
  go_at_call 37
  refine (f37_any _ h0 h1 _).mono ?_
  rintro e w1 ⟨rfl, hb⟩
  have HB := Lib.hid (((Below.refl w.heap.size w).alloc (Nat.le_refl _) (.cells #[.int .i64 0, .pointer none] 52)).trans (hb.mono (by simp)))
  have hc := bcell hb
  clear hb
  have hc0 : ∀ o, w1.cell? ⟨w.heap.size, o, none⟩ = (w.alloc (.cells #[.int .i64 0, .pointer none] 52)).cell? ⟨w.heap.size, o, none⟩ := fun o => hc.1 _ o (by simp)
  have hf0 : ∀ o, w1.frozen? ⟨w.heap.size, o, none⟩ = (w.alloc (.cells #[.int .i64 0, .pointer none] 52)).frozen? ⟨w.heap.size, o, none⟩ := fun o => hc.2 _ o (by simp)
  clear hc
  go_wp2
  refine bodyPost_ret (v := .agg #[.int .i64 z, .pointer none]) (by simp [results, Tryd.results27, go_sem, hc0]) rfl ⟨rfl, ?_⟩
  iterate 2 (refine Below.setCell ?_ (show w.heap.size ≤ w.heap.size from Nat.le_refl _) _)
  exact HB.out
set_option maxRecDepth 100000 in
theorem f26_any (s : ByteArray) (w : World) : Calls Tryd.prog 26 #[.string s] w fun e w' => e = .returned (.iface 89 (.pointer (some ⟨w.heap.size, 0, none⟩))) ∧ w.alloc (.cells #[.string s] 91) = w' := by
  go_enter Tryd.func26, Tryd.ntmps26
  go_wp2
  go_ret
  exact ⟨rfl, rfl⟩
set_option maxRecDepth 100000 in
theorem f24_any (z : Int) (w : World) : Calls Tryd.prog 24 #[.agg #[.int .i64 z, .pointer none]] w fun e w' => e = .returned (.tuple #[.int .i64 z, .pointer none]) ∧ Below w.heap.size w w' := by
  go_enter Tryd.func24, Tryd.ntmps24
  go_wp2
  go_quiet (fail)
  go_wp2
  go_ret2
  exact ⟨rfl, below_drewN ((Below.refl _ _).alloc (Nat.le_refl _) _) _⟩
set_option maxRecDepth 100000 in
theorem f19_any (z : Int) (w : World) : Calls Tryd.prog 19 #[.agg #[.int .i64 z, .pointer none]] w fun e w' => e = .returned (.tuple #[.int .i64 z, .bool true]) ∧ Below w.heap.size w w' := by
  go_enter Tryd.func19, Tryd.ntmps19
  go_wp2_with fail
  go_at_call 24
  refine (f24_any _ _).mono ?_
  rintro e w1 ⟨rfl, hb⟩
  have HB := Lib.hid (((Below.refl w.heap.size w).alloc (Nat.le_refl _) (.cells #[.int .i64 z, .pointer none] 52)).trans (hb.mono (by simp)))
  clear hb
  go_wp2
  go_ret2
  exact ⟨rfl, HB.out⟩
set_option maxRecDepth 100000 in
theorem f12_one (z : Int) (w : World) : Calls Tryd.prog 12 #[.iface 52 (.agg #[.int .i64 z, .pointer none]), .nilIface] w fun e w' => e = .returned (.tuple #[.int .i64 z, .bool true]) ∧ Below w.heap.size w w' := by
  have a52 : ∀ w, (Instr.typeAssert (.iface 52 (.agg #[.int .i64 z, .pointer none])) 39 52 true).run Tryd.prog w = .ok (.tuple #[.agg #[.int .i64 z, .pointer none], .bool true]) w := fun _ => by kernel_rfl
  go_enter Tryd.func12, Tryd.ntmps12
  go_wp2_with (go_at_call 19; refine (f19_any _ _).mono ?_; rintro e w1 ⟨rfl, hb⟩; have HB := Lib.hid (((Below.refl w.heap.size w).alloc (Nat.le_refl _) (.cells #[.int .i64 z, .pointer none] 52)).trans (hb.mono (by simp))); clear hb)
  go_ret2
  exact ⟨rfl, HB.out⟩
set_option maxRecDepth 100000 in
theorem f12_no (a : Addr) (w : World) : Calls Tryd.prog 12 #[.nilIface, .iface 89 (.pointer (some a))] w fun e w' => e = .returned (.tuple #[.int .i64 0, .bool false]) ∧ Below w.heap.size w w' := by
  have a52 : ∀ w, (Instr.typeAssert .nilIface 39 52 true).run Tryd.prog w = .ok (.tuple #[.agg #[.int .i64 0, .pointer none], .bool false]) w := fun _ => by kernel_rfl
  go_enter Tryd.func12, Tryd.ntmps12
  go_wp2
  go_ret2
  exact ⟨rfl, (Below.refl _ _).alloc (Nat.le_refl _) _⟩
end Go.Proofs.YtbimbpplkhdeiaaDoor
