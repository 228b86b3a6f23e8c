/- Walks of the package's floats. -/
import Derived.Test.YtmmpallhdhhgjaaGreatProg
import Derived.WalkKit
import Derived.WalkSpells
import Derived.WalkLawsBesides
import Derived.Deep.QuietTactic
import Derived.BigQuiet
import Derived.Lib.Hide
import Derived.Lib.SmallJoins
import Derived.Deep.DeepCutAuto
import Derived.Deep.RegionWith
import Derived.Deep.RegionHeld3
namespace Go.Proofs.YtmmpallhdhhgjaaGreat
open Go.RowKit

theorem bcell {W w1 : World} (hb : Below W.heap.size W w1) : (∀ b o, b < W.heap.size → w1.cell? ⟨b, o, none⟩ = W.cell? ⟨b, o, none⟩) ∧ (∀ b o, b < W.heap.size → w1.frozen? ⟨b, o, none⟩ = W.frozen? ⟨b, o, none⟩) :=
  ⟨fun b o h => hb.cell (p := ⟨b, o, none⟩) h, fun b o h => hb.frozen (p := ⟨b, o, none⟩) h⟩
/-- The sign's bit turned. -/
def flip63 (x : Nat) : Nat := Op.negFloat .f64 x
theorem call6 (x : Nat) (w : World) : (callFunc 6 #[.int .u64 x]).run Tryz.prog w = .ok (.value (.float .f64 x)) w := by
  rw [run_callFunc_extern Tryz.func6 (by kernel_rfl) (by kernel_rfl) (by kernel_rfl) (e := Extern.MathFloatBits.float64frombits) (by kernel_rfl)]
  rfl
theorem call23 (x : Nat) (w : World) : (callFunc 23 #[.float .f64 x]).run Tryz.prog w = .ok (.value (.int .u64 x)) w := by
  rw [run_callFunc_extern Tryz.func23 (by kernel_rfl) (by kernel_rfl) (by kernel_rfl) (e := Extern.MathFloatBits.float64bits) (by kernel_rfl)]
  rfl
set_option maxRecDepth 100000 in
theorem f9_any (x : Nat) (w : World) : Calls Tryz.prog 9 #[.int .u64 x] w fun e w' => e = .returned (.float .f64 x) ∧ w = w' := by
  have hx := fun w => call6 x w
  go_enter Tryz.func9, Tryz.ntmps9
  go_wp2
  go_ret
  exact ⟨rfl, rfl⟩
set_option maxRecDepth 100000 in
theorem f13_any (x : Nat) (w : World) : Calls Tryz.prog 13 #[.float .f64 x] w fun e w' => e = .returned (.int .u64 x) ∧ w = w' := by
  have hx := fun w => call23 x w
  go_enter Tryz.func13, Tryz.ntmps13
  go_wp2
  go_ret
  exact ⟨rfl, rfl⟩
set_option maxRecDepth 100000 in
theorem f10_pos (x : Nat) (w : World) : Calls Tryz.prog 10 #[.float .f64 x, .int .i8 10] w fun e w' => e = .returned (.tuple #[.iface 43 (.float .f64 x), .nilIface]) ∧ w = w' := by
  go_enter Tryz.func10, Tryz.ntmps10
  go_wp2
  go_ret2
  exact ⟨rfl, rfl⟩
set_option maxRecDepth 100000 in
theorem f10_neg (x : Nat) (w : World) : Calls Tryz.prog 10 #[.float .f64 x, .int .i8 11] w fun e w' => e = .returned (.tuple #[.iface 43 (.float .f64 (flip63 x)), .nilIface]) ∧ w = w' := by
  have hn : ∀ w, (Op.unary .neg (.float .f64 x)).run Tryz.prog w = .ok (.float .f64 (flip63 x)) w := fun _ => rfl
  go_enter Tryz.func10, Tryz.ntmps10
  go_wp2
  go_ret2
  exact ⟨rfl, rfl⟩
set_option maxRecDepth 100000 in
theorem f7_19 (w : World) : Calls Tryz.prog 7 #[.int .i64 19] w fun e w' => e = .returned (.tuple #[.int .i8 10, .bool true]) ∧ Below w.heap.size w w' := by
  go_enter Tryz.func7, Tryz.ntmps7
  go_wp2
  go_ret2
  exact ⟨rfl, (Below.refl _ _).alloc (Nat.le_refl _) _⟩
set_option maxRecDepth 100000 in
theorem f7_20 (w : World) : Calls Tryz.prog 7 #[.int .i64 20] w fun e w' => e = .returned (.tuple #[.int .i8 11, .bool true]) ∧ Below w.heap.size w w' := by
  go_enter Tryz.func7, Tryz.ntmps7
  go_wp2
  go_ret2
  exact ⟨rfl, (Below.refl _ _).alloc (Nat.le_refl _) _⟩

set_option maxRecDepth 100000 in
theorem f11_float (x : Nat) (w : World) : Calls Tryz.prog 11 #[.iface 43 (.float .f64 x)] w fun e w' => e = .returned (.agg #[.int .i64 3, .bool false, .slice none 0 0, .int .u64 x, .string ⟨#[]⟩, .slice none 0 0]) ∧ Below w.heap.size w w' := by
  have a43 : ∀ w, (Instr.typeAssert (.iface 43 (.float .f64 x)) 39 43 true).run Tryz.prog w = .ok (.tuple #[.float .f64 x, .bool true]) w := fun _ => by kernel_rfl
  have a48 : ∀ w, (Instr.typeAssert (.iface 43 (.float .f64 x)) 39 48 true).run Tryz.prog w = .ok (.tuple #[.int .u8 0, .bool false]) w := fun _ => by kernel_rfl
  have a49 : ∀ w, (Instr.typeAssert (.iface 43 (.float .f64 x)) 39 49 true).run Tryz.prog w = .ok (.tuple #[.bool false, .bool false]) w := fun _ => by kernel_rfl
  have a54 : ∀ w, (Instr.typeAssert (.iface 43 (.float .f64 x)) 39 54 true).run Tryz.prog w = .ok (.tuple #[.agg #[.int .i64 0, .pointer none], .bool false]) w := fun _ => by kernel_rfl
  go_enter Tryz.func11, Tryz.ntmps11
  go_wp2_with ((go_at_call 13; refine (f13_any _ _).mono ?_; rintro e w' ⟨rfl, rfl⟩))
  refine bodyPost_ret (v := .agg #[.int .i64 3, .bool false, .slice none 0 0, .int .u64 x, .string ⟨#[]⟩, .slice none 0 0]) (by simp [results, Tryz.results11, go_sem]) rfl ⟨rfl, ?_⟩
  exact (Below.refl _ _).alloc (Nat.le_refl _) _
end Go.Proofs.YtmmpallhdhhgjaaGreat
