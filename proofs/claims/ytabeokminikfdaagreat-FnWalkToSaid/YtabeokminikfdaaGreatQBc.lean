import Derived.Test.YtabeokminikfdaaGreatQB1
import Derived.Deep.DeepCutAuto
import Derived.Test.YtabeokminikfdaaGreatQA1
set_option linter.all false
set_option maxRecDepth 100000
set_option maxHeartbeats 4000000
namespace Go.Proofs.YtabeokminikfdaaGreat
open Go.RowKit
def SomeB (w : World) (e : Ending) (w' : World) : Prop := ∃ b, e = .returned (.bool b) ∧ Below w.heap.size w w'
theorem f28_any (e : EV) (hs : EvSh e) (w : World) : Calls Tryz.prog 28 #[e.val] w (SomeB w) := by
 obtain ⟨xk, xo, xt, vk, vn, vm, vb, vt, vs, ks, ps⟩ := e
 obtain ⟨⟨a1, n1, m1, rfl⟩, ⟨a2, n2, m2, rfl⟩, ⟨a3, n3, m3, rfl⟩, ⟨a4, n4, m4, rfl⟩⟩ := hs
 unfold EV.val EV.cells
 go_enter Tryz.func28, Tryz.ntmps28
 go_upto_region 1 with (fail)
 go_cut [3] (fun s3 wx => (∃ b, s3 = .bool b) ∧ wx = w.alloc (.cells #[.int .i64 xk, .int .i64 xo, .string xt, .int .i64 vk, .bool vn, .slice a1 n1 m1, .int .u64 vb, .string vt, .slice a2 n2 m2, .slice a3 n3 m3, .slice a4 n4 m4] 164))
 case first =>
  go_wp2
  all_goals subst_vars
  all_goals go_meet
  all_goals exact ⟨⟨_, rfl⟩, rfl⟩
 case rest =>
  obtain ⟨⟨b3, rfl⟩, rfl⟩ := hcut
  go_upto_region 2 with (fail)
  go_cut [4] (fun s4 wx => (∃ b, s4 = .bool b) ∧ wx = w.alloc (.cells #[.int .i64 xk, .int .i64 xo, .string xt, .int .i64 vk, .bool vn, .slice a1 n1 m1, .int .u64 vb, .string vt, .slice a2 n2 m2, .slice a3 n3 m3, .slice a4 n4 m4] 164))
  case first =>
   go_wp2
   all_goals subst_vars
   all_goals go_meet
   all_goals exact ⟨⟨_, rfl⟩, rfl⟩
  case rest =>
   obtain ⟨⟨b4, rfl⟩, rfl⟩ := hcut
   cases vn
   all_goals go_upto_region 4 with (fail)
   ·go_cut [6] (fun s6 wx => (∃ b, s6 = .bool b) ∧ wx = (w.alloc (.cells #[.int .i64 xk, .int .i64 xo, .string xt, .int .i64 vk, .bool false, .slice a1 n1 m1, .int .u64 vb, .string vt, .slice a2 n2 m2, .slice a3 n3 m3, .slice a4 n4 m4] 164)).alloc (.cells #[.int .i64 vk, .bool false, .slice a1 n1 m1, .int .u64 vb, .string vt, .slice a2 n2 m2] 162))
    case first =>
     go_wp2
     all_goals subst_vars
     all_goals go_meet
     all_goals exact ⟨⟨_, rfl⟩, rfl⟩
    case rest =>
     obtain ⟨⟨b6, rfl⟩, rfl⟩ := hcut
     cases b3 <;> cases b4 <;> cases b6
     all_goals go_wp2
     all_goals go_ret
     all_goals exact ⟨_, rfl, bA.alloc (by simp) _⟩
   ·go_cut [6] (fun s6 wx => (∃ b, s6 = .bool b) ∧ wx = (w.alloc (.cells #[.int .i64 xk, .int .i64 xo, .string xt, .int .i64 vk, .bool true, .slice a1 n1 m1, .int .u64 vb, .string vt, .slice a2 n2 m2, .slice a3 n3 m3, .slice a4 n4 m4] 164)).alloc (.cells #[.int .i64 vk, .bool true, .slice a1 n1 m1, .int .u64 vb, .string vt, .slice a2 n2 m2] 162))
    case first =>
     go_wp2
     all_goals subst_vars
     all_goals go_meet
     all_goals exact ⟨⟨_, rfl⟩, rfl⟩
    case rest =>
     obtain ⟨⟨b6, rfl⟩, rfl⟩ := hcut
     cases b3 <;> cases b4 <;> cases b6
     all_goals go_wp2
     all_goals go_ret
     all_goals exact ⟨_, rfl, bA.alloc (by simp) _⟩
end Go.Proofs.YtabeokminikfdaaGreat
