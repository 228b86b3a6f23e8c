import Derived.Test.YtabeokminikfdaaGreatQB1
import Derived.Deep.DeepCutAuto
set_option linter.all false
set_option maxRecDepth 100000
set_option maxHeartbeats 4000000
namespace Go.Proofs.YtabeokminikfdaaGreat
open Go.RowKit
def SameB (w : World) (e : Ending) (w' : World) : Prop := ∃ b, e = .returned (.bool b) ∧ w = w'
theorem f25_any (s : ByteArray) (w : World) : Calls Tryz.prog 25 #[.string s] w (SameB w) := by
  go_enter Tryz.func25, Tryz.ntmps25
  go_wp2
  all_goals go_ret
  all_goals exact ⟨_, rfl, rfl⟩
theorem f19_all (s : ByteArray) (w : World) : Calls Tryz.prog 19 #[.string s] w (SameB w) := by
  go_enter Tryz.func19, Tryz.ntmps19
  go_wp2_with (go_at_call 25; refine (f25_any s w).mono ?_; rintro e w' ⟨b, rfl, rfl⟩)
  · go_ret
    exact ⟨_, rfl, rfl⟩
  · go_ret
    exact ⟨_, rfl, rfl⟩
  · go_loop [3] (fun i => ∃ k : Nat, k ≤ s.size ∧ i = .int .i64 k) (fun i => s.size - (intOf i).toNat)
    case atStart => exact ⟨0, Nat.zero_le _, rfl⟩
    case round =>
      obtain ⟨k, hk, rfl⟩ := hrel
      by_cases hlt : k < s.size
      · go_wp2
        all_goals first
          | (go_round
             case rel => exact ⟨k + 1, by omega, by go_num⟩
             case measure =>
               simp [intOf]
               omega)
          | (go_ret
             exact ⟨_, rfl, rfl⟩)
      · go_wp2
        go_ret
        exact ⟨_, rfl, rfl⟩
  · go_ret
    exact ⟨_, rfl, rfl⟩
theorem f19_any (s : ByteArray) (_ : s.size ≤ maxLen) (w : World) : Calls Tryz.prog 19 #[.string s] w (SameB w) := f19_all s w
end Go.Proofs.YtabeokminikfdaaGreat
