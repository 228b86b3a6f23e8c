/- Walks of the reference: a text as a value. -/
import Derived.Test.YtgcofpmhojplhaaGreatDoorR0
namespace Go.Proofs.YtgcofpmhojplhaaGreatDoor
open Go.RowKit

set_option maxRecDepth 100000 in
theorem f6_any (s : ByteArray) (w : World) : Calls Tryz.prog 6 #[.string s] w fun e w' => e = .returned (.agg #[.int .i64 4, .bool false, .slice none 0 0, .int .u64 0, .string s, .slice none 0 0]) ∧ Below w.heap.size w w' := by
  go_enter Tryz.func6, Tryz.ntmps6
  go_wp2
  refine bodyPost_ret (v := .agg #[.int .i64 4, .bool false, .slice none 0 0, .int .u64 0, .string s, .slice none 0 0]) (by simp [results, Tryz.results6, go_sem]) rfl ⟨rfl, ?_⟩
  exact (Below.refl _ _).alloc (Nat.le_refl _) _
end Go.Proofs.YtgcofpmhojplhaaGreatDoor
