/- The walk of the laws' 'is': the value of the thin package is the reference's integer. -/
import Derived.Test.YtidkdjnfpepnfaaSp2
namespace Go.Proofs.Ytidkdjnfpepnfaa
open Go.RowKit

set_option maxRecDepth 100000 in
set_option maxHeartbeats 2000000 in
theorem f8_any (n m : Nat) (hn : n ≤ 2147483647) (v x : Value) (z : Int) (w : World) (B B' : Nat) (hv : VInt B n w v z) (hx : SInt B' m w x z) :
    Calls Try.prog 8 #[v, x] w fun e w' => e = .returned (.bool true) ∧ Below w.heap.size w w' := by
  obtain ⟨s1, l, rfl, r1, b1, hl⟩ := hv
  obtain ⟨s2, l', rfl, r2, b2, hl'⟩ := hx
  obtain rfl := b1.uniq b2
  clear b1 b2 hl'
  generalize decide (z < 0) = d at *
  by_cases h0 : l.length = 0
  · obtain rfl : l = [] := List.eq_nil_of_length_eq_zero h0
    obtain ⟨a1, c1, rfl⟩ := r1.len
    obtain ⟨a2, c2, rfl⟩ := r2.len
    clear r1 r2 h0
    go_enter Try.func8, Try.ntmps8
    go_wp2_with fail
    go_loop [5, 44] (fun _ i => i = .int .i64 0) (fun _ _ => 0)
    case atStart => rfl
    case round =>
      obtain rfl := hrel
      go_wp2
      go_ret
      exact ⟨rfl, ((Below.refl _ _).alloc (Nat.le_refl _) _).alloc (by simp) _⟩
  · rcases r1 with ⟨rfl, _⟩ | ⟨_, g1, o1, c1, rfl, hc1, _, hg1, hcell1⟩
    · simp at h0
    rcases r2 with ⟨rfl, _⟩ | ⟨_, g2, o2, c2, rfl, hc2, _, hg2, hcell2⟩
    · simp at h0
    have H1 := Lib.hid hcell1
    have H2 := Lib.hid hcell2
    clear hcell1 hcell2
    go_enter Try.func8, Try.ntmps8
    go_wp2_with fail
    go_loopw [5, 44] (fun _ i wr => ∃ k : Nat, i = .int .i64 k ∧ k ≤ l.length ∧ ∃ nq, wr = ((w.alloc (.cells #[.int .i64 2, .bool d, .slice (some ⟨g1, o1, none⟩) l.length c1, .int .u64 0, .string ⟨#[]⟩, .slice none 0 0] 27)).alloc (.cells #[.bool d, .slice (some ⟨g2, o2, none⟩) l.length c2] 30)).drewN nq) (fun _ i _ => l.length - (intOf i).toNat)
    case atStart => exact ⟨0, rfl, Nat.zero_le _, 0, rfl⟩
    case round =>
      obtain ⟨k, rfl, hk, nq, rfl⟩ := hrel
      by_cases hlt : k < l.length
      · have e1 := H1.out k hlt
        have e2 := H2.out k hlt
        have n1 : g1 ≠ w.heap.size := by omega
        have n2 : g2 ≠ w.heap.size := by omega
        have n3 : g1 ≠ w.heap.size + 1 := by omega
        have n4 : g2 ≠ w.heap.size + 1 := by omega
        go_wp2
        go_quiet (fail)
        go_wp2
        go_roundw
        case rel => exact ⟨k + 1, by go_num, by omega, by first | exact ⟨_, rfl⟩ | (simp only [World.drewN_drewN]; exact ⟨_, rfl⟩)⟩
        case measure => simp [intOf]; omega
      · obtain rfl : k = l.length := by omega
        go_wp2
        go_ret
        exact ⟨rfl, below_drewN (((Below.refl _ _).alloc (Nat.le_refl _) _).alloc (by simp) _) _⟩
end Go.Proofs.Ytidkdjnfpepnfaa
