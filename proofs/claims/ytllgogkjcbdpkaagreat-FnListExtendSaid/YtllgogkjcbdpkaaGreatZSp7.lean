/- Written by wip/tools/port2.py out of the text ZSp7 of seat YtgcofpmhojplhaaGreatDoor. -/
/- Written by wip/tools/port2.py out of the text Sp7 of seat Ytidkdjnfpepnfaa. -/
/- Walks of the reference's Power, Zero. -/
import Derived.Test.YtllgogkjcbdpkaaGreatZSp5
namespace Go.Proofs.YtllgogkjcbdpkaaGreat.Z
open Go.RowKit

theorem bv_zeros (k : Nat) : bv (List.replicate k 0) = 0 := by
  induction k with
  | zero => rfl
  | succ k ih => simp [List.replicate_succ, bv, ih]

set_option maxRecDepth 100000 in
theorem f55_any (v : Value) (z : Int) (B k : Nat) (w : World) (hx : SInt B k w v z) : Calls Tryz.prog 55 #[v] w fun e w' => e = .returned (.bool (decide (z = 0))) ∧ Below w.heap.size w w' := by
  obtain ⟨s1, l1, rfl, r1, b1, hl1⟩ := hx
  obtain ⟨a1, c1, rfl⟩ := r1.len
  have F : Hid (decide (z = 0) = ((l1.length : Int) == 0)) := by
    show _ = _
    have := b1.zero
    rw [Bool.eq_iff_iff]; simp
    constructor
    · rintro rfl; exact b1.zero.1 rfl
    · intro h; have := b1.zero.2 h; omega
  clear r1 b1
  generalize decide (z < 0) = d at *
  go_enter Tryz.func55, Tryz.ntmps55
  go_wp2
  go_ret
  exact ⟨ret_bool F.out.symm, (Below.refl _ _).alloc (Nat.le_refl _) _⟩
end Go.Proofs.YtllgogkjcbdpkaaGreat.Z
