/- Walks of the reference: a text below 128. -/
import Derived.Test.YtgcofpmhojplhaaGreatDoorS2
namespace Go.Proofs.YtgcofpmhojplhaaGreatDoor
open Go.RowKit

def low7 (b : UInt8) : UInt8 := b &&& 127
def msk (l : List UInt8) (i : Nat) : List UInt8 := (l.take i).map low7 ++ l.drop i
theorem msk_len (l : List UInt8) (i : Nat) : (msk l i).length = l.length := by unfold msk; simp; omega
theorem msk_get (l : List UInt8) (i : Nat) (h : i < l.length) : (msk l i).getD i 0 = l.getD i 0 := by
  unfold msk
  rw [List.getD_eq_getElem?_getD, List.getElem?_append_right (by simp; omega), List.length_map, List.length_take, Nat.min_eq_left (by omega), Nat.sub_self, drop_step l i h]
  rfl
theorem msk_set (l : List UInt8) (i : Nat) (h : i < l.length) : (msk l i).set i (low7 (l.getD i 0)) = msk l (i + 1) := by
  unfold msk
  rw [List.set_append_right _ _ (by simp; omega), List.length_map, List.length_take, Nat.min_eq_left (by omega), Nat.sub_self, drop_step l i h, take_step l i h]
  simp
theorem low7_bits (b : UInt8) : bits BinOp.and IntKind.u8 (b.toNat : Int) 127 = ((low7 b).toNat : Int) := by
  rw [show (127 : Int) = ((127 : Nat) : Int) from rfl, u8_and_nat _ _ (UInt8.toNat_lt _) (by decide)]
  unfold low7
  rw [UInt8.toNat_and]
  rfl
theorem low7_asc (l : List UInt8) : Asc (l.map low7) := fun b hb => by
  obtain ⟨c, _, rfl⟩ := List.mem_map.1 hb
  unfold low7
  rw [UInt8.toNat_and]
  exact Nat.lt_of_le_of_lt Nat.and_le_right (by decide)
end Go.Proofs.YtgcofpmhojplhaaGreatDoor
