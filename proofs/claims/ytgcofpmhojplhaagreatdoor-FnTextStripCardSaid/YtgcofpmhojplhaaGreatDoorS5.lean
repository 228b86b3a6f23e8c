/- Walks of the reference's strip. (Printed by mks5.py.) -/
import Derived.Test.YtgcofpmhojplhaaGreatDoorS4
namespace Go.Proofs.YtgcofpmhojplhaaGreatDoor
open Go.RowKit

/-- A text as a value, and that there is one. -/
def ValIs (l : List UInt8) (w : World) (e : Ending) (w' : World) : Prop := ∃ t : ByteArray, t.data.toList = l ∧ e = .returned (.tuple #[.agg #[.int .i64 4, .bool false, .slice none 0 0, .int .u64 0, .string t, .slice none 0 0], .bool true]) ∧ Below w.heap.size w w'
theorem head_one (t : ByteArray) (b : UInt8) (r : List UInt8) (h : t.data.toList = b :: r) : t.extract 0 1 = ⟨#[b]⟩ := by
  have e : (t.extract 0 1).data.toList = [b] := by
    rw [ByteArray.data_extract, Array.toList_extract, List.extract_eq_take_drop, h]; rfl
  cases hx : t.extract 0 1 with
  | mk d => rw [hx] at e; cases d with | mk l => simp at e; rw [e]
theorem last_one (t : ByteArray) (b : UInt8) (r : List UInt8) (h : t.data.toList = r ++ [b]) : t.extract (t.size - 1) t.size = ⟨#[b]⟩ := by
  have hs : t.size = r.length + 1 := by rw [size_list0, h]; simp
  have e : (t.extract (t.size - 1) t.size).data.toList = [b] := by
    rw [ByteArray.data_extract, Array.toList_extract, List.extract_eq_take_drop, h, hs, Nat.add_sub_cancel, Nat.add_sub_cancel_left, List.drop_left]; rfl
  cases hx : t.extract (t.size - 1) t.size with
  | mk d => rw [hx] at e; cases d with | mk l => simp at e; rw [e]
end Go.Proofs.YtgcofpmhojplhaaGreatDoor
