/- A row of bytes of the call's own, by its cells; a string made bytes. -/
import Derived.Test.YtgcofpmhojplhaaGreatDoorS1
import Derived.Lib.ConvBytes
import Derived.Laws.BytesArg
import Derived.Laws.BitsAllLaws
namespace Go.Proofs.YtgcofpmhojplhaaGreatDoor
open Go.RowKit Go.Lib

/-- Block g holds the bytes l, and they may be written. -/
def BRow (g : Nat) (w : World) (l : List UInt8) : Prop := g < w.heap.size ∧ ∀ j, j < l.length → w.cell? ⟨g, j, none⟩ = some (.int .u8 ((l.getD j 0).toNat : Int)) ∧ w.frozen? ⟨g, j, none⟩ = false
theorem BRow.stored {g : Nat} {w : World} {l : List UInt8} (h : BRow g w l) (i : Nat) (hi : i < l.length) (b : UInt8) : BRow g (w.setCell ⟨g, i, none⟩ (.int .u8 (b.toNat : Int))) (l.set i b) := by
  refine ⟨by simpa using h.1, fun j hj => ?_⟩
  rw [List.length_set] at hj
  refine ⟨?_, by rw [World.frozen?_setCell]; exact (h.2 j hj).2⟩
  by_cases hij : i = j
  · subst hij
    rw [World.cell?_setCell_same' _ _ _ (by rw [(h.2 i hi).1]; rfl)]
    simp [List.getD_eq_getElem?_getD, hi]
  · rw [World.cell?_setCell_other _ _ _ _ (by intro h; cases h; exact hij rfl), (h.2 j hj).1]
    simp [List.getD_eq_getElem?_getD, List.getElem?_set_ne hij]
theorem BRow.made (w : World) (s : ByteArray) : BRow w.heap.size (bytesWorld w 5 s) s.data.toList := by
  refine ⟨by rw [bytesWorld_size]; omega, fun j hj => ⟨bytesWorld_cell w 5 s j (by rw [size_list0]; exact hj), ?_⟩⟩
  have hl : j < (bytesCells w 5 s).size := by
    unfold bytesCells
    rw [Array.size_append, Array.size_map]
    rw [Array.length_toList] at hj
    omega
  simp [World.frozen?, bytesWorld_at_new]
  omega
theorem made_below (w : World) (s : ByteArray) : Below w.heap.size w (bytesWorld w 5 s) :=
  ⟨rfl, rfl, rfl, by rw [bytesWorld_size]; omega, fun j hj => bytesWorld_at_old w 5 s j hj⟩
theorem nums_back (l : List UInt8) : strOfNums (l.map fun b => (b.toNat : Int)) = ⟨l.toArray⟩ := by
  unfold strOfNums
  rw [List.map_map]
  congr 2
  conv => rhs; rw [← List.map_id l]
  exact List.map_congr_left fun b _ => by simp
theorem BRow.string {g : Nat} {w : World} {l : List UInt8} (h : BRow g w l) (c : Nat) : (convert 25 9 (.slice (some ⟨g, 0, none⟩) l.length c)).run Tryz.prog w = .ok (.string ⟨l.toArray⟩) w := by
  have e := run_convert_bytes_arg (P := Tryz.prog) w 25 5 Tryz.underlying25 Tryz.underlying5 g 0 l.length c (l.map fun b => (b.toNat : Int)) (by simp) (fun i hi => by
    rw [Nat.zero_add, (h.2 i hi).1]
    simp [List.getD_eq_getElem?_getD, hi]) 9 Tryz.underlying9
  rw [nums_back] at e
  exact e
end Go.Proofs.YtgcofpmhojplhaaGreatDoor
