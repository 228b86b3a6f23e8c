/- Written by wip/tools/port2.py out of the text IbWalk of seat Ytidkdjnfpepnfaa. -/
/- The walk of laws.FnIntBack; what the laws are told of their bytes. -/
import Derived.Test.YtllgogkjcbdpkaaGreatDoorMZ
import Derived.Test.YtllgogkjcbdpkaaGreatDoorZSp3
namespace Go.Proofs.YtllgogkjcbdpkaaGreatDoor.Z
open Go.RowKit

/-- A slice of bytes that came in, as a list of numbers. -/
theorem IsRow.toRow {w : World} {a : Option Addr} {len cap : Nat} {zs : List Int} (h : IsRow .u8 w a len cap zs) :
    ∃ l : List Nat, l.length = len ∧ (∀ d ∈ l, d < 256) ∧ Row 0 .u8 w (.slice a len cap) l := by
  rcases h with ⟨rfl, rfl, rfl, rfl⟩ | ⟨x, rfl, h1, h2, h3, h4, h5⟩
  · exact ⟨[], rfl, by simp, .inl ⟨rfl, .inl rfl⟩⟩
  · by_cases h0 : len = 0
    · subst h0
      exact ⟨[], rfl, by simp, .inl ⟨rfl, .inr ⟨_, _, rfl⟩⟩⟩
    · have hwf : ∀ i, i < zs.length → 0 ≤ zs.getD i 0 ∧ zs.getD i 0 < 256 := fun i hi => by
        have := h5 (zs.getD i 0) (by simp [hi])
        generalize zs.getD i 0 = y at *
        simp [Lit.wf, show IntKind.u8.min = 0 from by decide, show IntKind.u8.max = 255 from by decide] at this
        omega
      have hx : x.spot = none := by
        have := h4 0 (by omega)
        have hx0 : x.add 0 = x := by simp [Addr.add]
        rw [hx0] at this
        unfold World.cell? at this
        split at this
        · cases hsp : x.spot with
          | none => rfl
          | some s => simp [hsp] at this
        · cases this
      obtain ⟨g, off, sp⟩ := x
      simp only at hx
      subst hx
      have hadd : ∀ i, (⟨g, off, none⟩ : Addr).add i = ⟨g, off + i, none⟩ := fun i => by unfold Addr.add; split <;> simp_all
      refine ⟨(zs.take len).map Int.toNat, by simp; omega, fun d hd => ?_, .inr ⟨by simp; omega, g, off, cap, ?_, by simp; omega, Nat.zero_le _, ?_, fun i hi => ?_⟩⟩
      · obtain ⟨y, hy, rfl⟩ := List.mem_map.1 hd
        obtain ⟨i, hi, rfl⟩ := List.getElem_of_mem (List.mem_of_mem_take hy)
        have := hwf i hi
        simp [hi] at this
        omega
      · simp [Nat.min_eq_left (show len ≤ zs.length by omega)]
      · have := h4 0 (by omega)
        rw [hadd] at this
        exact World.block_lt_of_cell? w ⟨g, off + 0, none⟩ this
      · simp at hi
        have h6 := h4 i (by omega)
        have h7 := hwf i (by omega)
        rw [hadd] at h6
        rw [h6]
        have h8 : i < zs.length := by omega
        have h9 : i < len := by omega
        simp [h8] at h7
        simp [h8, h9]
        omega

theorem SInt.shape {B n : Nat} {w : World} {v : Value} {z : Int} (h : SInt B n w v z) : ∃ d a k c, v = .agg #[.bool d, .slice a k c] := by
  obtain ⟨sl, l, rfl, hr, _⟩ := h
  obtain ⟨a, c, rfl⟩ := hr.len
  exact ⟨_, _, _, _, rfl⟩
theorem VInt.drew {B n : Nat} {w : World} {v : Value} {z : Int} (h : VInt B n w v z) : VInt B n w.drew v z := h
theorem SInt.drew {B n : Nat} {w : World} {v : Value} {z : Int} (h : SInt B n w v z) : SInt B n w.drew v z := h

end Go.Proofs.YtllgogkjcbdpkaaGreatDoor.Z
