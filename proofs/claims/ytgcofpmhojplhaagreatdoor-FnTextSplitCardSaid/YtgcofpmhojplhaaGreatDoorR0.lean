/- Common words of this seat's walks. -/
import Derived.Test.YtgcofpmhojplhaaGreatDoorProg
import Derived.Test.YtgcofpmhojplhaaGreatDoorMP
import Derived.WalkKit
import Derived.WalkSpells
import Derived.WalkLawsBesides
import Derived.Deep.QuietTactic
import Derived.BigQuiet
import Derived.Lib.Hide
import Derived.Lib.SmallJoins
import Derived.Deep.DeepCutAuto
import Derived.Deep.RegionWith
import Derived.Deep.RegionHeld3
import Derived.Laws.RangeString
namespace Go.Proofs.YtgcofpmhojplhaaGreatDoor
open Go.RowKit

def strSize : Value → Nat
  | .string b => b.size
  | _ => 0
theorem below_drewN {B : Nat} {a w : World} (h : Below B a w) (n : Nat) : Below B a (w.drewN n) := ⟨h.os, h.tape, h.output, h.size, h.block⟩
theorem bcell {W w1 : World} (hb : Below W.heap.size W w1) : (∀ b o, b < W.heap.size → w1.cell? ⟨b, o, none⟩ = W.cell? ⟨b, o, none⟩) ∧ (∀ b o, b < W.heap.size → w1.frozen? ⟨b, o, none⟩ = W.frozen? ⟨b, o, none⟩) :=
  ⟨fun b o h => hb.cell (p := ⟨b, o, none⟩) h, fun b o h => hb.frozen (p := ⟨b, o, none⟩) h⟩
theorem cell_below {w w' : World} {a : Addr} {v : Value} (h : w.cell? a = some v) (hb : Below w.heap.size w w') : w'.cell? a = some v :=
  (hb.cell (World.block_lt_of_cell? w _ h)).trans h
theorem at_list (s : ByteArray) (i : Nat) (h : i < s.size) (l : List UInt8) (hl : s.data.toList = l) : s[i] = l.getD i 0 := by
  subst hl
  rw [List.getD_eq_getElem?_getD, List.getElem?_eq_getElem (by rw [← size_list0]; exact h)]
  rfl
theorem byte_eq (a b : UInt8) : ((a.toNat : Int) == (b.toNat : Int)) = (a == b) := by
  rw [Bool.eq_iff_iff, beq_iff_eq, beq_iff_eq]
  exact ⟨fun h => UInt8.toNat_inj.1 (by omega), fun h => by rw [h]⟩
theorem int_ne (a b : Int) (h : ¬ a = b) : (a == b) = false := by simpa using h

/-- Where a byte stands: below 0: nowhere. -/
def PlaceIs (l : List UInt8) (b : UInt8) (w : World) (e : Ending) (w' : World) : Prop := ∃ z : Int, decide (z ≥ 0) = l.contains b ∧ e = .returned (.int .i64 z) ∧ w = w'
theorem one_at (s : ByteArray) (b : UInt8) (k : Nat) (h : k < s.size) : ((s.extract k (k + 1)).toList == (⟨#[b]⟩ : ByteArray).toList) = (s.data.toList.getD k 0 == b) := by
  have e : (s.extract k (k + 1)).data.toList = [s.data.toList.getD k 0] := by
    rw [ByteArray.data_extract, Array.toList_extract, List.extract_eq_take_drop, Nat.add_sub_cancel_left, drop_step _ k (by rw [← size_list0]; exact h)]
    rfl
  rw [ByteArray.toList_eq, ByteArray.toList_eq, e]
  simp
set_option maxRecDepth 100000 in
theorem f48_one (s : ByteArray) (b : UInt8) (hs : s.size ≤ 100000) (w : World) : Calls Tryz.prog 48 #[.string s, .string ⟨#[b]⟩] w (PlaceIs s.data.toList b w) := by
  have hone : (⟨#[b]⟩ : ByteArray).size = 1 := rfl
  have HT := Lib.hid (fun k hk => one_at s b k hk)
  generalize (⟨#[b]⟩ : ByteArray) = p at *
  go_enter Tryz.func48, Tryz.ntmps48
  go_wp2
  go_loop [5] (fun i => ∃ k : Nat, k ≤ s.size ∧ i = .int .i64 k ∧ Hid ((s.data.toList.take k).contains b = false)) (fun i => s.size - (RowKit.intOf i).toNat)
  case atStart => exact ⟨0, Nat.zero_le _, rfl, by show _ = _; simp⟩
  case round =>
    obtain ⟨k, hk, rfl, HN⟩ := hrel
    by_cases hks : k < s.size
    · have hkl : k < s.data.toList.length := by rw [← size_list0]; exact hks
      have ht := HT.out k hks
      by_cases hb : s.data.toList.getD k 0 = b
      · have ht' : ((s.extract k (k + 1)).toList == p.toList) = true := by rw [ht]; simpa using hb
        have HC : Hid (s.data.toList.contains b = true) := by
          show _ = _
          rw [List.contains_iff_mem, ← hb, List.getD_eq_getElem?_getD, List.getElem?_eq_getElem hkl]
          exact List.getElem_mem hkl
        clear ht hb hkl
        go_wp2
        go_ret
        exact ⟨k, by rw [HC.out]; simp, rfl, rfl⟩
      · have ht' : ((s.extract k (k + 1)).toList == p.toList) = false := by rw [ht]; simpa using hb
        have HN2 : Hid ((s.data.toList.take (k + 1)).contains b = false) := by
          show _ = _
          have h1 := HN.out
          rw [take_step _ k hkl]
          simp only [List.contains_eq_mem, List.mem_append, List.mem_singleton, decide_eq_false_iff_not, not_or] at h1 ⊢
          exact ⟨h1, fun h => hb h.symm⟩
        clear ht hb hkl
        go_wp2
        go_round
        case rel => exact ⟨k + 1, by omega, by go_num, HN2.out⟩
        case measure => simp [RowKit.intOf]; omega
    · have HC : Hid (s.data.toList.contains b = false) := by
        show _ = _
        have h1 := HN.out
        rw [List.take_of_length_le (by rw [← size_list0]; omega)] at h1
        exact h1
      go_wp2
      go_ret
      exact ⟨-1, by rw [HC.out]; rfl, rfl, rfl⟩
end Go.Proofs.YtgcofpmhojplhaaGreatDoor
