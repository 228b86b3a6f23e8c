/- Walks of the reference: the place of a part in a text, at the sixteen digits. -/
import Derived.Test.YtbimbpplkhdeiaaDoorRb
namespace Go.Proofs.YtbimbpplkhdeiaaDoor
open Go.RowKit Go.Lib

def digs : ByteArray := ⟨#[48, 49, 50, 51, 52, 53, 54, 55, 56, 57, 97, 98, 99, 100, 101, 102]⟩
theorem digs_get : ∀ k < 16, ∀ d < 16, (((digs.data.toList.drop k).take 1) == [hexB d]) = decide (k = d) := by decide
theorem digs_at (k d : Nat) (hk : k < 16) (hd : d < 16) : ((digs.extract k (k + 1)).toList == (⟨#[hexB d]⟩ : ByteArray).toList) = decide (k = d) := by
  rw [← digs_get k hk d hd]
  simp [ByteArray.toList_eq, ByteArray.data_extract, Array.toList_extract, List.extract_eq_take_drop]
set_option maxRecDepth 100000 in
theorem f16_hex (d : Nat) (hd : d < 16) (w : World) : Calls Tryd.prog 16 #[.string digs, .string ⟨#[hexB d]⟩] w fun e w' => e = .returned (.int .i64 d) ∧ w = w' := by
  have hsz : digs.size = 16 := rfl
  have hone : (⟨#[hexB d]⟩ : ByteArray).size = 1 := rfl
  have HT := Lib.hid (fun k hk => digs_at k d hk hd)
  generalize (⟨#[hexB d]⟩ : ByteArray) = b at *
  go_enter Tryd.func16, Tryd.ntmps16
  go_wp2
  go_loop [5] (fun i => ∃ k : Nat, k ≤ d ∧ i = .int .i64 k) (fun i => 16 - (intOf i).toNat)
  case atStart => exact ⟨0, Nat.zero_le _, rfl⟩
  case round =>
    obtain ⟨k, hk, rfl⟩ := hrel
    have ht := HT.out k (by omega)
    by_cases hkd : k = d
    · subst hkd
      have ht' : ((digs.extract k (k + 1)).toList == b.toList) = true := by rw [ht]; exact decide_eq_true rfl
      clear ht
      go_wp2
      go_ret
      exact ⟨rfl, rfl⟩
    · have ht' : ((digs.extract k (k + 1)).toList == b.toList) = false := by rw [ht]; exact decide_eq_false hkd
      clear ht
      go_wp2
      go_round
      case rel => exact ⟨k + 1, by omega, by go_num⟩
      case measure => simp [intOf]; omega
end Go.Proofs.YtbimbpplkhdeiaaDoor
