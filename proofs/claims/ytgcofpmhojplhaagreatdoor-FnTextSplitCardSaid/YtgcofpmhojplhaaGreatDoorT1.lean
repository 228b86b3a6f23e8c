/- Walks of the package's search and cuts: zzIndex, zzSplit, zzSplitN. -/
import Derived.Test.YtgcofpmhojplhaaGreatDoorR0
import Derived.Test.YtgcofpmhojplhaaGreatDoorMP
namespace Go.Proofs.YtgcofpmhojplhaaGreatDoor
open Go.RowKit

/-- A text of these bytes. -/
def txt (l : List UInt8) : ByteArray := ⟨l.toArray⟩
theorem txt_list (l : List UInt8) : (txt l).data.toList = l := rfl
theorem txt_of (t : ByteArray) : txt t.data.toList = t := by
  cases t with | mk d => cases d with | mk l => rfl
theorem txt_size (l : List UInt8) : (txt l).size = l.length := by rw [size_list0]; rfl
theorem ext_list (s : ByteArray) (a b : Nat) : (s.extract a b).data.toList = (s.data.toList.drop a).take (b - a) := by
  rw [ByteArray.data_extract, Array.toList_extract, List.extract_eq_take_drop]
theorem ext_txt (s : ByteArray) (a b : Nat) : s.extract a b = txt ((s.data.toList.drop a).take (b - a)) := by rw [← ext_list, txt_of]
def strs (l : List (List UInt8)) : List Value := l.map fun x => .string (txt x)
theorem strs_len (l : List (List UInt8)) : (strs l).length = l.length := by simp [strs]
def idxZ : Option Nat → Int
  | none => -1
  | some k => (k : Int)
def IdxIs (o : Option Nat) (w : World) (e : Ending) (w' : World) : Prop := e = .returned (.int .i64 (idxZ o)) ∧ w = w'
theorem hit_at (s p : ByteArray) (k : Nat) : ((s.extract k (k + p.size)).toList == p.toList) = hit p.data.toList (s.data.toList.drop k) := by
  rw [ByteArray.toList_eq, ByteArray.toList_eq, ext_list, Nat.add_sub_cancel_left, size_list0]
  unfold hit
  rw [Bool.eq_iff_iff]
  simp
set_option maxRecDepth 100000 in
theorem f93_any (s p : ByteArray) (hs : s.size ≤ 100000) (hp : p.size ≤ 100000) (w : World) : Calls Tryz.prog 93 #[.string s, .string p] w (IdxIs (idx p.data.toList s.data.toList) w) := by
  have HT := Lib.hid (hit_at s p)
  go_enter Tryz.func93, Tryz.ntmps93
  go_wp2
  go_loop [5] (fun i => ∃ k : Nat, k ≤ s.size ∧ i = .int .i64 k ∧ Hid (idx p.data.toList s.data.toList = (idx p.data.toList (s.data.toList.drop k)).map (· + k))) (fun i => s.size - (RowKit.intOf i).toNat)
  case atStart => exact ⟨0, Nat.zero_le _, rfl, by show _ = _; simp⟩
  case round =>
    obtain ⟨k, hk, rfl, HN⟩ := hrel
    by_cases hkp : k + p.size ≤ s.size
    · have hkp' : (k : Int) + (p.size : Int) ≤ (s.size : Int) := by omega
      by_cases hh : hit p.data.toList (s.data.toList.drop k) = true
      · have ht : ((s.extract k (k + p.size)).toList == p.toList) = true := by rw [HT.out]; exact hh
        have HC : Hid (idxZ (idx p.data.toList s.data.toList) = (k : Int)) := by
          show _ = _
          rw [HN.out, idx_hit _ _ hh]; simp [idxZ]
        clear hh
        go_wp2
        go_ret
        exact ⟨by rw [HC.out]; rfl, rfl⟩
      · have hh : hit p.data.toList (s.data.toList.drop k) = false := by simpa using hh
        have ht : ((s.extract k (k + p.size)).toList == p.toList) = false := by rw [HT.out]; exact hh
        have hlt : k < s.size := by
          rcases Nat.lt_or_ge k s.size with h | h
          · exact h
          · have hz : p.data.toList = [] := List.length_eq_zero_iff.1 (by rw [← size_list0]; omega)
            rw [hz] at hh
            simp [hit] at hh
        have HN2 : Hid (idx p.data.toList s.data.toList = (idx p.data.toList (s.data.toList.drop (k + 1))).map (· + (k + 1))) := by
          show _ = _
          rw [HN.out]
          rw [drop_step _ k (by rw [← size_list0]; exact hlt)] at hh ⊢
          rw [idx_miss _ _ _ hh, Option.map_map]
          congr 1
          funext x
          simp; omega
        clear hh
        go_wp2
        go_round
        case rel => exact ⟨k + 1, by omega, by go_num, HN2.out⟩
        case measure => simp [RowKit.intOf]; omega
    · have hkp' : ¬ (k : Int) + (p.size : Int) ≤ (s.size : Int) := by omega
      have HC : Hid (idxZ (idx p.data.toList s.data.toList) = -1) := by
        show _ = _
        rw [HN.out, idx_short _ _ (by rw [List.length_drop, ← size_list0, ← size_list0]; omega)]; rfl
      go_wp2
      go_ret
      exact ⟨by rw [HC.out]; rfl, rfl⟩
end Go.Proofs.YtgcofpmhojplhaaGreatDoor
