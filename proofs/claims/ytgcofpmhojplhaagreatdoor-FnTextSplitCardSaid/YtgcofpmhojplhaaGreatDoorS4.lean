/- The walk of the reference's Ascii. (Printed by mks4.py.) -/
import Derived.Test.YtgcofpmhojplhaaGreatDoorS3
namespace Go.Proofs.YtgcofpmhojplhaaGreatDoor
open Go.RowKit

def ascL (l : List UInt8) : List UInt8 := (l.take 60).map low7
/-- Makes just this text. -/
def TextMade (l : List UInt8) (w : World) (e : Ending) (w' : World) : Prop := e = .returned (.string ⟨l.toArray⟩) ∧ Below w.heap.size w w'
set_option maxRecDepth 100000 in
set_option maxHeartbeats 1000000 in
theorem f5_short (s : ByteArray) (hs : s.size ≤ 60) (w : World) : Calls Tryz.prog 5 #[.string s] w (TextMade (ascL s.data.toList) w) := by
  have HL : Hid (s.data.toList = s.data.toList.take 60) := by
    show _ = _
    rw [List.take_of_length_le (by rw [← size_list0]; exact hs)]
  have hcv := Lib.run_convert_string_bytes (P := Tryz.prog) w 9 25 5 s Tryz.underlying9 Tryz.underlying25 Tryz.underlying5
  have HR := Lib.hid (BRow.made w s)
  have HBW := Lib.hid (made_below w s)
  have HLL : Hid (s.data.toList.length = s.size) := by show _ = _; rw [← size_list0]
  generalize hgl : s.data.toList = l at HL HR HLL ⊢
  clear hgl
  generalize grownCap w s.size 0 5 = C at *
  generalize Lib.bytesWorld w 5 s = w1 at *
  go_enter Tryz.func5, Tryz.ntmps5
  go_wp2
  go_loopw [4, 13] (fun _ i wr => ∃ n : Nat, n ≤ s.size ∧ i = .int .i64 n ∧ Hid (BRow w.heap.size wr (msk l n)) ∧ Hid (Below w.heap.size w wr)) (fun _ i _ => s.size - (RowKit.intOf i).toNat)
  case atStart => exact ⟨0, Nat.zero_le _, rfl, HR.out, HBW.out⟩
  case round =>
    obtain ⟨n, hn, rfl, HN, HB⟩ := hrel
    by_cases hnk : n < s.size
    · have hnl : n < l.length := by rw [HLL.out]; exact hnk
      have hc := (HN.out.2 n (by rw [msk_len]; exact hnl)).1
      have hf := (HN.out.2 n (by rw [msk_len]; exact hnl)).2
      rw [msk_get l n hnl] at hc
      have hb := low7_bits (l.getD n 0)
      have HS := Lib.hid (HN.out.stored n (by rw [msk_len]; exact hnl) (low7 (l.getD n 0)))
      rw [msk_set l n hnl] at HS
      have HB2 : Hid (Below w.heap.size w (wr.setCell ⟨w.heap.size, n, none⟩ (.int .u8 ((low7 (l.getD n 0)).toNat : Int)))) := HB.out.setCell (Nat.le_refl _) _
      generalize ((low7 (l.getD n 0)).toNat : Int) = y at *
      generalize ((l.getD n 0).toNat : Int) = x at *
      clear hnl
      go_wp2
      go_roundw
      case rel => exact ⟨n + 1, by omega, by go_num, HS.out, HB2.out⟩
      case measure => simp [RowKit.intOf]; omega
    · have hnE : n = s.size := by omega
      have hst := HN.out.string C
      rw [msk_len, HLL.out] at hst
      have HE : Hid (msk l n = ascL l) := by
        show _ = _; unfold msk ascL; rw [hnE, List.take_of_length_le (by rw [HLL.out]; exact Nat.le_refl _), List.drop_of_length_le (by rw [HLL.out]; exact Nat.le_refl _)]; rw [← HL.out]; simp
      clear hnE
      go_wp2
      go_ret
      exact ⟨by rw [← HE.out]; rfl, HB.out⟩
set_option maxRecDepth 100000 in
set_option maxHeartbeats 1000000 in
theorem f5_long (s : ByteArray) (hs : s.size ≤ 2147483647) (hl : 60 < s.size) (w : World) : Calls Tryz.prog 5 #[.string s] w (TextMade (ascL s.data.toList) w) := by
  have hbz : (s.extract 0 60).size = 60 := by rw [ByteArray.size_extract]; omega
  have HL : Hid ((s.extract 0 60).data.toList = s.data.toList.take 60) := by
    show _ = _
    rw [ByteArray.data_extract, Array.toList_extract, List.extract_eq_take_drop, List.drop_zero, Nat.sub_zero]
  have hcv := Lib.run_convert_string_bytes (P := Tryz.prog) w 9 25 5 (s.extract 0 60) Tryz.underlying9 Tryz.underlying25 Tryz.underlying5
  rw [hbz] at hcv
  have HR := Lib.hid (BRow.made w (s.extract 0 60))
  have HBW := Lib.hid (made_below w (s.extract 0 60))
  have HLL : Hid ((s.extract 0 60).data.toList.length = 60) := by show _ = _; rw [← size_list0]; exact hbz
  generalize (s.extract 0 60).data.toList = l at *
  generalize grownCap w 60 0 5 = C at *
  generalize Lib.bytesWorld w 5 (s.extract 0 60) = w1 at *
  clear hbz
  go_enter Tryz.func5, Tryz.ntmps5
  go_wp2
  go_loopw [4, 13] (fun _ i wr => ∃ n : Nat, n ≤ 60 ∧ i = .int .i64 n ∧ Hid (BRow w.heap.size wr (msk l n)) ∧ Hid (Below w.heap.size w wr)) (fun _ i _ => 60 - (RowKit.intOf i).toNat)
  case atStart => exact ⟨0, Nat.zero_le _, rfl, HR.out, HBW.out⟩
  case round =>
    obtain ⟨n, hn, rfl, HN, HB⟩ := hrel
    by_cases hnk : n < 60
    · have hnl : n < l.length := by rw [HLL.out]; exact hnk
      have hc := (HN.out.2 n (by rw [msk_len]; exact hnl)).1
      have hf := (HN.out.2 n (by rw [msk_len]; exact hnl)).2
      rw [msk_get l n hnl] at hc
      have hb := low7_bits (l.getD n 0)
      have HS := Lib.hid (HN.out.stored n (by rw [msk_len]; exact hnl) (low7 (l.getD n 0)))
      rw [msk_set l n hnl] at HS
      have HB2 : Hid (Below w.heap.size w (wr.setCell ⟨w.heap.size, n, none⟩ (.int .u8 ((low7 (l.getD n 0)).toNat : Int)))) := HB.out.setCell (Nat.le_refl _) _
      generalize ((low7 (l.getD n 0)).toNat : Int) = y at *
      generalize ((l.getD n 0).toNat : Int) = x at *
      clear hnl
      go_wp2
      go_roundw
      case rel => exact ⟨n + 1, by omega, by go_num, HS.out, HB2.out⟩
      case measure => simp [RowKit.intOf]; omega
    · have hnE : n = 60 := by omega
      have hst := HN.out.string C
      rw [msk_len, HLL.out] at hst
      have HE : Hid (msk l n = ascL s.data.toList) := by
        show _ = _; unfold msk ascL; rw [hnE, List.take_of_length_le (by rw [HLL.out]; exact Nat.le_refl _), List.drop_of_length_le (by rw [HLL.out]; exact Nat.le_refl _)]; rw [← HL.out]; simp
      clear hnE
      go_wp2
      go_ret
      exact ⟨by rw [← HE.out]; rfl, HB.out⟩
theorem f5_any (s : ByteArray) (hs : s.size ≤ 2147483647) (w : World) : Calls Tryz.prog 5 #[.string s] w (TextMade (ascL s.data.toList) w) := by
  rcases Nat.lt_or_ge 60 s.size with h | h
  · exact f5_long s hs h w
  · exact f5_short s h w
end Go.Proofs.YtgcofpmhojplhaaGreatDoor
