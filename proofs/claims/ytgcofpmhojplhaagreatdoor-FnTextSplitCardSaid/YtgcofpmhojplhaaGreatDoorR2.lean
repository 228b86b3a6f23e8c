/- Walks of the package's cuts of signs: the ends trimmed. -/
import Derived.Test.YtgcofpmhojplhaaGreatDoorSn
import Derived.Test.YtgcofpmhojplhaaGreatDoorR1
import Derived.Test.YtgcofpmhojplhaaGreatDoorShelf
namespace Go.Proofs.YtgcofpmhojplhaaGreatDoor
open Go.RowKit

/-- A text of these bytes. -/
def MakesStr (l : List UInt8) (w : World) (e : Ending) (w' : World) : Prop := ∃ t : ByteArray, t.data.toList = l ∧ e = .returned (.string t) ∧ Below w.heap.size w w'
theorem tabs_below {w w' : World} (h : Lib.Utf8Tabs 1 2 w) (hb : Below w.heap.size w w') : Lib.Utf8Tabs 1 2 w' :=
  ⟨fun c hc => cell_below (h.1 c hc) hb, fun i hi => ⟨cell_below (h.2 i hi).1 hb, cell_below (h.2 i hi).2 hb⟩⟩
theorem empty_iff (t : ByteArray) : t.toList.isEmpty = decide (t.size = 0) := by
  rw [ByteArray.toList_eq, size_list0]
  cases t.data.toList <;> simp
theorem tail_data (t : ByteArray) (b : UInt8) (r : List UInt8) (h : t.data.toList = b :: r) : (t.extract 1 t.size).data.toList = r := by
  rw [ByteArray.data_extract, Array.toList_extract, List.extract_eq_take_drop, h, size_list0, h]
  simp
set_option maxRecDepth 100000 in
set_option maxHeartbeats 1000000 in
theorem f61_asc (s cs : ByteArray) (ha : Asc s.data.toList) (hc : Asc cs.data.toList) (hs : s.size ≤ 100000) (hcs : cs.size ≤ 100000) (w : World) :
    Calls Tryz.prog 61 #[.string s, .string cs] w (MakesStr (tl (fun b => cs.data.toList.contains b) s.data.toList) w) := by
  have HC := Lib.hid hc
  have HA := Lib.hid ha
  clear ha hc
  go_enter Tryz.func61, Tryz.ntmps61
  go_wp2
  go_loopw [0] (fun v wr => ∃ t : ByteArray, v = .string t ∧ Hid (Asc t.data.toList) ∧ t.size ≤ 100000 ∧ Hid (tl (fun b => cs.data.toList.contains b) t.data.toList = tl (fun b => cs.data.toList.contains b) s.data.toList) ∧ Hid (Below w.heap.size w wr)) (fun v _ => strSize v)
  case atStart => exact ⟨s, rfl, HA.out, hs, rfl, Below.refl _ _⟩
  case round =>
    obtain ⟨t, rfl, HAT, hts, HTL, HB⟩ := hrel
    by_cases hz : t.size = 0
    · have he : t.toList.isEmpty = true := by rw [empty_iff]; exact decide_eq_true hz
      have HE : Hid (t.data.toList = tl (fun b => cs.data.toList.contains b) s.data.toList) := by
        show _ = _
        rw [← HTL.out]
        have : t.data.toList = [] := List.eq_nil_of_length_eq_zero (by rw [← size_list0]; exact hz)
        rw [this]; rfl
      clear hz
      go_wp2
      go_ret
      exact ⟨t, HE.out, rfl, HB.out⟩
    · have he : t.toList.isEmpty = false := by rw [empty_iff]; exact decide_eq_false hz
      have hpos : 0 < t.size := by omega
      obtain ⟨b, r, hbr⟩ : ∃ b r, t.data.toList = b :: r := by
        cases h : t.data.toList with
        | nil => rw [size_list0, h] at hz; simp at hz
        | cons b r => exact ⟨b, r, rfl⟩
      have hb128 : b.toNat < 128 := HAT.out b (by rw [hbr]; simp)
      have HD := Lib.hid (fun w => Tryz.utf8_DecodeRuneInString_ascii t b w (by rw [hbr]; rfl) hb128)
      have HH := Lib.hid (fun w => f85_asc cs HC.out hcs b w)
      have HBR := Lib.hid hbr
      have HTD := Lib.hid (tail_data t b r hbr)
      have hst : (t.extract 1 t.size).size < t.size := by rw [ByteArray.size_extract]; omega
      have hsm : (t.extract 1 t.size).size ≤ 100000 := by rw [ByteArray.size_extract]; omega
      clear hbr hz hb128
      cases hcb : cs.data.toList.contains b with
      | false =>
        rw [hcb] at HH
        have HE : Hid (t.data.toList = tl (fun b => cs.data.toList.contains b) s.data.toList) := by
          show _ = _
          rw [← HTL.out, HBR.out]
          simp only [tl, hcb]
          simp
        clear hcb
        go_wp2_with (first
          | (go_at_call 84; refine (HD.out _).mono ?_; rintro e w1 ⟨rfl, rfl⟩)
          | (go_at_call 85; refine (HH.out _).mono ?_; rintro e w2 ⟨rfl, hb⟩; have HB2 := Lib.hid (HB.out.trans (hb.mono HB.out.size)); clear hb))
        go_ret
        exact ⟨t, HE.out, rfl, HB2.out⟩
      | true =>
        rw [hcb] at HH
        have HE : Hid (tl (fun b => cs.data.toList.contains b) r = tl (fun b => cs.data.toList.contains b) s.data.toList) := by
          show _ = _
          rw [← HTL.out, HBR.out]
          simp only [tl, hcb, if_true]
        have HAR : Hid (Asc r) := fun x hx => HAT.out x (by rw [HBR.out]; simp [hx])
        clear hcb
        go_wp2_with (first
          | (go_at_call 84; refine (HD.out _).mono ?_; rintro e w1 ⟨rfl, rfl⟩)
          | (go_at_call 85; refine (HH.out _).mono ?_; rintro e w2 ⟨rfl, hb⟩; have HB2 := Lib.hid (HB.out.trans (hb.mono HB.out.size)); clear hb))
        go_roundw
        case rel => exact ⟨_, rfl, by rw [HTD.out]; exact HAR.out, hsm, by rw [HTD.out]; exact HE.out, HB2.out⟩
        case measure => exact hst
set_option maxRecDepth 100000 in
set_option maxHeartbeats 1000000 in
theorem f62_asc (s cs : ByteArray) (ha : Asc s.data.toList) (hc : Asc cs.data.toList) (hs : s.size ≤ 100000) (hcs : cs.size ≤ 100000) (w : World) (hT : Lib.Utf8Tabs 1 2 w) :
    Calls Tryz.prog 62 #[.string s, .string cs] w (MakesStr (tr (fun b => cs.data.toList.contains b) s.data.toList) w) := by
  have HC := Lib.hid hc
  have HA := Lib.hid ha
  have HT := Lib.hid hT
  clear ha hc hT
  go_enter Tryz.func62, Tryz.ntmps62
  go_wp2
  go_loopw [0] (fun v wr => ∃ t : ByteArray, v = .string t ∧ Hid (Asc t.data.toList) ∧ t.size ≤ 100000 ∧ Hid (tr (fun b => cs.data.toList.contains b) t.data.toList = tr (fun b => cs.data.toList.contains b) s.data.toList) ∧ Hid (Below w.heap.size w wr)) (fun v _ => strSize v)
  case atStart => exact ⟨s, rfl, HA.out, hs, rfl, Below.refl _ _⟩
  case round =>
    obtain ⟨t, rfl, HAT, hts, HTL, HB⟩ := hrel
    by_cases hz : t.size = 0
    · have he : t.toList.isEmpty = true := by rw [empty_iff]; exact decide_eq_true hz
      have HE : Hid (t.data.toList = tr (fun b => cs.data.toList.contains b) s.data.toList) := by
        show _ = _
        rw [← HTL.out]
        have : t.data.toList = [] := List.eq_nil_of_length_eq_zero (by rw [← size_list0]; exact hz)
        rw [this]; rfl
      clear hz
      go_wp2
      go_ret
      exact ⟨t, HE.out, rfl, HB.out⟩
    · have he : t.toList.isEmpty = false := by rw [empty_iff]; exact decide_eq_false hz
      have hpos : 0 < t.size := by omega
      obtain ⟨b, r, hbr⟩ : ∃ b r, t.data.toList = r ++ [b] := by
        have hne : t.data.toList ≠ [] := fun h => by rw [size_list0, h] at hz; simp at hz
        exact ⟨_, _, (List.dropLast_concat_getLast hne).symm⟩
      have hb128 : b.toNat < 128 := HAT.out b (by rw [hbr]; simp)
      have HD : Hid (∀ w1, Below w.heap.size w w1 → Calls Tryz.prog 86 #[.string t] w1 fun e w' => e = .returned (.tuple #[.int .i32 (b.toNat : Int), .int .i64 1]) ∧ Below w1.heap.size w1 w') := fun w1 hb1 => by
        have h := Tryz.utf8_DecodeLastRuneInString t w1 (by omega) (tabs_below HT.out hb1)
        rw [hbr, Lib.decodeLastL_ascii r b hb128] at h
        exact h
      have HH := Lib.hid (fun w => f85_asc cs HC.out hcs b w)
      have HBR := Lib.hid hbr
      have HTD : Hid ((t.extract 0 (t.size - 1)).data.toList = r) := by
        show _ = _
        rw [ByteArray.data_extract, Array.toList_extract, List.extract_eq_take_drop, hbr, size_list0, hbr]
        simp
      have hst : (t.extract 0 (t.size - 1)).size < t.size := by rw [ByteArray.size_extract]; omega
      have hsm : (t.extract 0 (t.size - 1)).size ≤ 100000 := by rw [ByteArray.size_extract]; omega
      clear hbr hz hb128
      cases hcb : cs.data.toList.contains b with
      | false =>
        rw [hcb] at HH
        have HE : Hid (t.data.toList = tr (fun b => cs.data.toList.contains b) s.data.toList) := by
          show _ = _
          rw [← HTL.out, HBR.out, tr_snoc, if_neg (by rw [hcb]; decide)]
        clear hcb
        go_wp2_with (first
          | (go_at_call 86; refine (HD.out _ HB.out).mono ?_; rintro e w1 ⟨rfl, hb⟩; have HB1 := Lib.hid (HB.out.trans (hb.mono HB.out.size)); clear hb)
          | (go_at_call 85; refine (HH.out _).mono ?_; rintro e w2 ⟨rfl, hb⟩; have HB2 := Lib.hid (HB1.out.trans (hb.mono HB1.out.size)); clear hb))
        go_ret
        exact ⟨t, HE.out, rfl, HB2.out⟩
      | true =>
        rw [hcb] at HH
        have HE : Hid (tr (fun b => cs.data.toList.contains b) r = tr (fun b => cs.data.toList.contains b) s.data.toList) := by
          show _ = _
          rw [← HTL.out, HBR.out, tr_snoc, if_pos hcb]
        have HAR : Hid (Asc r) := fun x hx => HAT.out x (by rw [HBR.out]; simp [hx])
        clear hcb
        go_wp2_with (first
          | (go_at_call 86; refine (HD.out _ HB.out).mono ?_; rintro e w1 ⟨rfl, hb⟩; have HB1 := Lib.hid (HB.out.trans (hb.mono HB.out.size)); clear hb)
          | (go_at_call 85; refine (HH.out _).mono ?_; rintro e w2 ⟨rfl, hb⟩; have HB2 := Lib.hid (HB1.out.trans (hb.mono HB1.out.size)); clear hb))
        go_roundw
        case rel => exact ⟨_, rfl, by rw [HTD.out]; exact HAR.out, hsm, by rw [HTD.out]; exact HE.out, HB2.out⟩
        case measure => exact hst
end Go.Proofs.YtgcofpmhojplhaaGreatDoor
