/- The walk of the law of strip. (Printed by mks9.py.) -/
import Derived.Test.YtgcofpmhojplhaaGreatDoorS8
namespace Go.Proofs.YtgcofpmhojplhaaGreatDoor
open Go.RowKit

def MadeS (s : ByteArray) (w : World) (e : Ending) (w' : World) : Prop := e = .returned (.string s) ∧ Below w.heap.size w w'
def HoldsB (w : World) (e : Ending) (w' : World) : Prop := e = .returned (.bool true) ∧ Below w.heap.size w w'
theorem same_text (t u : ByteArray) (h : t.data.toList = u.data.toList) : t = u := by
  cases t with | mk d => cases u with | mk d' => cases d with | mk l => cases d' with | mk l' => simp at h; rw [h]
set_option maxRecDepth 100000 in
set_option maxHeartbeats 2000000 in
theorem f3_0_none (x : Int) (h0 : 0 ≤ x) (h1 : x ≤ 255) (hx : x % 3 = 0) (text chars s : ByteArray) (ht : text.size ≤ 2147483647) (hc : chars.size ≤ 2147483647) (ha : Asc s.data.toList) (hs : s.size ≤ 100000) (h5s : ∀ w, Calls Tryz.prog 5 #[.string text] w (MadeS s w)) (w : World) (hT : Lib.Utf8Tabs 1 2 w) :
    Calls Tryz.prog 3 #[.int .u8 x, .string text, .string chars, .bool false] w (HoldsB w) := by
  have HT := Lib.hid hT
  have H5S := Lib.hid h5s
  have HS := Lib.hid hs
  have HA := Lib.hid ha
  clear hT h5s hs ha
  go_enter Tryz.func3, Tryz.ntmps3
  go_wp2_with fail
  go_at_call 5
  refine (H5S.out _).mono ?_
  rintro e w1 ⟨rfl, hb1⟩
  have HB1 := Lib.hid hb1
  clear hb1
  go_wp2_with fail
  have HB2 : Hid (Below w.heap.size w (w1.alloc (.cells #[.string ⟨#[115, 116, 114, 105, 112]⟩, .string ⟨#[108, 115, 116, 114, 105, 112]⟩, .string ⟨#[114, 115, 116, 114, 105, 112]⟩] 9))) := HB1.out.alloc HB1.out.size _
  go_at_call 7
  refine (rf_0_none s HS.out _).mono ?_
  rintro e w3 ⟨t, ht3, rfl, hb3⟩
  have HT3 := Lib.hid ht3
  have HB3 := Lib.hid (HB2.out.trans (hb3.mono HB2.out.size))
  clear ht3 hb3 HB1 HB2
  go_wp2_with fail
  have HB4 : Hid (Below w.heap.size w (w3.alloc (.cells #[.int .i64 4, .bool false, .slice none 0 0, .int .u64 0, .string t, .slice none 0 0] 28))) := HB3.out.alloc HB3.out.size _
  go_at_call 8
  refine (im_0_none s HA.out HS.out _ (tabs_below HT.out HB4.out)).mono ?_
  rintro e w9 ⟨t2, ht9, rfl, hb9⟩
  obtain rfl : t2 = t := same_text _ _ (ht9.trans HT3.out.symm)
  have HB9 := Lib.hid (HB4.out.trans (hb9.mono HB4.out.size))
  have hc4 : w9.cell? ⟨w3.heap.size, 4, none⟩ = some (.string t2) := sub_cell (by simp) hb9
  clear ht9 hb9
  go_wp2
  go_ret
  exact ⟨by simp, HB9.out⟩
set_option maxRecDepth 100000 in
set_option maxHeartbeats 2000000 in
theorem f3_0_void (x : Int) (h0 : 0 ≤ x) (h1 : x ≤ 255) (hx : x % 3 = 0) (text chars s : ByteArray) (ht : text.size ≤ 2147483647) (hc : chars.size ≤ 2147483647) (ha : Asc s.data.toList) (hs : s.size ≤ 100000) (h5s : ∀ w, Calls Tryz.prog 5 #[.string text] w (MadeS s w)) (h5c : ∀ w, Calls Tryz.prog 5 #[.string chars] w (MadeS ⟨#[]⟩ w)) (w : World) (hT : Lib.Utf8Tabs 1 2 w) :
    Calls Tryz.prog 3 #[.int .u8 x, .string text, .string chars, .bool true] w (HoldsB w) := by
  have HT := Lib.hid hT
  have H5S := Lib.hid h5s
  have HS := Lib.hid hs
  have HA := Lib.hid ha
  have H5C := Lib.hid h5c
  clear h5c
  clear hT h5s hs ha
  go_enter Tryz.func3, Tryz.ntmps3
  go_wp2_with fail
  go_at_call 5
  refine (H5S.out _).mono ?_
  rintro e w1 ⟨rfl, hb1⟩
  have HB1 := Lib.hid hb1
  clear hb1
  go_wp2_with fail
  go_at_call 5
  refine (H5C.out _).mono ?_
  rintro e w2 ⟨rfl, hb2⟩
  have HB2 := Lib.hid (HB1.out.trans (hb2.mono HB1.out.size))
  clear hb2 HB1
  go_wp2_with fail
  have HB3 : Hid (Below w.heap.size w (w2.alloc (.cells #[.string ⟨#[]⟩] 9))) := HB2.out.alloc HB2.out.size _
  have HG3 : Hid ((w2.alloc (.cells #[.string ⟨#[]⟩] 9)).cell? ⟨w2.heap.size, 0, none⟩ = some (.string ⟨#[]⟩)) := by show _ = _; simp
  go_at_call 5
  refine (H5C.out _).mono ?_
  rintro e w4 ⟨rfl, hb4⟩
  have HG4 := Lib.hid (sub_cell HG3.out hb4)
  have HB4 := Lib.hid (HB3.out.trans (hb4.mono HB3.out.size))
  clear hb4 HB2 HB3 HG3
  go_wp2_with fail
  go_at_call 6
  refine (f6_any _ _).mono ?_
  rintro e w5 ⟨rfl, hb5⟩
  have HG5 := Lib.hid (sub_cell HG4.out hb5)
  have HB5 := Lib.hid (HB4.out.trans (hb5.mono HB4.out.size))
  clear hb5 HB4 HG4
  have HB6 : Hid (Below w.heap.size w (w5.alloc (.cells #[.int .i64 4, .bool false, .slice none 0 0, .int .u64 0, .string ⟨#[]⟩, .slice none 0 0] 28))) := HB5.out.alloc HB5.out.size _
  have HL6 : Hid (Below w5.heap.size w5 (w5.alloc (.cells #[.int .i64 4, .bool false, .slice none 0 0, .int .u64 0, .string ⟨#[]⟩, .slice none 0 0] 28))) := (Below.refl _ _).alloc (Nat.le_refl _) _
  have HK6 : Hid ((w5.alloc (.cells #[.int .i64 4, .bool false, .slice none 0 0, .int .u64 0, .string ⟨#[]⟩, .slice none 0 0] 28)).cell? ⟨w5.heap.size, 0, none⟩ = some (.int .i64 4)) := by show _ = _; simp
  have HC6 : Hid ((w5.alloc (.cells #[.int .i64 4, .bool false, .slice none 0 0, .int .u64 0, .string ⟨#[]⟩, .slice none 0 0] 28)).cell? ⟨w5.heap.size, 4, none⟩ = some (.string ⟨#[]⟩)) := by show _ = _; simp
  have HG6 := Lib.hid (sub_cell HG5.out HL6.out)
  clear HL6 HG5 HB5
  go_wp2_with fail
  have HL7 : Hid (Below (w5.alloc (.cells #[.int .i64 4, .bool false, .slice none 0 0, .int .u64 0, .string ⟨#[]⟩, .slice none 0 0] 28)).heap.size (w5.alloc (.cells #[.int .i64 4, .bool false, .slice none 0 0, .int .u64 0, .string ⟨#[]⟩, .slice none 0 0] 28)) ((w5.alloc (.cells #[.int .i64 4, .bool false, .slice none 0 0, .int .u64 0, .string ⟨#[]⟩, .slice none 0 0] 28)).alloc (.cells #[.string ⟨#[115, 116, 114, 105, 112]⟩, .string ⟨#[108, 115, 116, 114, 105, 112]⟩, .string ⟨#[114, 115, 116, 114, 105, 112]⟩] 9))) := (Below.refl _ _).alloc (Nat.le_refl _) _
  have HB7 := Lib.hid (HB6.out.trans (HL7.out.mono HB6.out.size))
  have HK7 := Lib.hid (sub_cell HK6.out HL7.out)
  have HC7 := Lib.hid (sub_cell HC6.out HL7.out)
  have HG7 := Lib.hid (sub_cell HG6.out HL7.out)
  clear HL7 HB6 HK6 HC6 HG6
  go_at_call 7
  refine (rf_0_void s HS.out _ _ _ (by exact HK7.out) (by exact HC7.out)).mono ?_
  rintro e w8 ⟨t, ht3, rfl, hb8⟩
  have HT3 := Lib.hid ht3
  have HB8 := Lib.hid (HB7.out.trans (hb8.mono HB7.out.size))
  have HG8 := Lib.hid (sub_cell HG7.out hb8)
  clear ht3 hb8 HB7 HK7 HC7 HG7
  go_wp2_with fail
  have HB4 : Hid (Below w.heap.size w (w8.alloc (.cells #[.int .i64 4, .bool false, .slice none 0 0, .int .u64 0, .string t, .slice none 0 0] 28))) := HB8.out.alloc HB8.out.size _
  have HL9 : Hid (Below w8.heap.size w8 (w8.alloc (.cells #[.int .i64 4, .bool false, .slice none 0 0, .int .u64 0, .string t, .slice none 0 0] 28))) := (Below.refl _ _).alloc (Nat.le_refl _) _
  have HG9 := Lib.hid (sub_cell HG8.out HL9.out)
  clear HG8 HL9
  go_at_call 8
  refine (im_0_void s HA.out HS.out _ (tabs_below HT.out HB4.out) _ _ (by exact HG9.out)).mono ?_
  rintro e w9 ⟨t2, ht9, rfl, hb9⟩
  obtain rfl : t2 = t := same_text _ _ (ht9.trans HT3.out.symm)
  have HB9 := Lib.hid (HB4.out.trans (hb9.mono HB4.out.size))
  have hc4 : w9.cell? ⟨w8.heap.size, 4, none⟩ = some (.string t2) := sub_cell (by simp) hb9
  clear ht9 hb9
  go_wp2
  go_ret
  exact ⟨by simp, HB9.out⟩
set_option maxRecDepth 100000 in
set_option maxHeartbeats 2000000 in
theorem f3_0_full (x : Int) (h0 : 0 ≤ x) (h1 : x ≤ 255) (hx : x % 3 = 0) (text chars s : ByteArray) (ht : text.size ≤ 2147483647) (hc : chars.size ≤ 2147483647) (ha : Asc s.data.toList) (hs : s.size ≤ 100000) (h5s : ∀ w, Calls Tryz.prog 5 #[.string text] w (MadeS s w)) (cs : ByteArray) (hca : Asc cs.data.toList) (hcs : cs.size ≤ 100000) (hc0 : cs.size ≠ 0) (h5c : ∀ w, Calls Tryz.prog 5 #[.string chars] w (MadeS cs w)) (w : World) (hT : Lib.Utf8Tabs 1 2 w) :
    Calls Tryz.prog 3 #[.int .u8 x, .string text, .string chars, .bool true] w (HoldsB w) := by
  have HT := Lib.hid hT
  have H5S := Lib.hid h5s
  have HS := Lib.hid hs
  have HA := Lib.hid ha
  have H5C := Lib.hid h5c
  clear h5c
  have HCA := Lib.hid hca
  have HCS := Lib.hid hcs
  have HC0 := Lib.hid hc0
  have HCE : Hid (cs.toList.isEmpty = false) := by show _ = _; rw [empty_iff]; simpa using hc0
  clear hca hcs hc0
  clear hT h5s hs ha
  go_enter Tryz.func3, Tryz.ntmps3
  go_wp2_with fail
  go_at_call 5
  refine (H5S.out _).mono ?_
  rintro e w1 ⟨rfl, hb1⟩
  have HB1 := Lib.hid hb1
  clear hb1
  go_wp2_with fail
  go_at_call 5
  refine (H5C.out _).mono ?_
  rintro e w2 ⟨rfl, hb2⟩
  have HB2 := Lib.hid (HB1.out.trans (hb2.mono HB1.out.size))
  clear hb2 HB1
  go_wp2_with fail
  have HB3 : Hid (Below w.heap.size w (w2.alloc (.cells #[.string cs] 9))) := HB2.out.alloc HB2.out.size _
  have HG3 : Hid ((w2.alloc (.cells #[.string cs] 9)).cell? ⟨w2.heap.size, 0, none⟩ = some (.string cs)) := by show _ = _; simp
  go_at_call 5
  refine (H5C.out _).mono ?_
  rintro e w4 ⟨rfl, hb4⟩
  have HG4 := Lib.hid (sub_cell HG3.out hb4)
  have HB4 := Lib.hid (HB3.out.trans (hb4.mono HB3.out.size))
  clear hb4 HB2 HB3 HG3
  go_wp2_with fail
  go_at_call 6
  refine (f6_any _ _).mono ?_
  rintro e w5 ⟨rfl, hb5⟩
  have HG5 := Lib.hid (sub_cell HG4.out hb5)
  have HB5 := Lib.hid (HB4.out.trans (hb5.mono HB4.out.size))
  clear hb5 HB4 HG4
  have HB6 : Hid (Below w.heap.size w (w5.alloc (.cells #[.int .i64 4, .bool false, .slice none 0 0, .int .u64 0, .string cs, .slice none 0 0] 28))) := HB5.out.alloc HB5.out.size _
  have HL6 : Hid (Below w5.heap.size w5 (w5.alloc (.cells #[.int .i64 4, .bool false, .slice none 0 0, .int .u64 0, .string cs, .slice none 0 0] 28))) := (Below.refl _ _).alloc (Nat.le_refl _) _
  have HK6 : Hid ((w5.alloc (.cells #[.int .i64 4, .bool false, .slice none 0 0, .int .u64 0, .string cs, .slice none 0 0] 28)).cell? ⟨w5.heap.size, 0, none⟩ = some (.int .i64 4)) := by show _ = _; simp
  have HC6 : Hid ((w5.alloc (.cells #[.int .i64 4, .bool false, .slice none 0 0, .int .u64 0, .string cs, .slice none 0 0] 28)).cell? ⟨w5.heap.size, 4, none⟩ = some (.string cs)) := by show _ = _; simp
  have HG6 := Lib.hid (sub_cell HG5.out HL6.out)
  clear HL6 HG5 HB5
  go_wp2_with fail
  have HL7 : Hid (Below (w5.alloc (.cells #[.int .i64 4, .bool false, .slice none 0 0, .int .u64 0, .string cs, .slice none 0 0] 28)).heap.size (w5.alloc (.cells #[.int .i64 4, .bool false, .slice none 0 0, .int .u64 0, .string cs, .slice none 0 0] 28)) ((w5.alloc (.cells #[.int .i64 4, .bool false, .slice none 0 0, .int .u64 0, .string cs, .slice none 0 0] 28)).alloc (.cells #[.string ⟨#[115, 116, 114, 105, 112]⟩, .string ⟨#[108, 115, 116, 114, 105, 112]⟩, .string ⟨#[114, 115, 116, 114, 105, 112]⟩] 9))) := (Below.refl _ _).alloc (Nat.le_refl _) _
  have HB7 := Lib.hid (HB6.out.trans (HL7.out.mono HB6.out.size))
  have HK7 := Lib.hid (sub_cell HK6.out HL7.out)
  have HC7 := Lib.hid (sub_cell HC6.out HL7.out)
  have HG7 := Lib.hid (sub_cell HG6.out HL7.out)
  clear HL7 HB6 HK6 HC6 HG6
  go_at_call 7
  refine (rf_0_full s HS.out _ cs HCS.out HCE.out _ _ (by exact HK7.out) (by exact HC7.out)).mono ?_
  rintro e w8 ⟨t, ht3, rfl, hb8⟩
  have HT3 := Lib.hid ht3
  have HB8 := Lib.hid (HB7.out.trans (hb8.mono HB7.out.size))
  have HG8 := Lib.hid (sub_cell HG7.out hb8)
  clear ht3 hb8 HB7 HK7 HC7 HG7
  go_wp2_with fail
  have HB4 : Hid (Below w.heap.size w (w8.alloc (.cells #[.int .i64 4, .bool false, .slice none 0 0, .int .u64 0, .string t, .slice none 0 0] 28))) := HB8.out.alloc HB8.out.size _
  have HL9 : Hid (Below w8.heap.size w8 (w8.alloc (.cells #[.int .i64 4, .bool false, .slice none 0 0, .int .u64 0, .string t, .slice none 0 0] 28))) := (Below.refl _ _).alloc (Nat.le_refl _) _
  have HG9 := Lib.hid (sub_cell HG8.out HL9.out)
  clear HG8 HL9
  go_at_call 8
  refine (im_0_full s HA.out HS.out _ (tabs_below HT.out HB4.out) cs HCA.out HCS.out HC0.out _ _ (by exact HG9.out)).mono ?_
  rintro e w9 ⟨t2, ht9, rfl, hb9⟩
  obtain rfl : t2 = t := same_text _ _ (ht9.trans HT3.out.symm)
  have HB9 := Lib.hid (HB4.out.trans (hb9.mono HB4.out.size))
  have hc4 : w9.cell? ⟨w8.heap.size, 4, none⟩ = some (.string t2) := sub_cell (by simp) hb9
  clear ht9 hb9
  go_wp2
  go_ret
  exact ⟨by simp, HB9.out⟩
set_option maxRecDepth 100000 in
set_option maxHeartbeats 2000000 in
theorem f3_1_none (x : Int) (h0 : 0 ≤ x) (h1 : x ≤ 255) (hx : x % 3 = 1) (text chars s : ByteArray) (ht : text.size ≤ 2147483647) (hc : chars.size ≤ 2147483647) (ha : Asc s.data.toList) (hs : s.size ≤ 100000) (h5s : ∀ w, Calls Tryz.prog 5 #[.string text] w (MadeS s w)) (w : World) (hT : Lib.Utf8Tabs 1 2 w) :
    Calls Tryz.prog 3 #[.int .u8 x, .string text, .string chars, .bool false] w (HoldsB w) := by
  have HT := Lib.hid hT
  have H5S := Lib.hid h5s
  have HS := Lib.hid hs
  have HA := Lib.hid ha
  clear hT h5s hs ha
  go_enter Tryz.func3, Tryz.ntmps3
  go_wp2_with fail
  go_at_call 5
  refine (H5S.out _).mono ?_
  rintro e w1 ⟨rfl, hb1⟩
  have HB1 := Lib.hid hb1
  clear hb1
  go_wp2_with fail
  have HB2 : Hid (Below w.heap.size w (w1.alloc (.cells #[.string ⟨#[115, 116, 114, 105, 112]⟩, .string ⟨#[108, 115, 116, 114, 105, 112]⟩, .string ⟨#[114, 115, 116, 114, 105, 112]⟩] 9))) := HB1.out.alloc HB1.out.size _
  go_at_call 7
  refine (rf_1_none s HS.out _).mono ?_
  rintro e w3 ⟨t, ht3, rfl, hb3⟩
  have HT3 := Lib.hid ht3
  have HB3 := Lib.hid (HB2.out.trans (hb3.mono HB2.out.size))
  clear ht3 hb3 HB1 HB2
  go_wp2_with fail
  have HB4 : Hid (Below w.heap.size w (w3.alloc (.cells #[.int .i64 4, .bool false, .slice none 0 0, .int .u64 0, .string t, .slice none 0 0] 28))) := HB3.out.alloc HB3.out.size _
  go_at_call 8
  refine (im_1_none s HA.out HS.out _ (tabs_below HT.out HB4.out)).mono ?_
  rintro e w9 ⟨t2, ht9, rfl, hb9⟩
  obtain rfl : t2 = t := same_text _ _ (ht9.trans HT3.out.symm)
  have HB9 := Lib.hid (HB4.out.trans (hb9.mono HB4.out.size))
  have hc4 : w9.cell? ⟨w3.heap.size, 4, none⟩ = some (.string t2) := sub_cell (by simp) hb9
  clear ht9 hb9
  go_wp2
  go_ret
  exact ⟨by simp, HB9.out⟩
set_option maxRecDepth 100000 in
set_option maxHeartbeats 2000000 in
theorem f3_1_void (x : Int) (h0 : 0 ≤ x) (h1 : x ≤ 255) (hx : x % 3 = 1) (text chars s : ByteArray) (ht : text.size ≤ 2147483647) (hc : chars.size ≤ 2147483647) (ha : Asc s.data.toList) (hs : s.size ≤ 100000) (h5s : ∀ w, Calls Tryz.prog 5 #[.string text] w (MadeS s w)) (h5c : ∀ w, Calls Tryz.prog 5 #[.string chars] w (MadeS ⟨#[]⟩ w)) (w : World) (hT : Lib.Utf8Tabs 1 2 w) :
    Calls Tryz.prog 3 #[.int .u8 x, .string text, .string chars, .bool true] w (HoldsB w) := by
  have HT := Lib.hid hT
  have H5S := Lib.hid h5s
  have HS := Lib.hid hs
  have HA := Lib.hid ha
  have H5C := Lib.hid h5c
  clear h5c
  clear hT h5s hs ha
  go_enter Tryz.func3, Tryz.ntmps3
  go_wp2_with fail
  go_at_call 5
  refine (H5S.out _).mono ?_
  rintro e w1 ⟨rfl, hb1⟩
  have HB1 := Lib.hid hb1
  clear hb1
  go_wp2_with fail
  go_at_call 5
  refine (H5C.out _).mono ?_
  rintro e w2 ⟨rfl, hb2⟩
  have HB2 := Lib.hid (HB1.out.trans (hb2.mono HB1.out.size))
  clear hb2 HB1
  go_wp2_with fail
  have HB3 : Hid (Below w.heap.size w (w2.alloc (.cells #[.string ⟨#[]⟩] 9))) := HB2.out.alloc HB2.out.size _
  have HG3 : Hid ((w2.alloc (.cells #[.string ⟨#[]⟩] 9)).cell? ⟨w2.heap.size, 0, none⟩ = some (.string ⟨#[]⟩)) := by show _ = _; simp
  go_at_call 5
  refine (H5C.out _).mono ?_
  rintro e w4 ⟨rfl, hb4⟩
  have HG4 := Lib.hid (sub_cell HG3.out hb4)
  have HB4 := Lib.hid (HB3.out.trans (hb4.mono HB3.out.size))
  clear hb4 HB2 HB3 HG3
  go_wp2_with fail
  go_at_call 6
  refine (f6_any _ _).mono ?_
  rintro e w5 ⟨rfl, hb5⟩
  have HG5 := Lib.hid (sub_cell HG4.out hb5)
  have HB5 := Lib.hid (HB4.out.trans (hb5.mono HB4.out.size))
  clear hb5 HB4 HG4
  have HB6 : Hid (Below w.heap.size w (w5.alloc (.cells #[.int .i64 4, .bool false, .slice none 0 0, .int .u64 0, .string ⟨#[]⟩, .slice none 0 0] 28))) := HB5.out.alloc HB5.out.size _
  have HL6 : Hid (Below w5.heap.size w5 (w5.alloc (.cells #[.int .i64 4, .bool false, .slice none 0 0, .int .u64 0, .string ⟨#[]⟩, .slice none 0 0] 28))) := (Below.refl _ _).alloc (Nat.le_refl _) _
  have HK6 : Hid ((w5.alloc (.cells #[.int .i64 4, .bool false, .slice none 0 0, .int .u64 0, .string ⟨#[]⟩, .slice none 0 0] 28)).cell? ⟨w5.heap.size, 0, none⟩ = some (.int .i64 4)) := by show _ = _; simp
  have HC6 : Hid ((w5.alloc (.cells #[.int .i64 4, .bool false, .slice none 0 0, .int .u64 0, .string ⟨#[]⟩, .slice none 0 0] 28)).cell? ⟨w5.heap.size, 4, none⟩ = some (.string ⟨#[]⟩)) := by show _ = _; simp
  have HG6 := Lib.hid (sub_cell HG5.out HL6.out)
  clear HL6 HG5 HB5
  go_wp2_with fail
  have HL7 : Hid (Below (w5.alloc (.cells #[.int .i64 4, .bool false, .slice none 0 0, .int .u64 0, .string ⟨#[]⟩, .slice none 0 0] 28)).heap.size (w5.alloc (.cells #[.int .i64 4, .bool false, .slice none 0 0, .int .u64 0, .string ⟨#[]⟩, .slice none 0 0] 28)) ((w5.alloc (.cells #[.int .i64 4, .bool false, .slice none 0 0, .int .u64 0, .string ⟨#[]⟩, .slice none 0 0] 28)).alloc (.cells #[.string ⟨#[115, 116, 114, 105, 112]⟩, .string ⟨#[108, 115, 116, 114, 105, 112]⟩, .string ⟨#[114, 115, 116, 114, 105, 112]⟩] 9))) := (Below.refl _ _).alloc (Nat.le_refl _) _
  have HB7 := Lib.hid (HB6.out.trans (HL7.out.mono HB6.out.size))
  have HK7 := Lib.hid (sub_cell HK6.out HL7.out)
  have HC7 := Lib.hid (sub_cell HC6.out HL7.out)
  have HG7 := Lib.hid (sub_cell HG6.out HL7.out)
  clear HL7 HB6 HK6 HC6 HG6
  go_at_call 7
  refine (rf_1_void s HS.out _ _ _ (by exact HK7.out) (by exact HC7.out)).mono ?_
  rintro e w8 ⟨t, ht3, rfl, hb8⟩
  have HT3 := Lib.hid ht3
  have HB8 := Lib.hid (HB7.out.trans (hb8.mono HB7.out.size))
  have HG8 := Lib.hid (sub_cell HG7.out hb8)
  clear ht3 hb8 HB7 HK7 HC7 HG7
  go_wp2_with fail
  have HB4 : Hid (Below w.heap.size w (w8.alloc (.cells #[.int .i64 4, .bool false, .slice none 0 0, .int .u64 0, .string t, .slice none 0 0] 28))) := HB8.out.alloc HB8.out.size _
  have HL9 : Hid (Below w8.heap.size w8 (w8.alloc (.cells #[.int .i64 4, .bool false, .slice none 0 0, .int .u64 0, .string t, .slice none 0 0] 28))) := (Below.refl _ _).alloc (Nat.le_refl _) _
  have HG9 := Lib.hid (sub_cell HG8.out HL9.out)
  clear HG8 HL9
  go_at_call 8
  refine (im_1_void s HA.out HS.out _ (tabs_below HT.out HB4.out) _ _ (by exact HG9.out)).mono ?_
  rintro e w9 ⟨t2, ht9, rfl, hb9⟩
  obtain rfl : t2 = t := same_text _ _ (ht9.trans HT3.out.symm)
  have HB9 := Lib.hid (HB4.out.trans (hb9.mono HB4.out.size))
  have hc4 : w9.cell? ⟨w8.heap.size, 4, none⟩ = some (.string t2) := sub_cell (by simp) hb9
  clear ht9 hb9
  go_wp2
  go_ret
  exact ⟨by simp, HB9.out⟩
set_option maxRecDepth 100000 in
set_option maxHeartbeats 2000000 in
theorem f3_1_full (x : Int) (h0 : 0 ≤ x) (h1 : x ≤ 255) (hx : x % 3 = 1) (text chars s : ByteArray) (ht : text.size ≤ 2147483647) (hc : chars.size ≤ 2147483647) (ha : Asc s.data.toList) (hs : s.size ≤ 100000) (h5s : ∀ w, Calls Tryz.prog 5 #[.string text] w (MadeS s w)) (cs : ByteArray) (hca : Asc cs.data.toList) (hcs : cs.size ≤ 100000) (hc0 : cs.size ≠ 0) (h5c : ∀ w, Calls Tryz.prog 5 #[.string chars] w (MadeS cs w)) (w : World) (hT : Lib.Utf8Tabs 1 2 w) :
    Calls Tryz.prog 3 #[.int .u8 x, .string text, .string chars, .bool true] w (HoldsB w) := by
  have HT := Lib.hid hT
  have H5S := Lib.hid h5s
  have HS := Lib.hid hs
  have HA := Lib.hid ha
  have H5C := Lib.hid h5c
  clear h5c
  have HCA := Lib.hid hca
  have HCS := Lib.hid hcs
  have HC0 := Lib.hid hc0
  have HCE : Hid (cs.toList.isEmpty = false) := by show _ = _; rw [empty_iff]; simpa using hc0
  clear hca hcs hc0
  clear hT h5s hs ha
  go_enter Tryz.func3, Tryz.ntmps3
  go_wp2_with fail
  go_at_call 5
  refine (H5S.out _).mono ?_
  rintro e w1 ⟨rfl, hb1⟩
  have HB1 := Lib.hid hb1
  clear hb1
  go_wp2_with fail
  go_at_call 5
  refine (H5C.out _).mono ?_
  rintro e w2 ⟨rfl, hb2⟩
  have HB2 := Lib.hid (HB1.out.trans (hb2.mono HB1.out.size))
  clear hb2 HB1
  go_wp2_with fail
  have HB3 : Hid (Below w.heap.size w (w2.alloc (.cells #[.string cs] 9))) := HB2.out.alloc HB2.out.size _
  have HG3 : Hid ((w2.alloc (.cells #[.string cs] 9)).cell? ⟨w2.heap.size, 0, none⟩ = some (.string cs)) := by show _ = _; simp
  go_at_call 5
  refine (H5C.out _).mono ?_
  rintro e w4 ⟨rfl, hb4⟩
  have HG4 := Lib.hid (sub_cell HG3.out hb4)
  have HB4 := Lib.hid (HB3.out.trans (hb4.mono HB3.out.size))
  clear hb4 HB2 HB3 HG3
  go_wp2_with fail
  go_at_call 6
  refine (f6_any _ _).mono ?_
  rintro e w5 ⟨rfl, hb5⟩
  have HG5 := Lib.hid (sub_cell HG4.out hb5)
  have HB5 := Lib.hid (HB4.out.trans (hb5.mono HB4.out.size))
  clear hb5 HB4 HG4
  have HB6 : Hid (Below w.heap.size w (w5.alloc (.cells #[.int .i64 4, .bool false, .slice none 0 0, .int .u64 0, .string cs, .slice none 0 0] 28))) := HB5.out.alloc HB5.out.size _
  have HL6 : Hid (Below w5.heap.size w5 (w5.alloc (.cells #[.int .i64 4, .bool false, .slice none 0 0, .int .u64 0, .string cs, .slice none 0 0] 28))) := (Below.refl _ _).alloc (Nat.le_refl _) _
  have HK6 : Hid ((w5.alloc (.cells #[.int .i64 4, .bool false, .slice none 0 0, .int .u64 0, .string cs, .slice none 0 0] 28)).cell? ⟨w5.heap.size, 0, none⟩ = some (.int .i64 4)) := by show _ = _; simp
  have HC6 : Hid ((w5.alloc (.cells #[.int .i64 4, .bool false, .slice none 0 0, .int .u64 0, .string cs, .slice none 0 0] 28)).cell? ⟨w5.heap.size, 4, none⟩ = some (.string cs)) := by show _ = _; simp
  have HG6 := Lib.hid (sub_cell HG5.out HL6.out)
  clear HL6 HG5 HB5
  go_wp2_with fail
  have HL7 : Hid (Below (w5.alloc (.cells #[.int .i64 4, .bool false, .slice none 0 0, .int .u64 0, .string cs, .slice none 0 0] 28)).heap.size (w5.alloc (.cells #[.int .i64 4, .bool false, .slice none 0 0, .int .u64 0, .string cs, .slice none 0 0] 28)) ((w5.alloc (.cells #[.int .i64 4, .bool false, .slice none 0 0, .int .u64 0, .string cs, .slice none 0 0] 28)).alloc (.cells #[.string ⟨#[115, 116, 114, 105, 112]⟩, .string ⟨#[108, 115, 116, 114, 105, 112]⟩, .string ⟨#[114, 115, 116, 114, 105, 112]⟩] 9))) := (Below.refl _ _).alloc (Nat.le_refl _) _
  have HB7 := Lib.hid (HB6.out.trans (HL7.out.mono HB6.out.size))
  have HK7 := Lib.hid (sub_cell HK6.out HL7.out)
  have HC7 := Lib.hid (sub_cell HC6.out HL7.out)
  have HG7 := Lib.hid (sub_cell HG6.out HL7.out)
  clear HL7 HB6 HK6 HC6 HG6
  go_at_call 7
  refine (rf_1_full s HS.out _ cs HCS.out HCE.out _ _ (by exact HK7.out) (by exact HC7.out)).mono ?_
  rintro e w8 ⟨t, ht3, rfl, hb8⟩
  have HT3 := Lib.hid ht3
  have HB8 := Lib.hid (HB7.out.trans (hb8.mono HB7.out.size))
  have HG8 := Lib.hid (sub_cell HG7.out hb8)
  clear ht3 hb8 HB7 HK7 HC7 HG7
  go_wp2_with fail
  have HB4 : Hid (Below w.heap.size w (w8.alloc (.cells #[.int .i64 4, .bool false, .slice none 0 0, .int .u64 0, .string t, .slice none 0 0] 28))) := HB8.out.alloc HB8.out.size _
  have HL9 : Hid (Below w8.heap.size w8 (w8.alloc (.cells #[.int .i64 4, .bool false, .slice none 0 0, .int .u64 0, .string t, .slice none 0 0] 28))) := (Below.refl _ _).alloc (Nat.le_refl _) _
  have HG9 := Lib.hid (sub_cell HG8.out HL9.out)
  clear HG8 HL9
  go_at_call 8
  refine (im_1_full s HA.out HS.out _ (tabs_below HT.out HB4.out) cs HCA.out HCS.out HC0.out _ _ (by exact HG9.out)).mono ?_
  rintro e w9 ⟨t2, ht9, rfl, hb9⟩
  obtain rfl : t2 = t := same_text _ _ (ht9.trans HT3.out.symm)
  have HB9 := Lib.hid (HB4.out.trans (hb9.mono HB4.out.size))
  have hc4 : w9.cell? ⟨w8.heap.size, 4, none⟩ = some (.string t2) := sub_cell (by simp) hb9
  clear ht9 hb9
  go_wp2
  go_ret
  exact ⟨by simp, HB9.out⟩
set_option maxRecDepth 100000 in
set_option maxHeartbeats 2000000 in
theorem f3_2_none (x : Int) (h0 : 0 ≤ x) (h1 : x ≤ 255) (hx : x % 3 = 2) (text chars s : ByteArray) (ht : text.size ≤ 2147483647) (hc : chars.size ≤ 2147483647) (ha : Asc s.data.toList) (hs : s.size ≤ 100000) (h5s : ∀ w, Calls Tryz.prog 5 #[.string text] w (MadeS s w)) (w : World) (hT : Lib.Utf8Tabs 1 2 w) :
    Calls Tryz.prog 3 #[.int .u8 x, .string text, .string chars, .bool false] w (HoldsB w) := by
  have HT := Lib.hid hT
  have H5S := Lib.hid h5s
  have HS := Lib.hid hs
  have HA := Lib.hid ha
  clear hT h5s hs ha
  go_enter Tryz.func3, Tryz.ntmps3
  go_wp2_with fail
  go_at_call 5
  refine (H5S.out _).mono ?_
  rintro e w1 ⟨rfl, hb1⟩
  have HB1 := Lib.hid hb1
  clear hb1
  go_wp2_with fail
  have HB2 : Hid (Below w.heap.size w (w1.alloc (.cells #[.string ⟨#[115, 116, 114, 105, 112]⟩, .string ⟨#[108, 115, 116, 114, 105, 112]⟩, .string ⟨#[114, 115, 116, 114, 105, 112]⟩] 9))) := HB1.out.alloc HB1.out.size _
  go_at_call 7
  refine (rf_2_none s HS.out _).mono ?_
  rintro e w3 ⟨t, ht3, rfl, hb3⟩
  have HT3 := Lib.hid ht3
  have HB3 := Lib.hid (HB2.out.trans (hb3.mono HB2.out.size))
  clear ht3 hb3 HB1 HB2
  go_wp2_with fail
  have HB4 : Hid (Below w.heap.size w (w3.alloc (.cells #[.int .i64 4, .bool false, .slice none 0 0, .int .u64 0, .string t, .slice none 0 0] 28))) := HB3.out.alloc HB3.out.size _
  go_at_call 8
  refine (im_2_none s HA.out HS.out _ (tabs_below HT.out HB4.out)).mono ?_
  rintro e w9 ⟨t2, ht9, rfl, hb9⟩
  obtain rfl : t2 = t := same_text _ _ (ht9.trans HT3.out.symm)
  have HB9 := Lib.hid (HB4.out.trans (hb9.mono HB4.out.size))
  have hc4 : w9.cell? ⟨w3.heap.size, 4, none⟩ = some (.string t2) := sub_cell (by simp) hb9
  clear ht9 hb9
  go_wp2
  go_ret
  exact ⟨by simp, HB9.out⟩
set_option maxRecDepth 100000 in
set_option maxHeartbeats 2000000 in
theorem f3_2_void (x : Int) (h0 : 0 ≤ x) (h1 : x ≤ 255) (hx : x % 3 = 2) (text chars s : ByteArray) (ht : text.size ≤ 2147483647) (hc : chars.size ≤ 2147483647) (ha : Asc s.data.toList) (hs : s.size ≤ 100000) (h5s : ∀ w, Calls Tryz.prog 5 #[.string text] w (MadeS s w)) (h5c : ∀ w, Calls Tryz.prog 5 #[.string chars] w (MadeS ⟨#[]⟩ w)) (w : World) (hT : Lib.Utf8Tabs 1 2 w) :
    Calls Tryz.prog 3 #[.int .u8 x, .string text, .string chars, .bool true] w (HoldsB w) := by
  have HT := Lib.hid hT
  have H5S := Lib.hid h5s
  have HS := Lib.hid hs
  have HA := Lib.hid ha
  have H5C := Lib.hid h5c
  clear h5c
  clear hT h5s hs ha
  go_enter Tryz.func3, Tryz.ntmps3
  go_wp2_with fail
  go_at_call 5
  refine (H5S.out _).mono ?_
  rintro e w1 ⟨rfl, hb1⟩
  have HB1 := Lib.hid hb1
  clear hb1
  go_wp2_with fail
  go_at_call 5
  refine (H5C.out _).mono ?_
  rintro e w2 ⟨rfl, hb2⟩
  have HB2 := Lib.hid (HB1.out.trans (hb2.mono HB1.out.size))
  clear hb2 HB1
  go_wp2_with fail
  have HB3 : Hid (Below w.heap.size w (w2.alloc (.cells #[.string ⟨#[]⟩] 9))) := HB2.out.alloc HB2.out.size _
  have HG3 : Hid ((w2.alloc (.cells #[.string ⟨#[]⟩] 9)).cell? ⟨w2.heap.size, 0, none⟩ = some (.string ⟨#[]⟩)) := by show _ = _; simp
  go_at_call 5
  refine (H5C.out _).mono ?_
  rintro e w4 ⟨rfl, hb4⟩
  have HG4 := Lib.hid (sub_cell HG3.out hb4)
  have HB4 := Lib.hid (HB3.out.trans (hb4.mono HB3.out.size))
  clear hb4 HB2 HB3 HG3
  go_wp2_with fail
  go_at_call 6
  refine (f6_any _ _).mono ?_
  rintro e w5 ⟨rfl, hb5⟩
  have HG5 := Lib.hid (sub_cell HG4.out hb5)
  have HB5 := Lib.hid (HB4.out.trans (hb5.mono HB4.out.size))
  clear hb5 HB4 HG4
  have HB6 : Hid (Below w.heap.size w (w5.alloc (.cells #[.int .i64 4, .bool false, .slice none 0 0, .int .u64 0, .string ⟨#[]⟩, .slice none 0 0] 28))) := HB5.out.alloc HB5.out.size _
  have HL6 : Hid (Below w5.heap.size w5 (w5.alloc (.cells #[.int .i64 4, .bool false, .slice none 0 0, .int .u64 0, .string ⟨#[]⟩, .slice none 0 0] 28))) := (Below.refl _ _).alloc (Nat.le_refl _) _
  have HK6 : Hid ((w5.alloc (.cells #[.int .i64 4, .bool false, .slice none 0 0, .int .u64 0, .string ⟨#[]⟩, .slice none 0 0] 28)).cell? ⟨w5.heap.size, 0, none⟩ = some (.int .i64 4)) := by show _ = _; simp
  have HC6 : Hid ((w5.alloc (.cells #[.int .i64 4, .bool false, .slice none 0 0, .int .u64 0, .string ⟨#[]⟩, .slice none 0 0] 28)).cell? ⟨w5.heap.size, 4, none⟩ = some (.string ⟨#[]⟩)) := by show _ = _; simp
  have HG6 := Lib.hid (sub_cell HG5.out HL6.out)
  clear HL6 HG5 HB5
  go_wp2_with fail
  have HL7 : Hid (Below (w5.alloc (.cells #[.int .i64 4, .bool false, .slice none 0 0, .int .u64 0, .string ⟨#[]⟩, .slice none 0 0] 28)).heap.size (w5.alloc (.cells #[.int .i64 4, .bool false, .slice none 0 0, .int .u64 0, .string ⟨#[]⟩, .slice none 0 0] 28)) ((w5.alloc (.cells #[.int .i64 4, .bool false, .slice none 0 0, .int .u64 0, .string ⟨#[]⟩, .slice none 0 0] 28)).alloc (.cells #[.string ⟨#[115, 116, 114, 105, 112]⟩, .string ⟨#[108, 115, 116, 114, 105, 112]⟩, .string ⟨#[114, 115, 116, 114, 105, 112]⟩] 9))) := (Below.refl _ _).alloc (Nat.le_refl _) _
  have HB7 := Lib.hid (HB6.out.trans (HL7.out.mono HB6.out.size))
  have HK7 := Lib.hid (sub_cell HK6.out HL7.out)
  have HC7 := Lib.hid (sub_cell HC6.out HL7.out)
  have HG7 := Lib.hid (sub_cell HG6.out HL7.out)
  clear HL7 HB6 HK6 HC6 HG6
  go_at_call 7
  refine (rf_2_void s HS.out _ _ _ (by exact HK7.out) (by exact HC7.out)).mono ?_
  rintro e w8 ⟨t, ht3, rfl, hb8⟩
  have HT3 := Lib.hid ht3
  have HB8 := Lib.hid (HB7.out.trans (hb8.mono HB7.out.size))
  have HG8 := Lib.hid (sub_cell HG7.out hb8)
  clear ht3 hb8 HB7 HK7 HC7 HG7
  go_wp2_with fail
  have HB4 : Hid (Below w.heap.size w (w8.alloc (.cells #[.int .i64 4, .bool false, .slice none 0 0, .int .u64 0, .string t, .slice none 0 0] 28))) := HB8.out.alloc HB8.out.size _
  have HL9 : Hid (Below w8.heap.size w8 (w8.alloc (.cells #[.int .i64 4, .bool false, .slice none 0 0, .int .u64 0, .string t, .slice none 0 0] 28))) := (Below.refl _ _).alloc (Nat.le_refl _) _
  have HG9 := Lib.hid (sub_cell HG8.out HL9.out)
  clear HG8 HL9
  go_at_call 8
  refine (im_2_void s HA.out HS.out _ (tabs_below HT.out HB4.out) _ _ (by exact HG9.out)).mono ?_
  rintro e w9 ⟨t2, ht9, rfl, hb9⟩
  obtain rfl : t2 = t := same_text _ _ (ht9.trans HT3.out.symm)
  have HB9 := Lib.hid (HB4.out.trans (hb9.mono HB4.out.size))
  have hc4 : w9.cell? ⟨w8.heap.size, 4, none⟩ = some (.string t2) := sub_cell (by simp) hb9
  clear ht9 hb9
  go_wp2
  go_ret
  exact ⟨by simp, HB9.out⟩
set_option maxRecDepth 100000 in
set_option maxHeartbeats 2000000 in
theorem f3_2_full (x : Int) (h0 : 0 ≤ x) (h1 : x ≤ 255) (hx : x % 3 = 2) (text chars s : ByteArray) (ht : text.size ≤ 2147483647) (hc : chars.size ≤ 2147483647) (ha : Asc s.data.toList) (hs : s.size ≤ 100000) (h5s : ∀ w, Calls Tryz.prog 5 #[.string text] w (MadeS s w)) (cs : ByteArray) (hca : Asc cs.data.toList) (hcs : cs.size ≤ 100000) (hc0 : cs.size ≠ 0) (h5c : ∀ w, Calls Tryz.prog 5 #[.string chars] w (MadeS cs w)) (w : World) (hT : Lib.Utf8Tabs 1 2 w) :
    Calls Tryz.prog 3 #[.int .u8 x, .string text, .string chars, .bool true] w (HoldsB w) := by
  have HT := Lib.hid hT
  have H5S := Lib.hid h5s
  have HS := Lib.hid hs
  have HA := Lib.hid ha
  have H5C := Lib.hid h5c
  clear h5c
  have HCA := Lib.hid hca
  have HCS := Lib.hid hcs
  have HC0 := Lib.hid hc0
  have HCE : Hid (cs.toList.isEmpty = false) := by show _ = _; rw [empty_iff]; simpa using hc0
  clear hca hcs hc0
  clear hT h5s hs ha
  go_enter Tryz.func3, Tryz.ntmps3
  go_wp2_with fail
  go_at_call 5
  refine (H5S.out _).mono ?_
  rintro e w1 ⟨rfl, hb1⟩
  have HB1 := Lib.hid hb1
  clear hb1
  go_wp2_with fail
  go_at_call 5
  refine (H5C.out _).mono ?_
  rintro e w2 ⟨rfl, hb2⟩
  have HB2 := Lib.hid (HB1.out.trans (hb2.mono HB1.out.size))
  clear hb2 HB1
  go_wp2_with fail
  have HB3 : Hid (Below w.heap.size w (w2.alloc (.cells #[.string cs] 9))) := HB2.out.alloc HB2.out.size _
  have HG3 : Hid ((w2.alloc (.cells #[.string cs] 9)).cell? ⟨w2.heap.size, 0, none⟩ = some (.string cs)) := by show _ = _; simp
  go_at_call 5
  refine (H5C.out _).mono ?_
  rintro e w4 ⟨rfl, hb4⟩
  have HG4 := Lib.hid (sub_cell HG3.out hb4)
  have HB4 := Lib.hid (HB3.out.trans (hb4.mono HB3.out.size))
  clear hb4 HB2 HB3 HG3
  go_wp2_with fail
  go_at_call 6
  refine (f6_any _ _).mono ?_
  rintro e w5 ⟨rfl, hb5⟩
  have HG5 := Lib.hid (sub_cell HG4.out hb5)
  have HB5 := Lib.hid (HB4.out.trans (hb5.mono HB4.out.size))
  clear hb5 HB4 HG4
  have HB6 : Hid (Below w.heap.size w (w5.alloc (.cells #[.int .i64 4, .bool false, .slice none 0 0, .int .u64 0, .string cs, .slice none 0 0] 28))) := HB5.out.alloc HB5.out.size _
  have HL6 : Hid (Below w5.heap.size w5 (w5.alloc (.cells #[.int .i64 4, .bool false, .slice none 0 0, .int .u64 0, .string cs, .slice none 0 0] 28))) := (Below.refl _ _).alloc (Nat.le_refl _) _
  have HK6 : Hid ((w5.alloc (.cells #[.int .i64 4, .bool false, .slice none 0 0, .int .u64 0, .string cs, .slice none 0 0] 28)).cell? ⟨w5.heap.size, 0, none⟩ = some (.int .i64 4)) := by show _ = _; simp
  have HC6 : Hid ((w5.alloc (.cells #[.int .i64 4, .bool false, .slice none 0 0, .int .u64 0, .string cs, .slice none 0 0] 28)).cell? ⟨w5.heap.size, 4, none⟩ = some (.string cs)) := by show _ = _; simp
  have HG6 := Lib.hid (sub_cell HG5.out HL6.out)
  clear HL6 HG5 HB5
  go_wp2_with fail
  have HL7 : Hid (Below (w5.alloc (.cells #[.int .i64 4, .bool false, .slice none 0 0, .int .u64 0, .string cs, .slice none 0 0] 28)).heap.size (w5.alloc (.cells #[.int .i64 4, .bool false, .slice none 0 0, .int .u64 0, .string cs, .slice none 0 0] 28)) ((w5.alloc (.cells #[.int .i64 4, .bool false, .slice none 0 0, .int .u64 0, .string cs, .slice none 0 0] 28)).alloc (.cells #[.string ⟨#[115, 116, 114, 105, 112]⟩, .string ⟨#[108, 115, 116, 114, 105, 112]⟩, .string ⟨#[114, 115, 116, 114, 105, 112]⟩] 9))) := (Below.refl _ _).alloc (Nat.le_refl _) _
  have HB7 := Lib.hid (HB6.out.trans (HL7.out.mono HB6.out.size))
  have HK7 := Lib.hid (sub_cell HK6.out HL7.out)
  have HC7 := Lib.hid (sub_cell HC6.out HL7.out)
  have HG7 := Lib.hid (sub_cell HG6.out HL7.out)
  clear HL7 HB6 HK6 HC6 HG6
  go_at_call 7
  refine (rf_2_full s HS.out _ cs HCS.out HCE.out _ _ (by exact HK7.out) (by exact HC7.out)).mono ?_
  rintro e w8 ⟨t, ht3, rfl, hb8⟩
  have HT3 := Lib.hid ht3
  have HB8 := Lib.hid (HB7.out.trans (hb8.mono HB7.out.size))
  have HG8 := Lib.hid (sub_cell HG7.out hb8)
  clear ht3 hb8 HB7 HK7 HC7 HG7
  go_wp2_with fail
  have HB4 : Hid (Below w.heap.size w (w8.alloc (.cells #[.int .i64 4, .bool false, .slice none 0 0, .int .u64 0, .string t, .slice none 0 0] 28))) := HB8.out.alloc HB8.out.size _
  have HL9 : Hid (Below w8.heap.size w8 (w8.alloc (.cells #[.int .i64 4, .bool false, .slice none 0 0, .int .u64 0, .string t, .slice none 0 0] 28))) := (Below.refl _ _).alloc (Nat.le_refl _) _
  have HG9 := Lib.hid (sub_cell HG8.out HL9.out)
  clear HG8 HL9
  go_at_call 8
  refine (im_2_full s HA.out HS.out _ (tabs_below HT.out HB4.out) cs HCA.out HCS.out HC0.out _ _ (by exact HG9.out)).mono ?_
  rintro e w9 ⟨t2, ht9, rfl, hb9⟩
  obtain rfl : t2 = t := same_text _ _ (ht9.trans HT3.out.symm)
  have HB9 := Lib.hid (HB4.out.trans (hb9.mono HB4.out.size))
  have hc4 : w9.cell? ⟨w8.heap.size, 4, none⟩ = some (.string t2) := sub_cell (by simp) hb9
  clear ht9 hb9
  go_wp2
  go_ret
  exact ⟨by simp, HB9.out⟩
end Go.Proofs.YtgcofpmhojplhaaGreatDoor
