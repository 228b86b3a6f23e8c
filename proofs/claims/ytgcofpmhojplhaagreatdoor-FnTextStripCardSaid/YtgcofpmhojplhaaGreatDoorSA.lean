/- The law of strip, at any arguments. -/
import Derived.Test.YtgcofpmhojplhaaGreatDoorS9
namespace Go.Proofs.YtgcofpmhojplhaaGreatDoor
open Go.RowKit

def ascS (t : ByteArray) : ByteArray := ⟨(ascL t.data.toList).toArray⟩
theorem ascS_asc (t : ByteArray) : Asc (ascS t).data.toList := low7_asc _
theorem ascS_size (t : ByteArray) : (ascS t).size ≤ 60 := by
  rw [size_list0]
  show ((t.data.toList.take 60).map low7).length ≤ 60
  rw [List.length_map, List.length_take]
  exact Nat.min_le_left _ _
theorem f5_asc (t : ByteArray) (ht : t.size ≤ 2147483647) (w : World) : Calls Tryz.prog 5 #[.string t] w (MadeS (ascS t) w) := f5_any t ht w
set_option maxRecDepth 100000 in
theorem f3_long (x : Int) (text chars : ByteArray) (named : Bool) (h : 2147483647 < text.size) (w : World) : Calls Tryz.prog 3 #[.int .u8 x, .string text, .string chars, .bool named] w (HoldsB w) := by
  go_enter Tryz.func3, Tryz.ntmps3
  go_wp2
  go_ret
  exact ⟨rfl, Below.refl _ _⟩
set_option maxRecDepth 100000 in
theorem f3_long2 (x : Int) (text chars : ByteArray) (named : Bool) (h0 : text.size ≤ 2147483647) (h : 2147483647 < chars.size) (w : World) : Calls Tryz.prog 3 #[.int .u8 x, .string text, .string chars, .bool named] w (HoldsB w) := by
  go_enter Tryz.func3, Tryz.ntmps3
  go_wp2
  go_ret
  exact ⟨rfl, Below.refl _ _⟩
theorem f3_any (x : Int) (h0 : 0 ≤ x) (h1 : x ≤ 255) (text chars : ByteArray) (named : Bool) (w : World) (hT : Lib.Utf8Tabs 1 2 w) : Calls Tryz.prog 3 #[.int .u8 x, .string text, .string chars, .bool named] w (HoldsB w) := by
  rcases Nat.lt_or_ge 2147483647 text.size with ht | ht
  · exact f3_long x text chars named ht w
  rcases Nat.lt_or_ge 2147483647 chars.size with hc | hc
  · exact f3_long2 x text chars named ht hc w
  have sz := ascS_size text
  have cz := ascS_size chars
  have hk : x % 3 = 0 ∨ x % 3 = 1 ∨ x % 3 = 2 := by omega
  cases named
  · rcases hk with hk | hk | hk
    · exact f3_0_none x h0 h1 hk text chars (ascS text) ht hc (ascS_asc text) (by omega) (f5_asc text ht) w hT
    · exact f3_1_none x h0 h1 hk text chars (ascS text) ht hc (ascS_asc text) (by omega) (f5_asc text ht) w hT
    · exact f3_2_none x h0 h1 hk text chars (ascS text) ht hc (ascS_asc text) (by omega) (f5_asc text ht) w hT
  · by_cases he : (ascS chars).size = 0
    · have hv : ascS chars = ⟨#[]⟩ := same_text _ _ (nil_of _ he)
      have h5 := f5_asc chars hc
      rw [hv] at h5
      rcases hk with hk | hk | hk
      · exact f3_0_void x h0 h1 hk text chars (ascS text) ht hc (ascS_asc text) (by omega) (f5_asc text ht) h5 w hT
      · exact f3_1_void x h0 h1 hk text chars (ascS text) ht hc (ascS_asc text) (by omega) (f5_asc text ht) h5 w hT
      · exact f3_2_void x h0 h1 hk text chars (ascS text) ht hc (ascS_asc text) (by omega) (f5_asc text ht) h5 w hT
    · rcases hk with hk | hk | hk
      · exact f3_0_full x h0 h1 hk text chars (ascS text) ht hc (ascS_asc text) (by omega) (f5_asc text ht) (ascS chars) (ascS_asc chars) (by omega) he (f5_asc chars hc) w hT
      · exact f3_1_full x h0 h1 hk text chars (ascS text) ht hc (ascS_asc text) (by omega) (f5_asc text ht) (ascS chars) (ascS_asc chars) (by omega) he (f5_asc chars hc) w hT
      · exact f3_2_full x h0 h1 hk text chars (ascS text) ht hc (ascS_asc text) (by omega) (f5_asc text ht) (ascS chars) (ascS_asc chars) (by omega) he (f5_asc chars hc) w hT
end Go.Proofs.YtgcofpmhojplhaaGreatDoor
