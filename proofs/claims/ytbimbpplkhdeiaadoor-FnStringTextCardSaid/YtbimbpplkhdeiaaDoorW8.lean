/- The walk of laws.FnStringText. -/
import Derived.Test.YtbimbpplkhdeiaaDoorW7
namespace Go.Proofs.YtbimbpplkhdeiaaDoor
open Go.RowKit

def MakesStr (l : List UInt8) (w : World) (e : Ending) (w' : World) : Prop := e = .returned (.string ⟨l.toArray⟩) ∧ Below w.heap.size w w'
set_option maxRecDepth 100000 in
theorem f11_any (T : Lib.PrintTabs) (s : ByteArray) (rs : List Nat) (hs : s.data.toList = textOf rs) (hv : AllValid rs) (hlen : s.size ≤ 2147483647) (w : World) (hT : Lib.Utf8Tabs 0 1 w) (hP : Lib.PrintTabsAt 2 3 4 5 T w) :
    Calls Tryd.prog 11 #[.string s] w (MakesStr (34 :: (quoted T rs ++ [34])) w) := by
  have HC := Lib.hid (f18_any T s rs hs hv hlen w hT hP)
  clear hs hv hT hP
  go_enter Tryd.func11, Tryd.ntmps11
  go_wp2_with fail
  refine HC.out.mono ?_
  rintro e w1 ⟨rfl, hb⟩
  have HB := Lib.hid hb
  clear hb
  go_wp2
  go_ret
  exact ⟨rfl, HB.out⟩
set_option maxRecDepth 100000 in
theorem f7_any (T : Lib.PrintTabs) (s : ByteArray) (rs : List Nat) (hs : s.data.toList = textOf rs) (hv : AllValid rs) (hlen : s.size ≤ 2147483647) (w : World) (hT : Lib.Utf8Tabs 0 1 w) (hP : Lib.PrintTabsAt 2 3 4 5 T w) :
    Calls Tryd.prog 7 #[.string s] w (MakesStr (34 :: (quoted T rs ++ [34])) w) := by
  have HC := Lib.hid (f11_any T s rs hs hv hlen w hT hP)
  clear hs hv hT hP
  go_enter Tryd.func7, Tryd.ntmps7
  go_wp2_with fail
  refine HC.out.mono ?_
  rintro e w1 ⟨rfl, hb⟩
  have HB := Lib.hid hb
  clear hb
  go_wp2
  go_ret
  exact ⟨rfl, HB.out⟩
set_option maxRecDepth 100000 in
theorem f3_any (T : Lib.PrintTabs) (s : ByteArray) (hlen : s.size ≤ maxLen) (w : World) (hT : Lib.Utf8Tabs 0 1 w) (hP : Lib.PrintTabsAt 2 3 4 5 T w) :
    Calls Tryd.prog 3 #[.string s] w fun e w' => e = .returned (.bool true) ∧ Below w.heap.size w w' := by
  unfold maxLen at hlen
  by_cases hl : s.size ≤ 2147483647
  · have HV := Lib.hid (f5_any s (by omega) w hT)
    have HT := Lib.hid hT
    have HP := Lib.hid hP
    clear hT hP
    go_enter Tryd.func3, Tryd.ntmps3
    go_wp2_with fail
    refine HV.out.mono ?_
    rintro e w1 ⟨rs, hv, hm, rfl, hb⟩
    have hz : (⟨(textOf rs).toArray⟩ : ByteArray).size ≤ 2147483647 := by rw [size_list]; show (textOf rs).toArray.toList.length ≤ _; simp; omega
    have H7 : Hid (Calls Tryd.prog 7 #[.string ⟨(textOf rs).toArray⟩] w1 fun e w' => e = .returned (.string ⟨(34 :: (quoted T rs ++ [34])).toArray⟩) ∧ Below w1.heap.size w1 w') := f7_any T ⟨(textOf rs).toArray⟩ rs rfl hv hz w1 (tabs_below HT.out hb) (print_below HP.out hb)
    have H6 : Hid (∀ w2, Calls Tryd.prog 6 #[.string ⟨(34 :: (quoted T rs ++ [34])).toArray⟩, .bool false] w2 fun e w' => e = .returned (.tuple #[.string ⟨(textOf rs).toArray⟩, .bool true]) ∧ Below w2.heap.size w2 w') := fun w2 =>
      f6_any ⟨(34 :: (quoted T rs ++ [34])).toArray⟩ (quoted T rs) (textOf rs) rfl (unq_text T rs hv) (by
        have h1 := quoted_len T rs
        have h2 := text_len rs
        rw [size_list]; show (34 :: (quoted T rs ++ [34])).toArray.toList.length ≤ _; simp; omega) w2
    have HB := Lib.hid hb
    clear hb hv hm hz HV
    generalize (⟨(34 :: (quoted T rs ++ [34])).toArray⟩ : ByteArray) = q at *
    generalize (⟨(textOf rs).toArray⟩ : ByteArray) = u at *
    go_wp2_with (first
      | (go_at_call 7; refine H7.out.mono ?_; rintro e w2 ⟨rfl, hb2⟩; have HB2 := Lib.hid (HB.out.trans (hb2.mono HB.out.size)); clear hb2)
      | (go_at_call 6; refine (H6.out _).mono ?_; rintro e w3 ⟨rfl, hb3⟩; have HB3 := Lib.hid (HB2.out.trans (hb3.mono HB2.out.size)); clear hb3))
    go_ret
    exact ⟨rfl, HB3.out⟩
  · have hl' : (2147483647 : Int) < s.size := by omega
    clear hT hP
    go_enter Tryd.func3, Tryd.ntmps3
    go_wp2
    go_ret
    exact ⟨rfl, Below.refl _ _⟩
end Go.Proofs.YtbimbpplkhdeiaaDoor
