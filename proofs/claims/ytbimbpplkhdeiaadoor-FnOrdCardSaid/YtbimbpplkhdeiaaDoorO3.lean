/- Walks of the thin package's Ord. -/
import Derived.Test.YtbimbpplkhdeiaaDoorO2
namespace Go.Proofs.YtbimbpplkhdeiaaDoor
open Go.RowKit

set_option maxRecDepth 100000 in
theorem f13_one (g : Nat) (z : Int) (w : World) (h : Calls Tryd.prog 20 #[.pointer none, .pointer none, .slice (some ⟨g, 0, none⟩) 1 1, .slice none 0 0] w (OrdOne z w)) : Calls Tryd.prog 13 #[.slice (some ⟨g, 0, none⟩) 1 1] w (OrdOne z w) := by
  have HC := Lib.hid h
  clear h
  go_enter Tryd.func13, Tryd.ntmps13
  go_wp2_with (go_at_call 20; refine HC.out.mono ?_; rintro e w1 ⟨rfl, hb⟩; have HB := Lib.hid hb; clear hb)
  go_ret2
  exact ⟨rfl, HB.out⟩
set_option maxRecDepth 100000 in
theorem f13_no (g : Nat) (w : World) (h : Calls Tryd.prog 20 #[.pointer none, .pointer none, .slice (some ⟨g, 0, none⟩) 1 1, .slice none 0 0] w (OrdNo w)) : Calls Tryd.prog 13 #[.slice (some ⟨g, 0, none⟩) 1 1] w (OrdNo w) := by
  have HC := Lib.hid h
  clear h
  go_enter Tryd.func13, Tryd.ntmps13
  go_wp2_with (go_at_call 20; refine HC.out.mono ?_; rintro e w1 ⟨a, rfl, hb⟩; have HB := Lib.hid hb; clear hb)
  go_ret2
  exact ⟨_, rfl, HB.out⟩
/-- What Ord leaves. -/
def OrdIs (z : Int) (ok : Bool) (w : World) (e : Ending) (w' : World) : Prop := e = .returned (.tuple #[.int .i64 z, .bool ok]) ∧ Below w.heap.size w w'
set_option maxRecDepth 100000 in
theorem f8_str_one (s : ByteArray) (r : Nat) (hs : s.data.toList = Lib.encodeRune (r : Int)) (hv : Lib.validRune (r : Int) = true) (w : World) (hT : Lib.Utf8Tabs 0 1 w) : Calls Tryd.prog 8 #[.string s, .bool false] w (OrdIs (r) true w) := by
  have HC : Hid (Calls Tryd.prog 13 #[.slice (some ⟨w.heap.size, 0, none⟩) 1 1] (w.alloc (.cells #[.iface 35 (.string s)] 39)) (OrdOne r (w.alloc (.cells #[.iface 35 (.string s)] 39)))) :=
    f13_one _ _ _ (f20_str_one s r hs hv w.heap.size _ (by simp) (tabs_below hT ((Below.refl _ _).alloc (Nat.le_refl _) _)))
  clear hs hv hT
  go_enter Tryd.func8, Tryd.ntmps8
  go_wp2_with (first
    | (go_at_call 13; refine HC.out.mono ?_; rintro e w1 ⟨rfl, hb⟩; have HB := Lib.hid (((Below.refl w.heap.size w).alloc (Nat.le_refl _) (.cells #[.iface 35 (.string s)] 39)).trans (hb.mono (by simp))); clear hb)
    | (go_at_call 12; refine (f12_one _ _).mono ?_; rintro e w2 ⟨rfl, hb⟩; have HB2 := Lib.hid (HB.out.trans (hb.mono HB.out.size)); clear hb))
  go_ret2
  exact ⟨rfl, HB2.out⟩
set_option maxRecDepth 100000 in
theorem f8_str_no (s : ByteArray) (rs : List Nat) (hs : s.data.toList = textOf rs) (hv : AllValid rs) (hn : rs.length ≠ 1) (w : World) (hT : Lib.Utf8Tabs 0 1 w) : Calls Tryd.prog 8 #[.string s, .bool false] w (OrdIs (0) false w) := by
  have HC : Hid (Calls Tryd.prog 13 #[.slice (some ⟨w.heap.size, 0, none⟩) 1 1] (w.alloc (.cells #[.iface 35 (.string s)] 39)) (OrdNo (w.alloc (.cells #[.iface 35 (.string s)] 39)))) :=
    f13_no _ _ (f20_str_no s rs hs hv hn w.heap.size _ (by simp) (tabs_below hT ((Below.refl _ _).alloc (Nat.le_refl _) _)))
  clear hs hv hn hT
  go_enter Tryd.func8, Tryd.ntmps8
  go_wp2_with (first
    | (go_at_call 13; refine HC.out.mono ?_; rintro e w1 ⟨a, rfl, hb⟩; have HB := Lib.hid (((Below.refl w.heap.size w).alloc (Nat.le_refl _) (.cells #[.iface 35 (.string s)] 39)).trans (hb.mono (by simp))); clear hb)
    | (go_at_call 12; refine (f12_no a _).mono ?_; rintro e w2 ⟨rfl, hb⟩; have HB2 := Lib.hid (HB.out.trans (hb.mono HB.out.size)); clear hb))
  go_ret2
  exact ⟨rfl, HB2.out⟩
set_option maxRecDepth 100000 in
theorem f8_bytes_one (s : ByteArray) (x : Nat) (hs : s.size = 1) (hx : (s.data.toList.getD 0 0).toNat = x) (w : World) : Calls Tryd.prog 8 #[.string s, .bool true] w (OrdIs ((x : Int)) true w) := by
  have HC : Hid (Calls Tryd.prog 13 #[.slice (some ⟨w.heap.size, 0, none⟩) 1 1] (w.alloc (.cells #[.iface 44 (.string s)] 39)) (OrdOne (x : Int) (w.alloc (.cells #[.iface 44 (.string s)] 39)))) :=
    hx ▸ f13_one _ _ _ (f20_bytes_one s hs w.heap.size _ (by simp))
  clear hs hx
  go_enter Tryd.func8, Tryd.ntmps8
  go_wp2_with (first
    | (go_at_call 13; refine HC.out.mono ?_; rintro e w1 ⟨rfl, hb⟩; have HB := Lib.hid (((Below.refl w.heap.size w).alloc (Nat.le_refl _) (.cells #[.iface 44 (.string s)] 39)).trans (hb.mono (by simp))); clear hb)
    | (go_at_call 12; refine (f12_one _ _).mono ?_; rintro e w2 ⟨rfl, hb⟩; have HB2 := Lib.hid (HB.out.trans (hb.mono HB.out.size)); clear hb))
  go_ret2
  exact ⟨rfl, HB2.out⟩
set_option maxRecDepth 100000 in
theorem f8_bytes_no (s : ByteArray) (hs : s.size ≠ 1) (w : World) : Calls Tryd.prog 8 #[.string s, .bool true] w (OrdIs (0) false w) := by
  have HC : Hid (Calls Tryd.prog 13 #[.slice (some ⟨w.heap.size, 0, none⟩) 1 1] (w.alloc (.cells #[.iface 44 (.string s)] 39)) (OrdNo (w.alloc (.cells #[.iface 44 (.string s)] 39)))) :=
    f13_no _ _ (f20_bytes_no s hs w.heap.size _ (by simp))
  clear hs
  go_enter Tryd.func8, Tryd.ntmps8
  go_wp2_with (first
    | (go_at_call 13; refine HC.out.mono ?_; rintro e w1 ⟨a, rfl, hb⟩; have HB := Lib.hid (((Below.refl w.heap.size w).alloc (Nat.le_refl _) (.cells #[.iface 44 (.string s)] 39)).trans (hb.mono (by simp))); clear hb)
    | (go_at_call 12; refine (f12_no a _).mono ?_; rintro e w2 ⟨rfl, hb⟩; have HB2 := Lib.hid (HB.out.trans (hb.mono HB.out.size)); clear hb))
  go_ret2
  exact ⟨rfl, HB2.out⟩

set_option linter.unusedVariables false in
theorem runes_text (s : ByteArray) : ∀ (rs : List Nat) (hv : AllValid rs) (i bound : Nat) (acc : Array Value) (hs : s.data.toList.drop i = textOf rs) (hb : rs.length ≤ bound), Conv.runesFrom s bound i acc = acc ++ (rs.map fun (r : Nat) => Value.int .i32 (r : Int)).toArray
  | [], _, i, bound, acc, hs, _ => by
    have hi : ¬ i < s.size := by
      have h := congrArg List.length hs
      rw [List.length_drop, ← size_list] at h
      simp [textOf] at h
      omega
    cases bound with
    | zero => simp [Conv.runesFrom]
    | succ b => simp [Conv.runesFrom, hi]
  | r :: rs, hv, i, bound, acc, hs, hb => by
    match bound, hb with
    | b + 1, hb =>
      have hne := List.length_pos_iff.2 (encodeRune_ne (r : Int))
      have hlen : (s.data.toList.drop i).length = (Lib.encodeRune (r : Int)).length + (textOf rs).length := by rw [hs, textOf_cons, List.length_append]
      rw [List.length_drop, ← size_list] at hlen
      have hi : i < s.size := by omega
      have hd : Utf8.decode s i = (r, (Lib.encodeRune (r : Int)).length) := by
        rw [Lib.decode_at, get_list, get_list, get_list, get_list]
        have e := decL_encode r (hv r (by simp)) (textOf rs)
        rw [← textOf_cons, ← hs] at e
        unfold decL at e
        rw [List.length_drop, ← size_list] at e
        simpa [List.getD_eq_getElem?_getD, List.getElem?_drop] using e
      unfold Conv.runesFrom
      rw [if_pos hi, hd]
      simp only []
      rw [runes_text s rs (fun x hx => hv x (by simp [hx])) (i + (Lib.encodeRune (r : Int)).length) b _ (by
        rw [← List.drop_drop, hs, textOf_cons, List.drop_left']
        rfl) (by simpa using hb)]
      simp
end Go.Proofs.YtbimbpplkhdeiaaDoor
