/- The walk of laws.FnOrd. -/
import Derived.Test.YtbimbpplkhdeiaaDoorO3
import Derived.Test.YtbimbpplkhdeiaaDoorUe
import Derived.Laws.IdiomStrings
namespace Go.Proofs.YtbimbpplkhdeiaaDoor
open Go.RowKit

theorem new_cell (w : World) (cs : Array Value) (e : TypeId) (v : Value) (h : cs[0]? = some v) : (w.alloc (.cells cs e)).cell? ⟨w.heap.size, 0, none⟩ = some v := by
  simp [h]
theorem runes_made (rs : List Nat) (hv : AllValid rs) (hl : rs.length ≤ 100000) (w : World) : ∃ (C : Nat) (w2 : World), (convert 9 26 (.string ⟨(textOf rs).toArray⟩)).run Tryd.prog w = .ok (.slice (some ⟨w.heap.size, 0, none⟩) rs.length C) w2 ∧ Below w.heap.size w w2 ∧ rs.length ≤ C ∧ (∀ r, rs = [r] → w2.cell? ⟨w.heap.size, 0, none⟩ = some (.int .i32 (r : Nat))) := by
  have hb : rs.length ≤ (⟨(textOf rs).toArray⟩ : ByteArray).size := by rw [size_list]; show _ ≤ (textOf rs).toArray.toList.length; simpa using text_len rs
  have hr := runes_text ⟨(textOf rs).toArray⟩ rs hv 0 _ #[] (by simp) hb
  have hrun := run_runes_of_string (P := Tryd.prog) w 9 26 21 ⟨(textOf rs).toArray⟩ Tryd.underlying9 Tryd.underlying26 Tryd.underlying21 (by rw [hr]; simp; omega)
  rw [hr] at hrun
  simp only [List.append_toArray, List.nil_append, List.size_toArray, List.length_map] at hrun
  refine ⟨_, _, hrun, ?_, grownCap_ge _ _ _ _, fun r he => ?_⟩
  · exact (below_drewN (Below.refl w.heap.size w) 1).alloc (by simp) _
  · subst he
    obtain ⟨cs, hcs⟩ : ∃ cs, cs = (List.map (fun (r : Nat) => Value.int IntKind.i32 (r : Int)) [r]).toArray ++ Array.replicate (grownCap w [r].length 0 21 - [r].length) (Value.int IntKind.i32 0) := ⟨_, rfl⟩
    have h0 : cs[0]? = some (.int .i32 (r : Int)) := by rw [hcs, Array.getElem?_append_left (by simp)]; simp
    rw [← hcs]
    exact new_cell w.drew cs 21 _ h0
set_option maxRecDepth 100000 in
set_option maxHeartbeats 4000000 in
theorem f4_bytes (s : ByteArray) (hlen : s.size ≤ 2147483647) (w : World) : Calls Tryd.prog 4 #[.string s, .bool true] w fun e w' => e = .returned (.bool true) ∧ Below w.heap.size w w' := by
  obtain ⟨k, hk⟩ : ∃ k, k = min s.size 40 := ⟨_, rfl⟩
  have hks : k ≤ s.size := by omega
  have hk40 : k ≤ 40 := by omega
  have hmin : min (s.size : Int) 40 = (k : Int) := by omega
  have hbz : (s.extract 0 k).size = k := by rw [ByteArray.size_extract]; omega
  have hl' : ¬ ((2147483647 : Int) < s.size) := by omega
  clear hk
  have HA : Hid (∀ w, Calls Tryd.prog 8 #[.string ⟨#[97]⟩, .bool true] w (OrdIs 97 true w)) := fun w => f8_bytes_one ⟨#[97]⟩ 97 rfl rfl w
  by_cases h1 : k = 1
  · have HO : Hid (∀ w, Calls Tryd.prog 8 #[.string (s.extract 0 k), .bool true] w (OrdIs ((((s.extract 0 k).data.toList.getD 0 0).toNat : Nat) : Int) true w)) := fun w => f8_bytes_one _ _ (hbz.trans h1) rfl w
    have hp : 0 < (s.extract 0 k).size := by omega
    have hp' : 0 < k := by omega
    have e0 : ((s.extract 0 k)[0].toNat : Int) = ((((s.extract 0 k).data.toList.getD 0 0).toNat : Nat) : Int) := by rw [at_list _ 0 hp _ rfl]
    have h256 : ((((s.extract 0 k).data.toList.getD 0 0).toNat : Nat) : Int) < 256 := by have := UInt8.toNat_lt ((s.extract 0 k).data.toList.getD 0 0); omega
    generalize ((s.extract 0 k).data.toList.getD 0 0).toNat = x at *
    have t1 : ((k : Int) == 1) = true := by rw [h1]; rfl
    have hx : ((x : Int) == (x : Int)) = true := by simp
    clear h1 hbz
    go_enter Tryd.func4, Tryd.ntmps4
    go_wp2_with fail
    refine (HO.out _).mono ?_
    rintro e w1 ⟨rfl, hb⟩
    have HB := Lib.hid hb
    clear hb
    go_wp2_with fail
    refine (HA.out _).mono ?_
    rintro e w2 ⟨rfl, hb⟩
    have HB2 := Lib.hid (HB.out.trans (hb.mono HB.out.size))
    clear hb
    go_wp2
    go_ret
    exact ⟨rfl, HB2.out⟩
  · have HO : Hid (∀ w, Calls Tryd.prog 8 #[.string (s.extract 0 k), .bool true] w (OrdIs 0 false w)) := fun w => f8_bytes_no _ (by rw [hbz]; exact h1) w
    have t1 : ((k : Int) == 1) = false := by
      have h : ¬ (k : Int) = 1 := by omega
      simpa using h
    clear h1 hbz
    go_enter Tryd.func4, Tryd.ntmps4
    go_wp2_with fail
    refine (HO.out _).mono ?_
    rintro e w1 ⟨rfl, hb⟩
    have HB := Lib.hid hb
    clear hb
    go_wp2_with fail
    refine (HA.out _).mono ?_
    rintro e w2 ⟨rfl, hb⟩
    have HB2 := Lib.hid (HB.out.trans (hb.mono HB.out.size))
    clear hb
    go_wp2
    go_ret
    exact ⟨rfl, HB2.out⟩
set_option maxRecDepth 100000 in
set_option maxHeartbeats 4000000 in
theorem f4_text (s : ByteArray) (hlen : s.size ≤ 2147483647) (w : World) (hT : Lib.Utf8Tabs 0 1 w) : Calls Tryd.prog 4 #[.string s, .bool false] w fun e w' => e = .returned (.bool true) ∧ Below w.heap.size w w' := by
  obtain ⟨k, hk⟩ : ∃ k, k = min s.size 40 := ⟨_, rfl⟩
  have hks : k ≤ s.size := by omega
  have hk40 : k ≤ 40 := by omega
  have hmin : min (s.size : Int) 40 = (k : Int) := by omega
  have hbz : (s.extract 0 k).size = k := by rw [ByteArray.size_extract]; omega
  have hl' : ¬ ((2147483647 : Int) < s.size) := by omega
  clear hk
  have HT := Lib.hid hT
  have HA : Hid (∀ w1, Below w.heap.size w w1 → Calls Tryd.prog 8 #[.string ⟨#[97]⟩, .bool false] w1 (OrdIs 97 true w1)) := fun w1 hb => f8_str_one ⟨#[97]⟩ 97 (by decide) (by decide) w1 (tabs_below HT.out hb)
  have HV := Lib.hid (f5_any (s.extract 0 k) (by omega) w hT)
  clear hT
  have t1 : ((k : Int) == 1) = decide (k = 1) := by
    by_cases h : k = 1
    · rw [h]; rfl
    · have h2 : ¬ (k : Int) = 1 := by omega
      rw [decide_eq_false h]; simpa using h2
  by_cases h1 : k = 1
  all_goals
    first
      | (rw [decide_eq_true h1] at t1
         have hp : 0 < k := by omega)
      | rw [decide_eq_false h1] at t1
    clear h1
    go_enter Tryd.func4, Tryd.ntmps4
    go_wp2_with fail
    refine HV.out.mono ?_
    rintro e w1 ⟨rs, hv, hm, rfl, hb⟩
    obtain ⟨C, w2, hcv, hb2, hC, hcell⟩ := runes_made rs hv (by have := text_len rs; omega) w1
    have HB1 := Lib.hid (hb.trans (hb2.mono hb.size))
    have HCV := Lib.hid hcv
    have HOR : Hid (∀ wx, Below w.heap.size w wx → ∀ r, rs = [r] → Calls Tryd.prog 8 #[.string ⟨(textOf rs).toArray⟩, .bool false] wx (OrdIs r true wx)) := fun wx hbx r he => by
      subst he
      exact f8_str_one _ r (by simp [textOf]) (hv r (by simp)) wx (tabs_below HT.out hbx)
    have HON : Hid (∀ wx, Below w.heap.size w wx → rs.length ≠ 1 → Calls Tryd.prog 8 #[.string ⟨(textOf rs).toArray⟩, .bool false] wx (OrdIs 0 false wx)) := fun wx hbx he =>
      f8_str_no _ rs rfl hv he wx (tabs_below HT.out hbx)
    have HCE := Lib.hid hcell
    have HVR := Lib.hid hv
    clear hb hb2 hm hcell hv hcv
    have hcv := HCV.out
    generalize (⟨(textOf rs).toArray⟩ : ByteArray) = u at *
    by_cases hn : rs.length = 1
    · obtain ⟨r, hr⟩ : ∃ r, rs = [r] := List.length_eq_one_iff.1 hn
      have HO := Lib.hid (fun wx hbx => HOR.out wx hbx r hr)
      have hc := HCE.out r hr
      have t3 : ((rs.length : Int) == 1) = true := by rw [hn]; rfl
      have hn0 : 0 < rs.length := by omega
      have hx : ((r : Int) == (r : Int)) = true := by simp
      have hri : (r : Int) ≤ 1114111 := by
        have := (validRune_iff (r : Int)).1 (HVR.out r (by rw [hr]; simp))
        omega
      clear HOR HON hr hn HVR HCV HCE
      generalize rs.length = n at *
      go_wp2_with fail
      refine (HO.out _ HB1.out).mono ?_
      rintro e w3 ⟨rfl, hb⟩
      have HB3 := Lib.hid (HB1.out.trans (hb.mono HB1.out.size))
      clear hb
      go_wp2_with fail
      refine (HA.out _ HB3.out).mono ?_
      rintro e w4 ⟨rfl, hb⟩
      have HB4 := Lib.hid (HB3.out.trans (hb.mono HB3.out.size))
      clear hb
      go_wp2
      go_ret
      exact ⟨rfl, HB4.out⟩
    · have HO := Lib.hid (fun wx hbx => HON.out wx hbx hn)
      have t3 : ((rs.length : Int) == 1) = false := by
        have h : ¬ (rs.length : Int) = 1 := by omega
        simpa using h
      clear HOR HON hn HVR HCV HCE
      generalize rs.length = n at *
      go_wp2_with fail
      refine (HO.out _ HB1.out).mono ?_
      rintro e w3 ⟨rfl, hb⟩
      have HB3 := Lib.hid (HB1.out.trans (hb.mono HB1.out.size))
      clear hb
      go_wp2_with fail
      refine (HA.out _ HB3.out).mono ?_
      rintro e w4 ⟨rfl, hb⟩
      have HB4 := Lib.hid (HB3.out.trans (hb.mono HB3.out.size))
      clear hb
      go_wp2
      go_ret
      exact ⟨rfl, HB4.out⟩

theorem f4_any (s : ByteArray) (b : Bool) (hlen : s.size ≤ maxLen) (w : World) (hT : Lib.Utf8Tabs 0 1 w) : Calls Tryd.prog 4 #[.string s, .bool b] w fun e w' => e = .returned (.bool true) ∧ Below w.heap.size w w' := by
  unfold maxLen at hlen
  by_cases hl : s.size ≤ 2147483647
  · cases b
    · exact f4_text s hl w hT
    · exact f4_bytes s hl w
  · have hl' : (2147483647 : Int) < s.size := by omega
    clear hT
    go_enter Tryd.func4, Tryd.ntmps4
    go_wp2
    go_ret
    exact ⟨rfl, Below.refl _ _⟩
end Go.Proofs.YtbimbpplkhdeiaaDoor
