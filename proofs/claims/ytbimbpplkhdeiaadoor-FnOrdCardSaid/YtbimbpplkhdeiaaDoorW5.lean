/- The walk of the reference's Valid: a text of UTF-8 comes of any one. -/
import Derived.Test.YtbimbpplkhdeiaaDoorW4
namespace Go.Proofs.YtbimbpplkhdeiaaDoor
open Go.RowKit

theorem get_list (s : ByteArray) (k : Nat) : s.get! k = s.data.toList.getD k 0 := by
  show s.data[k]! = _
  rw [List.getD_eq_getElem?_getD, Array.getElem?_toList, getElem!_def]
  cases s.data[k]? <;> rfl
theorem decodeGo_list (s : ByteArray) (h : 0 < s.size) : Lib.decodeGo s = decL s.data.toList := by
  unfold Lib.decodeGo
  rw [if_neg (by omega), Lib.decode_at, get_list, get_list, get_list, get_list]
  unfold decL
  rw [← size_list]
  rfl
theorem cell_below {w w' : World} {a : Addr} {v : Value} (h : w.cell? a = some v) (hb : Below w.heap.size w w') : w'.cell? a = some v :=
  (hb.cell (World.block_lt_of_cell? w _ h)).trans h
theorem tabs_below {w w' : World} (h : Lib.Utf8Tabs 0 1 w) (hb : Below w.heap.size w w') : Lib.Utf8Tabs 0 1 w' :=
  ⟨fun c hc => cell_below (h.1 c hc) hb, fun i hi => ⟨cell_below (h.2 i hi).1 hb, cell_below (h.2 i hi).2 hb⟩⟩
theorem slice_below {w w' : World} {g : Nat} {k : IntKind} {t : List Nat} (h : Lib.TabSlice g k t w) (hb : Below w.heap.size w w') : Lib.TabSlice g k t w' := by
  obtain ⟨R, o, c, h1, h2⟩ := h
  exact ⟨R, o, c, cell_below h1 hb, fun j hj => cell_below (h2 j hj) hb⟩
theorem print_below {w w' : World} {T : Lib.PrintTabs} (h : Lib.PrintTabsAt 2 3 4 5 T w) (hb : Below w.heap.size w w') : Lib.PrintTabsAt 2 3 4 5 T w' :=
  ⟨slice_below h.1 hb, slice_below h.2.1 hb, slice_below h.2.2.1 hb, slice_below h.2.2.2.1 hb, h.2.2.2.2⟩
theorem rune63 : Lib.validRune ((63 : Nat) : Int) = true := by decide
theorem text_snoc (rs : List Nat) (r : Nat) : textOf (rs ++ [r]) = textOf rs ++ Lib.encodeRune (r : Int) := by simp [textOf]
/-- What makes a text of UTF-8. -/
def MakesText (m : Nat) (w : World) (e : Ending) (w' : World) : Prop := ∃ rs, AllValid rs ∧ (textOf rs).length ≤ m ∧ e = .returned (.string ⟨(textOf rs).toArray⟩) ∧ Below w.heap.size w w'
set_option maxRecDepth 100000 in
set_option maxHeartbeats 1000000 in
theorem f5_any (s : ByteArray) (hlen : s.size ≤ 140737488355000) (w : World) (hT : Lib.Utf8Tabs 0 1 w) : Calls Tryd.prog 5 #[.string s] w (MakesText s.size w) := by
  have HT := Lib.hid hT
  clear hT
  go_enter Tryd.func5, Tryd.ntmps5
  go_wp2
  go_loopw [3, 4] (fun v i wr => ∃ (n : Nat) (rs : List Nat), n ≤ s.size ∧ AllValid rs ∧ i = .int .i64 n ∧ Hid (OB w.heap.size w wr v (textOf rs)) ∧ Hid ((textOf rs).length ≤ n)) (fun _ i _ => s.size - (RowKit.intOf i).toNat)
  case atStart => exact ⟨0, [], Nat.zero_le _, (fun _ h => by cases h), rfl, OB.nil w, Nat.le_refl _⟩
  case round =>
    obtain ⟨n, rs, hn, hv, rfl, HO, HL⟩ := hrel
    by_cases hx : n < s.size
    · have hd : Lib.decodeGo (s.extract n s.size) = decL (s.data.toList.drop n) := by
        rw [decodeGo_list _ (by rw [ByteArray.size_extract]; omega), ByteArray.data_extract, Array.toList_extract, List.extract_eq_take_drop, List.take_of_length_le (by rw [List.length_drop, ← size_list]; omega)]
      have hlen1 : 1 ≤ (s.data.toList.drop n).length := by rw [List.length_drop, ← size_list]; omega
      have HLD : Hid ((s.data.toList.drop n).length = s.size - n) := by show _ = _; rw [List.length_drop, ← size_list]
      have hw := decL_width _ hlen1
      have HC : Hid (∀ w1, Below w.heap.size w w1 → Calls Tryd.prog 9 #[.string (s.extract n s.size)] w1 fun e w' => e = .returned (.tuple #[.int .i32 (decL (s.data.toList.drop n)).1, .int .i64 (decL (s.data.toList.drop n)).2]) ∧ Below w1.heap.size w1 w') := fun w1 hb => by
        rw [← hd]; exact Tryd.utf8_DecodeRuneInString _ w1 (tabs_below HT.out hb)
      clear hd
      obtain ⟨r, hr⟩ : ∃ r, (decL (s.data.toList.drop n)).1 = r := ⟨_, rfl⟩
      obtain ⟨k, hk⟩ : ∃ k, (decL (s.data.toList.drop n)).2 = k := ⟨_, rfl⟩
      have hrk : decL (s.data.toList.drop n) = (r, k) := by rw [← hr, ← hk]
      rw [hr, hk] at HC
      rw [hk] at hw
      have hk1 : 1 ≤ k := hw.1
      have hk2 : n + k ≤ s.size := by have := hw.2; rw [HLD.out] at this; omega
      have HCH := Lib.hid (decL_chunk _ hlen1 r k hrk)
      have HS : Hid ((s.extract n (n + k)).data.toList = (s.data.toList.drop n).take k) := by
        show (s.extract n (n + k)).data.toList = _
        rw [ByteArray.data_extract, Array.toList_extract, List.extract_eq_take_drop, Nat.add_sub_cancel_left]
      clear hr hk hrk hw hlen1
      by_cases hbad : r = 65533 ∧ k < 2
      · have t1 : ((r : Int) == 65533) = true := by rw [hbad.1]; rfl
        have t2 : decide ((k : Int) < 2) = true := decide_eq_true (by omega)
        have HLB : Hid ((textOf rs).length + 1 ≤ 140737488355328) := by have := HL.out; show _ ≤ _; omega
        clear hbad
        go_wp2_with (first
          | (go_at_call 9; refine (HC.out _ HO.out.to).mono ?_; rintro ex w2 ⟨rfl, hb2⟩; have HO2 := Lib.hid (HO.out.below hb2); clear hb2)
          | (at_builtin; refine ob_byte rfl _ _ rfl w.heap.size w _ _ (textOf rs) rfl HO2.out 63 _ rfl rfl HLB.out ?_; intro v' w' hO'; have HO' := Lib.hid hO'; clear hO'))
        go_roundw
        case rel => exact ⟨n + k, rs ++ [63], hk2, hv.append (.one rune63), by go_num, by rw [text_snoc, encode_question]; exact HO'.out, by rw [text_snoc, encode_question]; have := HL.out; show _ ≤ _; simp; omega⟩
        case measure => simp [RowKit.intOf]; omega
      · obtain ⟨c1, _, _, c4⟩ := HCH.out hbad
        have HE : Hid ((s.extract n (n + k)).data.toList = Lib.encodeRune (r : Int)) := HS.out.trans c4
        have HK : Hid ((Lib.encodeRune (r : Int)).length = k) := by
          show _ = _; rw [← c4, List.length_take, HLD.out]; omega
        have HLB : Hid ((textOf rs).length + (s.extract n (n + k)).size ≤ 140737488355328) := by
          have := HL.out; have := HK.out; show _ ≤ _; rw [size_list, HE.out]; omega
        have HV1 := Lib.hid c1
        have HV := Lib.hid hv
        have hk4 : n + k ≤ 140737488355000 := by omega
        clear c1 c4 HCH hv
        rcases (show r ≠ 65533 ∨ (2 ≤ k ∧ r = 65533) by omega) with hbd | hbd
        all_goals
          first
            | (have t1 : ((r : Int) == 65533) = false := by (have h : ¬ (r : Int) = 65533 := by omega); simpa using h)
            | (have t1 : ((r : Int) == 65533) = true := by rw [hbd.2]; rfl
               have t2 : decide ((k : Int) < 2) = false := decide_eq_false (by omega))
          clear hbd hbad
          go_wp2_with (first
            | (go_at_call 9; refine (HC.out _ HO.out.to).mono ?_; rintro ex w2 ⟨rfl, hb2⟩; have HO2 := Lib.hid (HO.out.below hb2); clear hb2)
            | (at_builtin; refine ob_text rfl _ _ rfl w.heap.size w _ (textOf rs) rfl HO2.out _ rfl HLB.out ?_; intro v' w' hO'; have HO' := Lib.hid hO'; clear hO'))
          go_roundw
          case rel => exact ⟨n + k, rs ++ [r], hk2, HV.out.append (.one HV1.out), by go_num, by rw [text_snoc, ← HE.out]; exact HO'.out, by rw [text_snoc, List.length_append, HK.out]; have := HL.out; show _ ≤ _; omega⟩
          case measure => simp [RowKit.intOf]; omega
    · have hst := ob_string HO.out
      have HV := Lib.hid hv
      have hle : (textOf rs).length ≤ s.size := by have := HL.out; omega
      clear hv
      go_wp2
      go_ret
      exact ⟨rs, HV.out, hle, rfl, HO.out.to⟩
end Go.Proofs.YtbimbpplkhdeiaaDoor
