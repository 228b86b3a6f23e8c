/- The walk of the package's Quote at a text of UTF-8. (Printed by mkw7.py.) -/
import Derived.Test.YtbimbpplkhdeiaaDoorW6
import Derived.Test.YtbimbpplkhdeiaaDoorUe
import Derived.Lib.QuoteBits
import Derived.Laws.BitsAllLaws
namespace Go.Proofs.YtbimbpplkhdeiaaDoor
open Go.RowKit

theorem int_ne (a b : Int) (h : ¬ a = b) : (a == b) = false := by simpa using h
theorem slice_tmp (B m : Nat) (hm : m ≤ 4) (w : World) : (Instr.sliceAt 64 (.pointer (some ⟨B, 0, none⟩)) none (some (.int .i64 m)) none).run Tryd.prog w = .ok (.slice (some ⟨B, 0, none⟩) m 4) w := by
  rcases (show m = 0 ∨ m = 1 ∨ m = 2 ∨ m = 3 ∨ m = 4 by omega) with rfl | rfl | rfl | rfl | rfl <;> kernel_rfl
def strSize : Value → Nat
  | .string b => b.size
  | _ => 0
theorem rest_data (s : ByteArray) (k : Nat) (a t : List UInt8) (h : s.data.toList = a ++ t) (hk : a.length = k) : (s.extract k s.size).data.toList = t := by
  rw [ByteArray.data_extract, Array.toList_extract, List.extract_eq_take_drop, h, size_list, h, List.drop_left' hk]
  exact List.take_of_length_le (by rw [List.length_append]; omega)
theorem hexlit (d : Nat) (h : d < 16) : ((⟨#[48, 49, 50, 51, 52, 53, 54, 55, 56, 57, 97, 98, 99, 100, 101, 102]⟩ : ByteArray)[d].toNat : Int) = ((hexB d).toNat : Int) := by
  have e : (⟨#[48, 49, 50, 51, 52, 53, 54, 55, 56, 57, 97, 98, 99, 100, 101, 102]⟩ : ByteArray)[d] = digs.data.toList.getD d 0 := at_list digs d h _ rfl
  have e2 : ∀ d < 16, digs.data.toList.getD d 0 = hexB d := by decide
  rw [e, e2 d h]
set_option maxRecDepth 1000000 in
set_option maxHeartbeats 40000000 in
theorem f18_any (T : Lib.PrintTabs) (s : ByteArray) (rs : List Nat) (hs : s.data.toList = textOf rs) (hv : AllValid rs) (hlen : s.size ≤ 2147483647) (w : World) (hT : Lib.Utf8Tabs 0 1 w) (hP : Lib.PrintTabsAt 2 3 4 5 T w) :
    Calls Tryd.prog 18 #[.string s, .bool false] w fun e w' => e = .returned (.string ⟨(34 :: (quoted T rs ++ [34])).toArray⟩) ∧ Below w.heap.size w w' := by
  have HT := Lib.hid hT
  have HP := Lib.hid hP
  have HL : Hid (rs.length ≤ 2147483647) := by
    have h1 := text_len rs
    have h2 := size_list s
    rw [hs] at h2
    show _ ≤ _; omega
  have HV := Lib.hid hv
  have HS := Lib.hid hs
  clear hT hP hv hs
  obtain ⟨w0, hm, ht⟩ := made_tq w (3 * s.size / 2) (by omega)
  have HM := Lib.hid ht
  clear ht
  have e3 : ((3 * s.size / 2 : Nat) : Int) = (3 * (s.size : Int)) / 2 := by omega
  rw [e3] at hm
  clear e3
  go_enter Tryd.func18, Tryd.ntmps18
  go_wp2_with (at_builtin; refine tq_byte rfl _ _ rfl w _ _ [] rfl HM.out 34 _ rfl rfl (by decide) ?_; intro v1 w1 h1; have HQ := Lib.hid h1; clear h1)
  clear hm HM
  go_loopw [0, 6] (fun sv v wr => ∃ (rs1 rs2 : List Nat) (b : ByteArray), rs = rs1 ++ rs2 ∧ sv = .string b ∧ Hid (b.data.toList = textOf rs2) ∧ b.size ≤ 2147483647 ∧ Hid (TQ w wr v (34 :: quoted T rs1))) (fun sv _ _ => strSize sv)
  case atStart => exact ⟨[], rs, s, rfl, rfl, HS.out, hlen, HQ.out⟩
  case round =>
    obtain ⟨rs1, rs2, b, hrs, rfl, HB, hbl, HO⟩ := hrel
    have HRS := Lib.hid hrs
    have HLQ : Hid ((34 :: quoted T rs1).length + 20 ≤ 140737488355328) := by
      have h1 := quoted_len T rs1
      have h2 := HL.out
      rw [HRS.out, List.length_append] at h2
      show _ ≤ _; simp only [List.length_cons]; omega
    clear hrs HQ hlen
    cases rs2 with
    | nil =>
      have hz : b.size = 0 := by rw [size_list, HB.out]; rfl
      have HLR : Hid ((34 :: quoted T rs1).length + 1 ≤ 140737488355328) := by have := HLQ.out; show _ ≤ _; omega
      go_wp2_with (at_builtin; refine tq_byte rfl _ _ rfl w _ _ (34 :: quoted T rs1) rfl HO.out 34 _ rfl rfl HLR.out ?_; intro v2 w2 h2; have HO1 := Lib.hid h2; have hst := tq_string h2; clear h2)
      go_ret
      exact ⟨by rw [HRS.out]; simp, HO1.out.to⟩
    | cons r t =>
      have hvr : Lib.validRune (r : Int) = true := HV.out r (by rw [HRS.out]; simp)
      have HVR := Lib.hid hvr
      have hr31 : r ≤ 1114111 := by have := (validRune_iff (r : Int)).1 hvr; omega
      have HB1 : Hid (b.data.toList = Lib.encodeRune (r : Int) ++ textOf t) := by rw [HB.out, textOf_cons]; rfl
      have hne := encodeRune_ne (r : Int)
      have hpos : 0 < b.size := by
        rw [size_list, HB1.out, List.length_append]
        have := List.length_pos_iff.2 hne
        omega
      have HC0 : Hid (b[0].toNat = ((Lib.encodeRune (r : Int) ++ textOf t).getD 0 0).toNat) := by
        show _ = _; rw [at_list b 0 hpos _ HB1.out]
      have HF := Lib.hid (first_byte r hvr (textOf t))
      have HEND : Hid (∀ v' w', TQ w w' v' ((34 :: quoted T rs1) ++ escB T r) → TQ w w' v' (34 :: quoted T (rs1 ++ [r]))) := fun v' w' h => by
        rw [quoted_snoc]; exact h
      clear hvr hne
      by_cases h128 : r < 128
      · have e0 : (b[0].toNat : Int) = (r : Int) := by
          rcases HF.out with h | h
          · rw [HC0.out, h.1]
          · omega
        have HNEXT : Hid ((b.extract 1 b.size).data.toList = textOf t) := rest_data b 1 _ _ HB1.out (by rw [enc_ascii r h128]; rfl)
        have hw32 : IntKind.i32.wrap (r : Int) = r := Lib.wrap_i32_small r (by omega)
        have t1 : decide ((r : Int) ≥ 128) = false := decide_eq_false (by omega)
        have t2 : ((r : Int) == 65533) = false := by
          have h : ¬ (r : Int) = 65533 := by omega
          simpa using h
        have hsm : (b.extract 1 b.size).size ≤ 2147483647 := by rw [ByteArray.size_extract]; omega
        have hst : (b.extract 1 b.size).size < b.size := by rw [ByteArray.size_extract]; omega
        have HPR : Hid (∀ w1, Calls Tryd.prog 22 #[.int .i32 r] w1 fun e w' => e = .returned (.bool (Lib.isPrintR T (r : Int))) ∧ w1 = w') := fun w1 => by
          rw [latin_of T r h128]; exact (Tryd.strconv_IsPrint_latin (r : Int) w1 (by omega)).mono fun e w' ⟨h1, h2⟩ => ⟨h1, h2.symm⟩
        clear hr31
        by_cases hA : r = 34 ∨ r = 92
        · have hw8 : IntKind.u8.wrap (r : Int) = r := by
            have e : (r : Int) % 256 = r := Int.emod_eq_of_lt (by omega) (by omega)
            simp [IntKind.wrap, IntKind.bits, IntKind.signed, e]
          have HR8 : Hid ((r : Int) = ((r.toUInt8).toNat : Int)) := by show _ = _; rw [UInt8.toNat_ofNat']; omega
          have HE := Lib.hid (escB_sign T r hA)
          have HLA : Hid ((34 :: quoted T rs1).length + 1 ≤ 140737488355328) := by have := HLQ.out; show _ ≤ _; omega
          have HLB : Hid (((34 :: quoted T rs1) ++ [92]).length + 1 ≤ 140737488355328) := by have := HLQ.out; show _ ≤ _; rw [List.length_append]; simp only [List.length_cons, List.length_nil] at *; omega
          rcases hA with hA | hA
          all_goals
            first
              | (have a34 : ((r : Int) == 34) = true := by rw [show (r : Int) = 34 by omega]; rfl)
              | (have a34 : ((r : Int) == 34) = false := by rw [show (r : Int) = 92 by omega]; rfl
                 have a92 : ((r : Int) == 92) = true := by rw [show (r : Int) = 92 by omega]; rfl)
            clear hA
            go_wp2_with (at_builtin; first
              | (refine tq_byte rfl _ _ rfl w _ _ ((34 :: quoted T rs1) ++ [92]) rfl HO1.out r.toUInt8 _ HR8.out rfl HLB.out ?_; intro v2 w2 h2; have HO2 := Lib.hid h2; clear h2)
              | (refine tq_byte rfl _ _ rfl w _ _ (34 :: quoted T rs1) rfl HO.out 92 _ rfl rfl HLA.out ?_; intro v2 w2 h2; have HO1 := Lib.hid h2; clear h2))
            go_roundw
            case rel => exact ⟨rs1 ++ [r], t, _, by rw [HRS.out]; simp, rfl, HNEXT.out, hsm, HEND.out _ _ (by rw [HE.out]; have := HO2.out; simpa using this)⟩
            case measure => exact hst
        · have a34 : ((r : Int) == 34) = false := by
            have h : ¬ (r : Int) = 34 := by omega
            simpa using h
          have a92 : ((r : Int) == 92) = false := by
            have h : ¬ (r : Int) = 92 := by omega
            simpa using h
          by_cases hpr : Lib.isPrintR T (r : Int) = true
          · obtain ⟨m, hm⟩ : ∃ m, m = (Lib.runeCells (r : Int)).length := ⟨_, rfl⟩
            have hm4 : m ≤ 4 := by rw [hm]; exact (Lib.runeCells_le _).2
            have hm1 : 1 ≤ m := by rw [hm]; exact (Lib.runeCells_le _).1
            have HENC : Hid (∀ w1 v l, TQ w w1 v l → Calls Tryd.prog 23 #[.slice (some ⟨w.heap.size, 0, none⟩) 4 4, .int .i32 r] w1 fun e w' => e = .returned (.int .i64 m) ∧ TQ w w' v l ∧ Row 0 .u8 w' (.slice (some ⟨w.heap.size, 0, none⟩) m 4) ((Lib.encodeRune (r : Int)).map (·.toNat))) := fun w1 v l h => by
              rw [hm]
              have h4 := (Lib.runeCells_le (r : Int)).2
              refine (Tryd.utf8_EncodeRune w.heap.size 0 4 4 (r : Int) (by omega) (by omega) w1 h4 (fun j hj => by rw [Nat.zero_add]; exact (h.tmp.2 j (by omega)).1) (fun j hj => by rw [Nat.zero_add]; exact (h.tmp.2 j (by omega)).2)).mono fun e w' ⟨h1, h2⟩ => ?_
              subst h2
              exact ⟨h1, h.set _, h.row _⟩
            have HLE : Hid ((34 :: quoted T rs1).length + (Lib.encodeRune (r : Int)).length ≤ 140737488355328) := by
              have h1 := HLQ.out
              have h2 := Lib.encodeRuneZ_length (r : Int)
              show _ ≤ _; rw [encodeRune_len]; omega
            have HE := Lib.hid (escB_print T r hA hpr)
            clear hm
            have hsl := fun w1 => slice_tmp w.heap.size m hm4 w1
            rw [hpr] at HPR
            clear hpr hA
            go_wp2_with (first
              | (go_at_call 22; refine (HPR.out _).mono ?_; rintro ex w3 ⟨rfl, rfl⟩)
              | (go_at_call 23; refine (HENC.out _ _ _ HO.out).mono ?_; rintro ex w4 ⟨rfl, h5, h6⟩; have HO1 := Lib.hid h5; have HRW := Lib.hid h6; clear h5 h6)
              | (at_builtin; refine tq_row rfl _ _ rfl w _ (34 :: quoted T rs1) rfl HO1.out _ (Lib.encodeRune (r : Int)) rfl 0 HRW.out HLE.out ?_; intro v2 w2 h2; have HO2 := Lib.hid h2; clear h2))
            go_roundw
            case rel => exact ⟨rs1 ++ [r], t, _, by rw [HRS.out]; simp, rfl, HNEXT.out, hsm, HEND.out _ _ (by rw [HE.out]; exact HO2.out)⟩
            case measure => exact hst
          · by_cases hnm : NamedR r
            · rw [show Lib.isPrintR T (r : Int) = false by simpa using hpr] at HPR
              have HLT : Hid ((34 :: quoted T rs1).length + 2 ≤ 140737488355328) := by have := HLQ.out; show _ ≤ _; omega
              clear hpr hA
              unfold NamedR at hnm
              rcases hnm with hr | hr | hr | hr | hr | hr | hr
              · have HE := Lib.hid (escB_7 T)
                rw [show (7 : Nat) = r by omega] at HE
                have n7 : ((r : Int) == 7) = true := by rw [show (r : Int) = 7 by omega]; rfl
                clear hr
                go_wp2_with (first
                  | (go_at_call 22; refine (HPR.out _).mono ?_; rintro ex w3 ⟨rfl, rfl⟩)
                  | (at_builtin; refine tq_text rfl _ _ rfl w _ (34 :: quoted T rs1) rfl HO.out _ rfl HLT.out ?_; intro v2 w2 h2; have HO1 := Lib.hid h2; clear h2))
                go_roundw
                case rel => exact ⟨rs1 ++ [r], t, _, by rw [HRS.out]; simp, rfl, HNEXT.out, hsm, HEND.out _ _ (by rw [HE.out]; exact HO1.out)⟩
                case measure => exact hst
              · have HE := Lib.hid (escB_8 T)
                rw [show (8 : Nat) = r by omega] at HE
                have n7 : ((r : Int) == 7) = false := int_ne _ _ (by omega)
                have n8 : ((r : Int) == 8) = true := by rw [show (r : Int) = 8 by omega]; rfl
                clear hr
                go_wp2_with (first
                  | (go_at_call 22; refine (HPR.out _).mono ?_; rintro ex w3 ⟨rfl, rfl⟩)
                  | (at_builtin; refine tq_text rfl _ _ rfl w _ (34 :: quoted T rs1) rfl HO.out _ rfl HLT.out ?_; intro v2 w2 h2; have HO1 := Lib.hid h2; clear h2))
                go_roundw
                case rel => exact ⟨rs1 ++ [r], t, _, by rw [HRS.out]; simp, rfl, HNEXT.out, hsm, HEND.out _ _ (by rw [HE.out]; exact HO1.out)⟩
                case measure => exact hst
              · have HE := Lib.hid (escB_9 T)
                rw [show (9 : Nat) = r by omega] at HE
                have n7 : ((r : Int) == 7) = false := int_ne _ _ (by omega)
                have n8 : ((r : Int) == 8) = false := int_ne _ _ (by omega)
                have n12 : ((r : Int) == 12) = false := int_ne _ _ (by omega)
                have n10 : ((r : Int) == 10) = false := int_ne _ _ (by omega)
                have n13 : ((r : Int) == 13) = false := int_ne _ _ (by omega)
                have n9 : ((r : Int) == 9) = true := by rw [show (r : Int) = 9 by omega]; rfl
                clear hr
                go_wp2_with (first
                  | (go_at_call 22; refine (HPR.out _).mono ?_; rintro ex w3 ⟨rfl, rfl⟩)
                  | (at_builtin; refine tq_text rfl _ _ rfl w _ (34 :: quoted T rs1) rfl HO.out _ rfl HLT.out ?_; intro v2 w2 h2; have HO1 := Lib.hid h2; clear h2))
                go_roundw
                case rel => exact ⟨rs1 ++ [r], t, _, by rw [HRS.out]; simp, rfl, HNEXT.out, hsm, HEND.out _ _ (by rw [HE.out]; exact HO1.out)⟩
                case measure => exact hst
              · have HE := Lib.hid (escB_10 T)
                rw [show (10 : Nat) = r by omega] at HE
                have n7 : ((r : Int) == 7) = false := int_ne _ _ (by omega)
                have n8 : ((r : Int) == 8) = false := int_ne _ _ (by omega)
                have n12 : ((r : Int) == 12) = false := int_ne _ _ (by omega)
                have n10 : ((r : Int) == 10) = true := by rw [show (r : Int) = 10 by omega]; rfl
                clear hr
                go_wp2_with (first
                  | (go_at_call 22; refine (HPR.out _).mono ?_; rintro ex w3 ⟨rfl, rfl⟩)
                  | (at_builtin; refine tq_text rfl _ _ rfl w _ (34 :: quoted T rs1) rfl HO.out _ rfl HLT.out ?_; intro v2 w2 h2; have HO1 := Lib.hid h2; clear h2))
                go_roundw
                case rel => exact ⟨rs1 ++ [r], t, _, by rw [HRS.out]; simp, rfl, HNEXT.out, hsm, HEND.out _ _ (by rw [HE.out]; exact HO1.out)⟩
                case measure => exact hst
              · have HE := Lib.hid (escB_11 T)
                rw [show (11 : Nat) = r by omega] at HE
                have n7 : ((r : Int) == 7) = false := int_ne _ _ (by omega)
                have n8 : ((r : Int) == 8) = false := int_ne _ _ (by omega)
                have n12 : ((r : Int) == 12) = false := int_ne _ _ (by omega)
                have n10 : ((r : Int) == 10) = false := int_ne _ _ (by omega)
                have n13 : ((r : Int) == 13) = false := int_ne _ _ (by omega)
                have n9 : ((r : Int) == 9) = false := int_ne _ _ (by omega)
                have n11 : ((r : Int) == 11) = true := by rw [show (r : Int) = 11 by omega]; rfl
                clear hr
                go_wp2_with (first
                  | (go_at_call 22; refine (HPR.out _).mono ?_; rintro ex w3 ⟨rfl, rfl⟩)
                  | (at_builtin; refine tq_text rfl _ _ rfl w _ (34 :: quoted T rs1) rfl HO.out _ rfl HLT.out ?_; intro v2 w2 h2; have HO1 := Lib.hid h2; clear h2))
                go_roundw
                case rel => exact ⟨rs1 ++ [r], t, _, by rw [HRS.out]; simp, rfl, HNEXT.out, hsm, HEND.out _ _ (by rw [HE.out]; exact HO1.out)⟩
                case measure => exact hst
              · have HE := Lib.hid (escB_12 T)
                rw [show (12 : Nat) = r by omega] at HE
                have n7 : ((r : Int) == 7) = false := int_ne _ _ (by omega)
                have n8 : ((r : Int) == 8) = false := int_ne _ _ (by omega)
                have n12 : ((r : Int) == 12) = true := by rw [show (r : Int) = 12 by omega]; rfl
                clear hr
                go_wp2_with (first
                  | (go_at_call 22; refine (HPR.out _).mono ?_; rintro ex w3 ⟨rfl, rfl⟩)
                  | (at_builtin; refine tq_text rfl _ _ rfl w _ (34 :: quoted T rs1) rfl HO.out _ rfl HLT.out ?_; intro v2 w2 h2; have HO1 := Lib.hid h2; clear h2))
                go_roundw
                case rel => exact ⟨rs1 ++ [r], t, _, by rw [HRS.out]; simp, rfl, HNEXT.out, hsm, HEND.out _ _ (by rw [HE.out]; exact HO1.out)⟩
                case measure => exact hst
              · have HE := Lib.hid (escB_13 T)
                rw [show (13 : Nat) = r by omega] at HE
                have n7 : ((r : Int) == 7) = false := int_ne _ _ (by omega)
                have n8 : ((r : Int) == 8) = false := int_ne _ _ (by omega)
                have n12 : ((r : Int) == 12) = false := int_ne _ _ (by omega)
                have n10 : ((r : Int) == 10) = false := int_ne _ _ (by omega)
                have n13 : ((r : Int) == 13) = true := by rw [show (r : Int) = 13 by omega]; rfl
                clear hr
                go_wp2_with (first
                  | (go_at_call 22; refine (HPR.out _).mono ?_; rintro ex w3 ⟨rfl, rfl⟩)
                  | (at_builtin; refine tq_text rfl _ _ rfl w _ (34 :: quoted T rs1) rfl HO.out _ rfl HLT.out ?_; intro v2 w2 h2; have HO1 := Lib.hid h2; clear h2))
                go_roundw
                case rel => exact ⟨rs1 ++ [r], t, _, by rw [HRS.out]; simp, rfl, HNEXT.out, hsm, HEND.out _ _ (by rw [HE.out]; exact HO1.out)⟩
                case measure => exact hst

            · have HE0 := escB_rest T r hA hpr hnm HVR.out
              rw [show Lib.isPrintR T (r : Int) = false by simpa using hpr] at HPR
              have hnm' := hnm
              unfold NamedR at hnm'
              have hlow : r < 32 ∨ r = 127 := by
                have h1 := hpr
                rw [latin_of T r h128] at h1
                simp [Lib.isPrintLatin] at h1
                omega
              rw [if_pos hlow] at HE0
              have HE := Lib.hid HE0
              clear HE0
              have n7 : ((r : Int) == 7) = false := int_ne _ _ (by omega)
              have n8 : ((r : Int) == 8) = false := int_ne _ _ (by omega)
              have n12 : ((r : Int) == 12) = false := int_ne _ _ (by omega)
              have n10 : ((r : Int) == 10) = false := int_ne _ _ (by omega)
              have n13 : ((r : Int) == 13) = false := int_ne _ _ (by omega)
              have n9 : ((r : Int) == 9) = false := int_ne _ _ (by omega)
              have n11 : ((r : Int) == 11) = false := int_ne _ _ (by omega)
              have hw8 : IntKind.u8.wrap (r : Int) = r := by
                have e : (r : Int) % 256 = r := Int.emod_eq_of_lt (by omega) (by omega)
                simp [IntKind.wrap, IntKind.bits, IntKind.signed, e]
              obtain ⟨d, hd⟩ : ∃ d, d = r % 16 := ⟨_, rfl⟩
              have hd16 := Lib.hid (show d < 16 by omega)
              have hd16' : (d : Int) < 16 := by omega
              have hd16n : d < 16 := hd16.out
              have hde : bits BinOp.and IntKind.u8 (r : Int) 15 = (d : Int) := by
                rw [show (15 : Int) = ((15 : Nat) : Int) from rfl, u8_and_nat r 15 (by omega) (by decide), hd, show (15 : Nat) = 2 ^ 4 - 1 from rfl, Nat.and_two_pow_sub_one_eq_mod]
              have hq16 := Lib.hid (show r / 16 < 16 by omega)
              have HX1 := Lib.hid (hexlit (r / 16) hq16.out)
              have HX2 := Lib.hid (hexlit d hd16.out)
              have HEQ : Hid (hexBs r 2 = [hexB (r / 16), hexB d]) := by
                show _ = _
                simp only [hexBs, Nat.pow_one, Nat.pow_zero, Nat.div_one]
                rw [← hd, Nat.mod_eq_of_lt (by omega)]
              have HLT : Hid ((34 :: quoted T rs1).length + 2 ≤ 140737488355328) := by have := HLQ.out; show _ ≤ _; omega
              have HL1 : Hid (((34 :: quoted T rs1) ++ [92, 120]).length + 1 ≤ 140737488355328) := by have := HLQ.out; show _ ≤ _; rw [List.length_append]; simp only [List.length_cons, List.length_nil] at *; omega
              have HL2 : Hid (((34 :: quoted T rs1) ++ [92, 120] ++ [hexB (r / 16)]).length + 1 ≤ 140737488355328) := by have := HLQ.out; show _ ≤ _; rw [List.length_append, List.length_append]; simp only [List.length_cons, List.length_nil] at *; omega
              clear hpr hA hnm hnm' hd
              rcases (show r < 32 ∨ (32 ≤ r ∧ r = 127) by omega) with hl | hl
              all_goals
                first
                  | (have l1 : decide ((r : Int) < 32) = true := decide_eq_true (by omega))
                  | (have l1 : decide ((r : Int) < 32) = false := decide_eq_false (by omega)
                     have l2 : ((r : Int) == 127) = true := by rw [show (r : Int) = 127 by omega]; rfl)
                clear hl hlow
                go_wp2_with (first
                  | (go_at_call 22; refine (HPR.out _).mono ?_; rintro ex w3 ⟨rfl, rfl⟩)
                  | (at_builtin; first
                    | (refine tq_byte rfl _ _ rfl w _ _ ((34 :: quoted T rs1) ++ [92, 120] ++ [hexB (r / 16)]) rfl HO2.out (hexB d) _ HX2.out rfl HL2.out ?_; intro v2 w2 h2; have HO3 := Lib.hid h2; clear h2)
                    | (refine tq_byte rfl _ _ rfl w _ _ ((34 :: quoted T rs1) ++ [92, 120]) rfl HO1.out (hexB (r / 16)) _ HX1.out rfl HL1.out ?_; intro v2 w2 h2; have HO2 := Lib.hid h2; clear h2)
                    | (refine tq_text rfl _ _ rfl w _ (34 :: quoted T rs1) rfl HO.out _ rfl HLT.out ?_; intro v2 w2 h2; have HO1 := Lib.hid h2; clear h2)))
                go_roundw
                case rel => exact ⟨rs1 ++ [r], t, _, by rw [HRS.out]; simp, rfl, HNEXT.out, hsm, HEND.out _ _ (by rw [HE.out, HEQ.out]; have := HO3.out; simpa using this)⟩
                case measure => exact hst
      · have h128' : 128 ≤ r := by omega
        have hbx : 128 ≤ b[0].toNat := by
          rcases HF.out with h | h
          · omega
          · rw [HC0.out]; exact h.1
        have hb256 : b[0].toNat < 256 := UInt8.toNat_lt _
        have hwx : IntKind.i32.wrap (b[0].toNat : Int) = (b[0].toNat : Int) := Lib.wrap_i32_small _ (by omega)
        have t1 : decide ((b[0].toNat : Int) ≥ 128) = true := decide_eq_true (by omega)
        obtain ⟨k, hk⟩ : ∃ k, k = (Lib.encodeRune (r : Int)).length := ⟨_, rfl⟩
        have hk2 : 2 ≤ k := by
          rcases HF.out with h | h
          · omega
          · rw [hk]; exact h.2.2
        have hk4 : k ≤ 4 := by rw [hk, encodeRune_len]; exact (Lib.encodeRuneZ_length _).2
        have hkb : k ≤ b.size := by rw [hk, size_list, HB1.out, List.length_append]; omega
        have HDEC : Hid (∀ w1, Below w.heap.size w w1 → Calls Tryd.prog 9 #[.string b] w1 fun e w' => e = .returned (.tuple #[.int .i32 r, .int .i64 k]) ∧ Below w1.heap.size w1 w') := fun w1 hb => by
          have h1 := Tryd.utf8_DecodeRuneInString b w1 (tabs_below HT.out hb)
          rw [decodeGo_list b hpos, HB1.out, decL_encode r HVR.out, ← hk] at h1
          exact h1
        have HPR : Hid (∀ w1, Below w.heap.size w w1 → Calls Tryd.prog 22 #[.int .i32 r] w1 fun e w' => e = .returned (.bool (Lib.isPrintR T (r : Int))) ∧ ∃ q, w1.drewN q = w') := fun w1 hb =>
          (Tryd.strconv_IsPrint T (r : Int) w1 (by omega) (by omega) (print_below HP.out hb)).mono fun e w' ⟨h1, q, h2⟩ => ⟨h1, q, h2.symm⟩
        have HNEXT : Hid ((b.extract k b.size).data.toList = textOf t) := rest_data b k _ _ HB1.out hk.symm
        have hsm : (b.extract k b.size).size ≤ 2147483647 := by rw [ByteArray.size_extract]; omega
        have hst : (b.extract k b.size).size < b.size := by rw [ByteArray.size_extract]; omega
        have t2 : ((k : Int) == 1) = false := int_ne _ _ (by omega)
        have a34 : ((r : Int) == 34) = false := int_ne _ _ (by omega)
        have a92 : ((r : Int) == 92) = false := int_ne _ _ (by omega)
        have hA : ¬ (r = 34 ∨ r = 92) := by omega
        clear hk
        by_cases hpr : Lib.isPrintR T (r : Int) = true
        · obtain ⟨m, hm⟩ : ∃ m, m = (Lib.runeCells (r : Int)).length := ⟨_, rfl⟩
          have hm4 : m ≤ 4 := by rw [hm]; exact (Lib.runeCells_le _).2
          have hm1 : 1 ≤ m := by rw [hm]; exact (Lib.runeCells_le _).1
          have HENC : Hid (∀ w1 v l, TQ w w1 v l → Calls Tryd.prog 23 #[.slice (some ⟨w.heap.size, 0, none⟩) 4 4, .int .i32 r] w1 fun e w' => e = .returned (.int .i64 m) ∧ TQ w w' v l ∧ Row 0 .u8 w' (.slice (some ⟨w.heap.size, 0, none⟩) m 4) ((Lib.encodeRune (r : Int)).map (·.toNat))) := fun w1 v l h => by
            rw [hm]
            have h4 := (Lib.runeCells_le (r : Int)).2
            refine (Tryd.utf8_EncodeRune w.heap.size 0 4 4 (r : Int) (by omega) (by omega) w1 h4 (fun j hj => by rw [Nat.zero_add]; exact (h.tmp.2 j (by omega)).1) (fun j hj => by rw [Nat.zero_add]; exact (h.tmp.2 j (by omega)).2)).mono fun e w' ⟨h1, h2⟩ => ?_
            subst h2
            exact ⟨h1, h.set _, h.row _⟩
          have HLE : Hid ((34 :: quoted T rs1).length + (Lib.encodeRune (r : Int)).length ≤ 140737488355328) := by
            have h1 := HLQ.out
            have h2 := Lib.encodeRuneZ_length (r : Int)
            show _ ≤ _; rw [encodeRune_len]; omega
          have HE := Lib.hid (escB_print T r hA hpr)
          clear hm
          have hsl := fun w1 => slice_tmp w.heap.size m hm4 w1
          rw [hpr] at HPR
          clear hpr hA
          go_wp2_with (first
            | (go_at_call 9; refine (HDEC.out _ HO.out.to).mono ?_; rintro ex w3 ⟨rfl, h5⟩; have HO1 := Lib.hid (HO.out.below h5); clear h5)
            | (go_at_call 22; refine (HPR.out _ HO1.out.to).mono ?_; rintro ex w4 ⟨rfl, q4, rfl⟩; have HO2 := Lib.hid (HO1.out.drewN q4))
            | (go_at_call 23; refine (HENC.out _ _ _ HO2.out).mono ?_; rintro ex w5 ⟨rfl, h5, h6⟩; have HO3 := Lib.hid h5; have HRW := Lib.hid h6; clear h5 h6)
            | (at_builtin; refine tq_row rfl _ _ rfl w _ (34 :: quoted T rs1) rfl HO3.out _ (Lib.encodeRune (r : Int)) rfl 0 HRW.out HLE.out ?_; intro v2 w2 h2; have HO4 := Lib.hid h2; clear h2))
          go_roundw
          case rel => exact ⟨rs1 ++ [r], t, _, by rw [HRS.out]; simp, rfl, HNEXT.out, hsm, HEND.out _ _ (by rw [HE.out]; exact HO4.out)⟩
          case measure => exact hst
        · have hnm : ¬ NamedR r := by unfold NamedR; omega
          have HE0 := escB_rest T r hA hpr hnm HVR.out
          rw [if_neg (by omega)] at HE0
          rw [show Lib.isPrintR T (r : Int) = false by simpa using hpr] at HPR
          have HLT : Hid ((34 :: quoted T rs1).length + 2 ≤ 140737488355328) := by have := HLQ.out; show _ ≤ _; omega
          have n7 : ((r : Int) == 7) = false := int_ne _ _ (by omega)
          have n8 : ((r : Int) == 8) = false := int_ne _ _ (by omega)
          have n12 : ((r : Int) == 12) = false := int_ne _ _ (by omega)
          have n10 : ((r : Int) == 10) = false := int_ne _ _ (by omega)
          have n13 : ((r : Int) == 13) = false := int_ne _ _ (by omega)
          have n9 : ((r : Int) == 9) = false := int_ne _ _ (by omega)
          have n11 : ((r : Int) == 11) = false := int_ne _ _ (by omega)
          have l1 : decide ((r : Int) < 32) = false := decide_eq_false (by omega)
          have l2 : ((r : Int) == 127) = false := int_ne _ _ (by omega)
          have l3 : decide ((r : Int) > 1114111) = false := decide_eq_false (by omega)
          clear hpr hA hnm
          by_cases h16 : r < 65536
          · rw [if_pos h16] at HE0
            have HE := Lib.hid HE0
            have l4 : decide ((r : Int) < 65536) = true := decide_eq_true (by omega)
            clear HE0
            go_wp2_with (first
              | (go_at_call 9; refine (HDEC.out _ HO.out.to).mono ?_; rintro ex w3 ⟨rfl, h5⟩; have HO1 := Lib.hid (HO.out.below h5); clear h5)
              | (go_at_call 22; refine (HPR.out _ HO1.out.to).mono ?_; rintro ex w4 ⟨rfl, q4, rfl⟩; have HO2 := Lib.hid (HO1.out.drewN q4))
              | (at_builtin; refine tq_text rfl _ _ rfl w _ (34 :: quoted T rs1) rfl HO2.out _ rfl HLT.out ?_; intro v2 w2 h2; have HO3 := Lib.hid h2; clear h2))
            go_loopw [6, 10] (fun v sv wr => ∃ (j : Nat) (z : Int), sv = .int .i64 z ∧ z = 12 - 4 * j ∧ j ≤ 4 ∧ Hid (TQ w wr v (((34 :: quoted T rs1) ++ [92, 117]) ++ (hexBs r 4).take j))) (fun _ sv _ => (RowKit.intOf sv + 4).toNat)
            case atStart => exact ⟨0, 12, rfl, by omega, by omega, by have := HO3.out; show TQ _ _ _ _; simpa using this⟩
            case round =>
              obtain ⟨j, z, rfl, hz, hj, HI⟩ := hrel
              rcases (show j = 0 ∨ j = 1 ∨ j = 2 ∨ j = 3 ∨ j = 4 by omega) with hj | hj | hj | hj | hj
              · obtain rfl : z = 12 := by omega
                subst hj
                obtain ⟨d, hd⟩ : ∃ d, d = r / 4096 % 16 := ⟨_, rfl⟩
                have hd16 := Lib.hid (show d < 16 by omega)
                have hd16n : d < 16 := hd16.out
                have hd16' : (d : Int) < 16 := by omega
                have hde : bits BinOp.and IntKind.i32 ((r : Int) / 4096) 15 = (d : Int) := by
                    have e := Lib.and15_shift (r : Int) r rfl (by omega) 4096
                    rw [hd]; simpa using e
                have HX := Lib.hid (hexlit d hd16.out)
                have HTK : Hid ((hexBs r 4).take 1 = (hexBs r 4).take 0 ++ [hexB d]) := by
                  show _ = _; rw [hexBs_take r 4 0 (by decide), hd]
                have HLJ : Hid ((((34 :: quoted T rs1) ++ [92, 117]) ++ (hexBs r 4).take 0).length + 1 ≤ 140737488355328) := by
                  have := HLQ.out; show _ ≤ _; rw [List.length_append, List.length_append, List.length_take, hexBs_len]; simp only [List.length_cons, List.length_nil] at *; omega
                clear hd hz
                go_wp2_with (at_builtin; refine tq_byte rfl _ _ rfl w _ _ (((34 :: quoted T rs1) ++ [92, 117]) ++ (hexBs r 4).take 0) rfl HI.out (hexB d) _ HX.out rfl HLJ.out ?_; intro v2 w2 h2; have HI2 := Lib.hid h2; clear h2)
                go_roundw
                case rel => exact ⟨1, _, rfl, by omega, by omega, by rw [HTK.out]; have := HI2.out; show TQ _ _ _ _; simpa using this⟩
                case measure => simp [RowKit.intOf]
              · obtain rfl : z = 8 := by omega
                subst hj
                obtain ⟨d, hd⟩ : ∃ d, d = r / 256 % 16 := ⟨_, rfl⟩
                have hd16 := Lib.hid (show d < 16 by omega)
                have hd16n : d < 16 := hd16.out
                have hd16' : (d : Int) < 16 := by omega
                have hde : bits BinOp.and IntKind.i32 ((r : Int) / 256) 15 = (d : Int) := by
                    have e := Lib.and15_shift (r : Int) r rfl (by omega) 256
                    rw [hd]; simpa using e
                have HX := Lib.hid (hexlit d hd16.out)
                have HTK : Hid ((hexBs r 4).take 2 = (hexBs r 4).take 1 ++ [hexB d]) := by
                  show _ = _; rw [hexBs_take r 4 1 (by decide), hd]
                have HLJ : Hid ((((34 :: quoted T rs1) ++ [92, 117]) ++ (hexBs r 4).take 1).length + 1 ≤ 140737488355328) := by
                  have := HLQ.out; show _ ≤ _; rw [List.length_append, List.length_append, List.length_take, hexBs_len]; simp only [List.length_cons, List.length_nil] at *; omega
                clear hd hz
                go_wp2_with (at_builtin; refine tq_byte rfl _ _ rfl w _ _ (((34 :: quoted T rs1) ++ [92, 117]) ++ (hexBs r 4).take 1) rfl HI.out (hexB d) _ HX.out rfl HLJ.out ?_; intro v2 w2 h2; have HI2 := Lib.hid h2; clear h2)
                go_roundw
                case rel => exact ⟨2, _, rfl, by omega, by omega, by rw [HTK.out]; have := HI2.out; show TQ _ _ _ _; simpa using this⟩
                case measure => simp [RowKit.intOf]
              · obtain rfl : z = 4 := by omega
                subst hj
                obtain ⟨d, hd⟩ : ∃ d, d = r / 16 % 16 := ⟨_, rfl⟩
                have hd16 := Lib.hid (show d < 16 by omega)
                have hd16n : d < 16 := hd16.out
                have hd16' : (d : Int) < 16 := by omega
                have hde : bits BinOp.and IntKind.i32 ((r : Int) / 16) 15 = (d : Int) := by
                    have e := Lib.and15_shift (r : Int) r rfl (by omega) 16
                    rw [hd]; simpa using e
                have HX := Lib.hid (hexlit d hd16.out)
                have HTK : Hid ((hexBs r 4).take 3 = (hexBs r 4).take 2 ++ [hexB d]) := by
                  show _ = _; rw [hexBs_take r 4 2 (by decide), hd]
                have HLJ : Hid ((((34 :: quoted T rs1) ++ [92, 117]) ++ (hexBs r 4).take 2).length + 1 ≤ 140737488355328) := by
                  have := HLQ.out; show _ ≤ _; rw [List.length_append, List.length_append, List.length_take, hexBs_len]; simp only [List.length_cons, List.length_nil] at *; omega
                clear hd hz
                go_wp2_with (at_builtin; refine tq_byte rfl _ _ rfl w _ _ (((34 :: quoted T rs1) ++ [92, 117]) ++ (hexBs r 4).take 2) rfl HI.out (hexB d) _ HX.out rfl HLJ.out ?_; intro v2 w2 h2; have HI2 := Lib.hid h2; clear h2)
                go_roundw
                case rel => exact ⟨3, _, rfl, by omega, by omega, by rw [HTK.out]; have := HI2.out; show TQ _ _ _ _; simpa using this⟩
                case measure => simp [RowKit.intOf]
              · obtain rfl : z = 0 := by omega
                subst hj
                obtain ⟨d, hd⟩ : ∃ d, d = r / 1 % 16 := ⟨_, rfl⟩
                have hd16 := Lib.hid (show d < 16 by omega)
                have hd16n : d < 16 := hd16.out
                have hd16' : (d : Int) < 16 := by omega
                have hde : bits BinOp.and IntKind.i32 (r : Int) 15 = (d : Int) := by
                    have e := Lib.and15_shift (r : Int) r rfl (by omega) 1
                    rw [hd]; simpa using e
                have HX := Lib.hid (hexlit d hd16.out)
                have HTK : Hid ((hexBs r 4).take 4 = (hexBs r 4).take 3 ++ [hexB d]) := by
                  show _ = _; rw [hexBs_take r 4 3 (by decide), hd]
                have HLJ : Hid ((((34 :: quoted T rs1) ++ [92, 117]) ++ (hexBs r 4).take 3).length + 1 ≤ 140737488355328) := by
                  have := HLQ.out; show _ ≤ _; rw [List.length_append, List.length_append, List.length_take, hexBs_len]; simp only [List.length_cons, List.length_nil] at *; omega
                clear hd hz
                go_wp2_with (at_builtin; refine tq_byte rfl _ _ rfl w _ _ (((34 :: quoted T rs1) ++ [92, 117]) ++ (hexBs r 4).take 3) rfl HI.out (hexB d) _ HX.out rfl HLJ.out ?_; intro v2 w2 h2; have HI2 := Lib.hid h2; clear h2)
                go_roundw
                case rel => exact ⟨4, _, rfl, by omega, by omega, by rw [HTK.out]; have := HI2.out; show TQ _ _ _ _; simpa using this⟩
                case measure => simp [RowKit.intOf]
              · obtain rfl : z = -4 := by omega
                subst hj
                have HFIN := Lib.hid (HEND.out _ _ (show TQ w wr _ ((34 :: quoted T rs1) ++ escB T r) by
                  rw [HE.out]
                  have h1 := HI.out
                  rw [List.take_of_length_le (by rw [hexBs_len]; exact Nat.le_refl _)] at h1
                  simpa using h1))
                clear hz
                go_wp2
                go_roundw
                case rel => exact ⟨rs1 ++ [r], t, _, by rw [HRS.out]; simp, rfl, HNEXT.out, hsm, HFIN.out⟩
                case measure => exact hst
          · rw [if_neg h16] at HE0
            have HE := Lib.hid HE0
            have l4 : decide ((r : Int) < 65536) = false := decide_eq_false (by omega)
            clear HE0
            go_wp2_with (first
              | (go_at_call 9; refine (HDEC.out _ HO.out.to).mono ?_; rintro ex w3 ⟨rfl, h5⟩; have HO1 := Lib.hid (HO.out.below h5); clear h5)
              | (go_at_call 22; refine (HPR.out _ HO1.out.to).mono ?_; rintro ex w4 ⟨rfl, q4, rfl⟩; have HO2 := Lib.hid (HO1.out.drewN q4))
              | (at_builtin; refine tq_text rfl _ _ rfl w _ (34 :: quoted T rs1) rfl HO2.out _ rfl HLT.out ?_; intro v2 w2 h2; have HO3 := Lib.hid h2; clear h2))
            go_loopw [6, 11] (fun v sv wr => ∃ (j : Nat) (z : Int), sv = .int .i64 z ∧ z = 28 - 4 * j ∧ j ≤ 8 ∧ Hid (TQ w wr v (((34 :: quoted T rs1) ++ [92, 85]) ++ (hexBs r 8).take j))) (fun _ sv _ => (RowKit.intOf sv + 4).toNat)
            case atStart => exact ⟨0, 28, rfl, by omega, by omega, by have := HO3.out; show TQ _ _ _ _; simpa using this⟩
            case round =>
              obtain ⟨j, z, rfl, hz, hj, HI⟩ := hrel
              rcases (show j = 0 ∨ j = 1 ∨ j = 2 ∨ j = 3 ∨ j = 4 ∨ j = 5 ∨ j = 6 ∨ j = 7 ∨ j = 8 by omega) with hj | hj | hj | hj | hj | hj | hj | hj | hj
              · obtain rfl : z = 28 := by omega
                subst hj
                obtain ⟨d, hd⟩ : ∃ d, d = r / 268435456 % 16 := ⟨_, rfl⟩
                have hd16 := Lib.hid (show d < 16 by omega)
                have hd16n : d < 16 := hd16.out
                have hd16' : (d : Int) < 16 := by omega
                have hde : bits BinOp.and IntKind.i32 ((r : Int) / 268435456) 15 = (d : Int) := by
                    have e := Lib.and15_shift (r : Int) r rfl (by omega) 268435456
                    rw [hd]; simpa using e
                have HX := Lib.hid (hexlit d hd16.out)
                have HTK : Hid ((hexBs r 8).take 1 = (hexBs r 8).take 0 ++ [hexB d]) := by
                  show _ = _; rw [hexBs_take r 8 0 (by decide), hd]
                have HLJ : Hid ((((34 :: quoted T rs1) ++ [92, 85]) ++ (hexBs r 8).take 0).length + 1 ≤ 140737488355328) := by
                  have := HLQ.out; show _ ≤ _; rw [List.length_append, List.length_append, List.length_take, hexBs_len]; simp only [List.length_cons, List.length_nil] at *; omega
                clear hd hz
                go_wp2_with (at_builtin; refine tq_byte rfl _ _ rfl w _ _ (((34 :: quoted T rs1) ++ [92, 85]) ++ (hexBs r 8).take 0) rfl HI.out (hexB d) _ HX.out rfl HLJ.out ?_; intro v2 w2 h2; have HI2 := Lib.hid h2; clear h2)
                go_roundw
                case rel => exact ⟨1, _, rfl, by omega, by omega, by rw [HTK.out]; have := HI2.out; show TQ _ _ _ _; simpa using this⟩
                case measure => simp [RowKit.intOf]
              · obtain rfl : z = 24 := by omega
                subst hj
                obtain ⟨d, hd⟩ : ∃ d, d = r / 16777216 % 16 := ⟨_, rfl⟩
                have hd16 := Lib.hid (show d < 16 by omega)
                have hd16n : d < 16 := hd16.out
                have hd16' : (d : Int) < 16 := by omega
                have hde : bits BinOp.and IntKind.i32 ((r : Int) / 16777216) 15 = (d : Int) := by
                    have e := Lib.and15_shift (r : Int) r rfl (by omega) 16777216
                    rw [hd]; simpa using e
                have HX := Lib.hid (hexlit d hd16.out)
                have HTK : Hid ((hexBs r 8).take 2 = (hexBs r 8).take 1 ++ [hexB d]) := by
                  show _ = _; rw [hexBs_take r 8 1 (by decide), hd]
                have HLJ : Hid ((((34 :: quoted T rs1) ++ [92, 85]) ++ (hexBs r 8).take 1).length + 1 ≤ 140737488355328) := by
                  have := HLQ.out; show _ ≤ _; rw [List.length_append, List.length_append, List.length_take, hexBs_len]; simp only [List.length_cons, List.length_nil] at *; omega
                clear hd hz
                go_wp2_with (at_builtin; refine tq_byte rfl _ _ rfl w _ _ (((34 :: quoted T rs1) ++ [92, 85]) ++ (hexBs r 8).take 1) rfl HI.out (hexB d) _ HX.out rfl HLJ.out ?_; intro v2 w2 h2; have HI2 := Lib.hid h2; clear h2)
                go_roundw
                case rel => exact ⟨2, _, rfl, by omega, by omega, by rw [HTK.out]; have := HI2.out; show TQ _ _ _ _; simpa using this⟩
                case measure => simp [RowKit.intOf]
              · obtain rfl : z = 20 := by omega
                subst hj
                obtain ⟨d, hd⟩ : ∃ d, d = r / 1048576 % 16 := ⟨_, rfl⟩
                have hd16 := Lib.hid (show d < 16 by omega)
                have hd16n : d < 16 := hd16.out
                have hd16' : (d : Int) < 16 := by omega
                have hde : bits BinOp.and IntKind.i32 ((r : Int) / 1048576) 15 = (d : Int) := by
                    have e := Lib.and15_shift (r : Int) r rfl (by omega) 1048576
                    rw [hd]; simpa using e
                have HX := Lib.hid (hexlit d hd16.out)
                have HTK : Hid ((hexBs r 8).take 3 = (hexBs r 8).take 2 ++ [hexB d]) := by
                  show _ = _; rw [hexBs_take r 8 2 (by decide), hd]
                have HLJ : Hid ((((34 :: quoted T rs1) ++ [92, 85]) ++ (hexBs r 8).take 2).length + 1 ≤ 140737488355328) := by
                  have := HLQ.out; show _ ≤ _; rw [List.length_append, List.length_append, List.length_take, hexBs_len]; simp only [List.length_cons, List.length_nil] at *; omega
                clear hd hz
                go_wp2_with (at_builtin; refine tq_byte rfl _ _ rfl w _ _ (((34 :: quoted T rs1) ++ [92, 85]) ++ (hexBs r 8).take 2) rfl HI.out (hexB d) _ HX.out rfl HLJ.out ?_; intro v2 w2 h2; have HI2 := Lib.hid h2; clear h2)
                go_roundw
                case rel => exact ⟨3, _, rfl, by omega, by omega, by rw [HTK.out]; have := HI2.out; show TQ _ _ _ _; simpa using this⟩
                case measure => simp [RowKit.intOf]
              · obtain rfl : z = 16 := by omega
                subst hj
                obtain ⟨d, hd⟩ : ∃ d, d = r / 65536 % 16 := ⟨_, rfl⟩
                have hd16 := Lib.hid (show d < 16 by omega)
                have hd16n : d < 16 := hd16.out
                have hd16' : (d : Int) < 16 := by omega
                have hde : bits BinOp.and IntKind.i32 ((r : Int) / 65536) 15 = (d : Int) := by
                    have e := Lib.and15_shift (r : Int) r rfl (by omega) 65536
                    rw [hd]; simpa using e
                have HX := Lib.hid (hexlit d hd16.out)
                have HTK : Hid ((hexBs r 8).take 4 = (hexBs r 8).take 3 ++ [hexB d]) := by
                  show _ = _; rw [hexBs_take r 8 3 (by decide), hd]
                have HLJ : Hid ((((34 :: quoted T rs1) ++ [92, 85]) ++ (hexBs r 8).take 3).length + 1 ≤ 140737488355328) := by
                  have := HLQ.out; show _ ≤ _; rw [List.length_append, List.length_append, List.length_take, hexBs_len]; simp only [List.length_cons, List.length_nil] at *; omega
                clear hd hz
                go_wp2_with (at_builtin; refine tq_byte rfl _ _ rfl w _ _ (((34 :: quoted T rs1) ++ [92, 85]) ++ (hexBs r 8).take 3) rfl HI.out (hexB d) _ HX.out rfl HLJ.out ?_; intro v2 w2 h2; have HI2 := Lib.hid h2; clear h2)
                go_roundw
                case rel => exact ⟨4, _, rfl, by omega, by omega, by rw [HTK.out]; have := HI2.out; show TQ _ _ _ _; simpa using this⟩
                case measure => simp [RowKit.intOf]
              · obtain rfl : z = 12 := by omega
                subst hj
                obtain ⟨d, hd⟩ : ∃ d, d = r / 4096 % 16 := ⟨_, rfl⟩
                have hd16 := Lib.hid (show d < 16 by omega)
                have hd16n : d < 16 := hd16.out
                have hd16' : (d : Int) < 16 := by omega
                have hde : bits BinOp.and IntKind.i32 ((r : Int) / 4096) 15 = (d : Int) := by
                    have e := Lib.and15_shift (r : Int) r rfl (by omega) 4096
                    rw [hd]; simpa using e
                have HX := Lib.hid (hexlit d hd16.out)
                have HTK : Hid ((hexBs r 8).take 5 = (hexBs r 8).take 4 ++ [hexB d]) := by
                  show _ = _; rw [hexBs_take r 8 4 (by decide), hd]
                have HLJ : Hid ((((34 :: quoted T rs1) ++ [92, 85]) ++ (hexBs r 8).take 4).length + 1 ≤ 140737488355328) := by
                  have := HLQ.out; show _ ≤ _; rw [List.length_append, List.length_append, List.length_take, hexBs_len]; simp only [List.length_cons, List.length_nil] at *; omega
                clear hd hz
                go_wp2_with (at_builtin; refine tq_byte rfl _ _ rfl w _ _ (((34 :: quoted T rs1) ++ [92, 85]) ++ (hexBs r 8).take 4) rfl HI.out (hexB d) _ HX.out rfl HLJ.out ?_; intro v2 w2 h2; have HI2 := Lib.hid h2; clear h2)
                go_roundw
                case rel => exact ⟨5, _, rfl, by omega, by omega, by rw [HTK.out]; have := HI2.out; show TQ _ _ _ _; simpa using this⟩
                case measure => simp [RowKit.intOf]
              · obtain rfl : z = 8 := by omega
                subst hj
                obtain ⟨d, hd⟩ : ∃ d, d = r / 256 % 16 := ⟨_, rfl⟩
                have hd16 := Lib.hid (show d < 16 by omega)
                have hd16n : d < 16 := hd16.out
                have hd16' : (d : Int) < 16 := by omega
                have hde : bits BinOp.and IntKind.i32 ((r : Int) / 256) 15 = (d : Int) := by
                    have e := Lib.and15_shift (r : Int) r rfl (by omega) 256
                    rw [hd]; simpa using e
                have HX := Lib.hid (hexlit d hd16.out)
                have HTK : Hid ((hexBs r 8).take 6 = (hexBs r 8).take 5 ++ [hexB d]) := by
                  show _ = _; rw [hexBs_take r 8 5 (by decide), hd]
                have HLJ : Hid ((((34 :: quoted T rs1) ++ [92, 85]) ++ (hexBs r 8).take 5).length + 1 ≤ 140737488355328) := by
                  have := HLQ.out; show _ ≤ _; rw [List.length_append, List.length_append, List.length_take, hexBs_len]; simp only [List.length_cons, List.length_nil] at *; omega
                clear hd hz
                go_wp2_with (at_builtin; refine tq_byte rfl _ _ rfl w _ _ (((34 :: quoted T rs1) ++ [92, 85]) ++ (hexBs r 8).take 5) rfl HI.out (hexB d) _ HX.out rfl HLJ.out ?_; intro v2 w2 h2; have HI2 := Lib.hid h2; clear h2)
                go_roundw
                case rel => exact ⟨6, _, rfl, by omega, by omega, by rw [HTK.out]; have := HI2.out; show TQ _ _ _ _; simpa using this⟩
                case measure => simp [RowKit.intOf]
              · obtain rfl : z = 4 := by omega
                subst hj
                obtain ⟨d, hd⟩ : ∃ d, d = r / 16 % 16 := ⟨_, rfl⟩
                have hd16 := Lib.hid (show d < 16 by omega)
                have hd16n : d < 16 := hd16.out
                have hd16' : (d : Int) < 16 := by omega
                have hde : bits BinOp.and IntKind.i32 ((r : Int) / 16) 15 = (d : Int) := by
                    have e := Lib.and15_shift (r : Int) r rfl (by omega) 16
                    rw [hd]; simpa using e
                have HX := Lib.hid (hexlit d hd16.out)
                have HTK : Hid ((hexBs r 8).take 7 = (hexBs r 8).take 6 ++ [hexB d]) := by
                  show _ = _; rw [hexBs_take r 8 6 (by decide), hd]
                have HLJ : Hid ((((34 :: quoted T rs1) ++ [92, 85]) ++ (hexBs r 8).take 6).length + 1 ≤ 140737488355328) := by
                  have := HLQ.out; show _ ≤ _; rw [List.length_append, List.length_append, List.length_take, hexBs_len]; simp only [List.length_cons, List.length_nil] at *; omega
                clear hd hz
                go_wp2_with (at_builtin; refine tq_byte rfl _ _ rfl w _ _ (((34 :: quoted T rs1) ++ [92, 85]) ++ (hexBs r 8).take 6) rfl HI.out (hexB d) _ HX.out rfl HLJ.out ?_; intro v2 w2 h2; have HI2 := Lib.hid h2; clear h2)
                go_roundw
                case rel => exact ⟨7, _, rfl, by omega, by omega, by rw [HTK.out]; have := HI2.out; show TQ _ _ _ _; simpa using this⟩
                case measure => simp [RowKit.intOf]
              · obtain rfl : z = 0 := by omega
                subst hj
                obtain ⟨d, hd⟩ : ∃ d, d = r / 1 % 16 := ⟨_, rfl⟩
                have hd16 := Lib.hid (show d < 16 by omega)
                have hd16n : d < 16 := hd16.out
                have hd16' : (d : Int) < 16 := by omega
                have hde : bits BinOp.and IntKind.i32 (r : Int) 15 = (d : Int) := by
                    have e := Lib.and15_shift (r : Int) r rfl (by omega) 1
                    rw [hd]; simpa using e
                have HX := Lib.hid (hexlit d hd16.out)
                have HTK : Hid ((hexBs r 8).take 8 = (hexBs r 8).take 7 ++ [hexB d]) := by
                  show _ = _; rw [hexBs_take r 8 7 (by decide), hd]
                have HLJ : Hid ((((34 :: quoted T rs1) ++ [92, 85]) ++ (hexBs r 8).take 7).length + 1 ≤ 140737488355328) := by
                  have := HLQ.out; show _ ≤ _; rw [List.length_append, List.length_append, List.length_take, hexBs_len]; simp only [List.length_cons, List.length_nil] at *; omega
                clear hd hz
                go_wp2_with (at_builtin; refine tq_byte rfl _ _ rfl w _ _ (((34 :: quoted T rs1) ++ [92, 85]) ++ (hexBs r 8).take 7) rfl HI.out (hexB d) _ HX.out rfl HLJ.out ?_; intro v2 w2 h2; have HI2 := Lib.hid h2; clear h2)
                go_roundw
                case rel => exact ⟨8, _, rfl, by omega, by omega, by rw [HTK.out]; have := HI2.out; show TQ _ _ _ _; simpa using this⟩
                case measure => simp [RowKit.intOf]
              · obtain rfl : z = -4 := by omega
                subst hj
                have HFIN := Lib.hid (HEND.out _ _ (show TQ w wr _ ((34 :: quoted T rs1) ++ escB T r) by
                  rw [HE.out]
                  have h1 := HI.out
                  rw [List.take_of_length_le (by rw [hexBs_len]; exact Nat.le_refl _)] at h1
                  simpa using h1))
                clear hz
                go_wp2
                go_roundw
                case rel => exact ⟨rs1 ++ [r], t, _, by rw [HRS.out]; simp, rfl, HNEXT.out, hsm, HFIN.out⟩
                case measure => exact hst
end Go.Proofs.YtbimbpplkhdeiaaDoor
