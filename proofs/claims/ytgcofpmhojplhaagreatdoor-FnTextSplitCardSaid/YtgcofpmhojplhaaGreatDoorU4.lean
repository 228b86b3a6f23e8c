/- The walk of the package's string_split, from the end on, with a separator. (The tail printed by mku3.py.) -/
import Derived.Test.YtgcofpmhojplhaaGreatDoorU3
import Derived.Test.YtgcofpmhojplhaaGreatDoorZShelf
import Derived.Deep.RegionLaw
import Derived.Lib.EndianMore
namespace Go.Proofs.YtgcofpmhojplhaaGreatDoor
open Go.RowKit

theorem join_eq (p : List UInt8) : ∀ l, Lib.join l p = joinL p l
  | [] => rfl
  | [x] => Lib.join_one x p
  | x :: y :: r => by
    have ih := join_eq p (y :: r)
    rw [Lib.join_cons] at ih ⊢
    simp only [joinL]
    rw [← ih]
    simp [Lib.joinTail, List.append_assoc]
def setL (xs : List Value) : Nat → List Value → List Value
  | _, [] => xs
  | o, v :: r => setL (xs.set o v) (o + 1) r
theorem setL_take (xs : List Value) : ∀ (vs : List Value) (o : Nat), o + vs.length ≤ xs.length → (setL xs o vs).take (o + vs.length) = xs.take o ++ vs
  | [], o, _ => by simp [setL]
  | v :: r, o, h => by
    have ih := setL_take (xs.set o v) r (o + 1) (by simp at h ⊢; omega)
    simp only [setL, List.length_cons] at ih ⊢
    rw [show o + (r.length + 1) = o + 1 + r.length by omega, ih]
    have e : (xs.set o v).take (o + 1) = xs.take o ++ [v] := by
      rw [List.take_succ_eq_append_getElem (by simp at h ⊢; omega)]
      rw [List.getElem_set_self, List.take_set_of_le (Nat.le_refl _)]
    rw [e, List.append_assoc]
    rfl
theorem own_setCells {base : Nat} {e : TypeId} {g n cap : Nat} : ∀ (vs : List Value) (o : Nat) (xs : List Value) (w : World), w.ownsRow base e 1 (.slice (some ⟨g, 0, none⟩) n cap) n xs → (w.setCells g o vs).ownsRow base e 1 (.slice (some ⟨g, 0, none⟩) n cap) n (setL xs o vs)
  | [], _, _, _, h => h
  | v :: r, o, xs, w, h => own_setCells r (o + 1) (xs.set o v) (w.setCell ⟨g, o, none⟩ v) (h.stored o v).1
theorem own_take {w : World} {base : Nat} {e : TypeId} {g n cap m : Nat} {xs : List Value} (h : w.ownsRow base e 1 (.slice (some ⟨g, 0, none⟩) n cap) n xs) (hm : m ≤ n) : w.ownsRow base e 1 (.slice (some ⟨g, 0, none⟩) m cap) m (xs.take m) := by
  obtain ⟨h1, h2⟩ := h
  rcases h2 with ⟨h2, _⟩ | ⟨g', cap', cur, a, b, c, d, e1, e2, e3⟩
  · cases h2
  · cases a
    refine ⟨by rw [List.length_take]; omega, .inr ⟨g, cap, cur, rfl, b, c, by omega, e1, e2, ?_⟩⟩
    rw [← e3, List.take_take]
    congr 1
    omega
theorem own_cap {w : World} {base : Nat} {e : TypeId} {g n cap : Nat} {xs : List Value} (h : w.ownsRow base e 1 (.slice (some ⟨g, 0, none⟩) n cap) n xs) : n ≤ cap ∧ base ≤ g ∧ g < w.heap.size := by
  rcases h.2 with ⟨h2, _⟩ | ⟨g', cap', cur, a, b, c, d, _⟩
  · cases h2
  · cases a
    exact ⟨d, b, (Array.getElem?_eq_some_iff.1 c).1⟩
/-- The first e parts as one. -/
def joined (p : List UInt8) (e : Nat) (R : List (List UInt8)) : List (List UInt8) := joinL p (R.take e) :: R.drop e
theorem joined_len (p : List UInt8) (e : Nat) (R : List (List UInt8)) : (joined p e R).length = 1 + (R.length - e) := by simp [joined]; omega
set_option maxRecDepth 100000 in
set_option maxHeartbeats 4000000 in
theorem f43_rsepA (s : ByteArray) (ha : Asc s.data.toList) (hs : s.size ≤ 100000) (b : Nat) (ar : Value) (z : Int) (m0 : Nat) (hm0 : m0 ≤ 1000) (hzm : z = (m0 : Int)) (p : ByteArray) (hp : p.size ≤ 100000) (hp0 : 0 < p.size) (hle : (pc p.data.toList s.size s.data.toList).length ≤ m0) (w : World) (hT : Lib.Utf8Tabs 1 2 w) (hb : BoxAt b ⟨#[114, 115, 112, 108, 105, 116]⟩ s w) (hun : SplitArgs ar 72 (.string p) z w) :
    Calls Tryz.prog 43 #[.pointer none, .pointer (some ⟨b, 0, none⟩), ar, .slice none 0 0] w (SplitIs (pc p.data.toList s.size s.data.toList) w) := by
  subst hzm
  have hpe := full_iff p hp0
  obtain ⟨i0, hi, hz0, hz1, hz2⟩ := info_parts infoVal
  have a72 : ∀ w, (Instr.typeAssert (.iface 72 (.string s)) 52 72 false).run Tryz.prog w = .ok (.string s) w := fun _ => by kernel_rfl
  have eq1 : ∀ w, (binOp .eql 52 (.iface 72 (.string p)) (.iface 65 (.int .u8 0))).run Tryz.prog w = .ok (.bool false) w := fun _ => by kernel_rfl
  have HW3 : Hid (Below w.heap.size w (((w.alloc (.cells #[.nilIface] 52)).alloc (.cells #[.int .i64 (-1)] 3)).alloc (.cells #[.iface 116 (.pointer (some ⟨w.heap.size, 0, none⟩)), .iface 117 (.pointer (some ⟨w.heap.size + 1, 0, none⟩))] 20))) := w3_below w
  have H58 : Hid (Calls Tryz.prog 58 #[.string ⟨#[114, 115, 112, 108, 105, 116]⟩, ar, .slice none 0 0, .int .i64 0, .slice (some ⟨w.heap.size + 2, 0, none⟩) 2 2] (((w.alloc (.cells #[.nilIface] 52)).alloc (.cells #[.int .i64 (-1)] 3)).alloc (.cells #[.iface 116 (.pointer (some ⟨w.heap.size, 0, none⟩)), .iface 117 (.pointer (some ⟨w.heap.size + 1, 0, none⟩))] 20)) (Puts2Nil w.heap.size (w.heap.size + 1) w.heap.size (.iface 72 (.string p)) (.int .i64 (m0 : Int)) (((w.alloc (.cells #[.nilIface] 52)).alloc (.cells #[.int .i64 (-1)] 3)).alloc (.cells #[.iface 116 (.pointer (some ⟨w.heap.size, 0, none⟩)), .iface 117 (.pointer (some ⟨w.heap.size + 1, 0, none⟩))] 20)))) := splitArgs_w3 hun ⟨#[114, 115, 112, 108, 105, 116]⟩
  have HB0 := Lib.hid hb
  have HB1 := Lib.hid (hb.below HW3.out)
  have HA := Lib.hid ha
  have HT := Lib.hid hT
  clear hb hun ha hT
  go_enter Tryz.func43, Tryz.ntmps43
  go_wp2_with fail
  go_at_call 60
  refine (f60_any s b _ HB0.out.2).mono ?_
  rintro e w1 ⟨rfl, rfl⟩
  go_wp2_with fail
  go_at_call 59
  refine (f59_any ⟨#[114, 115, 112, 108, 105, 116]⟩ b _ ?_).mono ?_
  · exact (HB0.out.below (((Below.refl _ _).alloc (Nat.le_refl _) _).alloc (by simp) _)).1
  rintro e w1 ⟨rfl, rfl⟩
  go_wp2_with fail
  go_at_call 58
  refine H58.out.mono ?_
  rintro e w2 ⟨rfl, hb2, hc0, hc1⟩
  have HB2 := Lib.hid (HW3.out.trans hb2)
  have HBX := Lib.hid (HB0.out.below HB2.out)
  have HT2 := Lib.hid (tabs_below HT.out HB2.out)
  clear hb2
  go_wp2_with fail
  go_at_call 73
  refine (f73_str p _).mono ?_
  rintro e w1 ⟨rfl, rfl⟩
  go_wp2_with fail
  go_at_call 59
  refine (f59_any ⟨#[114, 115, 112, 108, 105, 116]⟩ b _ HBX.out.1).mono ?_
  rintro e w1 ⟨rfl, rfl⟩
  go_wp2_with fail
  go_at_call 75
  refine (f75_any s p hs hp hp0 _).mono ?_
  rintro e w4 ⟨v, rfl, hv, hb4⟩
  have HV := Lib.hid (Joins.ownsRow_le hv HB2.out.size)
  have HB4 := Lib.hid (HB2.out.trans (hb4.mono HB2.out.size))
  have hc4 : w4.cell? ⟨w.heap.size + 1, 0, none⟩ = some (.int .i64 (m0 : Int)) := cell_below hc1 hb4
  clear hv hb4
  have hll := pc_len p.data.toList s.size s.data.toList
  generalize pc p.data.toList s.size s.data.toList = l at *
  obtain ⟨A, c, rfl⟩ := own_len HV.out
  have hex : ¬ (0 : Int) < (l.length : Int) - (m0 : Int) := by omega
  have hmk := fun w : World => run_make (P := Tryz.prog) w 57 52 i0 .nilIface Tryz.underlying57 hi hz0 .i64 .i64 (l.length : Int) (l.length : Int) (by omega) (by omega) (by rw [hz2]; omega) (by omega)
  simp only [hz1, Int.toNat_natCast, Nat.mul_one] at hmk
  have HM0 : Hid ((w4.alloc (.cells (madeCells #[.nilIface] l.length) 52)).ownsRow w.heap.size 52 1 (.slice (some ⟨w4.heap.size, 0, none⟩) l.length l.length) l.length (fill l 0)) := by
    show World.ownsRow _ _ _ _ _ _ _
    have := World.ownsRow_lit (e := 52) (size := 1) w4 (madeCells #[.nilIface] l.length) l.length HB4.out.size (by unfold maxLen; omega) (by simp [size_madeCells])
    rw [toList_madeCells_one] at this
    rw [fill_zero]
    exact this
  have HVM : Hid ((w4.alloc (.cells (madeCells #[.nilIface] l.length) 52)).ownsRow w.heap.size 9 1 (.slice A l.length c) l.length (strs l)) := HV.out.alloc _
  have HVB : Hid (∀ g, (Value.slice A l.length c).ownBlock = some g → g < w4.heap.size) := fun g hg => (World.ownsRow.lt HV.out g hg).2
  have HBM : Hid (Below w.heap.size w (w4.alloc (.cells (madeCells #[.nilIface] l.length) 52))) := HB4.out.alloc HB4.out.size _
  have HZ : Hid (w.heap.size ≤ w4.heap.size) := HB4.out.size
  go_wp2
  clear hmk
  go_loopw [105] (fun i wr => ∃ k : Nat, i = .int .i64 k ∧ k ≤ l.length ∧ Hid (wr.ownsRow w.heap.size 9 1 (.slice A l.length c) l.length (strs l)) ∧ Hid (wr.ownsRow w.heap.size 52 1 (.slice (some ⟨w4.heap.size, 0, none⟩) l.length l.length) l.length (fill l k)) ∧ Hid (Below w.heap.size w wr)) (fun i _ => l.length - (RowKit.intOf i).toNat)
  case atStart => exact ⟨0, rfl, Nat.zero_le _, HVM.out, HM0.out, HBM.out⟩
  case round =>
    obtain ⟨k, rfl, hk, HR1, HR2, HB5⟩ := hrel
    by_cases hlt : k < l.length
    · obtain ⟨g, rfl⟩ := own_form HR1.out (by omega)
      have c1 : wr.cell? ⟨g, k, none⟩ = some (.string (txt l[k])) := (HR1.out.cellAt k (by omega)).trans (by simp [strs, hlt])
      have c2 : wr.cell? ⟨w4.heap.size, k, none⟩ = (fill l k)[k]? := HR2.out.cellAt k (by omega)
      have c2' : (fill l k)[k]? = some .nilIface := by
        unfold fill
        rw [List.getElem?_append_right (by rw [ifs_len, List.length_take]; omega), ifs_len, List.length_take, Nat.min_eq_left (by omega), Nat.sub_self]
        rw [List.getElem?_replicate, if_pos (by omega)]
      rw [c2'] at c2
      have f2 : wr.frozen? ⟨w4.heap.size, k, none⟩ = false := HR2.out.frozenAt k
      have HS2 := Lib.hid (HR2.out.stored k (.iface 72 (.string (txt l[k])))).1
      rw [fill_set l k hlt _ (List.getElem?_eq_getElem hlt)] at HS2
      have HS1 := Lib.hid (own_far HR1.out HVB.out (p := ⟨w4.heap.size, k, none⟩) (Nat.le_refl _) (.iface 72 (.string (txt l[k]))))
      have HS3 : Hid (Below w.heap.size w (wr.setCell ⟨w4.heap.size, k, none⟩ (.iface 72 (.string (txt l[k]))))) := HB5.out.setCell (p := ⟨w4.heap.size, k, none⟩) HZ.out _
      generalize l[k] = x at *
      clear c2'
      go_wp2
      go_roundw
      case rel => exact ⟨k + 1, by go_num, by omega, HS1.out, HS2.out, HS3.out⟩
      case measure => simp [RowKit.intOf]; omega
    · obtain rfl : k = l.length := by omega
      go_wp2_with fail
      go_at_call 78
      refine (f78_any _ _ _ _).mono ?_
      rintro e w6 ⟨rfl, rfl⟩
      go_wp2
      go_ret2
      refine ⟨wr.heap.size, .slice (some ⟨w4.heap.size, 0, none⟩) l.length l.length, rfl, by simp, ?_, HB5.out.alloc HB5.out.size _⟩
      have := (HR2.out.alloc (.cells #[.slice (some ⟨w4.heap.size, 0, none⟩) l.length l.length, .bool false, .int .u32 0] 115))
      rw [fill_all] at this
      exact this
set_option maxRecDepth 100000 in
set_option maxHeartbeats 4000000 in
theorem f43_rsepB (s : ByteArray) (ha : Asc s.data.toList) (hs : s.size ≤ 100000) (b : Nat) (ar : Value) (z : Int) (m0 : Nat) (hm0 : m0 ≤ 1000) (hzm : z = (m0 : Int)) (p : ByteArray) (hp : p.size ≤ 100000) (hp0 : 0 < p.size) (e : Nat) (he : (pc p.data.toList s.size s.data.toList).length = m0 + e) (he0 : 0 < e) (hj : (joinL p.data.toList ((pc p.data.toList s.size s.data.toList).take e)).length ≤ 100000) (w : World) (hT : Lib.Utf8Tabs 1 2 w) (hb : BoxAt b ⟨#[114, 115, 112, 108, 105, 116]⟩ s w) (hun : SplitArgs ar 72 (.string p) z w) :
    Calls Tryz.prog 43 #[.pointer none, .pointer (some ⟨b, 0, none⟩), ar, .slice none 0 0] w (SplitIs (joined p.data.toList e (pc p.data.toList s.size s.data.toList)) w) := by
  subst hzm
  have hpe := full_iff p hp0
  obtain ⟨i0, hi, hz0, hz1, hz2⟩ := info_parts infoVal
  have a72 : ∀ w, (Instr.typeAssert (.iface 72 (.string s)) 52 72 false).run Tryz.prog w = .ok (.string s) w := fun _ => by kernel_rfl
  have eq1 : ∀ w, (binOp .eql 52 (.iface 72 (.string p)) (.iface 65 (.int .u8 0))).run Tryz.prog w = .ok (.bool false) w := fun _ => by kernel_rfl
  have HW3 : Hid (Below w.heap.size w (((w.alloc (.cells #[.nilIface] 52)).alloc (.cells #[.int .i64 (-1)] 3)).alloc (.cells #[.iface 116 (.pointer (some ⟨w.heap.size, 0, none⟩)), .iface 117 (.pointer (some ⟨w.heap.size + 1, 0, none⟩))] 20))) := w3_below w
  have H58 : Hid (Calls Tryz.prog 58 #[.string ⟨#[114, 115, 112, 108, 105, 116]⟩, ar, .slice none 0 0, .int .i64 0, .slice (some ⟨w.heap.size + 2, 0, none⟩) 2 2] (((w.alloc (.cells #[.nilIface] 52)).alloc (.cells #[.int .i64 (-1)] 3)).alloc (.cells #[.iface 116 (.pointer (some ⟨w.heap.size, 0, none⟩)), .iface 117 (.pointer (some ⟨w.heap.size + 1, 0, none⟩))] 20)) (Puts2Nil w.heap.size (w.heap.size + 1) w.heap.size (.iface 72 (.string p)) (.int .i64 (m0 : Int)) (((w.alloc (.cells #[.nilIface] 52)).alloc (.cells #[.int .i64 (-1)] 3)).alloc (.cells #[.iface 116 (.pointer (some ⟨w.heap.size, 0, none⟩)), .iface 117 (.pointer (some ⟨w.heap.size + 1, 0, none⟩))] 20)))) := splitArgs_w3 hun ⟨#[114, 115, 112, 108, 105, 116]⟩
  have HB0 := Lib.hid hb
  have HB1 := Lib.hid (hb.below HW3.out)
  have HA := Lib.hid ha
  have HT := Lib.hid hT
  clear hb hun ha hT
  go_enter Tryz.func43, Tryz.ntmps43
  go_wp2_with fail
  go_at_call 60
  refine (f60_any s b _ HB0.out.2).mono ?_
  rintro e w1 ⟨rfl, rfl⟩
  go_wp2_with fail
  go_at_call 59
  refine (f59_any ⟨#[114, 115, 112, 108, 105, 116]⟩ b _ ?_).mono ?_
  · exact (HB0.out.below (((Below.refl _ _).alloc (Nat.le_refl _) _).alloc (by simp) _)).1
  rintro e w1 ⟨rfl, rfl⟩
  go_wp2_with fail
  go_at_call 58
  refine H58.out.mono ?_
  rintro e w2 ⟨rfl, hb2, hc0, hc1⟩
  have HB2 := Lib.hid (HW3.out.trans hb2)
  have HBX := Lib.hid (HB0.out.below HB2.out)
  have HT2 := Lib.hid (tabs_below HT.out HB2.out)
  clear hb2
  go_wp2_with fail
  go_at_call 73
  refine (f73_str p _).mono ?_
  rintro e w1 ⟨rfl, rfl⟩
  go_wp2_with fail
  go_at_call 59
  refine (f59_any ⟨#[114, 115, 112, 108, 105, 116]⟩ b _ HBX.out.1).mono ?_
  rintro e w1 ⟨rfl, rfl⟩
  go_wp2_with fail
  go_at_call 75
  refine (f75_any s p hs hp hp0 _).mono ?_
  rintro e w4 ⟨v, rfl, hv, hb4⟩
  have HV := Lib.hid (Joins.ownsRow_le hv HB2.out.size)
  have HB4 := Lib.hid (HB2.out.trans (hb4.mono HB2.out.size))
  have hc4 : w4.cell? ⟨w.heap.size + 1, 0, none⟩ = some (.int .i64 (m0 : Int)) := cell_below hc1 hb4
  clear hv hb4
  have hll := pc_len p.data.toList s.size s.data.toList
  generalize pc p.data.toList s.size s.data.toList = R at *
  obtain ⟨A, c, rfl⟩ := own_len HV.out
  obtain ⟨gg, rfl⟩ := own_form HV.out (by omega)
  have hcap := own_cap HV.out
  have hE : (R.length : Int) - (m0 : Int) = (e : Int) := by omega
  have hx : ((R.take e).map txt).length = e := by rw [List.length_map, List.length_take]; omega
  have hxm : ((R.take e).map txt).map (·.data.toList) = R.take e := by rw [List.map_map]; exact (List.map_congr_left fun x _ => txt_list x).trans (List.map_id _)
  have H77 := Tryz.strings_Join gg 0 c ((R.take e).map txt) p w4 (fun j x hjx => by
    have hj : j < e := by rw [← hx]; exact (List.getElem?_eq_some_iff.1 hjx).1
    rw [Nat.zero_add, HV.out.cellAt j (by omega)]
    simp [strs, hj] at hjx ⊢
    obtain ⟨y, hy, rfl⟩ := hjx
    simp [hy]) hcap.2.2 (by rw [hx]; omega) (by rw [hx]; omega) (by rw [hxm, join_eq]; omega)
  rw [hx, hxm, join_eq] at H77
  have H77 := Lib.hid H77
  have HJ := Lib.hid hj
  have HE0 := Lib.hid he
  have HCAP := Lib.hid hcap
  have hg0 : 0 < e := he0
  have hec : e ≤ c := by omega
  have hen : e ≤ R.length := by omega
  clear hx hxm hj hcap he
  go_wp2_with fail
  go_at_call 77
  refine H77.out.mono ?_
  rintro e5 w5 ⟨rfl, hb5⟩
  have HV5 := Lib.hid (own_below HV.out hb5)
  have HB5 := Lib.hid (HB4.out.trans (hb5.mono HB4.out.size))
  have HSZ := Lib.hid hb5.size
  have hcz := HV5.out.cellAt 0 (by omega)
  obtain ⟨u0, hu0⟩ : ∃ u0, (strs R)[0]? = some u0 := ⟨_, List.getElem?_eq_getElem (by rw [strs_len]; omega)⟩
  rw [hu0] at hcz
  have hfz := HV5.out.frozenAt 0
  clear hb5
  go_wp2_with fail
  have HV6 := (HV5.out.stored 0 (.string (txt (joinL p.data.toList (R.take e))))).1
  have HB6 : Hid (Below w.heap.size w (w5.setCell ⟨gg, 0, none⟩ (.string (txt (joinL p.data.toList (R.take e)))))) := HB5.out.setCell (p := ⟨gg, 0, none⟩) HCAP.out.2.1 _
  rw [show (⟨(joinL p.data.toList (R.take e)).toArray⟩ : ByteArray) = txt (joinL p.data.toList (R.take e)) from rfl]
  generalize w5.setCell ⟨gg, 0, none⟩ (.string (txt (joinL p.data.toList (R.take e)))) = w6 at *
  obtain ⟨i9, hi9, hz9, hz19, hz29⟩ := info_parts infoStr
  have hnl : (strs (R.drop e)).length = R.length - e := by rw [strs_len, List.length_drop]
  obtain ⟨A, hA, hnews⟩ : ∃ A : Addr, (if c = e then some (⟨gg, 0, none⟩ : Addr) else some ⟨gg, e, none⟩) = some A ∧ Hid (∀ j u, (strs (R.drop e))[j]? = some u → w6.drew.cell? (A.add j) = some u) := by
    have hcap := HCAP.out
    by_cases h : c = e
    · refine ⟨⟨gg, 0, none⟩, by simp [h], fun j u hu => ?_⟩
      have h0 : (strs (R.drop e)).length = 0 := by rw [hnl]; omega
      rw [List.length_eq_zero_iff.1 h0] at hu
      simp at hu
    · refine ⟨⟨gg, e, none⟩, by simp [h], fun j u hu => ?_⟩
      have hj : j < R.length - e := by
        have := (List.getElem?_eq_some_iff.1 hu).1
        rwa [hnl] at this
      rw [Addr.add_lit]
      show w6.cell? _ = _
      rw [HV6.cellAt (e + j) (by omega), List.getElem?_set_ne (by omega)]
      rw [← hu]
      simp [strs, List.getElem?_drop]
  have s1 : Hid ((strs (R.drop e)).length = (R.length - e) * 1) := by rw [Nat.mul_one]; exact hnl
  have s2 : Hid (∀ u ∈ strs (R.drop e), u.oneCell' = true) := by
    intro u hu
    obtain ⟨x, _, rfl⟩ := List.mem_map.1 hu
    rfl
  have s3 : Hid (∀ j, j < (strs (R.drop e)).length → (w6.drew.cell? ⟨gg, 0 + 1 * 1 + j, none⟩).isSome = true ∧ w6.drew.frozen? ⟨gg, 0 + 1 * 1 + j, none⟩ = false) := by
    intro j hj
    rw [hnl] at hj
    refine ⟨?_, HV6.frozenAt _⟩
    show (w6.cell? _).isSome = true
    rw [HV6.cellAt (0 + 1 * 1 + j) (by omega), List.getElem?_eq_getElem (by rw [List.length_set, strs_len]; omega)]
    rfl
  have hE1 : (0 : Int) ≤ (e : Int) := by omega
  have hE2 : (e : Int) ≤ (R.length : Int) := by omega
  have hc1' : (1 : Int) ≤ (c : Int) := by have := HCAP.out; omega
  have hc2' : (R.length : Int) ≤ (c : Int) := by have := HCAP.out; omega
  have hR1' : (1 : Int) ≤ (R.length : Int) := by omega
  have hR1 : 1 ≤ R.length := by omega
  have hroom : 1 + (R.length - e) ≤ c := by have := HCAP.out; omega
  have HV6 := Lib.hid HV6
  have HNL := Lib.hid hnl
  clear hcz hfz hu0 hnl hE
  go_region_law (refine step_append_room rfl (.tmp 94) (.tmp 97) 23 rfl 9 i9 1 Tryz.underlying23 hi9 hz19 gg 0 1 c (by simp [Act.eval, Act.put]) A (R.length - e) (c - e) (strs (R.drop e)) (by simp [Act.eval, Act.put]) s1.out hnews.out s2.out hroom s3.out ?_)
  have HV7 : (w6.drew.setCells gg (0 + 1 * 1) (strs (R.drop e))).ownsRow w.heap.size 9 1 (.slice (some ⟨gg, 0, none⟩) (1 + (R.length - e)) c) (1 + (R.length - e)) (strs (joined p.data.toList e R)) := by
    have h1 := own_take (own_setCells (strs (R.drop e)) (0 + 1 * 1) _ w6.drew HV6.out) (n := R.length) (m := 1 + (R.length - e)) (by have h5 := hg0; have h6 := hen; omega)
    have h2 := setL_take ((strs R).set 0 (.string (txt (joinL p.data.toList (R.take e))))) (strs (R.drop e)) (0 + 1 * 1) (by rw [HNL.out, List.length_set, strs_len]; omega)
    rw [HNL.out, show 0 + 1 * 1 + (R.length - e) = 1 + (R.length - e) from by omega] at h2
    rw [h2] at h1
    have h3 : ((strs R).set 0 (.string (txt (joinL p.data.toList (R.take e))))).take (0 + 1 * 1) ++ strs (R.drop e) = strs (joined p.data.toList e R) := by
      cases hR : strs R with
      | nil => have := congrArg List.length hR; rw [strs_len, List.length_nil] at this; omega
      | cons a r => simp [joined, strs]
    rw [h3] at h1
    exact h1
  have HB7 : Hid (Below w.heap.size w (w6.drew.setCells gg (0 + 1 * 1) (strs (R.drop e)))) := HB6.out.drew.trans (Lib.below_setCells_w HCAP.out.2.1 _ _ _)
  generalize w6.drew.setCells gg (0 + 1 * 1) (strs (R.drop e)) = w7 at *
  have hlen := joined_len p.data.toList e R
  have hll2 : (joined p.data.toList e R).length ≤ 100002 := by omega
  rw [← hlen] at HV7
  rw [← hlen]
  have HV := Lib.hid HV7
  have HB4 := Lib.hid HB7.out
  generalize joined p.data.toList e R = l at *
  clear HV7 hlen hc4 hR1' hc2' hc1' hE1 hE2 hroom hA H77 hnews s1 s2 s3 HV6 HV5 HJ
  have hmk := fun w : World => run_make (P := Tryz.prog) w 57 52 i0 .nilIface Tryz.underlying57 hi hz0 .i64 .i64 (l.length : Int) (l.length : Int) (by omega) (by omega) (by rw [hz2]; omega) (by omega)
  simp only [hz1, Int.toNat_natCast, Nat.mul_one] at hmk
  have HM0 : Hid ((w7.alloc (.cells (madeCells #[.nilIface] l.length) 52)).ownsRow w.heap.size 52 1 (.slice (some ⟨w7.heap.size, 0, none⟩) l.length l.length) l.length (fill l 0)) := by
    show World.ownsRow _ _ _ _ _ _ _
    have := World.ownsRow_lit (e := 52) (size := 1) w7 (madeCells #[.nilIface] l.length) l.length HB4.out.size (by unfold maxLen; omega) (by simp [size_madeCells])
    rw [toList_madeCells_one] at this
    rw [fill_zero]
    exact this
  have HVM : Hid ((w7.alloc (.cells (madeCells #[.nilIface] l.length) 52)).ownsRow w.heap.size 9 1 (.slice (some ⟨gg, 0, none⟩) l.length c) l.length (strs l)) := HV.out.alloc _
  have HVB : Hid (∀ g, (Value.slice (some ⟨gg, 0, none⟩) l.length c).ownBlock = some g → g < w7.heap.size) := fun g hg => (World.ownsRow.lt HV.out g hg).2
  have HBM : Hid (Below w.heap.size w (w7.alloc (.cells (madeCells #[.nilIface] l.length) 52))) := HB4.out.alloc HB4.out.size _
  have HZ : Hid (w.heap.size ≤ w7.heap.size) := HB4.out.size
  go_wp2
  clear hmk
  go_loopw [105] (fun i wr => ∃ k : Nat, i = .int .i64 k ∧ k ≤ l.length ∧ Hid (wr.ownsRow w.heap.size 9 1 (.slice (some ⟨gg, 0, none⟩) l.length c) l.length (strs l)) ∧ Hid (wr.ownsRow w.heap.size 52 1 (.slice (some ⟨w7.heap.size, 0, none⟩) l.length l.length) l.length (fill l k)) ∧ Hid (Below w.heap.size w wr)) (fun i _ => l.length - (RowKit.intOf i).toNat)
  case atStart => exact ⟨0, rfl, Nat.zero_le _, HVM.out, HM0.out, HBM.out⟩
  case round =>
    obtain ⟨k, rfl, hk, HR1, HR2, HB5⟩ := hrel
    by_cases hlt : k < l.length
    · have c1 : wr.cell? ⟨gg, k, none⟩ = some (.string (txt l[k])) := (HR1.out.cellAt k (by omega)).trans (by simp [strs, hlt])
      have c2 : wr.cell? ⟨w7.heap.size, k, none⟩ = (fill l k)[k]? := HR2.out.cellAt k (by omega)
      have c2' : (fill l k)[k]? = some .nilIface := by
        unfold fill
        rw [List.getElem?_append_right (by rw [ifs_len, List.length_take]; omega), ifs_len, List.length_take, Nat.min_eq_left (by omega), Nat.sub_self]
        rw [List.getElem?_replicate, if_pos (by omega)]
      rw [c2'] at c2
      have f2 : wr.frozen? ⟨w7.heap.size, k, none⟩ = false := HR2.out.frozenAt k
      have HS2 := Lib.hid (HR2.out.stored k (.iface 72 (.string (txt l[k])))).1
      rw [fill_set l k hlt _ (List.getElem?_eq_getElem hlt)] at HS2
      have HS1 := Lib.hid (own_far HR1.out HVB.out (p := ⟨w7.heap.size, k, none⟩) (Nat.le_refl _) (.iface 72 (.string (txt l[k]))))
      have HS3 : Hid (Below w.heap.size w (wr.setCell ⟨w7.heap.size, k, none⟩ (.iface 72 (.string (txt l[k]))))) := HB5.out.setCell (p := ⟨w7.heap.size, k, none⟩) HZ.out _
      generalize l[k] = x9 at *
      clear c2'
      go_wp2
      go_roundw
      case rel => exact ⟨k + 1, by go_num, by omega, HS1.out, HS2.out, HS3.out⟩
      case measure => simp [RowKit.intOf]; omega
    · obtain rfl : k = l.length := by omega
      go_wp2_with fail
      go_at_call 78
      refine (f78_any _ _ _ _).mono ?_
      rintro e w6 ⟨rfl, rfl⟩
      go_wp2
      go_ret2
      refine ⟨wr.heap.size, .slice (some ⟨w7.heap.size, 0, none⟩) l.length l.length, rfl, by simp, ?_, HB5.out.alloc HB5.out.size _⟩
      have := (HR2.out.alloc (.cells #[.slice (some ⟨w7.heap.size, 0, none⟩) l.length l.length, .bool false, .int .u32 0] 115))
      rw [fill_all] at this
      exact this
end Go.Proofs.YtgcofpmhojplhaaGreatDoor
