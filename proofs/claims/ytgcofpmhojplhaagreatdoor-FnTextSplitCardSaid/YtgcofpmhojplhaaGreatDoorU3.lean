/- The walk of the package's string_split. (Printed by mku3.py.) -/
import Derived.Test.YtgcofpmhojplhaaGreatDoorU2
import Derived.Test.YtgcofpmhojplhaaGreatDoorT5
import Derived.Test.YtgcofpmhojplhaaGreatDoorT3
import Derived.Test.YtgcofpmhojplhaaGreatDoorR6
namespace Go.Proofs.YtgcofpmhojplhaaGreatDoor
open Go.RowKit

/-- What the unpacking does with these arguments, at every later world. -/
def SplitArgs (ar : Value) (t : TypeId) (x : Value) (z : Int) (w : World) : Prop :=
  ∀ w1, Below w.heap.size w w1 → ∀ (nm : ByteArray) (h a b B : Nat), w1.cell? ⟨h, 0, none⟩ = some (.iface 116 (.pointer (some ⟨a, 0, none⟩))) → w1.cell? ⟨h, 1, none⟩ = some (.iface 117 (.pointer (some ⟨b, 0, none⟩))) →
    w1.cell? ⟨a, 0, none⟩ = some .nilIface → w1.frozen? ⟨a, 0, none⟩ = false → w1.cell? ⟨b, 0, none⟩ = some (.int .i64 (-1)) → w1.frozen? ⟨b, 0, none⟩ = false → a ≠ b → w.heap.size ≤ a → w.heap.size ≤ b → B ≤ a → B ≤ b → h ≠ a →
    Calls Tryz.prog 58 #[.string nm, ar, .slice none 0 0, .int .i64 0, .slice (some ⟨h, 0, none⟩) 2 2] w1 (Puts2Nil a b B (.iface t x) (.int .i64 z) w1)
theorem SplitArgs.below {ar : Value} {t : TypeId} {x : Value} {z : Int} {w w' : World} (h : SplitArgs ar t x z w) (hb : Below w.heap.size w w') : SplitArgs ar t x z w' := by
  intro w1 h1 nm hh a b B k0 k1 k2 k3 k4 k5 hab ha hb2 hBa hBb hha
  have := hb.size
  exact h w1 (hb.trans (h1.mono hb.size)) nm hh a b B k0 k1 k2 k3 k4 k5 hab (by omega) (by omega) hBa hBb hha
/-- The strings as values of the package. -/
def ifs (l : List (List UInt8)) : List Value := l.map fun x => .iface 72 (.string (txt x))
theorem ifs_len (l : List (List UInt8)) : (ifs l).length = l.length := by simp [ifs]
theorem infoVal : (Tryz.prog.info? 52).map (fun i => (i.zero, i.size, i.bytes)) = some (some .nilIface, 1, 16) := by kernel_rfl
def SplitIs (l : List (List UInt8)) (w : World) (e : Ending) (w' : World) : Prop :=
  ∃ L v, e = .returned (.tuple #[.iface 82 (.pointer (some ⟨L, 0, none⟩)), .nilIface]) ∧ w'.cell? ⟨L, 0, none⟩ = some v ∧ w'.ownsRow w.heap.size 52 1 v l.length (ifs l) ∧ Below w.heap.size w w'
def w3 (w : World) : World := ((w.alloc (.cells #[.nilIface] 52)).alloc (.cells #[.int .i64 (-1)] 3)).alloc (.cells #[.iface 116 (.pointer (some ⟨w.heap.size, 0, none⟩)), .iface 117 (.pointer (some ⟨w.heap.size + 1, 0, none⟩))] 20)
theorem w3_below (w : World) : Below w.heap.size w (w3 w) := by
  unfold w3
  exact (((Below.refl _ _).alloc (Nat.le_refl _) _).alloc (by simp) _).alloc (by simp; omega) _
theorem w3_facts (w : World) : (w3 w).cell? ⟨w.heap.size + 2, 0, none⟩ = some (.iface 116 (.pointer (some ⟨w.heap.size, 0, none⟩))) ∧ (w3 w).cell? ⟨w.heap.size + 2, 1, none⟩ = some (.iface 117 (.pointer (some ⟨w.heap.size + 1, 0, none⟩))) ∧
    (w3 w).cell? ⟨w.heap.size, 0, none⟩ = some .nilIface ∧ (w3 w).frozen? ⟨w.heap.size, 0, none⟩ = false ∧ (w3 w).cell? ⟨w.heap.size + 1, 0, none⟩ = some (.int .i64 (-1)) ∧ (w3 w).frozen? ⟨w.heap.size + 1, 0, none⟩ = false := by
  unfold w3
  refine ⟨?_, ?_, ?_, ?_, ?_, ?_⟩ <;> simp [go_sem]
theorem splitArgs_w3 {ar : Value} {t : TypeId} {x : Value} {z : Int} {w : World} (hun : SplitArgs ar t x z w) (nm : ByteArray) :
    Calls Tryz.prog 58 #[.string nm, ar, .slice none 0 0, .int .i64 0, .slice (some ⟨w.heap.size + 2, 0, none⟩) 2 2] (w3 w) (Puts2Nil w.heap.size (w.heap.size + 1) w.heap.size (.iface t x) (.int .i64 z) (w3 w)) := by
  obtain ⟨k0, k1, k2, k3, k4, k5⟩ := w3_facts w
  exact hun (w3 w) (w3_below w) nm (w.heap.size + 2) w.heap.size (w.heap.size + 1) w.heap.size k0 k1 k2 k3 k4 k5 (by omega) (by omega) (by omega) (by omega) (by omega) (by omega)
def fill (l : List (List UInt8)) (k : Nat) : List Value := ifs (l.take k) ++ List.replicate (l.length - k) .nilIface
theorem fill_zero (l : List (List UInt8)) : fill l 0 = List.replicate l.length .nilIface := by simp [fill, ifs]
theorem fill_all (l : List (List UInt8)) : fill l l.length = ifs l := by simp [fill]
theorem fill_set (l : List (List UInt8)) (k : Nat) (hk : k < l.length) (x : List UInt8) (hx : l[k]? = some x) : (fill l k).set k (.iface 72 (.string (txt x))) = fill l (k + 1) := by
  have e : l.take (k + 1) = l.take k ++ [x] := by
    rw [List.take_succ_eq_append_getElem hk]
    rw [List.getElem?_eq_getElem hk] at hx
    cases hx; rfl
  unfold fill
  rw [List.set_append_right _ _ (by rw [ifs_len, List.length_take]; omega), ifs_len, List.length_take, Nat.min_eq_left (by omega), Nat.sub_self, e]
  obtain ⟨m, hm⟩ : ∃ m, l.length - k = m + 1 := ⟨l.length - k - 1, by omega⟩
  rw [hm, show l.length - (k + 1) = m by omega, List.replicate_succ, List.set_cons_zero]
  simp [ifs]
theorem own_far {w : World} {base B : Nat} {e : TypeId} {v : Value} {n : Nat} {xs : List Value} (h : w.ownsRow base e 1 v n xs) (hB : ∀ g, v.ownBlock = some g → g < B) {p : Addr} (hp : B ≤ p.block) (u : Value) : (w.setCell p u).ownsRow base e 1 v n xs := by
  obtain ⟨h1, h2⟩ := h
  refine ⟨h1, ?_⟩
  rcases h2 with h2 | ⟨g, cap, cur, a, b, c, d⟩
  · exact .inl h2
  · have := hB g (by rw [a]; rfl)
    exact .inr ⟨g, cap, cur, a, b, by rw [Below.heap_setCell w p u g (by omega)]; exact c, d⟩
set_option maxRecDepth 100000 in
theorem f78_any (a : Option Addr) (n c : Nat) (w : World) : Calls Tryz.prog 78 #[.slice a n c] w fun e w' => e = .returned (.pointer (some ⟨w.heap.size, 0, none⟩)) ∧ w.alloc (.cells #[.slice a n c, .bool false, .int .u32 0] 115) = w' := by
  go_enter Tryz.func78, Tryz.ntmps78
  go_wp2
  go_ret
  exact ⟨rfl, rfl⟩
theorem wdB_len (q : UInt8 → Bool) (m : Nat) (s : List UInt8) : (wdB q m s).length ≤ m + 1 := by
  unfold wdB mir
  rw [List.length_reverse, List.length_map]
  exact wd_len q m _
/-- It is refused. -/
def SplitNo (w : World) (e : Ending) (w' : World) : Prop := ∃ t x, e = .returned (.tuple #[.nilIface, .iface t x]) ∧ Below w.heap.size w w'
def ErrMade (w : World) (e : Ending) (w' : World) : Prop := ∃ t x, e = .returned (.iface t x) ∧ Below w.heap.size w w'
set_option maxRecDepth 100000 in
theorem f74_any (m : ByteArray) (w : World) : Calls Tryz.prog 74 #[.string m] w (ErrMade w) := by
  go_enter Tryz.func74, Tryz.ntmps74
  go_wp2
  go_ret
  exact ⟨_, _, rfl, (Below.refl _ _).alloc (Nat.le_refl _) _⟩
set_option maxRecDepth 100000 in
set_option maxHeartbeats 4000000 in
theorem f43_fields (nm s : ByteArray) (ha : Asc s.data.toList) (hs : s.size ≤ 100000) (b : Nat) (ar : Value) (z : Int) (hz : z < 0) (w : World) (hT : Lib.Utf8Tabs 1 2 w) (hb : BoxAt b nm s w) (hun : SplitArgs ar 65 (.int .u8 0) z w) :
    Calls Tryz.prog 43 #[.pointer none, .pointer (some ⟨b, 0, none⟩), ar, .slice none 0 0] w (SplitIs (wd blankB s.size s.data.toList) w) := by
  obtain ⟨i0, hi, hz0, hz1, hz2⟩ := info_parts infoVal
  have a72 : ∀ w, (Instr.typeAssert (.iface 72 (.string s)) 52 72 false).run Tryz.prog w = .ok (.string s) w := fun _ => by kernel_rfl
  have eq1 : ∀ w, (binOp .eql 52 (.iface 65 (.int .u8 0)) (.iface 65 (.int .u8 0))).run Tryz.prog w = .ok (.bool true) w := fun _ => by kernel_rfl
  have HW3 : Hid (Below w.heap.size w (((w.alloc (.cells #[.nilIface] 52)).alloc (.cells #[.int .i64 (-1)] 3)).alloc (.cells #[.iface 116 (.pointer (some ⟨w.heap.size, 0, none⟩)), .iface 117 (.pointer (some ⟨w.heap.size + 1, 0, none⟩))] 20))) := w3_below w
  have H58 : Hid (Calls Tryz.prog 58 #[.string nm, ar, .slice none 0 0, .int .i64 0, .slice (some ⟨w.heap.size + 2, 0, none⟩) 2 2] (((w.alloc (.cells #[.nilIface] 52)).alloc (.cells #[.int .i64 (-1)] 3)).alloc (.cells #[.iface 116 (.pointer (some ⟨w.heap.size, 0, none⟩)), .iface 117 (.pointer (some ⟨w.heap.size + 1, 0, none⟩))] 20)) (Puts2Nil w.heap.size (w.heap.size + 1) w.heap.size (.iface 65 (.int .u8 0)) (.int .i64 z) (((w.alloc (.cells #[.nilIface] 52)).alloc (.cells #[.int .i64 (-1)] 3)).alloc (.cells #[.iface 116 (.pointer (some ⟨w.heap.size, 0, none⟩)), .iface 117 (.pointer (some ⟨w.heap.size + 1, 0, none⟩))] 20)))) := splitArgs_w3 hun nm
  have HB0 := Lib.hid hb
  have HB1 := Lib.hid (hb.below HW3.out)
  have HA := Lib.hid ha
  have HT := Lib.hid hT
  clear hb hun ha hT
  go_enter Tryz.func43, Tryz.ntmps43
  go_wp2_with fail
  go_at_call 60
  refine (f60_any s b _ HB0.out.2).mono ?_
  rintro e w1 ⟨rfl, rfl⟩
  go_wp2_with fail
  go_at_call 59
  refine (f59_any nm b _ ?_).mono ?_
  · exact (HB0.out.below (((Below.refl _ _).alloc (Nat.le_refl _) _).alloc (by simp) _)).1
  rintro e w1 ⟨rfl, rfl⟩
  go_wp2_with fail
  go_at_call 58
  refine H58.out.mono ?_
  rintro e w2 ⟨rfl, hb2, hc0, hc1⟩
  have HB2 := Lib.hid (HW3.out.trans hb2)
  have HBX := Lib.hid (HB0.out.below HB2.out)
  have HT2 := Lib.hid (tabs_below HT.out HB2.out)
  clear hb2
  go_wp2_with fail
  go_at_call 70
  refine (f70_any s HA.out hs _).mono ?_
  rintro e w4 ⟨v, rfl, hv, hb4⟩
  have HV := Lib.hid (Joins.ownsRow_le hv HB2.out.size)
  have HB4 := Lib.hid (HB2.out.trans (hb4.mono HB2.out.size))
  clear hv hb4
  have hll := wd_len blankB s.size s.data.toList
  generalize wd blankB s.size s.data.toList = l at *
  obtain ⟨A, c, rfl⟩ := own_len HV.out
  have hmk := fun w : World => run_make (P := Tryz.prog) w 57 52 i0 .nilIface Tryz.underlying57 hi hz0 .i64 .i64 (l.length : Int) (l.length : Int) (by omega) (by omega) (by rw [hz2]; omega) (by omega)
  simp only [hz1, Int.toNat_natCast, Nat.mul_one] at hmk
  have HM0 : Hid ((w4.alloc (.cells (madeCells #[.nilIface] l.length) 52)).ownsRow w.heap.size 52 1 (.slice (some ⟨w4.heap.size, 0, none⟩) l.length l.length) l.length (fill l 0)) := by
    show World.ownsRow _ _ _ _ _ _ _
    have := World.ownsRow_lit (e := 52) (size := 1) w4 (madeCells #[.nilIface] l.length) l.length HB4.out.size (by unfold maxLen; omega) (by simp [size_madeCells])
    rw [toList_madeCells_one] at this
    rw [fill_zero]
    exact this
  have HVM : Hid ((w4.alloc (.cells (madeCells #[.nilIface] l.length) 52)).ownsRow w.heap.size 9 1 (.slice A l.length c) l.length (strs l)) := HV.out.alloc _
  have HVB : Hid (∀ g, (Value.slice A l.length c).ownBlock = some g → g < w4.heap.size) := fun g hg => (World.ownsRow.lt HV.out g hg).2
  have HBM : Hid (Below w.heap.size w (w4.alloc (.cells (madeCells #[.nilIface] l.length) 52))) := HB4.out.alloc HB4.out.size _
  have HZ : Hid (w.heap.size ≤ w4.heap.size) := HB4.out.size
  go_wp2
  clear hmk
  go_loopw [105] (fun i wr => ∃ k : Nat, i = .int .i64 k ∧ k ≤ l.length ∧ Hid (wr.ownsRow w.heap.size 9 1 (.slice A l.length c) l.length (strs l)) ∧ Hid (wr.ownsRow w.heap.size 52 1 (.slice (some ⟨w4.heap.size, 0, none⟩) l.length l.length) l.length (fill l k)) ∧ Hid (Below w.heap.size w wr)) (fun i _ => l.length - (RowKit.intOf i).toNat)
  case atStart => exact ⟨0, rfl, Nat.zero_le _, HVM.out, HM0.out, HBM.out⟩
  case round =>
    obtain ⟨k, rfl, hk, HR1, HR2, HB5⟩ := hrel
    by_cases hlt : k < l.length
    · obtain ⟨g, rfl⟩ := own_form HR1.out (by omega)
      have c1 : wr.cell? ⟨g, k, none⟩ = some (.string (txt l[k])) := (HR1.out.cellAt k (by omega)).trans (by simp [strs, hlt])
      have c2 : wr.cell? ⟨w4.heap.size, k, none⟩ = (fill l k)[k]? := HR2.out.cellAt k (by omega)
      have c2' : (fill l k)[k]? = some .nilIface := by
        unfold fill
        rw [List.getElem?_append_right (by rw [ifs_len, List.length_take]; omega), ifs_len, List.length_take, Nat.min_eq_left (by omega), Nat.sub_self]
        rw [List.getElem?_replicate, if_pos (by omega)]
      rw [c2'] at c2
      have f2 : wr.frozen? ⟨w4.heap.size, k, none⟩ = false := HR2.out.frozenAt k
      have HS2 := Lib.hid (HR2.out.stored k (.iface 72 (.string (txt l[k])))).1
      rw [fill_set l k hlt _ (List.getElem?_eq_getElem hlt)] at HS2
      have HS1 := Lib.hid (own_far HR1.out HVB.out (p := ⟨w4.heap.size, k, none⟩) (Nat.le_refl _) (.iface 72 (.string (txt l[k]))))
      have HS3 : Hid (Below w.heap.size w (wr.setCell ⟨w4.heap.size, k, none⟩ (.iface 72 (.string (txt l[k]))))) := HB5.out.setCell (p := ⟨w4.heap.size, k, none⟩) HZ.out _
      generalize l[k] = x at *
      clear c2'
      go_wp2
      go_roundw
      case rel => exact ⟨k + 1, by go_num, by omega, HS1.out, HS2.out, HS3.out⟩
      case measure => simp [RowKit.intOf]; omega
    · obtain rfl : k = l.length := by omega
      go_wp2_with fail
      go_at_call 78
      refine (f78_any _ _ _ _).mono ?_
      rintro e w6 ⟨rfl, rfl⟩
      go_wp2
      go_ret2
      refine ⟨wr.heap.size, .slice (some ⟨w4.heap.size, 0, none⟩) l.length l.length, rfl, by simp, ?_, HB5.out.alloc HB5.out.size _⟩
      have := (HR2.out.alloc (.cells #[.slice (some ⟨w4.heap.size, 0, none⟩) l.length l.length, .bool false, .int .u32 0] 115))
      rw [fill_all] at this
      exact this
set_option maxRecDepth 100000 in
set_option maxHeartbeats 4000000 in
theorem f43_space (s : ByteArray) (ha : Asc s.data.toList) (hs : s.size ≤ 100000) (b : Nat) (ar : Value) (z : Int) (m0 : Nat) (hm0 : m0 ≤ 1000) (hzm : z = (m0 : Int)) (w : World) (hT : Lib.Utf8Tabs 1 2 w) (hb : BoxAt b ⟨#[115, 112, 108, 105, 116]⟩ s w) (hun : SplitArgs ar 65 (.int .u8 0) z w) :
    Calls Tryz.prog 43 #[.pointer none, .pointer (some ⟨b, 0, none⟩), ar, .slice none 0 0] w (SplitIs (wd blankB m0 s.data.toList) w) := by
  subst hzm
  obtain ⟨i0, hi, hz0, hz1, hz2⟩ := info_parts infoVal
  have a72 : ∀ w, (Instr.typeAssert (.iface 72 (.string s)) 52 72 false).run Tryz.prog w = .ok (.string s) w := fun _ => by kernel_rfl
  have eq1 : ∀ w, (binOp .eql 52 (.iface 65 (.int .u8 0)) (.iface 65 (.int .u8 0))).run Tryz.prog w = .ok (.bool true) w := fun _ => by kernel_rfl
  have HW3 : Hid (Below w.heap.size w (((w.alloc (.cells #[.nilIface] 52)).alloc (.cells #[.int .i64 (-1)] 3)).alloc (.cells #[.iface 116 (.pointer (some ⟨w.heap.size, 0, none⟩)), .iface 117 (.pointer (some ⟨w.heap.size + 1, 0, none⟩))] 20))) := w3_below w
  have H58 : Hid (Calls Tryz.prog 58 #[.string ⟨#[115, 112, 108, 105, 116]⟩, ar, .slice none 0 0, .int .i64 0, .slice (some ⟨w.heap.size + 2, 0, none⟩) 2 2] (((w.alloc (.cells #[.nilIface] 52)).alloc (.cells #[.int .i64 (-1)] 3)).alloc (.cells #[.iface 116 (.pointer (some ⟨w.heap.size, 0, none⟩)), .iface 117 (.pointer (some ⟨w.heap.size + 1, 0, none⟩))] 20)) (Puts2Nil w.heap.size (w.heap.size + 1) w.heap.size (.iface 65 (.int .u8 0)) (.int .i64 (m0 : Int)) (((w.alloc (.cells #[.nilIface] 52)).alloc (.cells #[.int .i64 (-1)] 3)).alloc (.cells #[.iface 116 (.pointer (some ⟨w.heap.size, 0, none⟩)), .iface 117 (.pointer (some ⟨w.heap.size + 1, 0, none⟩))] 20)))) := splitArgs_w3 hun ⟨#[115, 112, 108, 105, 116]⟩
  have HB0 := Lib.hid hb
  have HB1 := Lib.hid (hb.below HW3.out)
  have HA := Lib.hid ha
  have HT := Lib.hid hT
  clear hb hun ha hT
  go_enter Tryz.func43, Tryz.ntmps43
  go_wp2_with fail
  go_at_call 60
  refine (f60_any s b _ HB0.out.2).mono ?_
  rintro e w1 ⟨rfl, rfl⟩
  go_wp2_with fail
  go_at_call 59
  refine (f59_any ⟨#[115, 112, 108, 105, 116]⟩ b _ ?_).mono ?_
  · exact (HB0.out.below (((Below.refl _ _).alloc (Nat.le_refl _) _).alloc (by simp) _)).1
  rintro e w1 ⟨rfl, rfl⟩
  go_wp2_with fail
  go_at_call 58
  refine H58.out.mono ?_
  rintro e w2 ⟨rfl, hb2, hc0, hc1⟩
  have HB2 := Lib.hid (HW3.out.trans hb2)
  have HBX := Lib.hid (HB0.out.below HB2.out)
  have HT2 := Lib.hid (tabs_below HT.out HB2.out)
  clear hb2
  go_wp2_with fail
  go_at_call 59
  refine (f59_any ⟨#[115, 112, 108, 105, 116]⟩ b _ HBX.out.1).mono ?_
  rintro e w1 ⟨rfl, rfl⟩
  go_wp2_with fail
  go_at_call 71
  refine (f71_any s HA.out hs m0 (by omega) _).mono ?_
  rintro e w4 ⟨v, rfl, hv, hb4⟩
  have HV := Lib.hid (Joins.ownsRow_le hv HB2.out.size)
  have HB4 := Lib.hid (HB2.out.trans (hb4.mono HB2.out.size))
  clear hv hb4
  have hll := wd_len blankB m0 s.data.toList
  generalize wd blankB m0 s.data.toList = l at *
  obtain ⟨A, c, rfl⟩ := own_len HV.out
  have hmk := fun w : World => run_make (P := Tryz.prog) w 57 52 i0 .nilIface Tryz.underlying57 hi hz0 .i64 .i64 (l.length : Int) (l.length : Int) (by omega) (by omega) (by rw [hz2]; omega) (by omega)
  simp only [hz1, Int.toNat_natCast, Nat.mul_one] at hmk
  have HM0 : Hid ((w4.alloc (.cells (madeCells #[.nilIface] l.length) 52)).ownsRow w.heap.size 52 1 (.slice (some ⟨w4.heap.size, 0, none⟩) l.length l.length) l.length (fill l 0)) := by
    show World.ownsRow _ _ _ _ _ _ _
    have := World.ownsRow_lit (e := 52) (size := 1) w4 (madeCells #[.nilIface] l.length) l.length HB4.out.size (by unfold maxLen; omega) (by simp [size_madeCells])
    rw [toList_madeCells_one] at this
    rw [fill_zero]
    exact this
  have HVM : Hid ((w4.alloc (.cells (madeCells #[.nilIface] l.length) 52)).ownsRow w.heap.size 9 1 (.slice A l.length c) l.length (strs l)) := HV.out.alloc _
  have HVB : Hid (∀ g, (Value.slice A l.length c).ownBlock = some g → g < w4.heap.size) := fun g hg => (World.ownsRow.lt HV.out g hg).2
  have HBM : Hid (Below w.heap.size w (w4.alloc (.cells (madeCells #[.nilIface] l.length) 52))) := HB4.out.alloc HB4.out.size _
  have HZ : Hid (w.heap.size ≤ w4.heap.size) := HB4.out.size
  go_wp2
  clear hmk
  go_loopw [105] (fun i wr => ∃ k : Nat, i = .int .i64 k ∧ k ≤ l.length ∧ Hid (wr.ownsRow w.heap.size 9 1 (.slice A l.length c) l.length (strs l)) ∧ Hid (wr.ownsRow w.heap.size 52 1 (.slice (some ⟨w4.heap.size, 0, none⟩) l.length l.length) l.length (fill l k)) ∧ Hid (Below w.heap.size w wr)) (fun i _ => l.length - (RowKit.intOf i).toNat)
  case atStart => exact ⟨0, rfl, Nat.zero_le _, HVM.out, HM0.out, HBM.out⟩
  case round =>
    obtain ⟨k, rfl, hk, HR1, HR2, HB5⟩ := hrel
    by_cases hlt : k < l.length
    · obtain ⟨g, rfl⟩ := own_form HR1.out (by omega)
      have c1 : wr.cell? ⟨g, k, none⟩ = some (.string (txt l[k])) := (HR1.out.cellAt k (by omega)).trans (by simp [strs, hlt])
      have c2 : wr.cell? ⟨w4.heap.size, k, none⟩ = (fill l k)[k]? := HR2.out.cellAt k (by omega)
      have c2' : (fill l k)[k]? = some .nilIface := by
        unfold fill
        rw [List.getElem?_append_right (by rw [ifs_len, List.length_take]; omega), ifs_len, List.length_take, Nat.min_eq_left (by omega), Nat.sub_self]
        rw [List.getElem?_replicate, if_pos (by omega)]
      rw [c2'] at c2
      have f2 : wr.frozen? ⟨w4.heap.size, k, none⟩ = false := HR2.out.frozenAt k
      have HS2 := Lib.hid (HR2.out.stored k (.iface 72 (.string (txt l[k])))).1
      rw [fill_set l k hlt _ (List.getElem?_eq_getElem hlt)] at HS2
      have HS1 := Lib.hid (own_far HR1.out HVB.out (p := ⟨w4.heap.size, k, none⟩) (Nat.le_refl _) (.iface 72 (.string (txt l[k]))))
      have HS3 : Hid (Below w.heap.size w (wr.setCell ⟨w4.heap.size, k, none⟩ (.iface 72 (.string (txt l[k]))))) := HB5.out.setCell (p := ⟨w4.heap.size, k, none⟩) HZ.out _
      generalize l[k] = x at *
      clear c2'
      go_wp2
      go_roundw
      case rel => exact ⟨k + 1, by go_num, by omega, HS1.out, HS2.out, HS3.out⟩
      case measure => simp [RowKit.intOf]; omega
    · obtain rfl : k = l.length := by omega
      go_wp2_with fail
      go_at_call 78
      refine (f78_any _ _ _ _).mono ?_
      rintro e w6 ⟨rfl, rfl⟩
      go_wp2
      go_ret2
      refine ⟨wr.heap.size, .slice (some ⟨w4.heap.size, 0, none⟩) l.length l.length, rfl, by simp, ?_, HB5.out.alloc HB5.out.size _⟩
      have := (HR2.out.alloc (.cells #[.slice (some ⟨w4.heap.size, 0, none⟩) l.length l.length, .bool false, .int .u32 0] 115))
      rw [fill_all] at this
      exact this
set_option maxRecDepth 100000 in
set_option maxHeartbeats 4000000 in
theorem f43_rspace (s : ByteArray) (ha : Asc s.data.toList) (hs : s.size ≤ 100000) (b : Nat) (ar : Value) (z : Int) (m0 : Nat) (hm0 : m0 ≤ 1000) (hzm : z = (m0 : Int)) (w : World) (hT : Lib.Utf8Tabs 1 2 w) (hb : BoxAt b ⟨#[114, 115, 112, 108, 105, 116]⟩ s w) (hun : SplitArgs ar 65 (.int .u8 0) z w) :
    Calls Tryz.prog 43 #[.pointer none, .pointer (some ⟨b, 0, none⟩), ar, .slice none 0 0] w (SplitIs (wdB blankB m0 s.data.toList) w) := by
  subst hzm
  obtain ⟨i0, hi, hz0, hz1, hz2⟩ := info_parts infoVal
  have a72 : ∀ w, (Instr.typeAssert (.iface 72 (.string s)) 52 72 false).run Tryz.prog w = .ok (.string s) w := fun _ => by kernel_rfl
  have eq1 : ∀ w, (binOp .eql 52 (.iface 65 (.int .u8 0)) (.iface 65 (.int .u8 0))).run Tryz.prog w = .ok (.bool true) w := fun _ => by kernel_rfl
  have HW3 : Hid (Below w.heap.size w (((w.alloc (.cells #[.nilIface] 52)).alloc (.cells #[.int .i64 (-1)] 3)).alloc (.cells #[.iface 116 (.pointer (some ⟨w.heap.size, 0, none⟩)), .iface 117 (.pointer (some ⟨w.heap.size + 1, 0, none⟩))] 20))) := w3_below w
  have H58 : Hid (Calls Tryz.prog 58 #[.string ⟨#[114, 115, 112, 108, 105, 116]⟩, ar, .slice none 0 0, .int .i64 0, .slice (some ⟨w.heap.size + 2, 0, none⟩) 2 2] (((w.alloc (.cells #[.nilIface] 52)).alloc (.cells #[.int .i64 (-1)] 3)).alloc (.cells #[.iface 116 (.pointer (some ⟨w.heap.size, 0, none⟩)), .iface 117 (.pointer (some ⟨w.heap.size + 1, 0, none⟩))] 20)) (Puts2Nil w.heap.size (w.heap.size + 1) w.heap.size (.iface 65 (.int .u8 0)) (.int .i64 (m0 : Int)) (((w.alloc (.cells #[.nilIface] 52)).alloc (.cells #[.int .i64 (-1)] 3)).alloc (.cells #[.iface 116 (.pointer (some ⟨w.heap.size, 0, none⟩)), .iface 117 (.pointer (some ⟨w.heap.size + 1, 0, none⟩))] 20)))) := splitArgs_w3 hun ⟨#[114, 115, 112, 108, 105, 116]⟩
  have HB0 := Lib.hid hb
  have HB1 := Lib.hid (hb.below HW3.out)
  have HA := Lib.hid ha
  have HT := Lib.hid hT
  clear hb hun ha hT
  go_enter Tryz.func43, Tryz.ntmps43
  go_wp2_with fail
  go_at_call 60
  refine (f60_any s b _ HB0.out.2).mono ?_
  rintro e w1 ⟨rfl, rfl⟩
  go_wp2_with fail
  go_at_call 59
  refine (f59_any ⟨#[114, 115, 112, 108, 105, 116]⟩ b _ ?_).mono ?_
  · exact (HB0.out.below (((Below.refl _ _).alloc (Nat.le_refl _) _).alloc (by simp) _)).1
  rintro e w1 ⟨rfl, rfl⟩
  go_wp2_with fail
  go_at_call 58
  refine H58.out.mono ?_
  rintro e w2 ⟨rfl, hb2, hc0, hc1⟩
  have HB2 := Lib.hid (HW3.out.trans hb2)
  have HBX := Lib.hid (HB0.out.below HB2.out)
  have HT2 := Lib.hid (tabs_below HT.out HB2.out)
  clear hb2
  go_wp2_with fail
  go_at_call 59
  refine (f59_any ⟨#[114, 115, 112, 108, 105, 116]⟩ b _ HBX.out.1).mono ?_
  rintro e w1 ⟨rfl, rfl⟩
  go_wp2_with fail
  go_at_call 72
  refine (f72_any s HA.out hs m0 (by omega) _ HT2.out).mono ?_
  rintro e w4 ⟨v, rfl, hv, hb4⟩
  have HV := Lib.hid (Joins.ownsRow_le hv HB2.out.size)
  have HB4 := Lib.hid (HB2.out.trans (hb4.mono HB2.out.size))
  clear hv hb4
  have hll := wdB_len blankB m0 s.data.toList
  generalize wdB blankB m0 s.data.toList = l at *
  obtain ⟨A, c, rfl⟩ := own_len HV.out
  have hmk := fun w : World => run_make (P := Tryz.prog) w 57 52 i0 .nilIface Tryz.underlying57 hi hz0 .i64 .i64 (l.length : Int) (l.length : Int) (by omega) (by omega) (by rw [hz2]; omega) (by omega)
  simp only [hz1, Int.toNat_natCast, Nat.mul_one] at hmk
  have HM0 : Hid ((w4.alloc (.cells (madeCells #[.nilIface] l.length) 52)).ownsRow w.heap.size 52 1 (.slice (some ⟨w4.heap.size, 0, none⟩) l.length l.length) l.length (fill l 0)) := by
    show World.ownsRow _ _ _ _ _ _ _
    have := World.ownsRow_lit (e := 52) (size := 1) w4 (madeCells #[.nilIface] l.length) l.length HB4.out.size (by unfold maxLen; omega) (by simp [size_madeCells])
    rw [toList_madeCells_one] at this
    rw [fill_zero]
    exact this
  have HVM : Hid ((w4.alloc (.cells (madeCells #[.nilIface] l.length) 52)).ownsRow w.heap.size 9 1 (.slice A l.length c) l.length (strs l)) := HV.out.alloc _
  have HVB : Hid (∀ g, (Value.slice A l.length c).ownBlock = some g → g < w4.heap.size) := fun g hg => (World.ownsRow.lt HV.out g hg).2
  have HBM : Hid (Below w.heap.size w (w4.alloc (.cells (madeCells #[.nilIface] l.length) 52))) := HB4.out.alloc HB4.out.size _
  have HZ : Hid (w.heap.size ≤ w4.heap.size) := HB4.out.size
  go_wp2
  clear hmk
  go_loopw [105] (fun i wr => ∃ k : Nat, i = .int .i64 k ∧ k ≤ l.length ∧ Hid (wr.ownsRow w.heap.size 9 1 (.slice A l.length c) l.length (strs l)) ∧ Hid (wr.ownsRow w.heap.size 52 1 (.slice (some ⟨w4.heap.size, 0, none⟩) l.length l.length) l.length (fill l k)) ∧ Hid (Below w.heap.size w wr)) (fun i _ => l.length - (RowKit.intOf i).toNat)
  case atStart => exact ⟨0, rfl, Nat.zero_le _, HVM.out, HM0.out, HBM.out⟩
  case round =>
    obtain ⟨k, rfl, hk, HR1, HR2, HB5⟩ := hrel
    by_cases hlt : k < l.length
    · obtain ⟨g, rfl⟩ := own_form HR1.out (by omega)
      have c1 : wr.cell? ⟨g, k, none⟩ = some (.string (txt l[k])) := (HR1.out.cellAt k (by omega)).trans (by simp [strs, hlt])
      have c2 : wr.cell? ⟨w4.heap.size, k, none⟩ = (fill l k)[k]? := HR2.out.cellAt k (by omega)
      have c2' : (fill l k)[k]? = some .nilIface := by
        unfold fill
        rw [List.getElem?_append_right (by rw [ifs_len, List.length_take]; omega), ifs_len, List.length_take, Nat.min_eq_left (by omega), Nat.sub_self]
        rw [List.getElem?_replicate, if_pos (by omega)]
      rw [c2'] at c2
      have f2 : wr.frozen? ⟨w4.heap.size, k, none⟩ = false := HR2.out.frozenAt k
      have HS2 := Lib.hid (HR2.out.stored k (.iface 72 (.string (txt l[k])))).1
      rw [fill_set l k hlt _ (List.getElem?_eq_getElem hlt)] at HS2
      have HS1 := Lib.hid (own_far HR1.out HVB.out (p := ⟨w4.heap.size, k, none⟩) (Nat.le_refl _) (.iface 72 (.string (txt l[k]))))
      have HS3 : Hid (Below w.heap.size w (wr.setCell ⟨w4.heap.size, k, none⟩ (.iface 72 (.string (txt l[k]))))) := HB5.out.setCell (p := ⟨w4.heap.size, k, none⟩) HZ.out _
      generalize l[k] = x at *
      clear c2'
      go_wp2
      go_roundw
      case rel => exact ⟨k + 1, by go_num, by omega, HS1.out, HS2.out, HS3.out⟩
      case measure => simp [RowKit.intOf]; omega
    · obtain rfl : k = l.length := by omega
      go_wp2_with fail
      go_at_call 78
      refine (f78_any _ _ _ _).mono ?_
      rintro e w6 ⟨rfl, rfl⟩
      go_wp2
      go_ret2
      refine ⟨wr.heap.size, .slice (some ⟨w4.heap.size, 0, none⟩) l.length l.length, rfl, by simp, ?_, HB5.out.alloc HB5.out.size _⟩
      have := (HR2.out.alloc (.cells #[.slice (some ⟨w4.heap.size, 0, none⟩) l.length l.length, .bool false, .int .u32 0] 115))
      rw [fill_all] at this
      exact this
set_option maxRecDepth 100000 in
set_option maxHeartbeats 4000000 in
theorem f43_sep (nm s : ByteArray) (ha : Asc s.data.toList) (hs : s.size ≤ 100000) (b : Nat) (ar : Value) (z : Int) (hz : z < 0) (p : ByteArray) (hp : p.size ≤ 100000) (hp0 : 0 < p.size) (w : World) (hT : Lib.Utf8Tabs 1 2 w) (hb : BoxAt b nm s w) (hun : SplitArgs ar 72 (.string p) z w) :
    Calls Tryz.prog 43 #[.pointer none, .pointer (some ⟨b, 0, none⟩), ar, .slice none 0 0] w (SplitIs (pc p.data.toList s.size s.data.toList) w) := by
  have hpe := full_iff p hp0
  obtain ⟨i0, hi, hz0, hz1, hz2⟩ := info_parts infoVal
  have a72 : ∀ w, (Instr.typeAssert (.iface 72 (.string s)) 52 72 false).run Tryz.prog w = .ok (.string s) w := fun _ => by kernel_rfl
  have eq1 : ∀ w, (binOp .eql 52 (.iface 72 (.string p)) (.iface 65 (.int .u8 0))).run Tryz.prog w = .ok (.bool false) w := fun _ => by kernel_rfl
  have HW3 : Hid (Below w.heap.size w (((w.alloc (.cells #[.nilIface] 52)).alloc (.cells #[.int .i64 (-1)] 3)).alloc (.cells #[.iface 116 (.pointer (some ⟨w.heap.size, 0, none⟩)), .iface 117 (.pointer (some ⟨w.heap.size + 1, 0, none⟩))] 20))) := w3_below w
  have H58 : Hid (Calls Tryz.prog 58 #[.string nm, ar, .slice none 0 0, .int .i64 0, .slice (some ⟨w.heap.size + 2, 0, none⟩) 2 2] (((w.alloc (.cells #[.nilIface] 52)).alloc (.cells #[.int .i64 (-1)] 3)).alloc (.cells #[.iface 116 (.pointer (some ⟨w.heap.size, 0, none⟩)), .iface 117 (.pointer (some ⟨w.heap.size + 1, 0, none⟩))] 20)) (Puts2Nil w.heap.size (w.heap.size + 1) w.heap.size (.iface 72 (.string p)) (.int .i64 z) (((w.alloc (.cells #[.nilIface] 52)).alloc (.cells #[.int .i64 (-1)] 3)).alloc (.cells #[.iface 116 (.pointer (some ⟨w.heap.size, 0, none⟩)), .iface 117 (.pointer (some ⟨w.heap.size + 1, 0, none⟩))] 20)))) := splitArgs_w3 hun nm
  have HB0 := Lib.hid hb
  have HB1 := Lib.hid (hb.below HW3.out)
  have HA := Lib.hid ha
  have HT := Lib.hid hT
  clear hb hun ha hT
  go_enter Tryz.func43, Tryz.ntmps43
  go_wp2_with fail
  go_at_call 60
  refine (f60_any s b _ HB0.out.2).mono ?_
  rintro e w1 ⟨rfl, rfl⟩
  go_wp2_with fail
  go_at_call 59
  refine (f59_any nm b _ ?_).mono ?_
  · exact (HB0.out.below (((Below.refl _ _).alloc (Nat.le_refl _) _).alloc (by simp) _)).1
  rintro e w1 ⟨rfl, rfl⟩
  go_wp2_with fail
  go_at_call 58
  refine H58.out.mono ?_
  rintro e w2 ⟨rfl, hb2, hc0, hc1⟩
  have HB2 := Lib.hid (HW3.out.trans hb2)
  have HBX := Lib.hid (HB0.out.below HB2.out)
  have HT2 := Lib.hid (tabs_below HT.out HB2.out)
  clear hb2
  go_wp2_with fail
  go_at_call 73
  refine (f73_str p _).mono ?_
  rintro e w1 ⟨rfl, rfl⟩
  go_wp2_with fail
  go_at_call 75
  refine (f75_any s p hs hp hp0 _).mono ?_
  rintro e w4 ⟨v, rfl, hv, hb4⟩
  have HV := Lib.hid (Joins.ownsRow_le hv HB2.out.size)
  have HB4 := Lib.hid (HB2.out.trans (hb4.mono HB2.out.size))
  clear hv hb4
  have hll := pc_len p.data.toList s.size s.data.toList
  generalize pc p.data.toList s.size s.data.toList = l at *
  obtain ⟨A, c, rfl⟩ := own_len HV.out
  have hmk := fun w : World => run_make (P := Tryz.prog) w 57 52 i0 .nilIface Tryz.underlying57 hi hz0 .i64 .i64 (l.length : Int) (l.length : Int) (by omega) (by omega) (by rw [hz2]; omega) (by omega)
  simp only [hz1, Int.toNat_natCast, Nat.mul_one] at hmk
  have HM0 : Hid ((w4.alloc (.cells (madeCells #[.nilIface] l.length) 52)).ownsRow w.heap.size 52 1 (.slice (some ⟨w4.heap.size, 0, none⟩) l.length l.length) l.length (fill l 0)) := by
    show World.ownsRow _ _ _ _ _ _ _
    have := World.ownsRow_lit (e := 52) (size := 1) w4 (madeCells #[.nilIface] l.length) l.length HB4.out.size (by unfold maxLen; omega) (by simp [size_madeCells])
    rw [toList_madeCells_one] at this
    rw [fill_zero]
    exact this
  have HVM : Hid ((w4.alloc (.cells (madeCells #[.nilIface] l.length) 52)).ownsRow w.heap.size 9 1 (.slice A l.length c) l.length (strs l)) := HV.out.alloc _
  have HVB : Hid (∀ g, (Value.slice A l.length c).ownBlock = some g → g < w4.heap.size) := fun g hg => (World.ownsRow.lt HV.out g hg).2
  have HBM : Hid (Below w.heap.size w (w4.alloc (.cells (madeCells #[.nilIface] l.length) 52))) := HB4.out.alloc HB4.out.size _
  have HZ : Hid (w.heap.size ≤ w4.heap.size) := HB4.out.size
  go_wp2
  clear hmk
  go_loopw [105] (fun i wr => ∃ k : Nat, i = .int .i64 k ∧ k ≤ l.length ∧ Hid (wr.ownsRow w.heap.size 9 1 (.slice A l.length c) l.length (strs l)) ∧ Hid (wr.ownsRow w.heap.size 52 1 (.slice (some ⟨w4.heap.size, 0, none⟩) l.length l.length) l.length (fill l k)) ∧ Hid (Below w.heap.size w wr)) (fun i _ => l.length - (RowKit.intOf i).toNat)
  case atStart => exact ⟨0, rfl, Nat.zero_le _, HVM.out, HM0.out, HBM.out⟩
  case round =>
    obtain ⟨k, rfl, hk, HR1, HR2, HB5⟩ := hrel
    by_cases hlt : k < l.length
    · obtain ⟨g, rfl⟩ := own_form HR1.out (by omega)
      have c1 : wr.cell? ⟨g, k, none⟩ = some (.string (txt l[k])) := (HR1.out.cellAt k (by omega)).trans (by simp [strs, hlt])
      have c2 : wr.cell? ⟨w4.heap.size, k, none⟩ = (fill l k)[k]? := HR2.out.cellAt k (by omega)
      have c2' : (fill l k)[k]? = some .nilIface := by
        unfold fill
        rw [List.getElem?_append_right (by rw [ifs_len, List.length_take]; omega), ifs_len, List.length_take, Nat.min_eq_left (by omega), Nat.sub_self]
        rw [List.getElem?_replicate, if_pos (by omega)]
      rw [c2'] at c2
      have f2 : wr.frozen? ⟨w4.heap.size, k, none⟩ = false := HR2.out.frozenAt k
      have HS2 := Lib.hid (HR2.out.stored k (.iface 72 (.string (txt l[k])))).1
      rw [fill_set l k hlt _ (List.getElem?_eq_getElem hlt)] at HS2
      have HS1 := Lib.hid (own_far HR1.out HVB.out (p := ⟨w4.heap.size, k, none⟩) (Nat.le_refl _) (.iface 72 (.string (txt l[k]))))
      have HS3 : Hid (Below w.heap.size w (wr.setCell ⟨w4.heap.size, k, none⟩ (.iface 72 (.string (txt l[k]))))) := HB5.out.setCell (p := ⟨w4.heap.size, k, none⟩) HZ.out _
      generalize l[k] = x at *
      clear c2'
      go_wp2
      go_roundw
      case rel => exact ⟨k + 1, by go_num, by omega, HS1.out, HS2.out, HS3.out⟩
      case measure => simp [RowKit.intOf]; omega
    · obtain rfl : k = l.length := by omega
      go_wp2_with fail
      go_at_call 78
      refine (f78_any _ _ _ _).mono ?_
      rintro e w6 ⟨rfl, rfl⟩
      go_wp2
      go_ret2
      refine ⟨wr.heap.size, .slice (some ⟨w4.heap.size, 0, none⟩) l.length l.length, rfl, by simp, ?_, HB5.out.alloc HB5.out.size _⟩
      have := (HR2.out.alloc (.cells #[.slice (some ⟨w4.heap.size, 0, none⟩) l.length l.length, .bool false, .int .u32 0] 115))
      rw [fill_all] at this
      exact this
set_option maxRecDepth 100000 in
set_option maxHeartbeats 4000000 in
theorem f43_sepN (s : ByteArray) (ha : Asc s.data.toList) (hs : s.size ≤ 100000) (b : Nat) (ar : Value) (z : Int) (m0 : Nat) (hm0 : m0 ≤ 1000) (hzm : z = (m0 : Int)) (p : ByteArray) (hp : p.size ≤ 100000) (hp0 : 0 < p.size) (w : World) (hT : Lib.Utf8Tabs 1 2 w) (hb : BoxAt b ⟨#[115, 112, 108, 105, 116]⟩ s w) (hun : SplitArgs ar 72 (.string p) z w) :
    Calls Tryz.prog 43 #[.pointer none, .pointer (some ⟨b, 0, none⟩), ar, .slice none 0 0] w (SplitIs (pc p.data.toList m0 s.data.toList) w) := by
  subst hzm
  have hpe := full_iff p hp0
  obtain ⟨i0, hi, hz0, hz1, hz2⟩ := info_parts infoVal
  have a72 : ∀ w, (Instr.typeAssert (.iface 72 (.string s)) 52 72 false).run Tryz.prog w = .ok (.string s) w := fun _ => by kernel_rfl
  have eq1 : ∀ w, (binOp .eql 52 (.iface 72 (.string p)) (.iface 65 (.int .u8 0))).run Tryz.prog w = .ok (.bool false) w := fun _ => by kernel_rfl
  have HW3 : Hid (Below w.heap.size w (((w.alloc (.cells #[.nilIface] 52)).alloc (.cells #[.int .i64 (-1)] 3)).alloc (.cells #[.iface 116 (.pointer (some ⟨w.heap.size, 0, none⟩)), .iface 117 (.pointer (some ⟨w.heap.size + 1, 0, none⟩))] 20))) := w3_below w
  have H58 : Hid (Calls Tryz.prog 58 #[.string ⟨#[115, 112, 108, 105, 116]⟩, ar, .slice none 0 0, .int .i64 0, .slice (some ⟨w.heap.size + 2, 0, none⟩) 2 2] (((w.alloc (.cells #[.nilIface] 52)).alloc (.cells #[.int .i64 (-1)] 3)).alloc (.cells #[.iface 116 (.pointer (some ⟨w.heap.size, 0, none⟩)), .iface 117 (.pointer (some ⟨w.heap.size + 1, 0, none⟩))] 20)) (Puts2Nil w.heap.size (w.heap.size + 1) w.heap.size (.iface 72 (.string p)) (.int .i64 (m0 : Int)) (((w.alloc (.cells #[.nilIface] 52)).alloc (.cells #[.int .i64 (-1)] 3)).alloc (.cells #[.iface 116 (.pointer (some ⟨w.heap.size, 0, none⟩)), .iface 117 (.pointer (some ⟨w.heap.size + 1, 0, none⟩))] 20)))) := splitArgs_w3 hun ⟨#[115, 112, 108, 105, 116]⟩
  have HB0 := Lib.hid hb
  have HB1 := Lib.hid (hb.below HW3.out)
  have HA := Lib.hid ha
  have HT := Lib.hid hT
  clear hb hun ha hT
  go_enter Tryz.func43, Tryz.ntmps43
  go_wp2_with fail
  go_at_call 60
  refine (f60_any s b _ HB0.out.2).mono ?_
  rintro e w1 ⟨rfl, rfl⟩
  go_wp2_with fail
  go_at_call 59
  refine (f59_any ⟨#[115, 112, 108, 105, 116]⟩ b _ ?_).mono ?_
  · exact (HB0.out.below (((Below.refl _ _).alloc (Nat.le_refl _) _).alloc (by simp) _)).1
  rintro e w1 ⟨rfl, rfl⟩
  go_wp2_with fail
  go_at_call 58
  refine H58.out.mono ?_
  rintro e w2 ⟨rfl, hb2, hc0, hc1⟩
  have HB2 := Lib.hid (HW3.out.trans hb2)
  have HBX := Lib.hid (HB0.out.below HB2.out)
  have HT2 := Lib.hid (tabs_below HT.out HB2.out)
  clear hb2
  go_wp2_with fail
  go_at_call 73
  refine (f73_str p _).mono ?_
  rintro e w1 ⟨rfl, rfl⟩
  go_wp2_with fail
  go_at_call 59
  refine (f59_any ⟨#[115, 112, 108, 105, 116]⟩ b _ HBX.out.1).mono ?_
  rintro e w1 ⟨rfl, rfl⟩
  go_wp2_with fail
  go_at_call 76
  refine (f76_any s p hs hp hp0 m0 (by omega) _).mono ?_
  rintro e w4 ⟨v, rfl, hv, hb4⟩
  have HV := Lib.hid (Joins.ownsRow_le hv HB2.out.size)
  have HB4 := Lib.hid (HB2.out.trans (hb4.mono HB2.out.size))
  clear hv hb4
  have hll := pc_len p.data.toList m0 s.data.toList
  generalize pc p.data.toList m0 s.data.toList = l at *
  obtain ⟨A, c, rfl⟩ := own_len HV.out
  have hmk := fun w : World => run_make (P := Tryz.prog) w 57 52 i0 .nilIface Tryz.underlying57 hi hz0 .i64 .i64 (l.length : Int) (l.length : Int) (by omega) (by omega) (by rw [hz2]; omega) (by omega)
  simp only [hz1, Int.toNat_natCast, Nat.mul_one] at hmk
  have HM0 : Hid ((w4.alloc (.cells (madeCells #[.nilIface] l.length) 52)).ownsRow w.heap.size 52 1 (.slice (some ⟨w4.heap.size, 0, none⟩) l.length l.length) l.length (fill l 0)) := by
    show World.ownsRow _ _ _ _ _ _ _
    have := World.ownsRow_lit (e := 52) (size := 1) w4 (madeCells #[.nilIface] l.length) l.length HB4.out.size (by unfold maxLen; omega) (by simp [size_madeCells])
    rw [toList_madeCells_one] at this
    rw [fill_zero]
    exact this
  have HVM : Hid ((w4.alloc (.cells (madeCells #[.nilIface] l.length) 52)).ownsRow w.heap.size 9 1 (.slice A l.length c) l.length (strs l)) := HV.out.alloc _
  have HVB : Hid (∀ g, (Value.slice A l.length c).ownBlock = some g → g < w4.heap.size) := fun g hg => (World.ownsRow.lt HV.out g hg).2
  have HBM : Hid (Below w.heap.size w (w4.alloc (.cells (madeCells #[.nilIface] l.length) 52))) := HB4.out.alloc HB4.out.size _
  have HZ : Hid (w.heap.size ≤ w4.heap.size) := HB4.out.size
  go_wp2
  clear hmk
  go_loopw [105] (fun i wr => ∃ k : Nat, i = .int .i64 k ∧ k ≤ l.length ∧ Hid (wr.ownsRow w.heap.size 9 1 (.slice A l.length c) l.length (strs l)) ∧ Hid (wr.ownsRow w.heap.size 52 1 (.slice (some ⟨w4.heap.size, 0, none⟩) l.length l.length) l.length (fill l k)) ∧ Hid (Below w.heap.size w wr)) (fun i _ => l.length - (RowKit.intOf i).toNat)
  case atStart => exact ⟨0, rfl, Nat.zero_le _, HVM.out, HM0.out, HBM.out⟩
  case round =>
    obtain ⟨k, rfl, hk, HR1, HR2, HB5⟩ := hrel
    by_cases hlt : k < l.length
    · obtain ⟨g, rfl⟩ := own_form HR1.out (by omega)
      have c1 : wr.cell? ⟨g, k, none⟩ = some (.string (txt l[k])) := (HR1.out.cellAt k (by omega)).trans (by simp [strs, hlt])
      have c2 : wr.cell? ⟨w4.heap.size, k, none⟩ = (fill l k)[k]? := HR2.out.cellAt k (by omega)
      have c2' : (fill l k)[k]? = some .nilIface := by
        unfold fill
        rw [List.getElem?_append_right (by rw [ifs_len, List.length_take]; omega), ifs_len, List.length_take, Nat.min_eq_left (by omega), Nat.sub_self]
        rw [List.getElem?_replicate, if_pos (by omega)]
      rw [c2'] at c2
      have f2 : wr.frozen? ⟨w4.heap.size, k, none⟩ = false := HR2.out.frozenAt k
      have HS2 := Lib.hid (HR2.out.stored k (.iface 72 (.string (txt l[k])))).1
      rw [fill_set l k hlt _ (List.getElem?_eq_getElem hlt)] at HS2
      have HS1 := Lib.hid (own_far HR1.out HVB.out (p := ⟨w4.heap.size, k, none⟩) (Nat.le_refl _) (.iface 72 (.string (txt l[k]))))
      have HS3 : Hid (Below w.heap.size w (wr.setCell ⟨w4.heap.size, k, none⟩ (.iface 72 (.string (txt l[k]))))) := HB5.out.setCell (p := ⟨w4.heap.size, k, none⟩) HZ.out _
      generalize l[k] = x at *
      clear c2'
      go_wp2
      go_roundw
      case rel => exact ⟨k + 1, by go_num, by omega, HS1.out, HS2.out, HS3.out⟩
      case measure => simp [RowKit.intOf]; omega
    · obtain rfl : k = l.length := by omega
      go_wp2_with fail
      go_at_call 78
      refine (f78_any _ _ _ _).mono ?_
      rintro e w6 ⟨rfl, rfl⟩
      go_wp2
      go_ret2
      refine ⟨wr.heap.size, .slice (some ⟨w4.heap.size, 0, none⟩) l.length l.length, rfl, by simp, ?_, HB5.out.alloc HB5.out.size _⟩
      have := (HR2.out.alloc (.cells #[.slice (some ⟨w4.heap.size, 0, none⟩) l.length l.length, .bool false, .int .u32 0] 115))
      rw [fill_all] at this
      exact this
set_option maxRecDepth 100000 in
set_option maxHeartbeats 4000000 in
theorem f43_void (nm s : ByteArray) (ha : Asc s.data.toList) (_hs : s.size ≤ 100000) (b : Nat) (ar : Value) (z : Int) (p : ByteArray) (hp0 : p.size = 0) (w : World) (hT : Lib.Utf8Tabs 1 2 w) (hb : BoxAt b nm s w) (hun : SplitArgs ar 72 (.string p) z w) :
    Calls Tryz.prog 43 #[.pointer none, .pointer (some ⟨b, 0, none⟩), ar, .slice none 0 0] w (SplitNo w) := by
  have hpe : p.toList.isEmpty = true := by rw [empty_iff]; exact decide_eq_true hp0
  obtain ⟨i0, hi, hz0, hz1, hz2⟩ := info_parts infoVal
  have a72 : ∀ w, (Instr.typeAssert (.iface 72 (.string s)) 52 72 false).run Tryz.prog w = .ok (.string s) w := fun _ => by kernel_rfl
  have eq1 : ∀ w, (binOp .eql 52 (.iface 72 (.string p)) (.iface 65 (.int .u8 0))).run Tryz.prog w = .ok (.bool false) w := fun _ => by kernel_rfl
  have HW3 : Hid (Below w.heap.size w (((w.alloc (.cells #[.nilIface] 52)).alloc (.cells #[.int .i64 (-1)] 3)).alloc (.cells #[.iface 116 (.pointer (some ⟨w.heap.size, 0, none⟩)), .iface 117 (.pointer (some ⟨w.heap.size + 1, 0, none⟩))] 20))) := w3_below w
  have H58 : Hid (Calls Tryz.prog 58 #[.string nm, ar, .slice none 0 0, .int .i64 0, .slice (some ⟨w.heap.size + 2, 0, none⟩) 2 2] (((w.alloc (.cells #[.nilIface] 52)).alloc (.cells #[.int .i64 (-1)] 3)).alloc (.cells #[.iface 116 (.pointer (some ⟨w.heap.size, 0, none⟩)), .iface 117 (.pointer (some ⟨w.heap.size + 1, 0, none⟩))] 20)) (Puts2Nil w.heap.size (w.heap.size + 1) w.heap.size (.iface 72 (.string p)) (.int .i64 z) (((w.alloc (.cells #[.nilIface] 52)).alloc (.cells #[.int .i64 (-1)] 3)).alloc (.cells #[.iface 116 (.pointer (some ⟨w.heap.size, 0, none⟩)), .iface 117 (.pointer (some ⟨w.heap.size + 1, 0, none⟩))] 20)))) := splitArgs_w3 hun nm
  have HB0 := Lib.hid hb
  have HB1 := Lib.hid (hb.below HW3.out)
  have HA := Lib.hid ha
  have HT := Lib.hid hT
  clear hb hun ha hT
  go_enter Tryz.func43, Tryz.ntmps43
  go_wp2_with fail
  go_at_call 60
  refine (f60_any s b _ HB0.out.2).mono ?_
  rintro e w1 ⟨rfl, rfl⟩
  go_wp2_with fail
  go_at_call 59
  refine (f59_any nm b _ ?_).mono ?_
  · exact (HB0.out.below (((Below.refl _ _).alloc (Nat.le_refl _) _).alloc (by simp) _)).1
  rintro e w1 ⟨rfl, rfl⟩
  go_wp2_with fail
  go_at_call 58
  refine H58.out.mono ?_
  rintro e w2 ⟨rfl, hb2, hc0, hc1⟩
  have HB2 := Lib.hid (HW3.out.trans hb2)
  have HBX := Lib.hid (HB0.out.below HB2.out)
  have HT2 := Lib.hid (tabs_below HT.out HB2.out)
  clear hb2
  go_wp2_with fail
  go_at_call 73
  refine (f73_str p _).mono ?_
  rintro e w1 ⟨rfl, rfl⟩
  go_wp2_with fail
  go_at_call 74
  refine (f74_any _ _).mono ?_
  rintro e w4 ⟨t, x, rfl, hb4⟩
  have HB4 := Lib.hid (HB2.out.trans (hb4.mono HB2.out.size))
  clear hb4
  go_wp2
  go_ret2
  exact ⟨t, x, rfl, HB4.out⟩
end Go.Proofs.YtgcofpmhojplhaaGreatDoor
