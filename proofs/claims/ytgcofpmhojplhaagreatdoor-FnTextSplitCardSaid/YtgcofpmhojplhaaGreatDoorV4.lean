/- Walks of the reference's count, Over, blank, SplitOpen, WordsOpen. -/
import Derived.Test.YtgcofpmhojplhaaGreatDoorMZb
import Derived.Test.YtgcofpmhojplhaaGreatDoorUA
namespace Go.Proofs.YtgcofpmhojplhaaGreatDoor
open Go.RowKit
open Z (VInt SInt MakesS)

/-- A bound's cells, behind one value. -/
def VC6 (g : Nat) (w : World) (d : Bool) (sl : Value) : Prop := w.cell? ⟨g, 6, none⟩ = some (.int .i64 2) ∧ w.cell? ⟨g, 7, none⟩ = some (.bool d) ∧ w.cell? ⟨g, 8, none⟩ = some sl ∧ w.cell? ⟨g, 9, none⟩ = some (.int .u64 0) ∧ w.cell? ⟨g, 10, none⟩ = some (.string ⟨#[]⟩) ∧ w.cell? ⟨g, 11, none⟩ = some (.slice none 0 0)
def CountIs (z : Int) (w : World) (e : Ending) (w' : World) : Prop := e = .returned (.tuple #[.int .i64 z, .bool true]) ∧ Below w.heap.size w w'
set_option maxRecDepth 100000 in
theorem f49_none (A : Option Addr) (c : Nat) (w : World) : Calls Tryz.prog 49 #[.slice A 1 c, .int .i64 1] w (CountIs (-1) w) := by
  go_enter Tryz.func49, Tryz.ntmps49
  go_wp2
  go_ret2
  exact ⟨rfl, Below.refl _ _⟩
set_option maxRecDepth 100000 in
theorem f49_some (g c : Nat) (d : Bool) (a : Option Addr) (n cc : Nat) (z : Int) (h0 : -256 < z) (h1 : z < 256) (w : World) (hc : VC6 g w d (.slice a n cc)) (hv : VInt 0 1 w (VAgg d (.slice a n cc)) z) :
    Calls Tryz.prog 49 #[.slice (some ⟨g, 0, none⟩) 2 c, .int .i64 1] w (CountIs z w) := by
  obtain ⟨c0, c1, c2, c3, c4, c5⟩ := hc
  have H37 := Lib.hid (Z.f37_any 1 (by omega) _ z 0 w hv)
  have HZ : Hid (-256 < z ∧ z < 256) := ⟨h0, h1⟩
  unfold VAgg at H37
  clear hv h0 h1
  go_enter Tryz.func49, Tryz.ntmps49
  go_wp2_with fail
  go_at_call 37
  refine H37.out.mono ?_
  rintro e w1 ⟨v1, rfl, hs, hb⟩
  obtain ⟨d1, a1, n1, cc1, rfl⟩ := hs.shape
  have H79 := Lib.hid (Z.f79_small _ z HZ.out.1 HZ.out.2 _ _ hs)
  have HB1 := Lib.hid hb
  have k0 := cell_below c0 hb
  clear hb hs
  go_wp2_with fail
  go_at_call 79
  refine H79.out.mono ?_
  rintro e w2 ⟨rfl, hb⟩
  have HB2 := Lib.hid (HB1.out.trans (hb.mono HB1.out.size))
  have k0 := cell_below k0 hb
  clear hb
  go_wp2
  go_ret2
  exact ⟨rfl, HB2.out⟩
set_option maxRecDepth 100000 in
theorem f21_any (b : UInt8) (w : World) : Calls Tryz.prog 21 #[.int .u8 b.toNat] w fun e w' => e = .returned (.bool (blankB b)) ∧ w' = w := by
  obtain ⟨r, hr⟩ : ∃ r, r = blankB b := ⟨_, rfl⟩
  have h := hr
  unfold blankB blankN at h
  rw [← hr]
  clear hr
  generalize b.toNat = n at *
  by_cases h32 : n = 32
  · obtain rfl : r = true := by rw [h, h32]; rfl
    clear h
    subst h32
    go_enter Tryz.func21, Tryz.ntmps21
    go_wp2
    go_ret
    exact ⟨rfl, rfl⟩
  · have t0 : ((n : Int) == 32) = false := by rw [beq_eq_false_iff_ne]; omega
    by_cases h9 : 9 ≤ n
    · by_cases h13 : n ≤ 13
      · obtain rfl : r = true := by rw [h]; simp; omega
        clear h h32
        have t1 : (n : Int) ≤ 13 := by omega
        go_enter Tryz.func21, Tryz.ntmps21
        go_wp2
        go_ret
        exact ⟨rfl, rfl⟩
      · obtain rfl : r = false := by rw [h]; simp; omega
        clear h h32
        have t1 : ¬ (n : Int) ≤ 13 := by omega
        go_enter Tryz.func21, Tryz.ntmps21
        go_wp2
        go_ret
        exact ⟨rfl, rfl⟩
    · obtain rfl : r = false := by rw [h]; simp; omega
      clear h h32
      have t1 : ¬ (9 : Int) ≤ (n : Int) := by omega
      go_enter Tryz.func21, Tryz.ntmps21
      go_wp2
      go_ret
      exact ⟨rfl, rfl⟩
/-- A text can stand over itself: at some cut from i on. -/
theorem ov_at (s : ByteArray) (k : Nat) (_hk : k ≤ s.size) : ((s.extract 0 k).toList == (s.extract (s.size - k) s.size).toList) = decide (s.data.toList.take k = s.data.toList.drop (s.data.toList.length - k)) := by
  rw [ByteArray.toList_eq, ByteArray.toList_eq, ext_list, ext_list, ← size_list0, List.drop_zero, Nat.sub_zero]
  rw [List.take_of_length_le (l := s.data.toList.drop _) (by rw [List.length_drop, ← size_list0]; omega)]
  rw [Bool.eq_iff_iff]
  simp
def OvIs (l : List UInt8) (w : World) (e : Ending) (w' : World) : Prop := (∃ r, e = .returned (.bool r) ∧ (r = true ↔ Ov l)) ∧ Below w.heap.size w w'
set_option maxRecDepth 100000 in
theorem f39_any (s : ByteArray) (hs : s.size ≤ 100000) (w : World) : Calls Tryz.prog 39 #[.string s] w (OvIs s.data.toList w) := by
  have HO := Lib.hid (fun k hk => ov_at s k hk)
  go_enter Tryz.func39, Tryz.ntmps39
  go_wp2
  go_loopw [3] (fun i wr => ∃ k : Nat, 1 ≤ k ∧ i = .int .i64 k ∧ Hid (Below w.heap.size w wr) ∧ Hid (∀ j, 0 < j → j < k → ¬ s.data.toList.take j = s.data.toList.drop (s.data.toList.length - j))) (fun i _ => s.size - (RowKit.intOf i).toNat)
  case atStart => exact ⟨1, Nat.le_refl _, rfl, Below.refl _ _, fun j h0 h1 => by omega⟩
  case round =>
    obtain ⟨k, hk, rfl, HB, HN⟩ := hrel
    by_cases hlt : k < s.size
    · have hlt' : (k : Int) < (s.size : Int) := by omega
      have e1 : (s.size : Int) - (k : Int) = ((s.size - k : Nat) : Int) := by omega
      have hk2 : s.size - k ≤ s.size := Nat.sub_le _ _
      by_cases hh : s.data.toList.take k = s.data.toList.drop (s.data.toList.length - k)
      · have t0 : ((s.extract 0 k).toList == (s.extract (s.size - k) s.size).toList) = true := by rw [HO.out k (by omega)]; exact decide_eq_true hh
        have HV : Hid (Ov s.data.toList) := ⟨k, by omega, by rw [← size_list0]; exact hlt, hh⟩
        clear hh
        go_wp2
        go_quiet (fail)
        go_wp2
        go_ret
        exact ⟨⟨true, rfl, fun _ => HV.out, fun _ => rfl⟩, Z.below_drewN HB.out _⟩
      · have t0 : ((s.extract 0 k).toList == (s.extract (s.size - k) s.size).toList) = false := by rw [HO.out k (by omega)]; exact decide_eq_false hh
        have HN2 : Hid (∀ j, 0 < j → j < k + 1 → ¬ s.data.toList.take j = s.data.toList.drop (s.data.toList.length - j)) := fun j h0 h1 => by
          rcases Nat.lt_or_ge j k with h | h
          · exact HN.out j h0 h
          · obtain rfl : j = k := by omega
            exact hh
        clear hh
        go_wp2
        go_quiet (fail)
        go_wp2
        go_roundw
        case rel => exact ⟨k + 1, by omega, by go_num, Z.below_drewN HB.out _, HN2.out⟩
        case measure => simp [RowKit.intOf]; omega
    · have hlt' : ¬ (k : Int) < (s.size : Int) := by omega
      have HV : Hid (¬ Ov s.data.toList) := fun ⟨j, h0, h1, h2⟩ => HN.out j h0 (by rw [← size_list0] at h1; omega) h2
      go_wp2
      go_ret
      exact ⟨⟨false, rfl, ⟨(fun h => by cases h), fun h => absurd h HV.out⟩⟩, HB.out⟩
/-- The arguments of split: a separator's kind and text, and a bound. -/
def ArgsAre (k : Int) (t : ByteArray) (mz : Option Int) (v : Value) (w : World) : Prop := ∃ g c, w.cell? ⟨g, 0, none⟩ = some (.int .i64 k) ∧ w.cell? ⟨g, 4, none⟩ = some (.string t) ∧ match mz with
  | none => v = .slice (some ⟨g, 0, none⟩) 1 c
  | some z => v = .slice (some ⟨g, 0, none⟩) 2 c ∧ (∃ d a n cc, VC6 g w d (.slice a n cc) ∧ VInt 0 1 w (VAgg d (.slice a n cc)) z) ∧ -256 < z ∧ z < 256
theorem VC6.below {g : Nat} {w w' : World} {d : Bool} {sl : Value} (h : VC6 g w d sl) (hb : Below w.heap.size w w') : VC6 g w' d sl :=
  ⟨cell_below h.1 hb, cell_below h.2.1 hb, cell_below h.2.2.1 hb, cell_below h.2.2.2.1 hb, cell_below h.2.2.2.2.1 hb, cell_below h.2.2.2.2.2 hb⟩
theorem ArgsAre.below {k : Int} {t : ByteArray} {mz : Option Int} {v : Value} {w w' : World} (h : ArgsAre k t mz v w) (hb : Below w.heap.size w w') : ArgsAre k t mz v w' := by
  obtain ⟨g, c, h0, h4, h⟩ := h
  refine ⟨g, c, cell_below h0 hb, cell_below h4 hb, ?_⟩
  cases mz with
  | none => exact h
  | some z =>
    obtain ⟨h1, ⟨d, a, n, cc, h2, h3⟩, h5, h6⟩ := h
    exact ⟨h1, ⟨d, a, n, cc, h2.below hb, h3.below hb (Nat.le_refl _)⟩, h5, h6⟩
/-- The bound, -1 if there is none. -/
def boundZ : Option Int → Int
  | none => -1
  | some z => z
theorem f49_args {k : Int} {t : ByteArray} {mz : Option Int} {v : Value} {w : World} (h : ArgsAre k t mz v w) : Calls Tryz.prog 49 #[v, .int .i64 1] w (CountIs (boundZ mz) w) := by
  obtain ⟨g, c, h0, h4, h⟩ := h
  cases mz with
  | none => rw [h]; exact f49_none _ _ _
  | some z =>
    obtain ⟨h1, ⟨d, a, n, cc, h2, h3⟩, h5, h6⟩ := h
    rw [h1]
    exact f49_some g c d a n cc z h5 h6 w h2 h3
def OpenIs (P : Prop) (w : World) (e : Ending) (w' : World) : Prop := (∃ r, e = .returned (.bool r) ∧ (r = true ↔ P)) ∧ Below w.heap.size w w'
theorem OpenIs.no {P : Prop} {w w' : World} {e : Ending} (h : ¬ P) (he : e = .returned (.bool false)) (hb : Below w.heap.size w w') : OpenIs P w e w' := ⟨⟨false, he, ⟨(fun h => by cases h), fun h2 => absurd h2 h⟩⟩, hb⟩
set_option maxRecDepth 100000 in
set_option maxHeartbeats 1000000 in
theorem f20_l_word_n (g c : Nat) (t : ByteArray) (ht : t.size ≤ 100000) (w : World) (h0 : w.cell? ⟨g, 0, none⟩ = some (.int .i64 0)) (h4 : w.cell? ⟨g, 4, none⟩ = some (.string t)) :
    Calls Tryz.prog 20 #[.string ⟨#[115, 112, 108, 105, 116]⟩, .slice (some ⟨g, 0, none⟩) 1 c] w (OpenIs (False) w) := by
  have hX := And.intro ht (And.intro h0 h4)
  clear hX
  clear ht
  go_enter Tryz.func20, Tryz.ntmps20
  go_wp2
  go_ret
  exact OpenIs.no (fun h => h) rfl (Below.refl _ _)
set_option maxRecDepth 100000 in
set_option maxHeartbeats 1000000 in
theorem f20_l_word_b (g c : Nat) (t : ByteArray) (ht : t.size ≤ 100000) (w : World) (h0 : w.cell? ⟨g, 0, none⟩ = some (.int .i64 0)) (h4 : w.cell? ⟨g, 4, none⟩ = some (.string t)) (d : Bool) (a : Option Addr) (n cc : Nat) (z : Int) (hc : VC6 g w d (.slice a n cc)) (hv : VInt 0 1 w (VAgg d (.slice a n cc)) z) (hz : z < 256) :
    Calls Tryz.prog 20 #[.string ⟨#[115, 112, 108, 105, 116]⟩, .slice (some ⟨g, 0, none⟩) 2 c] w (OpenIs (False) w) := by
  obtain ⟨c0, c1, c2, c3, c4, c5⟩ := hc
  have H37 := Lib.hid (Z.f37_any 1 (by omega) _ z 0 w hv)
  have H10 := Lib.hid (fun w => Z.f10_int 65536 (by omega) (by omega) w)
  have HC : Hid (Z.cmpZ z 65536 = -1) := by show _ = _; unfold Z.cmpZ; rw [if_pos (by omega)]
  unfold VAgg at H37
  clear hv hz
  have hX := And.intro ht (And.intro h0 h4)
  clear hX
  clear ht
  go_enter Tryz.func20, Tryz.ntmps20
  go_wp2_with fail
  go_at_call 37
  refine H37.out.mono ?_
  rintro e w1 ⟨v1, rfl, hs, hb⟩
  obtain ⟨d1, a1, n1, cc1, rfl⟩ := hs.shape
  have HS1 := Lib.hid hs
  have HB1 := Lib.hid hb
  have h0 := cell_below h0 hb
  have h4 := cell_below h4 hb
  clear hb hs
  go_wp2_with fail
  go_at_call 10
  refine (H10.out _).mono ?_
  rintro e w2 ⟨v2, rfl, hs, hb⟩
  obtain ⟨d2, a2, n2, cc2, rfl⟩ := hs.shape
  have H38 := Lib.hid (HC.out ▸ Z.f38_any 8 (by omega) _ _ z 65536 0 w2 ((HS1.out.le (m := 8) (Nat.zero_le _) (by omega)).below hb (Nat.le_refl _)) (hs.le (Nat.zero_le _) (Nat.le_refl _)))
  have HB2 := Lib.hid (HB1.out.trans (hb.mono HB1.out.size))
  have h0 := cell_below h0 hb
  have h4 := cell_below h4 hb
  clear hb hs
  go_wp2_with fail
  go_at_call 38
  refine H38.out.mono ?_
  rintro e w3 ⟨rfl, hb⟩
  have HB3 := Lib.hid (HB2.out.trans (hb.mono HB2.out.size))
  have h0 := cell_below h0 hb
  have h4 := cell_below h4 hb
  clear hb
  go_wp2
  go_ret
  exact OpenIs.no (fun h => h) rfl HB3.out
set_option maxRecDepth 100000 in
set_option maxHeartbeats 1000000 in
theorem f20_l_sep_n (g c : Nat) (t : ByteArray) (ht : t.size ≤ 100000) (w : World) (h0 : w.cell? ⟨g, 0, none⟩ = some (.int .i64 4)) (h4 : w.cell? ⟨g, 4, none⟩ = some (.string t)) :
    Calls Tryz.prog 20 #[.string ⟨#[115, 112, 108, 105, 116]⟩, .slice (some ⟨g, 0, none⟩) 1 c] w (OpenIs (False) w) := by
  have hX := And.intro ht (And.intro h0 h4)
  clear hX
  clear ht
  go_enter Tryz.func20, Tryz.ntmps20
  go_wp2
  go_ret
  exact OpenIs.no (fun h => h) rfl (Below.refl _ _)
set_option maxRecDepth 100000 in
set_option maxHeartbeats 1000000 in
theorem f20_l_sep_b (g c : Nat) (t : ByteArray) (ht : t.size ≤ 100000) (w : World) (h0 : w.cell? ⟨g, 0, none⟩ = some (.int .i64 4)) (h4 : w.cell? ⟨g, 4, none⟩ = some (.string t)) (d : Bool) (a : Option Addr) (n cc : Nat) (z : Int) (hc : VC6 g w d (.slice a n cc)) (hv : VInt 0 1 w (VAgg d (.slice a n cc)) z) (hz : z < 256) :
    Calls Tryz.prog 20 #[.string ⟨#[115, 112, 108, 105, 116]⟩, .slice (some ⟨g, 0, none⟩) 2 c] w (OpenIs (False) w) := by
  obtain ⟨c0, c1, c2, c3, c4, c5⟩ := hc
  have H37 := Lib.hid (Z.f37_any 1 (by omega) _ z 0 w hv)
  have H10 := Lib.hid (fun w => Z.f10_int 65536 (by omega) (by omega) w)
  have HC : Hid (Z.cmpZ z 65536 = -1) := by show _ = _; unfold Z.cmpZ; rw [if_pos (by omega)]
  unfold VAgg at H37
  clear hv hz
  have hX := And.intro ht (And.intro h0 h4)
  clear hX
  clear ht
  go_enter Tryz.func20, Tryz.ntmps20
  go_wp2_with fail
  go_at_call 37
  refine H37.out.mono ?_
  rintro e w1 ⟨v1, rfl, hs, hb⟩
  obtain ⟨d1, a1, n1, cc1, rfl⟩ := hs.shape
  have HS1 := Lib.hid hs
  have HB1 := Lib.hid hb
  have h0 := cell_below h0 hb
  have h4 := cell_below h4 hb
  clear hb hs
  go_wp2_with fail
  go_at_call 10
  refine (H10.out _).mono ?_
  rintro e w2 ⟨v2, rfl, hs, hb⟩
  obtain ⟨d2, a2, n2, cc2, rfl⟩ := hs.shape
  have H38 := Lib.hid (HC.out ▸ Z.f38_any 8 (by omega) _ _ z 65536 0 w2 ((HS1.out.le (m := 8) (Nat.zero_le _) (by omega)).below hb (Nat.le_refl _)) (hs.le (Nat.zero_le _) (Nat.le_refl _)))
  have HB2 := Lib.hid (HB1.out.trans (hb.mono HB1.out.size))
  have h0 := cell_below h0 hb
  have h4 := cell_below h4 hb
  clear hb hs
  go_wp2_with fail
  go_at_call 38
  refine H38.out.mono ?_
  rintro e w3 ⟨rfl, hb⟩
  have HB3 := Lib.hid (HB2.out.trans (hb.mono HB2.out.size))
  have h0 := cell_below h0 hb
  have h4 := cell_below h4 hb
  clear hb
  go_wp2
  go_ret
  exact OpenIs.no (fun h => h) rfl HB3.out
set_option maxRecDepth 100000 in
set_option maxHeartbeats 1000000 in
theorem f20_r_word_n (g c : Nat) (t : ByteArray) (ht : t.size ≤ 100000) (w : World) (h0 : w.cell? ⟨g, 0, none⟩ = some (.int .i64 0)) (h4 : w.cell? ⟨g, 4, none⟩ = some (.string t)) :
    Calls Tryz.prog 20 #[.string ⟨#[114, 115, 112, 108, 105, 116]⟩, .slice (some ⟨g, 0, none⟩) 1 c] w (OpenIs (False) w) := by
  have hX := And.intro ht (And.intro h0 h4)
  clear hX
  clear ht
  go_enter Tryz.func20, Tryz.ntmps20
  go_wp2
  go_ret
  exact OpenIs.no (fun h => h) rfl (Below.refl _ _)
set_option maxRecDepth 100000 in
set_option maxHeartbeats 1000000 in
theorem f20_r_word_b (g c : Nat) (t : ByteArray) (ht : t.size ≤ 100000) (w : World) (h0 : w.cell? ⟨g, 0, none⟩ = some (.int .i64 0)) (h4 : w.cell? ⟨g, 4, none⟩ = some (.string t)) (d : Bool) (a : Option Addr) (n cc : Nat) (z : Int) (hc : VC6 g w d (.slice a n cc)) (hv : VInt 0 1 w (VAgg d (.slice a n cc)) z) (hz : z < 256) :
    Calls Tryz.prog 20 #[.string ⟨#[114, 115, 112, 108, 105, 116]⟩, .slice (some ⟨g, 0, none⟩) 2 c] w (OpenIs (False) w) := by
  obtain ⟨c0, c1, c2, c3, c4, c5⟩ := hc
  have H37 := Lib.hid (Z.f37_any 1 (by omega) _ z 0 w hv)
  have H10 := Lib.hid (fun w => Z.f10_int 65536 (by omega) (by omega) w)
  have HC : Hid (Z.cmpZ z 65536 = -1) := by show _ = _; unfold Z.cmpZ; rw [if_pos (by omega)]
  unfold VAgg at H37
  clear hv hz
  have hX := And.intro ht (And.intro h0 h4)
  clear hX
  clear ht
  go_enter Tryz.func20, Tryz.ntmps20
  go_wp2_with fail
  go_at_call 37
  refine H37.out.mono ?_
  rintro e w1 ⟨v1, rfl, hs, hb⟩
  obtain ⟨d1, a1, n1, cc1, rfl⟩ := hs.shape
  have HS1 := Lib.hid hs
  have HB1 := Lib.hid hb
  have h0 := cell_below h0 hb
  have h4 := cell_below h4 hb
  clear hb hs
  go_wp2_with fail
  go_at_call 10
  refine (H10.out _).mono ?_
  rintro e w2 ⟨v2, rfl, hs, hb⟩
  obtain ⟨d2, a2, n2, cc2, rfl⟩ := hs.shape
  have H38 := Lib.hid (HC.out ▸ Z.f38_any 8 (by omega) _ _ z 65536 0 w2 ((HS1.out.le (m := 8) (Nat.zero_le _) (by omega)).below hb (Nat.le_refl _)) (hs.le (Nat.zero_le _) (Nat.le_refl _)))
  have HB2 := Lib.hid (HB1.out.trans (hb.mono HB1.out.size))
  have h0 := cell_below h0 hb
  have h4 := cell_below h4 hb
  clear hb hs
  go_wp2_with fail
  go_at_call 38
  refine H38.out.mono ?_
  rintro e w3 ⟨rfl, hb⟩
  have HB3 := Lib.hid (HB2.out.trans (hb.mono HB2.out.size))
  have h0 := cell_below h0 hb
  have h4 := cell_below h4 hb
  clear hb
  go_wp2
  go_ret
  exact OpenIs.no (fun h => h) rfl HB3.out
set_option maxRecDepth 100000 in
set_option maxHeartbeats 1000000 in
theorem f20_r_sep_n (g c : Nat) (t : ByteArray) (ht : t.size ≤ 100000) (w : World) (h0 : w.cell? ⟨g, 0, none⟩ = some (.int .i64 4)) (h4 : w.cell? ⟨g, 4, none⟩ = some (.string t)) :
    Calls Tryz.prog 20 #[.string ⟨#[114, 115, 112, 108, 105, 116]⟩, .slice (some ⟨g, 0, none⟩) 1 c] w (OpenIs (Ov t.data.toList) w) := by
  have hX := And.intro ht (And.intro h0 h4)
  clear hX
  have H39 := Lib.hid (fun w => f39_any t ht w)
  clear ht
  go_enter Tryz.func20, Tryz.ntmps20
  go_wp2_with fail
  go_at_call 39
  refine (H39.out _).mono ?_
  rintro e w4 ⟨⟨r, rfl, hr⟩, hb⟩
  have HR := Lib.hid hr
  have HB4 : Hid (Below w.heap.size w w4) := hb
  clear hr hb
  go_wp2
  go_ret
  exact ⟨⟨r, rfl, HR.out⟩, HB4.out⟩
set_option maxRecDepth 100000 in
set_option maxHeartbeats 1000000 in
theorem f20_r_sep_b (g c : Nat) (t : ByteArray) (ht : t.size ≤ 100000) (w : World) (h0 : w.cell? ⟨g, 0, none⟩ = some (.int .i64 4)) (h4 : w.cell? ⟨g, 4, none⟩ = some (.string t)) (d : Bool) (a : Option Addr) (n cc : Nat) (z : Int) (hc : VC6 g w d (.slice a n cc)) (hv : VInt 0 1 w (VAgg d (.slice a n cc)) z) (hz : z < 256) :
    Calls Tryz.prog 20 #[.string ⟨#[114, 115, 112, 108, 105, 116]⟩, .slice (some ⟨g, 0, none⟩) 2 c] w (OpenIs (Ov t.data.toList) w) := by
  obtain ⟨c0, c1, c2, c3, c4, c5⟩ := hc
  have H37 := Lib.hid (Z.f37_any 1 (by omega) _ z 0 w hv)
  have H10 := Lib.hid (fun w => Z.f10_int 65536 (by omega) (by omega) w)
  have HC : Hid (Z.cmpZ z 65536 = -1) := by show _ = _; unfold Z.cmpZ; rw [if_pos (by omega)]
  unfold VAgg at H37
  clear hv hz
  have hX := And.intro ht (And.intro h0 h4)
  clear hX
  have H39 := Lib.hid (fun w => f39_any t ht w)
  clear ht
  go_enter Tryz.func20, Tryz.ntmps20
  go_wp2_with fail
  go_at_call 37
  refine H37.out.mono ?_
  rintro e w1 ⟨v1, rfl, hs, hb⟩
  obtain ⟨d1, a1, n1, cc1, rfl⟩ := hs.shape
  have HS1 := Lib.hid hs
  have HB1 := Lib.hid hb
  have h0 := cell_below h0 hb
  have h4 := cell_below h4 hb
  clear hb hs
  go_wp2_with fail
  go_at_call 10
  refine (H10.out _).mono ?_
  rintro e w2 ⟨v2, rfl, hs, hb⟩
  obtain ⟨d2, a2, n2, cc2, rfl⟩ := hs.shape
  have H38 := Lib.hid (HC.out ▸ Z.f38_any 8 (by omega) _ _ z 65536 0 w2 ((HS1.out.le (m := 8) (Nat.zero_le _) (by omega)).below hb (Nat.le_refl _)) (hs.le (Nat.zero_le _) (Nat.le_refl _)))
  have HB2 := Lib.hid (HB1.out.trans (hb.mono HB1.out.size))
  have h0 := cell_below h0 hb
  have h4 := cell_below h4 hb
  clear hb hs
  go_wp2_with fail
  go_at_call 38
  refine H38.out.mono ?_
  rintro e w3 ⟨rfl, hb⟩
  have HB3 := Lib.hid (HB2.out.trans (hb.mono HB2.out.size))
  have h0 := cell_below h0 hb
  have h4 := cell_below h4 hb
  clear hb
  go_wp2_with fail
  go_at_call 39
  refine (H39.out _).mono ?_
  rintro e w4 ⟨⟨r, rfl, hr⟩, hb⟩
  have HR := Lib.hid hr
  have HB4 : Hid (Below w.heap.size w w4) := HB3.out.trans (hb.mono HB3.out.size)
  clear hr hb
  go_wp2
  go_ret
  exact ⟨⟨r, rfl, HR.out⟩, HB4.out⟩
theorem f20_args (back : Bool) {k : Int} {t : ByteArray} {mz : Option Int} {v : Value} {w : World} (ht : t.size ≤ 100000) (hk : k = 0 ∨ k = 4) (h : ArgsAre k t mz v w) : Calls Tryz.prog 20 #[.string (nmOf back), v] w (OpenIs (back = true ∧ k = 4 ∧ Ov t.data.toList) w) := by
  obtain ⟨g, c, h0, h4, h⟩ := h
  have key : ∀ (P : Prop), (P ↔ (back = true ∧ k = 4 ∧ Ov t.data.toList)) → Calls Tryz.prog 20 #[.string (nmOf back), v] w (OpenIs P w) → Calls Tryz.prog 20 #[.string (nmOf back), v] w (OpenIs (back = true ∧ k = 4 ∧ Ov t.data.toList) w) := fun P hP hC => hC.mono fun e w' ⟨⟨r, h1, h2⟩, h3⟩ => ⟨⟨r, h1, h2.trans hP⟩, h3⟩
  cases mz with
  | none =>
    subst h
    cases back
    · rcases hk with rfl | rfl
      · exact key False (by simp) (f20_l_word_n g c t ht w h0 h4)
      · exact key False (by simp) (f20_l_sep_n g c t ht w h0 h4)
    · rcases hk with rfl | rfl
      · exact key False (by simp) (f20_r_word_n g c t ht w h0 h4)
      · exact key _ (by simp) (f20_r_sep_n g c t ht w h0 h4)
  | some z =>
    obtain ⟨rfl, ⟨d, a, n, cc, h2, h3⟩, h5, h6⟩ := h
    cases back
    · rcases hk with rfl | rfl
      · exact key False (by simp) (f20_l_word_b g c t ht w h0 h4 d a n cc z h2 h3 h6)
      · exact key False (by simp) (f20_l_sep_b g c t ht w h0 h4 d a n cc z h2 h3 h6)
    · rcases hk with rfl | rfl
      · exact key False (by simp) (f20_r_word_b g c t ht w h0 h4 d a n cc z h2 h3 h6)
      · exact key _ (by simp) (f20_r_sep_b g c t ht w h0 h4 d a n cc z h2 h3 h6)
/-- Whether the reference leaves open what split makes: if not, then no cut from the end on at a text that can stand over itself. -/
def WOpenIs (P : Prop) (w : World) (e : Ending) (w' : World) : Prop := (∃ r, e = .returned (.bool r) ∧ (r = false → ¬ P)) ∧ Below w.heap.size w w'
theorem WOpenIs.yes {P : Prop} {w w' : World} {e : Ending} (he : e = .returned (.bool true)) (hb : Below w.heap.size w w') : WOpenIs P w e w' := ⟨⟨true, he, fun h => by cases h⟩, hb⟩
theorem WOpenIs.no {P : Prop} {w w' : World} {e : Ending} (h : ¬ P) (he : e = .returned (.bool false)) (hb : Below w.heap.size w w') : WOpenIs P w e w' := ⟨⟨false, he, fun _ => h⟩, hb⟩
set_option maxRecDepth 100000 in
set_option maxHeartbeats 1000000 in
theorem f11_l_word_n (P : Prop) (s : ByteArray) (hs : s.size ≤ 100000) (g c : Nat) (w : World) (h0 : w.cell? ⟨g, 0, none⟩ = some (.int .i64 0)) (hC : Calls Tryz.prog 20 #[.string ⟨#[115, 112, 108, 105, 116]⟩, .slice (some ⟨g, 0, none⟩) 1 c] w (OpenIs P w)) :
    Calls Tryz.prog 11 #[.string s, .string ⟨#[115, 112, 108, 105, 116]⟩, .slice (some ⟨g, 0, none⟩) 1 c] w (WOpenIs P w) := by
  have HC := Lib.hid hC
  have H21 := Lib.hid (fun b w => f21_any b w)
  clear hC
  by_cases hz : s.size = 0
  · go_enter Tryz.func11, Tryz.ntmps11
    go_wp2_with fail
    go_at_call 20
    refine HC.out.mono ?_
    rintro e w1 ⟨⟨r, rfl, hr⟩, hb⟩
    have h0 := cell_below h0 hb
    have HB1 := Lib.hid hb
    clear hb
    cases r
    · have HR : Hid (¬ P) := fun h => by have := hr.2 h; cases this
      clear hr
      go_wp2
      go_ret
      exact WOpenIs.no HR.out rfl HB1.out
    · clear hr
      go_wp2
      go_ret
      exact WOpenIs.yes rfl HB1.out
  · have hz1 : (0 : Int) < (s.size : Int) := by omega
    have hz2 : 0 < s.size := by omega
    have hz3 : ((s.size : Nat) : Int) - 1 = ((s.size - 1 : Nat) : Int) := by omega
    have hz4 : s.size - 1 < s.size := by omega
    clear hz
    go_enter Tryz.func11, Tryz.ntmps11
    go_wp2_with fail
    go_at_call 20
    refine HC.out.mono ?_
    rintro e w1 ⟨⟨r, rfl, hr⟩, hb⟩
    have h0 := cell_below h0 hb
    have HB1 := Lib.hid hb
    clear hb
    cases r
    · have HR : Hid (¬ P) := fun h => by have := hr.2 h; cases this
      clear hr
      go_wp2
      go_ret
      exact WOpenIs.no HR.out rfl HB1.out
    · clear hr
      go_wp2
      go_ret
      exact WOpenIs.yes rfl HB1.out
set_option maxRecDepth 100000 in
set_option maxHeartbeats 1000000 in
theorem f11_l_word_b (P : Prop) (s : ByteArray) (hs : s.size ≤ 100000) (g c : Nat) (w : World) (h0 : w.cell? ⟨g, 0, none⟩ = some (.int .i64 0)) (hC : Calls Tryz.prog 20 #[.string ⟨#[115, 112, 108, 105, 116]⟩, .slice (some ⟨g, 0, none⟩) 2 c] w (OpenIs P w)) :
    Calls Tryz.prog 11 #[.string s, .string ⟨#[115, 112, 108, 105, 116]⟩, .slice (some ⟨g, 0, none⟩) 2 c] w (WOpenIs P w) := by
  have HC := Lib.hid hC
  have H21 := Lib.hid (fun b w => f21_any b w)
  clear hC
  by_cases hz : s.size = 0
  · go_enter Tryz.func11, Tryz.ntmps11
    go_wp2_with fail
    go_at_call 20
    refine HC.out.mono ?_
    rintro e w1 ⟨⟨r, rfl, hr⟩, hb⟩
    have h0 := cell_below h0 hb
    have HB1 := Lib.hid hb
    clear hb
    cases r
    · have HR : Hid (¬ P) := fun h => by have := hr.2 h; cases this
      clear hr
      go_wp2
      go_ret
      exact WOpenIs.no HR.out rfl HB1.out
    · clear hr
      go_wp2
      go_ret
      exact WOpenIs.yes rfl HB1.out
  · have hz1 : (0 : Int) < (s.size : Int) := by omega
    have hz2 : 0 < s.size := by omega
    have hz3 : ((s.size : Nat) : Int) - 1 = ((s.size - 1 : Nat) : Int) := by omega
    have hz4 : s.size - 1 < s.size := by omega
    clear hz
    go_enter Tryz.func11, Tryz.ntmps11
    go_wp2_with fail
    go_at_call 20
    refine HC.out.mono ?_
    rintro e w1 ⟨⟨r, rfl, hr⟩, hb⟩
    have h0 := cell_below h0 hb
    have HB1 := Lib.hid hb
    clear hb
    cases r
    · have HR : Hid (¬ P) := fun h => by have := hr.2 h; cases this
      clear hr
      go_wp2_with fail
      go_at_call 21
      refine (H21.out _ _).mono ?_
      rintro e w2 ⟨rfl, rfl⟩
      cases hb1 : blankB (s[0]'hz2)
      · go_wp2_with fail
        go_at_call 21
        refine (H21.out _ _).mono ?_
        rintro e w2 ⟨rfl, rfl⟩
        cases hb2 : blankB (s[s.size - 1]'hz4)
        · go_wp2
          go_ret
          exact WOpenIs.no HR.out rfl HB1.out
        · go_wp2
          go_ret
          exact WOpenIs.yes rfl HB1.out
      · go_wp2
        go_ret
        exact WOpenIs.yes rfl HB1.out
    · clear hr
      go_wp2
      go_ret
      exact WOpenIs.yes rfl HB1.out
set_option maxRecDepth 100000 in
set_option maxHeartbeats 1000000 in
theorem f11_l_sep_n (P : Prop) (s : ByteArray) (hs : s.size ≤ 100000) (g c : Nat) (w : World) (h0 : w.cell? ⟨g, 0, none⟩ = some (.int .i64 4)) (hC : Calls Tryz.prog 20 #[.string ⟨#[115, 112, 108, 105, 116]⟩, .slice (some ⟨g, 0, none⟩) 1 c] w (OpenIs P w)) :
    Calls Tryz.prog 11 #[.string s, .string ⟨#[115, 112, 108, 105, 116]⟩, .slice (some ⟨g, 0, none⟩) 1 c] w (WOpenIs P w) := by
  have HC := Lib.hid hC
  have H21 := Lib.hid (fun b w => f21_any b w)
  clear hC
  by_cases hz : s.size = 0
  · go_enter Tryz.func11, Tryz.ntmps11
    go_wp2_with fail
    go_at_call 20
    refine HC.out.mono ?_
    rintro e w1 ⟨⟨r, rfl, hr⟩, hb⟩
    have h0 := cell_below h0 hb
    have HB1 := Lib.hid hb
    clear hb
    cases r
    · have HR : Hid (¬ P) := fun h => by have := hr.2 h; cases this
      clear hr
      go_wp2
      go_ret
      exact WOpenIs.no HR.out rfl HB1.out
    · clear hr
      go_wp2
      go_ret
      exact WOpenIs.yes rfl HB1.out
  · have hz1 : (0 : Int) < (s.size : Int) := by omega
    have hz2 : 0 < s.size := by omega
    have hz3 : ((s.size : Nat) : Int) - 1 = ((s.size - 1 : Nat) : Int) := by omega
    have hz4 : s.size - 1 < s.size := by omega
    clear hz
    go_enter Tryz.func11, Tryz.ntmps11
    go_wp2_with fail
    go_at_call 20
    refine HC.out.mono ?_
    rintro e w1 ⟨⟨r, rfl, hr⟩, hb⟩
    have h0 := cell_below h0 hb
    have HB1 := Lib.hid hb
    clear hb
    cases r
    · have HR : Hid (¬ P) := fun h => by have := hr.2 h; cases this
      clear hr
      go_wp2
      go_ret
      exact WOpenIs.no HR.out rfl HB1.out
    · clear hr
      go_wp2
      go_ret
      exact WOpenIs.yes rfl HB1.out
set_option maxRecDepth 100000 in
set_option maxHeartbeats 1000000 in
theorem f11_l_sep_b (P : Prop) (s : ByteArray) (hs : s.size ≤ 100000) (g c : Nat) (w : World) (h0 : w.cell? ⟨g, 0, none⟩ = some (.int .i64 4)) (hC : Calls Tryz.prog 20 #[.string ⟨#[115, 112, 108, 105, 116]⟩, .slice (some ⟨g, 0, none⟩) 2 c] w (OpenIs P w)) :
    Calls Tryz.prog 11 #[.string s, .string ⟨#[115, 112, 108, 105, 116]⟩, .slice (some ⟨g, 0, none⟩) 2 c] w (WOpenIs P w) := by
  have HC := Lib.hid hC
  have H21 := Lib.hid (fun b w => f21_any b w)
  clear hC
  by_cases hz : s.size = 0
  · go_enter Tryz.func11, Tryz.ntmps11
    go_wp2_with fail
    go_at_call 20
    refine HC.out.mono ?_
    rintro e w1 ⟨⟨r, rfl, hr⟩, hb⟩
    have h0 := cell_below h0 hb
    have HB1 := Lib.hid hb
    clear hb
    cases r
    · have HR : Hid (¬ P) := fun h => by have := hr.2 h; cases this
      clear hr
      go_wp2
      go_ret
      exact WOpenIs.no HR.out rfl HB1.out
    · clear hr
      go_wp2
      go_ret
      exact WOpenIs.yes rfl HB1.out
  · have hz1 : (0 : Int) < (s.size : Int) := by omega
    have hz2 : 0 < s.size := by omega
    have hz3 : ((s.size : Nat) : Int) - 1 = ((s.size - 1 : Nat) : Int) := by omega
    have hz4 : s.size - 1 < s.size := by omega
    clear hz
    go_enter Tryz.func11, Tryz.ntmps11
    go_wp2_with fail
    go_at_call 20
    refine HC.out.mono ?_
    rintro e w1 ⟨⟨r, rfl, hr⟩, hb⟩
    have h0 := cell_below h0 hb
    have HB1 := Lib.hid hb
    clear hb
    cases r
    · have HR : Hid (¬ P) := fun h => by have := hr.2 h; cases this
      clear hr
      go_wp2
      go_ret
      exact WOpenIs.no HR.out rfl HB1.out
    · clear hr
      go_wp2
      go_ret
      exact WOpenIs.yes rfl HB1.out
set_option maxRecDepth 100000 in
set_option maxHeartbeats 1000000 in
theorem f11_r_word_n (P : Prop) (s : ByteArray) (hs : s.size ≤ 100000) (g c : Nat) (w : World) (h0 : w.cell? ⟨g, 0, none⟩ = some (.int .i64 0)) (hC : Calls Tryz.prog 20 #[.string ⟨#[114, 115, 112, 108, 105, 116]⟩, .slice (some ⟨g, 0, none⟩) 1 c] w (OpenIs P w)) :
    Calls Tryz.prog 11 #[.string s, .string ⟨#[114, 115, 112, 108, 105, 116]⟩, .slice (some ⟨g, 0, none⟩) 1 c] w (WOpenIs P w) := by
  have HC := Lib.hid hC
  have H21 := Lib.hid (fun b w => f21_any b w)
  clear hC
  by_cases hz : s.size = 0
  · go_enter Tryz.func11, Tryz.ntmps11
    go_wp2_with fail
    go_at_call 20
    refine HC.out.mono ?_
    rintro e w1 ⟨⟨r, rfl, hr⟩, hb⟩
    have h0 := cell_below h0 hb
    have HB1 := Lib.hid hb
    clear hb
    cases r
    · have HR : Hid (¬ P) := fun h => by have := hr.2 h; cases this
      clear hr
      go_wp2
      go_ret
      exact WOpenIs.no HR.out rfl HB1.out
    · clear hr
      go_wp2
      go_ret
      exact WOpenIs.yes rfl HB1.out
  · have hz1 : (0 : Int) < (s.size : Int) := by omega
    have hz2 : 0 < s.size := by omega
    have hz3 : ((s.size : Nat) : Int) - 1 = ((s.size - 1 : Nat) : Int) := by omega
    have hz4 : s.size - 1 < s.size := by omega
    clear hz
    go_enter Tryz.func11, Tryz.ntmps11
    go_wp2_with fail
    go_at_call 20
    refine HC.out.mono ?_
    rintro e w1 ⟨⟨r, rfl, hr⟩, hb⟩
    have h0 := cell_below h0 hb
    have HB1 := Lib.hid hb
    clear hb
    cases r
    · have HR : Hid (¬ P) := fun h => by have := hr.2 h; cases this
      clear hr
      go_wp2
      go_ret
      exact WOpenIs.no HR.out rfl HB1.out
    · clear hr
      go_wp2
      go_ret
      exact WOpenIs.yes rfl HB1.out
set_option maxRecDepth 100000 in
set_option maxHeartbeats 1000000 in
theorem f11_r_word_b (P : Prop) (s : ByteArray) (hs : s.size ≤ 100000) (g c : Nat) (w : World) (h0 : w.cell? ⟨g, 0, none⟩ = some (.int .i64 0)) (hC : Calls Tryz.prog 20 #[.string ⟨#[114, 115, 112, 108, 105, 116]⟩, .slice (some ⟨g, 0, none⟩) 2 c] w (OpenIs P w)) :
    Calls Tryz.prog 11 #[.string s, .string ⟨#[114, 115, 112, 108, 105, 116]⟩, .slice (some ⟨g, 0, none⟩) 2 c] w (WOpenIs P w) := by
  have HC := Lib.hid hC
  have H21 := Lib.hid (fun b w => f21_any b w)
  clear hC
  by_cases hz : s.size = 0
  · go_enter Tryz.func11, Tryz.ntmps11
    go_wp2_with fail
    go_at_call 20
    refine HC.out.mono ?_
    rintro e w1 ⟨⟨r, rfl, hr⟩, hb⟩
    have h0 := cell_below h0 hb
    have HB1 := Lib.hid hb
    clear hb
    cases r
    · have HR : Hid (¬ P) := fun h => by have := hr.2 h; cases this
      clear hr
      go_wp2
      go_ret
      exact WOpenIs.no HR.out rfl HB1.out
    · clear hr
      go_wp2
      go_ret
      exact WOpenIs.yes rfl HB1.out
  · have hz1 : (0 : Int) < (s.size : Int) := by omega
    have hz2 : 0 < s.size := by omega
    have hz3 : ((s.size : Nat) : Int) - 1 = ((s.size - 1 : Nat) : Int) := by omega
    have hz4 : s.size - 1 < s.size := by omega
    clear hz
    go_enter Tryz.func11, Tryz.ntmps11
    go_wp2_with fail
    go_at_call 20
    refine HC.out.mono ?_
    rintro e w1 ⟨⟨r, rfl, hr⟩, hb⟩
    have h0 := cell_below h0 hb
    have HB1 := Lib.hid hb
    clear hb
    cases r
    · have HR : Hid (¬ P) := fun h => by have := hr.2 h; cases this
      clear hr
      go_wp2_with fail
      go_at_call 21
      refine (H21.out _ _).mono ?_
      rintro e w2 ⟨rfl, rfl⟩
      cases hb1 : blankB (s[0]'hz2)
      · go_wp2_with fail
        go_at_call 21
        refine (H21.out _ _).mono ?_
        rintro e w2 ⟨rfl, rfl⟩
        cases hb2 : blankB (s[s.size - 1]'hz4)
        · go_wp2
          go_ret
          exact WOpenIs.no HR.out rfl HB1.out
        · go_wp2
          go_ret
          exact WOpenIs.yes rfl HB1.out
      · go_wp2
        go_ret
        exact WOpenIs.yes rfl HB1.out
    · clear hr
      go_wp2
      go_ret
      exact WOpenIs.yes rfl HB1.out
set_option maxRecDepth 100000 in
set_option maxHeartbeats 1000000 in
theorem f11_r_sep_n (P : Prop) (s : ByteArray) (hs : s.size ≤ 100000) (g c : Nat) (w : World) (h0 : w.cell? ⟨g, 0, none⟩ = some (.int .i64 4)) (hC : Calls Tryz.prog 20 #[.string ⟨#[114, 115, 112, 108, 105, 116]⟩, .slice (some ⟨g, 0, none⟩) 1 c] w (OpenIs P w)) :
    Calls Tryz.prog 11 #[.string s, .string ⟨#[114, 115, 112, 108, 105, 116]⟩, .slice (some ⟨g, 0, none⟩) 1 c] w (WOpenIs P w) := by
  have HC := Lib.hid hC
  have H21 := Lib.hid (fun b w => f21_any b w)
  clear hC
  by_cases hz : s.size = 0
  · go_enter Tryz.func11, Tryz.ntmps11
    go_wp2_with fail
    go_at_call 20
    refine HC.out.mono ?_
    rintro e w1 ⟨⟨r, rfl, hr⟩, hb⟩
    have h0 := cell_below h0 hb
    have HB1 := Lib.hid hb
    clear hb
    cases r
    · have HR : Hid (¬ P) := fun h => by have := hr.2 h; cases this
      clear hr
      go_wp2
      go_ret
      exact WOpenIs.no HR.out rfl HB1.out
    · clear hr
      go_wp2
      go_ret
      exact WOpenIs.yes rfl HB1.out
  · have hz1 : (0 : Int) < (s.size : Int) := by omega
    have hz2 : 0 < s.size := by omega
    have hz3 : ((s.size : Nat) : Int) - 1 = ((s.size - 1 : Nat) : Int) := by omega
    have hz4 : s.size - 1 < s.size := by omega
    clear hz
    go_enter Tryz.func11, Tryz.ntmps11
    go_wp2_with fail
    go_at_call 20
    refine HC.out.mono ?_
    rintro e w1 ⟨⟨r, rfl, hr⟩, hb⟩
    have h0 := cell_below h0 hb
    have HB1 := Lib.hid hb
    clear hb
    cases r
    · have HR : Hid (¬ P) := fun h => by have := hr.2 h; cases this
      clear hr
      go_wp2
      go_ret
      exact WOpenIs.no HR.out rfl HB1.out
    · clear hr
      go_wp2
      go_ret
      exact WOpenIs.yes rfl HB1.out
set_option maxRecDepth 100000 in
set_option maxHeartbeats 1000000 in
theorem f11_r_sep_b (P : Prop) (s : ByteArray) (hs : s.size ≤ 100000) (g c : Nat) (w : World) (h0 : w.cell? ⟨g, 0, none⟩ = some (.int .i64 4)) (hC : Calls Tryz.prog 20 #[.string ⟨#[114, 115, 112, 108, 105, 116]⟩, .slice (some ⟨g, 0, none⟩) 2 c] w (OpenIs P w)) :
    Calls Tryz.prog 11 #[.string s, .string ⟨#[114, 115, 112, 108, 105, 116]⟩, .slice (some ⟨g, 0, none⟩) 2 c] w (WOpenIs P w) := by
  have HC := Lib.hid hC
  have H21 := Lib.hid (fun b w => f21_any b w)
  clear hC
  by_cases hz : s.size = 0
  · go_enter Tryz.func11, Tryz.ntmps11
    go_wp2_with fail
    go_at_call 20
    refine HC.out.mono ?_
    rintro e w1 ⟨⟨r, rfl, hr⟩, hb⟩
    have h0 := cell_below h0 hb
    have HB1 := Lib.hid hb
    clear hb
    cases r
    · have HR : Hid (¬ P) := fun h => by have := hr.2 h; cases this
      clear hr
      go_wp2
      go_ret
      exact WOpenIs.no HR.out rfl HB1.out
    · clear hr
      go_wp2
      go_ret
      exact WOpenIs.yes rfl HB1.out
  · have hz1 : (0 : Int) < (s.size : Int) := by omega
    have hz2 : 0 < s.size := by omega
    have hz3 : ((s.size : Nat) : Int) - 1 = ((s.size - 1 : Nat) : Int) := by omega
    have hz4 : s.size - 1 < s.size := by omega
    clear hz
    go_enter Tryz.func11, Tryz.ntmps11
    go_wp2_with fail
    go_at_call 20
    refine HC.out.mono ?_
    rintro e w1 ⟨⟨r, rfl, hr⟩, hb⟩
    have h0 := cell_below h0 hb
    have HB1 := Lib.hid hb
    clear hb
    cases r
    · have HR : Hid (¬ P) := fun h => by have := hr.2 h; cases this
      clear hr
      go_wp2
      go_ret
      exact WOpenIs.no HR.out rfl HB1.out
    · clear hr
      go_wp2
      go_ret
      exact WOpenIs.yes rfl HB1.out
theorem f11_args (back : Bool) {k : Int} {t s : ByteArray} {mz : Option Int} {v : Value} {w : World} (hs : s.size ≤ 100000) (ht : t.size ≤ 100000) (hk : k = 0 ∨ k = 4) (h : ArgsAre k t mz v w) : Calls Tryz.prog 11 #[.string s, .string (nmOf back), v] w (WOpenIs (back = true ∧ k = 4 ∧ Ov t.data.toList) w) := by
  have hC := f20_args back ht hk h
  obtain ⟨g, c, h0, h4, h⟩ := h
  cases mz with
  | none =>
    subst h
    cases back
    · rcases hk with rfl | rfl
      · exact f11_l_word_n _ s hs g c w h0 hC
      · exact f11_l_sep_n _ s hs g c w h0 hC
    · rcases hk with rfl | rfl
      · exact f11_r_word_n _ s hs g c w h0 hC
      · exact f11_r_sep_n _ s hs g c w h0 hC
  | some z =>
    obtain ⟨rfl, _, h5, h6⟩ := h
    cases back
    · rcases hk with rfl | rfl
      · exact f11_l_word_b _ s hs g c w h0 hC
      · exact f11_l_sep_b _ s hs g c w h0 hC
    · rcases hk with rfl | rfl
      · exact f11_r_word_b _ s hs g c w h0 hC
      · exact f11_r_sep_b _ s hs g c w h0 hC
end Go.Proofs.YtgcofpmhojplhaaGreatDoor
