/- The walk of laws.FnIntOfU64: the reference's small integers, the package's MakeUint64. -/
import Derived.Test.YtidkdjnfpepnfaaSp6
namespace Go.Proofs.Ytidkdjnfpepnfaa
open Go.RowKit

theorem byte_step (u p : Nat) : u % 256 ^ p + u / 256 ^ p % 256 * 256 ^ p = u % 256 ^ (p + 1) := by
  rw [Nat.pow_succ 256 p, Nat.mod_mul, Nat.mul_comm (256 ^ p)]

set_option maxRecDepth 100000 in
set_option maxHeartbeats 1000000 in
theorem f23_any (u : Nat) (hu : u < 18446744073709551616) (w : World) :
    Calls Try.prog 23 #[.int .u64 u] w fun e w' => ∃ v ys, e = .returned v ∧ Row w.heap.size .u8 w' v ys ∧ ys.length = 8 ∧ (∀ d ∈ ys, d < 256) ∧ bv ys = u ∧ Below w.heap.size w w' := by
  obtain ⟨i0, hi, hz0, hz1, hz2⟩ := info_parts info5
  have hmk := fun w : World => run_make (P := Try.prog) w 24 5 i0 (.int .u8 0) Try.underlying24 hi hz0 .i64 .i64 8 8 (by omega) (by omega) (by rw [hz2]; omega) (by omega)
  simp only [hz1, show (8 : Int).toNat = 8 from rfl, Nat.mul_one] at hmk
  have HO := Lib.hid (ownB_made w 8 8 (Nat.le_refl _) (by simp [maxLen]))
  go_enter Try.func23, Try.ntmps23
  go_wp2_with fail
  go_loopw [0, 4] (fun vu vi wr => ∃ p d : Nat, vu = .int .u64 d ∧ vi = .int .i64 (7 - (p : Int)) ∧ p ≤ 8 ∧ Hid (d = u / 256 ^ p) ∧ ∃ ys, Hid (Put 8 p (u % 256 ^ p) ys) ∧ Hid (OwnB w.heap.size wr w.heap.size 8 8 ys) ∧ Hid (Below w.heap.size w wr)) (fun _ vi _ => (1 + intOf vi).toNat)
  case atStart => exact ⟨0, u, rfl, rfl, by omega, by show _ = _; simp, _, by show Put _ _ _ _; simpa [Nat.mod_one] using Put.start 8, HO.out, (Below.refl _ _).alloc (Nat.le_refl _) _⟩
  case round =>
    obtain ⟨p, d, rfl, rfl, hp, HD, ys, HP, HOr, HB⟩ := hrel
    by_cases hp8 : p < 8
    · have hq : 7 - p < 8 := by omega
      have eq : (7 - (p : Int)) = ((7 - p : Nat) : Int) := by omega
      have HI : Hid (7 - p + p + 1 = 8) := by show _ = _; omega
      generalize 7 - p = q at *
      have zc := HOr.out.cell q hq
      have zf := HOr.out.free q
      have HO' := Lib.hid (HOr.out.stored q (d % 256))
      have HP' : Hid (Put 8 (p + 1) (u % 256 ^ (p + 1)) (ys.set q (d % 256))) := by
        have := HP.out.step (d % 256) (by omega) q HI.out
        rw [HD.out, byte_step] at this
        show Put _ _ _ _
        rw [HD.out]; exact this
      have HD' : Hid (d / 256 = u / 256 ^ (p + 1)) := by show _ = _; rw [HD.out, word_div]
      generalize ys.getD q 0 = y0 at *
      have hge : (0 : Int) ≤ 7 - (p : Int) := by omega
      clear HD HP
      go_wp2
      exact ⟨⟨p + 1, d / 256, by go_num, congrArg (Value.int .i64) (by omega), by omega, HD', _, HP', by show OwnB _ _ _ _ _ _; simpa using HO'.out, HB.out.setCell (p := ⟨w.heap.size, q, none⟩) (Nat.le_refl _) _⟩, by simp [intOf]; omega⟩
    · obtain rfl : p = 8 := by omega
      have HV : Hid (bv ys = u) := by
        have := HP.out.sum
        rw [Nat.sub_self] at this
        show bv ys = u
        rw [show bv ys = bv (ys.drop 0) from rfl, this]
        exact Nat.mod_eq_of_lt hu
      go_wp2
      go_ret
      exact ⟨_, ys, rfl, HOr.out.row, HOr.out.len, HP.out.low, HV.out, HB.out⟩

set_option maxRecDepth 100000 in
set_option maxHeartbeats 1000000 in
theorem f10_any (u : Nat) (hu : u < 9223372036854775808) (w : World) : Calls Try.prog 10 #[.int .i64 u] w (MakesS 8 u w) := by
  go_enter Try.func10, Try.ntmps10
  go_wp2_with fail
  refine (f23_any u (by omega) _).mono ?_
  rintro e w1 ⟨v, ys, rfl, hr, hl, hd, hv, hb⟩
  have HR := Lib.hid hr
  have HD := Lib.hid hd
  have HV := Lib.hid hv
  have HL := Lib.hid hl
  have HB : Hid (Below (w.heap.size + 1) _ w1) := hb.mono (by simp)
  have hz1 : w.heap.size + 1 ≤ w1.heap.size := by have := hb.size; simpa using this
  clear hr hd hv hl hb
  go_wp2_with fail
  refine (f22_any false v ys (by rw [HL.out]; omega) HD.out _ _ HR.out).mono ?_
  rintro e w2 ⟨v2, rfl, hs, hb⟩
  obtain ⟨d2, a2, k2, c2, rfl⟩ := hs.shape
  have HS := Lib.hid (hs.le (B' := w.heap.size + 1) (m := 8) hz1 (by have := strip_len ys; have := HL.out; omega))
  have HB2 := Lib.hid (HB.out.trans (hb.mono hz1))
  obtain ⟨c0, f0⟩ := later HB2.out (by omega)
  have HQ : Hid (signed false (bv ys) = (u : Int)) := by show _ = _; rw [HV.out]; rfl
  clear hs hb HR HB
  go_wp2_with fail
  refine bodyPost_ret (v := .agg #[.bool d2, .slice a2 k2 c2]) (by simp [results, Try.results10, go_sem, c0]) rfl ?_
  refine ⟨_, rfl, ?_, ?_⟩
  · rw [← HQ.out]
    refine SInt.le (B := w.heap.size + 1) (n := 8) ?_ (by omega) (Nat.le_refl _)
    iterate 2 (refine SInt.setOld ?_ (show w.heap.size < w.heap.size + 1 by omega) _)
    exact HS.out
  · iterate 2 (refine Below.setCell ?_ (show w.heap.size ≤ w.heap.size by omega) _)
    exact ((Below.refl _ _).alloc (Nat.le_refl _) _).trans (HB2.out.mono (by omega))

set_option maxRecDepth 100000 in
set_option maxHeartbeats 1000000 in
theorem f72_any (x : Nat) (hx : x < W) (w : World) : Calls Try.prog 72 #[.slice none 0 0, .int .u64 x] w (MakesNat x w) := by
  by_cases h0 : x = 0
  · subst h0
    go_enter Try.func72, Try.ntmps72
    go_wp2
    go_ret
    exact ⟨_, [], rfl, .inl ⟨rfl, .inl rfl⟩, isW_nil, Below.refl _ _⟩
  · have hne : ((x : Int) == 0) = false := by rw [beq_eq_false_iff_ne]; omega
    have HW := Lib.hid (isW_one x h0 hx)
    clear h0 hx
    go_enter Try.func72, Try.ntmps72
    go_wp2_with fail
    refine (f73_any 1 (by omega) (by omega) _).mono ?_
    rintro e w1 ⟨g, c, rfl, ho, hb⟩
    have hlow := ho.low
    have hcap := ho.cap
    have zc := ho.cell 0 (by omega)
    have zf := ho.free 0
    have HO' := Lib.hid (ho.stored 0 x)
    have HB := Lib.hid hb
    have HE : Hid ((List.replicate 1 0).set 0 x = [x]) := rfl
    simp only [List.replicate, List.getD_cons_zero] at zc
    clear ho hb
    go_wp2_with fail
    go_ret
    refine ⟨_, [x], rfl, ?_, HW.out, HB.out.setCell (p := ⟨g, 0, none⟩) hlow.1 _⟩
    rw [← HE.out]
    exact HO'.out.row

set_option maxRecDepth 100000 in
theorem f59_any (x : Nat) (hx : x < W) (w : World) : Calls Try.prog 59 #[.slice none 0 0, .int .u64 x] w (MakesNat x w) := by
  have HF := Lib.hid (f72_any x hx w)
  clear hx
  go_enter Try.func59, Try.ntmps59
  go_wp2_with fail
  refine HF.out.mono ?_
  rintro e w1 ⟨v, xs, rfl, hr, hw, hb⟩
  have HR := Lib.hid hr
  have HW := Lib.hid hw
  have HB := Lib.hid hb
  clear hr hw hb
  go_wp2_with fail
  go_ret
  exact ⟨v, xs, rfl, HR.out, HW.out, HB.out⟩

set_option maxRecDepth 100000 in
set_option maxHeartbeats 1000000 in
theorem f43_any (g x : Nat) (hx : x < W) (w : World) (hn : New w g) :
    Calls Try.prog 43 #[.pointer (some ⟨g, 0, none⟩), .int .u64 x] w (SetPost g x w) := by
  have HF := Lib.hid (f59_any x hx w)
  have zl : g < w.heap.size := (Array.getElem?_eq_some_iff.1 hn).1
  have z1 : w.cell? ⟨g, 1, none⟩ = some (.slice none 0 0) := by simp [World.cell?, show w.heap[g]? = _ from hn]
  have HN := Lib.hid (show w.heap[g]? = _ from hn)
  have HX : Hid (x < W ^ 1) := by show _ < _; simpa using hx
  clear hn hx
  go_enter Try.func43, Try.ntmps43
  go_wp2_with fail
  refine HF.out.mono ?_
  rintro e w2 ⟨v2, xs, rfl, hrow, hnum, hb⟩
  obtain ⟨a2, k2, rfl⟩ := hrow.len
  have HR := Lib.hid hrow
  have HM := Lib.hid hnum
  have HB := Lib.hid hb
  have HBK := Lib.hid ((hb.block g zl).trans HN.out)
  have f2 := fun i => Joins.unfrozen_of_block HBK.out i
  have c2 := fun i => Joins.cell_of_block HBK.out i
  clear hrow hnum hb
  go_wp2_with fail
  go_ret
  refine ⟨rfl, ?_, .slice a2 xs.length k2, xs, ?_, ?_, by simpa using HM.out, Nat.le_trans (HM.out.len_le HX.out) (by omega)⟩
  · exact ((below_grownBy HB.out _).setCell g 1 _).setCell g 0 _
  · rw [natAbs_nat]
    exact Joins.block_setCell (Joins.block_setCell HBK.out (i := 1) _) (i := 0) _
  · exact Row.setOld (Row.setOld HR.out zl _) zl _

set_option maxRecDepth 100000 in
set_option maxHeartbeats 1000000 in
theorem f21_any (x : Nat) (hx : x < W) (w : World) : Calls Try.prog 21 #[.int .u64 x] w (MakesK x w) := by
  by_cases hs : x ≤ 2147483647
  · have HS : Hid (smallB x = true) := by show _ = _; unfold smallB; simp; omega
    have hs' : (x : Int) ≤ 2147483647 := by omega
    clear hs hx
    go_enter Try.func21, Try.ntmps21
    go_wp2_with fail
    refine (f41_any x _).mono ?_
    rintro e w1 ⟨rfl, hb⟩
    obtain ⟨c, f⟩ := later hb (by simp)
    have HB : Hid (Below w.heap.size w w1) := ((Below.refl _ _).alloc (Nat.le_refl _) _).trans (hb.mono (by simp))
    clear hb
    go_wp2_with fail
    refine bodyPost_ret (v := .agg #[.int .i64 x, .pointer none]) (by simp [results, Try.results21, go_sem, c]) rfl ?_
    refine ⟨_, rfl, .inl ⟨HS.out, rfl⟩, ?_⟩
    iterate 2 (refine Below.setCell ?_ (show w.heap.size ≤ w.heap.size by omega) _)
    exact HB.out
  · have HS : Hid (smallB x = false) := by show _ = _; unfold smallB; simp; omega
    have hgt : ¬ (x : Int) ≤ 2147483647 := by omega
    have HX := Lib.hid hx
    have HN : Hid (New ((w.alloc (.cells #[.int .i64 0, .pointer none] 49)).alloc (.cells #[.bool false, .slice none 0 0] 71)) (w.heap.size + 1)) := by
      show New _ _
      have := New.made (w.alloc (.cells #[.int .i64 0, .pointer none] 49))
      simpa using this
    clear hx hs
    go_enter Try.func21, Try.ntmps21
    go_wp2_with fail
    refine (f43_any _ x HX.out _ HN.out).mono ?_
    rintro e w1 ⟨rfl, hgr, sl2, xs2, hx2⟩
    obtain ⟨a2, k2, rfl⟩ := hx2.row.len
    have HX3 : Hid (BInt (w.heap.size + 1) w1 (w.heap.size + 1) x (.slice a2 xs2.length k2) xs2) := hx2.le (by simp)
    have hb : Below (w.heap.size + 1) (w.alloc (.cells #[.int .i64 0, .pointer none] 49)) w1 := ((Below.refl _ _).alloc (by simp) _).grown hgr (by simp) (by intro q hq; cases hq; simp)
    have hz : w.heap.size + 2 ≤ w1.heap.size := by have := hgr.size; simpa using this
    have HB := Lib.hid hb
    clear hb hgr hx2 HN
    go_wp2_with fail
    refine (f42_any (w.heap.size + 1) _).mono ?_
    rintro e w2 ⟨rfl, hb2⟩
    have HX4 := Lib.hid (HX3.out.below hb2 (Nat.le_refl _))
    have HB2 : Hid (Below (w.heap.size + 1) (w.alloc (.cells #[.int .i64 0, .pointer none] 49)) w2) := HB.out.trans (hb2.mono (by omega))
    obtain ⟨c, f⟩ := later HB2.out (by simp)
    clear hb2 HX3
    go_wp2_with fail
    refine bodyPost_ret (v := .agg #[.int .i64 0, .pointer (some ⟨w.heap.size + 1, 0, none⟩)]) (by simp [results, Try.results21, go_sem, c]) rfl ?_
    refine ⟨_, rfl, .inr ⟨HS.out, w.heap.size + 1, .slice a2 xs2.length k2, xs2, rfl, by omega, ?_⟩, ?_⟩
    · refine BInt.le (B := w.heap.size + 1) ?_ (by omega)
      iterate 2 (refine BInt.setOld ?_ (by omega) (show w.heap.size < w.heap.size + 1 by omega) _)
      exact HX4.out
    · iterate 2 (refine Below.setCell ?_ (show w.heap.size ≤ w.heap.size by omega) _)
      exact ((Below.refl _ _).alloc (Nat.le_refl _) _).trans (HB2.out.mono (by omega))

set_option maxRecDepth 100000 in
set_option maxHeartbeats 1000000 in
theorem f9_any (x : Nat) (hx : x < W) (w : World) : Calls Try.prog 9 #[.int .u64 x] w (MakesV 8000 x w) := by
  have HX := Lib.hid hx
  clear hx
  go_enter Try.func9, Try.ntmps9
  go_wp2_with fail
  refine (f21_any x HX.out _).mono ?_
  rintro e w1 ⟨v1, rfl, hk, hb⟩
  have hz1 : w.heap.size + 1 ≤ w1.heap.size := by have := hb.size; simpa using this
  have HB : Hid (Below (w.heap.size + 1) _ w1) := hb.mono (by simp)
  have HK := Lib.hid hk
  clear hk hb
  go_wp2_with fail
  refine (f20_any _ x _ _ HK.out).mono ?_
  rintro e w2 ⟨v2, rfl, hv2, hb⟩
  obtain ⟨d2, a2, k2, c2, rfl⟩ := hv2.shape
  have HV2 := Lib.hid (hv2.le hz1 (Nat.le_refl _))
  have HB2 := Lib.hid (HB.out.trans (hb.mono hz1))
  obtain ⟨c0, f0⟩ := later HB2.out (Nat.le_refl _)
  clear hv2 hb HK
  go_wp2_with fail
  refine bodyPost_ret (v := .agg #[.int .i64 2, .bool d2, .slice a2 k2 c2, .int .u64 0, .string ⟨#[]⟩, .slice none 0 0]) (by simp [results, Try.results9, go_sem, c0]) rfl ?_
  refine ⟨_, rfl, ?_, ?_⟩
  · refine VInt.le (B := w.heap.size + 1) (n := 8000) ?_ (by omega) (Nat.le_refl _)
    iterate 6 (refine VInt.setOld ?_ (show w.heap.size < w.heap.size + 1 by omega) _)
    exact HV2.out
  · iterate 6 (refine Below.setCell ?_ (show w.heap.size ≤ w.heap.size by omega) _)
    exact ((Below.refl _ _).alloc (Nat.le_refl _) _).trans (HB2.out.mono (by omega))

set_option maxRecDepth 100000 in
set_option maxHeartbeats 1000000 in
theorem f3_core (n : Nat) (hn : n < 18446744073709551616) (w : World) :
    Calls Try.prog 3 #[.int .u64 n] w fun e w' => e = .returned (.bool true) ∧ Below w.heap.size w w' := by
  have HN : Hid (n < W) := hn
  have h1 : n / 2 < 9223372036854775808 := by omega
  have HH : Hid (n / 2 < 9223372036854775808) := h1
  have HE : Hid ((n : Int) / 2 + (n : Int) / 2 + (n : Int) % 2 = (n : Int)) := by show _ = _; omega
  have HF : Hid (∀ w, Calls Try.prog 10 #[.int .i64 ((n : Int) / 2)] w (MakesS 8 ((n : Int) / 2) w)) := fun w => by
    have := f10_any (n / 2) h1 w
    rwa [show ((n / 2 : Nat) : Int) = (n : Int) / 2 from by omega] at this
  have HG : Hid (∀ w, Calls Try.prog 10 #[.int .i64 ((n : Int) % 2)] w (MakesS 8 ((n : Int) % 2) w)) := fun w => by
    have := f10_any (n % 2) (by omega) w
    rwa [show ((n % 2 : Nat) : Int) = (n : Int) % 2 from by omega] at this
  have eb : bits .and .u64 (n : Int) 1 = (n : Int) % 2 := by
    have := (bits_nat .u64 64 (by decide) (fun n h1 h2 => wraps_u64 n h1 h2) n 1 (by omega) (by omega)).1
    rw [Nat.and_one_is_mod] at this
    rw [show ((1 : Nat) : Int) = 1 from rfl] at this
    rw [this]; omega
  clear hn HH
  go_enter Try.func3, Try.ntmps3
  go_wp2_with fail
  refine (f9_any n HN.out _).mono ?_
  rintro e w1 ⟨v1, rfl, hv, hb⟩
  obtain ⟨d1, a1, k1, c1, rfl⟩ := hv.shape
  have HV := Lib.hid hv
  have HB := Lib.hid hb
  clear hv hb
  go_wp2_with fail
  refine (HF.out _).mono ?_
  rintro e w2 ⟨v2, rfl, hs, hb⟩
  obtain ⟨d2, a2, k2, c2, rfl⟩ := hs.shape
  have HS2 := Lib.hid hs
  have HB2 := Lib.hid hb
  clear hs hb
  go_wp2_with fail
  refine (HF.out _).mono ?_
  rintro e w3 ⟨v3, rfl, hs, hb⟩
  obtain ⟨d3, a3, k3, c3, rfl⟩ := hs.shape
  have HS3 := Lib.hid hs
  have HB3 := Lib.hid hb
  clear hs hb
  go_wp2_with fail
  refine (f11_any 8 (by omega) _ _ _ _ 0 _ ((HS2.out.below HB3.out (Nat.le_refl _)).le (Nat.zero_le _) (Nat.le_refl _)) (HS3.out.le (Nat.zero_le _) (Nat.le_refl _))).mono ?_
  rintro e w4 ⟨v4, rfl, hs, hb⟩
  obtain ⟨d4, a4, k4, c4, rfl⟩ := hs.shape
  have HS4 := Lib.hid hs
  have HB4 := Lib.hid hb
  clear hs hb
  go_wp2_with fail
  refine (HG.out _).mono ?_
  rintro e w5 ⟨v5, rfl, hs, hb⟩
  obtain ⟨d5, a5, k5, c5, rfl⟩ := hs.shape
  have HS5 := Lib.hid hs
  have HB5 := Lib.hid hb
  clear hs hb
  go_wp2_with fail
  refine (f11_any 9 (by omega) _ _ _ _ 0 _ ((HS4.out.below HB5.out (Nat.le_refl _)).le (Nat.zero_le _) (Nat.le_refl _)) (HS5.out.le (Nat.zero_le _) (by omega))).mono ?_
  rintro e w6 ⟨v6, rfl, hs, hb⟩
  obtain ⟨d6, a6, k6, c6, rfl⟩ := hs.shape
  rw [HE.out] at hs
  have HS6 := Lib.hid hs
  have HB6 := Lib.hid hb
  have HV6 := Lib.hid (((((HV.out.below HB2.out (Nat.le_refl _)).below HB3.out (Nat.le_refl _)).below HB4.out (Nat.le_refl _)).below HB5.out (Nat.le_refl _)).below HB6.out (Nat.le_refl _))
  have HX6 := Lib.hid (ext_trans (ext_trans (ext_trans (ext_trans (ext_trans HB.out HB2.out) HB3.out) HB4.out) HB5.out) HB6.out)
  clear hs hb
  go_wp2_with fail
  refine (f8_any 8000 10 (by omega) _ _ n _ _ _ HV6.out HS6.out).mono ?_
  rintro e w7 ⟨rfl, hb⟩
  have HX7 := Lib.hid (ext_trans HX6.out hb)
  clear hb
  go_wp2_with fail
  go_ret
  exact ⟨rfl, HX7.out⟩

theorem f3_any (a : Int) (h : (Lit.int .u64 a).wf = true) (w : World) :
    Calls Try.prog 3 #[.int .u64 a] w fun e w' => e = .returned (.bool true) ∧ Below w.heap.size w w' := by
  simp [Lit.wf, show IntKind.u64.min = 0 from by decide, show IntKind.u64.max = 18446744073709551615 from by decide] at h
  obtain ⟨n, rfl⟩ := Int.eq_ofNat_of_zero_le h.1
  exact f3_core n (by omega) w
end Go.Proofs.Ytidkdjnfpepnfaa
