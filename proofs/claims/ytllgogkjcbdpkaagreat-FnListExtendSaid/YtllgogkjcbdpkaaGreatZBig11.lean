/- Written by wip/tools/port2.py out of the text Big11 of seat Ytidkdjnfpepnfaa. -/
/- Walks of the package's ints: get, NewInt, BigInt, Sign, number, IntBack. -/
import Derived.Test.YtllgogkjcbdpkaaGreatZBig10
namespace Go.Proofs.YtllgogkjcbdpkaaGreat.Z
open Go.RowKit

set_option maxRecDepth 100000 in
theorem f81_any (a : Int) (p : Option Addr) (w : World) : Calls Tryz.prog 81 #[.agg #[.int .i64 a, .pointer p]] w fun e w' => e = .returned (.tuple #[.int .i64 a, .pointer p]) ∧ Below w.heap.size w w' := by
  go_enter Tryz.func81, Tryz.ntmps81
  go_wp2_with fail
  go_quiet (fail)
  go_wp2
  refine bodyPost_ret (v := .tuple #[.int .i64 a, .pointer p]) (by simp [results, Tryz.results81, go_sem]) rfl ?_
  exact ⟨rfl, below_drewN ((Below.refl _ _).alloc (Nat.le_refl _) _) _⟩

def MakesB (z : Int) (w : World) (e : Ending) (w' : World) : Prop :=
  ∃ g sl xs, e = .returned (.pointer (some ⟨g, 0, none⟩)) ∧ w.heap.size ≤ g ∧ BInt w.heap.size w' g z sl xs ∧ Below w.heap.size w w'

/-- The sign of an integer. -/
def sgn (z : Int) : Int := if z = 0 then 0 else if z < 0 then -1 else 1

set_option maxRecDepth 100000 in
theorem f68_any (B g : Nat) (z : Int) (sl : Value) (xs : List Nat) (w : World) (hx : BInt B w g z sl xs) :
    Calls Tryz.prog 68 #[.pointer (some ⟨g, 0, none⟩)] w fun e w' => e = .returned (.int .i64 (sgn z)) ∧ w = w' := by
  have x0 := hx.neg
  have x1 := hx.abs
  obtain ⟨a, k, rfl⟩ := hx.row.len
  have HZ := Lib.hid hx.num.zero
  clear hx
  by_cases h0 : xs.length = 0
  · have e0 : Hid (sgn z = 0) := by
      have : z.natAbs = 0 := HZ.out.2 (List.eq_nil_of_length_eq_zero h0)
      show _ = _
      unfold sgn; simp; omega
    rw [h0] at x1
    go_enter Tryz.func68, Tryz.ntmps68
    go_wp2
    go_ret
    exact ⟨ret_int e0.out.symm, rfl⟩
  · have hz : z ≠ 0 := by
      rintro rfl
      have := HZ.out.1 rfl
      simp [this] at h0
    have hpos : (0 : Int) < xs.length := by omega
    have hne : ((xs.length : Int) == 0) = false := by rw [beq_eq_false_iff_ne]; omega
    by_cases hn : z < 0
    · have e0 : Hid (sgn z = -1) := by show _ = _; unfold sgn; simp [hz, hn]
      have hd : decide (z < 0) = true := by simpa using hn
      rw [hd] at x0
      clear hd hn hz h0
      go_enter Tryz.func68, Tryz.ntmps68
      go_wp2
      go_ret
      exact ⟨ret_int e0.out.symm, rfl⟩
    · have e0 : Hid (sgn z = 1) := by show _ = _; unfold sgn; simp [hz, hn]
      have hd : decide (z < 0) = false := by simpa using hn
      rw [hd] at x0
      clear hd hn hz h0
      go_enter Tryz.func68, Tryz.ntmps68
      go_wp2
      go_ret
      exact ⟨ret_int e0.out.symm, rfl⟩

theorem made_one (w : World) (z : Int) (m : Nat) (b : Bool) (hm : m = z.natAbs) (hz : z ≠ 0) (hb : decide (z < 0) = b) (hW : m < W) :
    BInt w.heap.size ((w.alloc (.cells #[.int .u64 (m : Int)] 164)).alloc (.cells #[.bool b, .slice (some ⟨w.heap.size, 0, none⟩) 1 1] 104)) (w.heap.size + 1) z (.slice (some ⟨w.heap.size, 0, none⟩) 1 1) [m] := by
  subst hm hb
  refine ⟨by simpa using heap_alloc_new (w.alloc (.cells #[.int .u64 (z.natAbs : Int)] 164)) _, ?_, isW_one _ (by omega) hW, by simp⟩
  refine Row.alloc (.inr ⟨by simp, w.heap.size, 0, 1, by simp, by simp, Nat.le_refl _, by simp, fun i hi => ?_⟩) _
  simp at hi
  subst hi
  simp [go_sem]

set_option maxRecDepth 100000 in
set_option maxHeartbeats 1000000 in
theorem f82_any (z : Int) (hs : smallB z = true) (w : World) : Calls Tryz.prog 82 #[.int .i64 z] w (MakesB z w) := by
  have h1 := (smallB_lt hs).1
  have h2 := (smallB_lt hs).2
  clear hs
  by_cases hz : z = 0
  · subst hz
    go_enter Tryz.func82, Tryz.ntmps82
    go_wp2
    go_ret
    refine ⟨w.heap.size, .slice none 0 0, [], rfl, Nat.le_refl _, ⟨by simpa using heap_alloc_new w _, .inl ⟨rfl, .inl rfl⟩, isW_nil, by simp⟩, (Below.refl _ _).alloc (Nat.le_refl _) _⟩
  · have hne : (z == 0) = false := by rw [beq_eq_false_iff_ne]; exact hz
    by_cases hn : z < 0
    · have hm : Hid (IntKind.u64.wrap (-IntKind.u64.wrap z) = (z.natAbs : Int)) := by show _ = _; rw [IntKind.wrap_u64, IntKind.wrap_u64]; omega
      have HM := Lib.hid (made_one w z z.natAbs true rfl hz (by simpa using hn) (by unfold W; omega))
      go_enter Tryz.func82, Tryz.ntmps82
      go_wp2
      go_ret
      refine ⟨w.heap.size + 1, .slice (some ⟨w.heap.size, 0, none⟩) 1 1, [z.natAbs], rfl, by omega, ?_, ((Below.refl _ _).alloc (Nat.le_refl _) _).alloc (by simp) _⟩
      rw [hm.out]; exact HM.out
    · have hm : Hid (z = (z.natAbs : Int)) := by show _ = _; omega
      have HM := Lib.hid (made_one w z z.natAbs false rfl hz (by simpa using hn) (by unfold W; omega))
      go_enter Tryz.func82, Tryz.ntmps82
      go_wp2
      go_ret
      refine ⟨w.heap.size + 1, .slice (some ⟨w.heap.size, 0, none⟩) 1 1, [z.natAbs], rfl, by omega, ?_, ((Below.refl _ _).alloc (Nat.le_refl _) _).alloc (by simp) _⟩
      have := HM.out
      rw [← hm.out] at this
      exact this

set_option maxRecDepth 100000 in
set_option maxHeartbeats 1000000 in
theorem f67_any (v : Value) (z : Int) (B : Nat) (w : World) (hk : KInt B w v z) : Calls Tryz.prog 67 #[v] w (MakesB z w) := by
  rcases hk with ⟨hs, rfl⟩ | ⟨hs, g, sl, xs, rfl, _, hx⟩
  · have HS := Lib.hid hs
    clear hs
    go_enter Tryz.func67, Tryz.ntmps67
    go_wp2_with fail
    refine (f81_any z none _).mono ?_
    rintro e w1 ⟨rfl, hb⟩
    have HB : Hid (Below w.heap.size w w1) := ((Below.refl _ _).alloc (Nat.le_refl _) _).trans (hb.mono (by simp))
    have hz1 : w.heap.size ≤ w1.heap.size := HB.out.size
    clear hb
    go_wp2_with fail
    refine (f82_any z HS.out _).mono ?_
    rintro e w2 ⟨g, sl, xs, rfl, hg, hx, hb2⟩
    have HX := Lib.hid (hx.le hz1)
    have HB2 := Lib.hid (HB.out.trans (hb2.mono hz1))
    clear hx hb2
    go_wp2_with fail
    go_ret
    exact ⟨g, sl, xs, rfl, by omega, HX.out, HB2.out⟩
  · have HX := Lib.hid hx
    have gl := hx.lt
    clear hx
    go_enter Tryz.func67, Tryz.ntmps67
    go_wp2_with fail
    refine (f81_any 0 _ _).mono ?_
    rintro e w1 ⟨rfl, hb⟩
    have HB : Hid (Below w.heap.size w w1) := ((Below.refl _ _).alloc (Nat.le_refl _) _).trans (hb.mono (by simp))
    have hz1 : w.heap.size ≤ w1.heap.size := HB.out.size
    have HX1 := Lib.hid ((HX.out.below HB.out (Nat.le_refl _)).below ((Below.refl w1.heap.size w1).alloc (Nat.le_refl _) (.cells #[.bool false, .slice none 0 0] 104)) (Nat.le_refl _))
    have HN := Lib.hid (New.made w1)
    have hne : w1.heap.size ≠ g := by omega
    clear hb HX
    go_wp2_with fail
    refine (f60_any w1.heap.size g z B sl xs _ HN.out HX1.out hne).mono ?_
    rintro e w2 ⟨rfl, hgr, sl2, xs2, hx2⟩
    have HX2 := Lib.hid (hx2.le (B' := w.heap.size) (by simp; omega))
    have HB2 : Hid (Below w.heap.size w w2) := HB.out.trans ((((Below.refl w1.heap.size w1).alloc (Nat.le_refl _) _).grown hgr (by simp) (by intro q hq; cases hq; exact Nat.le_refl _)).mono hz1)
    clear hx2 hgr HX1 HN
    go_wp2_with fail
    go_ret
    exact ⟨w1.heap.size, sl2, xs2, rfl, hz1, HX2.out, HB2.out⟩

theorem sgn_lt (z : Int) : decide (sgn z < 0) = decide (z < 0) := by
  unfold sgn; rw [Bool.eq_iff_iff]; simp; split <;> (try split) <;> omega

theorem VInt.shape {B n : Nat} {w : World} {v : Value} {z : Int} (h : VInt B n w v z) : ∃ d a k c, v = .agg #[.int .i64 2, .bool d, .slice a k c, .int .u64 0, .string ⟨#[]⟩, .slice none 0 0] := by
  obtain ⟨sl, l, rfl, hr, _⟩ := h
  obtain ⟨a, c, rfl⟩ := hr.len
  exact ⟨_, _, _, _, rfl⟩

set_option maxRecDepth 100000 in
set_option maxHeartbeats 1000000 in
theorem f53_any (v : Value) (z : Int) (B : Nat) (w : World) (hk : KInt B w v z) : Calls Tryz.prog 53 #[v] w (MakesV 8000 z w) := by
  obtain ⟨ka, kp, rfl⟩ := hk.shape
  have HK := Lib.hid ((hk.below ((Below.refl w.heap.size w).alloc (Nat.le_refl _) (.cells #[.int .i64 ka, .pointer kp] 76)) (Nat.le_refl _)).below ((Below.refl (w.heap.size + 1) (w.alloc (.cells #[.int .i64 ka, .pointer kp] 76))).alloc (by simp) (.cells #[.int .i64 0, .bool false, .slice none 0 0, .int .u64 0, .string ⟨#[]⟩, .slice none 0 0] 31)) (by simp))
  clear hk
  go_enter Tryz.func53, Tryz.ntmps53
  go_wp2_with fail
  refine (f67_any _ z _ _ HK.out).mono ?_
  rintro e w1 ⟨g, sl, xs, rfl, hg, hx, hb⟩
  have hz1 : w.heap.size + 2 ≤ w1.heap.size := by have := hb.size; simpa using this
  have HX := Lib.hid hx
  have HB : Hid (Below (w.heap.size + 2) _ w1) := hb.mono (by simp)
  have hc := later2 HB.out (Nat.le_refl _)
  have HS := Lib.hid (f68_any _ g z sl xs w1 hx)
  clear hx hb
  go_wp2_with fail
  refine HS.out.mono ?_
  rintro e w' ⟨rfl, rfl⟩
  have hs := sgn_lt z
  have HY := Lib.hid (f69_any _ g z sl xs w1 HX.out)
  clear HS HX
  go_wp2_with fail
  refine HY.out.mono ?_
  rintro e w2 ⟨v, l, rfl, hr, hB, hl, hb⟩
  obtain ⟨a, c, rfl⟩ := hr.len
  have HR := Lib.hid (hr.le hz1)
  have HBB := Lib.hid hB
  have HB2 := Lib.hid (HB.out.trans (hb.mono hz1))
  have hc := later2 HB2.out (Nat.le_refl _)
  obtain ⟨c0, f0, c1, f1⟩ := hc
  clear hr hB hb HY HB
  generalize hd : decide (z < 0) = d at *
  have HD := Lib.hid hd
  clear hd hs
  go_wp2_with fail
  refine bodyPost_ret (v := .agg #[.int .i64 2, .bool d, .slice a l.length c, .int .u64 0, .string ⟨#[]⟩, .slice none 0 0]) (by simp [results, Tryz.results53, go_sem, c1]) rfl ?_
  refine ⟨_, rfl, ?_, ?_⟩
  · refine VInt.le (B := w.heap.size + 2) (n := 8000) ?_ (by omega) (Nat.le_refl _)
    iterate 6 (refine VInt.setOld ?_ (show w.heap.size + 1 < w.heap.size + 2 by omega) _)
    exact ⟨_, l, by rw [HD.out], HR.out, HBB.out, hl⟩
  · iterate 6 (refine Below.setCell ?_ (show w.heap.size ≤ w.heap.size + 1 by omega) _)
    exact (((Below.refl _ _).alloc (Nat.le_refl _) _).alloc (by simp) _).trans (HB2.out.mono (by omega))

end Go.Proofs.YtllgogkjcbdpkaaGreat.Z
