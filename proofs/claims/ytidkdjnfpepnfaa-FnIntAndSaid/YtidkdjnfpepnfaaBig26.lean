/- The walk of impl.IntSub. -/
import Derived.Test.YtidkdjnfpepnfaaBig25
namespace Go.Proofs.Ytidkdjnfpepnfaa
open Go.RowKit

theorem KInt.small {B : Nat} {w : World} {v : Value} {z : Int} (h : KInt B w v z) (hs : smallB z = true) : v = .agg #[.int .i64 z, .pointer none] := by
  rcases h with ⟨_, h⟩ | ⟨h, _⟩
  · exact h
  · rw [hs] at h; cases h
theorem f33_any (vx vy : Value) (x y : Int) (k : Nat) (hk : k ≤ 800) (hzx : x.natAbs < W ^ k) (hzy : y.natAbs < W ^ k) (Bx By : Nat) (w : World) (hx : KInt Bx w vx x) (hy : KInt By w vy y) :
    Calls Try.prog 33 #[vx, vy] w (MakesK (x - y) w) := by
  by_cases h : smallB x = true ∧ smallB y = true
  · rw [hx.small h.1, hy.small h.2]
    exact f33_small x y h.1 h.2 w
  · refine f33_great vx vy x y k hk hzx hzy Bx By w hx hy ?_
    cases h1 : smallB x <;> cases h2 : smallB y <;> simp_all

theorem vend {w w8 A : World} {v : Value} {Z : Int} {B3 n : Nat} (hA : Below w.heap.size w A) (h4 : Below (w.heap.size + 3) A w8) (hx : VInt B3 n w8 v Z) (hB : w.heap.size + 3 ≤ B3) (u0 u1 u2 u3 u4 u5 : Value) :
    VInt w.heap.size n ((((((w8.setCell ⟨w.heap.size + 1 + 1, 0, none⟩ u0).setCell ⟨w.heap.size + 1 + 1, 1, none⟩ u1).setCell ⟨w.heap.size + 1 + 1, 2, none⟩ u2).setCell ⟨w.heap.size + 1 + 1, 3, none⟩ u3).setCell ⟨w.heap.size + 1 + 1, 4, none⟩ u4).setCell ⟨w.heap.size + 1 + 1, 5, none⟩ u5) v Z ∧
    Below w.heap.size w ((((((w8.setCell ⟨w.heap.size + 1 + 1, 0, none⟩ u0).setCell ⟨w.heap.size + 1 + 1, 1, none⟩ u1).setCell ⟨w.heap.size + 1 + 1, 2, none⟩ u2).setCell ⟨w.heap.size + 1 + 1, 3, none⟩ u3).setCell ⟨w.heap.size + 1 + 1, 4, none⟩ u4).setCell ⟨w.heap.size + 1 + 1, 5, none⟩ u5) := by
  constructor
  · refine VInt.le (B := w.heap.size + 3) ?_ (by omega) (Nat.le_refl _)
    iterate 6 (refine VInt.setOld ?_ (show w.heap.size + 1 + 1 < w.heap.size + 3 by omega) _)
    exact hx.le hB (Nat.le_refl _)
  · iterate 6 (refine Below.setCell ?_ (show w.heap.size ≤ w.heap.size + 1 + 1 by omega) _)
    exact hA.trans (h4.mono (by omega))

/-- Two boxes of six cells each. -/
theorem boxes6 {w w' : World} {a0 a1 a2 a3 a4 a5 b0 b1 b2 b3 b4 b5 : Value} {o : Array Value} {t t' t'' : TypeId} (hb : Below (w.heap.size + 3) (((w.alloc (.cells #[a0, a1, a2, a3, a4, a5] t)).alloc (.cells #[b0, b1, b2, b3, b4, b5] t')).alloc (.cells o t'')) w') :
    w'.cell? ⟨w.heap.size, 0, none⟩ = some a0 ∧ w'.cell? ⟨w.heap.size, 1, none⟩ = some a1 ∧ w'.cell? ⟨w.heap.size, 2, none⟩ = some a2 ∧ w'.cell? ⟨w.heap.size, 3, none⟩ = some a3 ∧ w'.cell? ⟨w.heap.size, 4, none⟩ = some a4 ∧ w'.cell? ⟨w.heap.size, 5, none⟩ = some a5 ∧
    w'.cell? ⟨w.heap.size + 1, 0, none⟩ = some b0 ∧ w'.cell? ⟨w.heap.size + 1, 1, none⟩ = some b1 ∧ w'.cell? ⟨w.heap.size + 1, 2, none⟩ = some b2 ∧ w'.cell? ⟨w.heap.size + 1, 3, none⟩ = some b3 ∧ w'.cell? ⟨w.heap.size + 1, 4, none⟩ = some b4 ∧ w'.cell? ⟨w.heap.size + 1, 5, none⟩ = some b5 := by
  obtain ⟨⟨p0, p1, p2⟩, _⟩ := later3 hb (Nat.le_refl _)
  exact ⟨p0 0, p0 1, p0 2, p0 3, p0 4, p0 5, p1 0, p1 1, p1 2, p1 3, p1 4, p1 5⟩

set_option maxRecDepth 100000 in
set_option maxHeartbeats 4000000 in
theorem f16_any (m : Nat) (hm : m ≤ 4000) (vx vy : Value) (x y : Int) (Bx By : Nat) (w : World) (hx : VInt Bx m w vx x) (hy : VInt By m w vy y) : Calls Try.prog 16 #[vx, vy] w (MakesV 8000 (x - y) w) := by
  have HLX : Hid (x.natAbs < W ^ (m / 8 + 1)) := by
    obtain ⟨_, l, _, _, hb, hl⟩ := hx
    exact Nat.lt_of_lt_of_le hb.lt (pow_words _ _ (by omega))
  have HLY : Hid (y.natAbs < W ^ (m / 8 + 1)) := by
    obtain ⟨_, l, _, _, hb, hl⟩ := hy
    exact Nat.lt_of_lt_of_le hb.lt (pow_words _ _ (by omega))
  obtain ⟨d1, a1, k1, c1, rfl⟩ := hx.shape
  obtain ⟨d2, a2, k2, c2, rfl⟩ := hy.shape
  have HM : Hid (m ≤ 4000 ∧ m / 8 + 1 ≤ 800) := ⟨hm, by omega⟩
  have hA : Below w.heap.size w (((w.alloc (.cells #[.int .i64 2, .bool d1, .slice a1 k1 c1, .int .u64 0, .string ⟨#[]⟩, .slice none 0 0] 27)).alloc (.cells #[.int .i64 2, .bool d2, .slice a2 k2 c2, .int .u64 0, .string ⟨#[]⟩, .slice none 0 0] 27)).alloc (.cells #[.int .i64 0, .bool false, .slice none 0 0, .int .u64 0, .string ⟨#[]⟩, .slice none 0 0] 27)) := (((Below.refl _ _).alloc (Nat.le_refl _) _).alloc (by simp) _).alloc (by simp; omega) _
  have HA := Lib.hid hA
  have HVX := Lib.hid (hx.below hA (Nat.le_refl _))
  have HVY := Lib.hid (hy.below hA (Nat.le_refl _))
  have HB2 := Lib.hid (Below.refl (w.heap.size + 3) (((w.alloc (.cells #[.int .i64 2, .bool d1, .slice a1 k1 c1, .int .u64 0, .string ⟨#[]⟩, .slice none 0 0] 27)).alloc (.cells #[.int .i64 2, .bool d2, .slice a2 k2 c2, .int .u64 0, .string ⟨#[]⟩, .slice none 0 0] 27)).alloc (.cells #[.int .i64 0, .bool false, .slice none 0 0, .int .u64 0, .string ⟨#[]⟩, .slice none 0 0] 27)))
  have n0 : w.heap.size ≠ w.heap.size + 2 := by omega
  have n1 : w.heap.size + 1 ≠ w.heap.size + 2 := by omega
  clear hx hy hA hm
  go_enter Try.func16, Try.ntmps16
  go_wp2_with fail
  have S2 := boxes6 HB2.out
  have S2d := boxes6 HB2.out.drew
  go_region_held3 (fun w' => w'.cell? ⟨w.heap.size, 0, none⟩ = some (.int .i64 2) ∧ w'.cell? ⟨w.heap.size, 1, none⟩ = some (.bool d1) ∧ w'.cell? ⟨w.heap.size, 2, none⟩ = some (.slice a1 k1 c1) ∧ w'.cell? ⟨w.heap.size, 3, none⟩ = some (.int .u64 0) ∧ w'.cell? ⟨w.heap.size, 4, none⟩ = some (.string ⟨#[]⟩) ∧ w'.cell? ⟨w.heap.size, 5, none⟩ = some (.slice none 0 0) ∧ w'.cell? ⟨w.heap.size + 1, 0, none⟩ = some (.int .i64 2) ∧ w'.cell? ⟨w.heap.size + 1, 1, none⟩ = some (.bool d2) ∧ w'.cell? ⟨w.heap.size + 1, 2, none⟩ = some (.slice a2 k2 c2) ∧ w'.cell? ⟨w.heap.size + 1, 3, none⟩ = some (.int .u64 0) ∧ w'.cell? ⟨w.heap.size + 1, 4, none⟩ = some (.string ⟨#[]⟩) ∧ w'.cell? ⟨w.heap.size + 1, 5, none⟩ = some (.slice none 0 0))
    (first
      | with_reducible exact S8
      | with_reducible exact S7
      | with_reducible exact S6
      | with_reducible exact S5
      | with_reducible exact S2
      | with_reducible exact S2d
      | (obtain ⟨e0, e1, e2, e3, e4, e5, f0, f1, f2, f3, f4, f5⟩ := S8; refine ⟨?_, ?_, ?_, ?_, ?_, ?_, ?_, ?_, ?_, ?_, ?_, ?_⟩ <;> (repeat (with_reducible refine set_other ?_ (by first | exact n0 | exact n1))) <;> with_reducible assumption)
      | go_keep)
    (first
      | (go_at_call_of 28 (Value.agg #[.int .i64 2, .bool d1, .slice a1 k1 c1, .int .u64 0, .string ⟨#[]⟩, .slice none 0 0]); refine (f28_any m HM.out.1 _ x Bx _ (by exact HVX.out)).mono ?_; rintro e w5 ⟨v5, rfl, hk5, hb5⟩; have HK5 := Lib.hid hk5; have HB5 := Lib.hid (HB2.out.drew.trans (hb5.mono (by simp))); have L5 : w.heap.size + 3 ≤ w5.heap.size := (by have := hb5.size; simpa using this); have S5 := boxes6 HB5.out; have HVY5 := Lib.hid (HVY.out.below (show Below _ _ _ from HB5.out) (by simp)); clear hk5 hb5)
      | (go_at_call 28; refine (f28_any m HM.out.1 _ y By w5 HVY5.out).mono ?_; rintro e w6 ⟨v6, rfl, hk6, hb6⟩; have HK6 := Lib.hid hk6; have HKX6 := Lib.hid (HK5.out.below hb6 (Nat.le_refl _)); have HB6 := Lib.hid (HB5.out.trans (hb6.mono L5)); have L6 : w.heap.size + 3 ≤ w6.heap.size := Nat.le_trans L5 hb6.size; have S6 := boxes6 HB6.out; clear hk6 hb6)
      | (go_at_call 33; refine (f33_any v5 v6 x y (m / 8 + 1) HM.out.2 HLX.out HLY.out _ _ w6 HKX6.out HK6.out).mono ?_; rintro e w7 ⟨v7, rfl, hk7, hb7⟩; have HK7 := Lib.hid hk7; have HB7 := Lib.hid (HB6.out.trans (hb7.mono L6)); have L7 : w.heap.size + 3 ≤ w7.heap.size := Nat.le_trans L6 hb7.size; have S7 := boxes6 HB7.out; clear hk7 hb7)
      | (go_at_call 20; refine (f20_any v7 (x - y) _ w7 HK7.out).mono ?_; rintro e w8 ⟨v8, rfl, hv8, hb8⟩; obtain ⟨d8, a8, k8, c8, rfl⟩ := hv8.shape; have HV8 := Lib.hid (hv8.le L7 (Nat.le_refl _)); have HB8 := Lib.hid (HB7.out.trans (hb8.mono L7)); obtain ⟨⟨t0, t1, t2⟩, u0, u1, u2⟩ := later3 HB8.out (Nat.le_refl _); have S8 := boxes6 HB8.out; clear hv8 hb8))
  have HE := Lib.hid (fun u0 u1 u2 u3 u4 u5 => vend HA.out HB8.out HV8.out (Nat.le_refl _) u0 u1 u2 u3 u4 u5)
  go_wp2
  refine bodyPost_ret (v := .agg #[.int .i64 2, .bool d8, .slice a8 k8 c8, .int .u64 0, .string ⟨#[]⟩, .slice none 0 0]) (by simp [results, Try.results16, go_sem, t2]) rfl ?_
  exact ⟨_, rfl, (HE.out _ _ _ _ _ _).1, (HE.out _ _ _ _ _ _).2⟩
end Go.Proofs.Ytidkdjnfpepnfaa
