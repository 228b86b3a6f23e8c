/- Walks of the package's ints: And. -/
import Derived.Test.YtidkdjnfpepnfaaBig26
import Derived.Test.YtidkdjnfpepnfaaBw6
namespace Go.Proofs.Ytidkdjnfpepnfaa
open Go.RowKit

theorem small_u {x : Int} (h : -2147483648 ≤ x ∧ x ≤ 2147483647) : (if x < 0 then x.natAbs - 1 else x.natAbs) < 2147483648 := by split <;> omega
theorem i64_and (x y : Int) (hx : -2147483648 ≤ x ∧ x ≤ 2147483647) (hy : -2147483648 ≤ y ∧ y ≤ 2147483647) : bits BinOp.and IntKind.i64 x y = andZ x y := by
  have hu := small_u hx
  have hv := small_u hy
  have hc : ∀ z : Int, -2147483648 ≤ z ∧ z ≤ 2147483647 → (BitVec.ofInt 64 z).toNat = cpl 64 (decide (z < 0)) (if z < 0 then z.natAbs - 1 else z.natAbs) := fun z hz => by
    rw [BitVec.toNat_ofInt]
    unfold cpl
    by_cases h : z < 0
    · simp only [h, decide_true, if_true]; omega
    · simp only [h, decide_false, if_false]; simp; omega
  have hb := back_and 64 (by decide) x y (by omega) (by omega)
  rw [← hb]
  show IntKind.i64.wrap (((BitVec.ofInt 64 x &&& BitVec.ofInt 64 y).toNat : Nat) : Int) = _
  rw [BitVec.toNat_and, hc x hx, hc y hy, IntKind.wrap_i64]
  have hR : cpl 64 (decide (x < 0)) (if x < 0 then x.natAbs - 1 else x.natAbs) &&& cpl 64 (decide (y < 0)) (if y < 0 then y.natAbs - 1 else y.natAbs) < 2 ^ 64 := Nat.and_lt_two_pow _ (cpl_lt 64 _ _ (by omega))
  generalize cpl 64 (decide (x < 0)) (if x < 0 then x.natAbs - 1 else x.natAbs) &&& cpl 64 (decide (y < 0)) (if y < 0 then y.natAbs - 1 else y.natAbs) = R at *
  unfold backZ
  split <;> omega
theorem andZ_small {x y : Int} (hx : -2147483648 ≤ x ∧ x ≤ 2147483647) (hy : -2147483648 ≤ y ∧ y ≤ 2147483647) : smallB (andZ x y) = true := by
  have h := andZ_range 32 (by decide) x y (small_u hx) (small_u hy)
  rw [smallB_iff]
  omega

set_option maxRecDepth 100000 in
set_option maxHeartbeats 2000000 in
theorem f35_small (x y : Int) (hx : smallB x = true) (hy : smallB y = true) (w : World) :
    Calls Try.prog 35 #[.agg #[.int .i64 x, .pointer none], .agg #[.int .i64 y, .pointer none]] w (MakesK (andZ x y) w) := by
  have hx1 := (smallB_iff x).1 hx
  have hy1 := (smallB_iff y).1 hy
  have HF : Hid (∀ w, Calls Try.prog 41 #[.int .i64 (bits BinOp.and IntKind.i64 x y)] w fun e w' => e = .returned (.agg #[.int .i64 (andZ x y), .pointer none]) ∧ Below w.heap.size w w') := fun w => by
    rw [i64_and x y hx1 hy1]; exact f41_any _ w
  have HS := Lib.hid (andZ_small hx1 hy1)
  have HA : Hid (Below w.heap.size w (((w.alloc (.cells #[.int .i64 x, .pointer none] 49)).alloc (.cells #[.int .i64 y, .pointer none] 49)).alloc (.cells #[.int .i64 0, .pointer none] 49))) := (((Below.refl _ _).alloc (Nat.le_refl _) _).alloc (by simp) _).alloc (by simp; omega) _
  clear hx hy
  obtain ⟨hx1, hx2⟩ := hx1
  obtain ⟨hy1, hy2⟩ := hy1
  go_enter Try.func35, Try.ntmps35
  go_wp2_with fail
  refine (f51_any x none _).mono ?_
  rintro e w1 ⟨rfl, hb⟩
  have HB : Hid (Below (w.heap.size + 3) _ w1) := hb.mono (by simp)
  obtain ⟨⟨c0, c1, c2⟩, g0, g1, g2⟩ := later3 HB.out (Nat.le_refl _)
  clear hb
  go_wp2_with fail
  refine (f51_any y none _).mono ?_
  rintro e w2 ⟨rfl, hb⟩
  have HB2 := Lib.hid (HB.out.trans (hb.mono (by have := HB.out.size; simpa using this)))
  clear c0 c1 c2 g0 g1 g2 hb HB
  obtain ⟨⟨c0, c1, c2⟩, g0, g1, g2⟩ := later3 HB2.out (Nat.le_refl _)
  go_wp2_with fail
  refine (HF.out _).mono ?_
  rintro e w3 ⟨rfl, hb⟩
  have hz := HB2.out.size
  simp at hz
  have HB3 := Lib.hid (HB2.out.trans (hb.mono (by omega)))
  clear c0 c1 c2 g0 g1 g2 hb HB2 HF
  obtain ⟨⟨c0, c1, c2⟩, g0, g1, g2⟩ := later3 HB3.out (Nat.le_refl _)
  have HE := Lib.hid (fun u1 u2 => kend HA.out HB3.out (show KInt (w.heap.size + 3) w3 (.agg #[.int .i64 (andZ x y), .pointer none]) (andZ x y) from .inl ⟨HS.out, rfl⟩) (Nat.le_refl _) u1 u2)
  go_wp2_with fail
  refine bodyPost_ret (v := .agg #[.int .i64 (andZ x y), .pointer none]) (by simp [results, Try.results35, go_sem, c2]) rfl ?_
  exact ⟨_, rfl, (HE.out _ _).1, (HE.out _ _).2⟩

set_option maxRecDepth 100000 in
set_option maxHeartbeats 4000000 in
theorem f35_great (vx vy : Value) (x y : Int) (k : Nat) (hk : k ≤ 800) (hzx : x.natAbs < W ^ k) (hzy : y.natAbs < W ^ k) (Bx By : Nat) (w : World) (hx : KInt Bx w vx x) (hy : KInt By w vy y) (hbig : smallB x = false ∨ smallB y = false) :
    Calls Try.prog 35 #[vx, vy] w (MakesK (andZ x y) w) := by
  obtain ⟨ax, px, rfl⟩ := hx.shape
  obtain ⟨ay, py, rfl⟩ := hy.shape
  have HPX := Lib.hid hx.ptrLt
  have HPY := Lib.hid hy.ptrLt
  have hp : (∃ p, px = some p) ∨ (px = none ∧ ∃ p, py = some p) := by
    rcases hx with ⟨hs, h⟩ | ⟨_, g, _, _, h, _⟩
    · rcases hy with ⟨hs2, h2⟩ | ⟨_, g2, _, _, h2, _⟩
      · rw [hs, hs2] at hbig; simp at hbig
      · simp at h h2; exact .inr ⟨h.2, _, h2.2⟩
    · simp at h; exact .inl ⟨_, h.2⟩
  have hA : Below w.heap.size w (((w.alloc (.cells #[.int .i64 ax, .pointer px] 49)).alloc (.cells #[.int .i64 ay, .pointer py] 49)).alloc (.cells #[.int .i64 0, .pointer none] 49)) := (((Below.refl _ _).alloc (Nat.le_refl _) _).alloc (by simp) _).alloc (by simp; omega) _
  have HA := Lib.hid hA
  have HKX := Lib.hid (hx.below hA (Nat.le_refl _))
  have HKY := Lib.hid (hy.below hA (Nat.le_refl _))
  have HL : Hid (k ≤ 800 ∧ x.natAbs < W ^ k ∧ y.natAbs < W ^ k) := ⟨hk, hzx, hzy⟩
  clear hx hy hA hbig hk hzx hzy
  rcases hp with ⟨p, rfl⟩ | ⟨rfl, p, rfl⟩
  · go_enter Try.func35, Try.ntmps35
    go_wp2_with fail
    refine (f51_any ax _ _).mono ?_
    rintro e w1 ⟨rfl, hb⟩
    have HB : Hid (Below (w.heap.size + 3) _ w1) := hb.mono (by simp)
    obtain ⟨⟨c0, c1, c2⟩, g0, g1, g2⟩ := later3 HB.out (Nat.le_refl _)
    clear hb
    go_wp2_with fail
    refine (f51_any ay _ _).mono ?_
    rintro e w2 ⟨rfl, hb⟩
    have HB2 := Lib.hid (HB.out.trans (hb.mono (by have := HB.out.size; simpa using this)))
    clear c0 c1 c2 g0 g1 g2 hb HB
    obtain ⟨⟨c0, c1, c2⟩, g0, g1, g2⟩ := later3 HB2.out (Nat.le_refl _)
    have hz2 : w.heap.size + 3 ≤ w2.heap.size := by have := HB2.out.size; simpa using this
    have HKX2 := Lib.hid (HKX.out.below HB2.out (by simp))
    have HKY2 := Lib.hid (HKY.out.below HB2.out (by simp))
    have n0 : w.heap.size ≠ w.heap.size + 2 := by omega
    have n1 : w.heap.size + 1 ≠ w.heap.size + 2 := by omega
    clear HKX HKY
    go_wp2_with fail
    have S2 := boxes3 HB2.out
    go_region_held3 (fun w' => w'.cell? ⟨w.heap.size, 0, none⟩ = some (.int .i64 ax) ∧ w'.cell? ⟨w.heap.size, 1, none⟩ = some (.pointer (some p)) ∧ w'.cell? ⟨w.heap.size + 1, 0, none⟩ = some (.int .i64 ay) ∧ w'.cell? ⟨w.heap.size + 1, 1, none⟩ = some (.pointer py))
      (first
        | with_reducible exact S8
        | with_reducible exact S7
        | with_reducible exact S6
        | with_reducible exact S5
        | with_reducible exact S2
        | with_reducible exact boxes3 (HB6.out.alloc L6 _)
        | with_reducible exact boxes3 (HB5.out.alloc L5 _)
        | with_reducible exact boxes3 (HB5.out.alloc L5 _).drew
        | with_reducible exact boxes3 (HB5.out.drew.alloc L5 _)
        | with_reducible exact boxes3 HB5.out.drew
        | with_reducible exact boxes3 (HB2.out.alloc hz2 _)
        | with_reducible exact boxes3 (HB2.out.alloc hz2 _).drew
        | with_reducible exact boxes3 (HB2.out.drew.alloc hz2 _)
        | with_reducible exact boxes3 HB2.out.drew
        | (refine ⟨?_, ?_, ?_, ?_⟩ <;> (repeat (with_reducible refine set_other ?_ (by first | exact n0 | exact n1))) <;> first | with_reducible exact S8.1 | with_reducible exact S8.2.1 | with_reducible exact S8.2.2.1 | with_reducible exact S8.2.2.2)
        | go_keep)
      (first
        | (go_at_call_of 50 (Value.agg #[.int .i64 ax, .pointer (some p)]); refine (f50_any _ x Bx _ (HKX2.out.below (B := w2.heap.size) ?_ (Nat.le_refl _)) _ HPX.out).mono ?_; (first | with_reducible exact Below.refl _ _ | with_reducible exact (Below.refl _ _).drew | with_reducible exact (Below.refl _ _).alloc (Nat.le_refl _) _ | with_reducible exact ((Below.refl _ _).alloc (Nat.le_refl _) _).drew | with_reducible exact ((Below.refl _ _).drew).alloc (Nat.le_refl _) _); rintro e w5 ⟨gx, slx, xs, rfl, hgx, hxb, hbx⟩; have BX5 : Hid (Below w2.heap.size w2 w5) := (by refine (fun (h : Below w2.heap.size w2 _) => h.trans (hbx.mono h.size)) ?_; first | with_reducible exact Below.refl _ _ | with_reducible exact (Below.refl _ _).drew | with_reducible exact (Below.refl _ _).alloc (Nat.le_refl _) _ | with_reducible exact ((Below.refl _ _).alloc (Nat.le_refl _) _).drew | with_reducible exact ((Below.refl _ _).drew).alloc (Nat.le_refl _) _); have HX5 := Lib.hid hxb; have HB5 := Lib.hid (HB2.out.trans (BX5.out.mono hz2)); have S5 := boxes3 HB5.out; have L5 : w.heap.size + 3 ≤ w5.heap.size := Nat.le_trans hz2 BX5.out.size; (try (have NA5 : Hid (New w5 w2.heap.size) := (hbx.block w2.heap.size (by simp)).trans (New.made w2))); clear hxb hbx hgx)
        | (go_at_call_of 50 (Value.agg #[.int .i64 ay, .pointer py]); refine (f50_any _ y By _ ((HKY2.out.below BX5.out (Nat.le_refl _)).below (B := w5.heap.size) ?_ (Nat.le_refl _)) _ HPY.out).mono ?_; (first | with_reducible exact Below.refl _ _ | with_reducible exact (Below.refl _ _).drew | with_reducible exact (Below.refl _ _).alloc (Nat.le_refl _) _ | with_reducible exact ((Below.refl _ _).alloc (Nat.le_refl _) _).drew | with_reducible exact ((Below.refl _ _).drew).alloc (Nat.le_refl _) _); rintro e w6 ⟨gy, sly, ys, rfl, hgy, hyb, hby⟩; have BY6 : Hid (Below w5.heap.size w5 w6) := (by refine (fun (h : Below w5.heap.size w5 _) => h.trans (hby.mono h.size)) ?_; first | with_reducible exact Below.refl _ _ | with_reducible exact (Below.refl _ _).drew | with_reducible exact (Below.refl _ _).alloc (Nat.le_refl _) _ | with_reducible exact ((Below.refl _ _).alloc (Nat.le_refl _) _).drew | with_reducible exact ((Below.refl _ _).drew).alloc (Nat.le_refl _) _); have HY6 := Lib.hid hyb; have HX6 := Lib.hid (HX5.out.below BY6.out (Nat.le_refl _)); have HB6 := Lib.hid (HB5.out.trans (BY6.out.mono L5)); have S6 := boxes3 HB6.out; have L6 : w.heap.size + 3 ≤ w6.heap.size := Nat.le_trans L5 BY6.out.size; (try (have NB6 : Hid (New w6 w5.heap.size) := (hby.block w5.heap.size (by simp)).trans (New.made w5))); (try (have NA6 : Hid (New w6 w2.heap.size) := (BY6.out.block w2.heap.size (Array.getElem?_eq_some_iff.1 NA5.out).1).trans NA5.out)); clear hyb hby hgy)
        | (go_at_call 54; refine (f54_any w2.heap.size gx gy x y 0 0 slx sly xs ys w6 NA6.out HX6.out HY6.out (HX6.out.num.le_of HL.out.2.1 HL.out.1) (HY6.out.num.le_of HL.out.2.2 HL.out.1)).mono ?_; rintro e w7 ⟨rfl, hgr, sl7, xs7, hx7⟩; have HX7 := Lib.hid (hx7.le (B' := w.heap.size + 3) (by omega)); have HB7 := Lib.hid (HB6.out.grown hgr (by omega) (by intro q hq; cases hq; omega)); have L7 : w.heap.size + 3 ≤ w7.heap.size := (by have := hgr.size; (try simp at this); omega); have S7 := boxes3 HB7.out; clear hgr hx7)
        | (go_at_call 54; refine (f54_any w5.heap.size gx gy x y 0 0 slx sly xs ys w6 NB6.out HX6.out HY6.out (HX6.out.num.le_of HL.out.2.1 HL.out.1) (HY6.out.num.le_of HL.out.2.2 HL.out.1)).mono ?_; rintro e w7 ⟨rfl, hgr, sl7, xs7, hx7⟩; have HX7 := Lib.hid (hx7.le (B' := w.heap.size + 3) (by omega)); have HB7 := Lib.hid (HB6.out.grown hgr (by omega) (by intro q hq; cases hq; omega)); have L7 : w.heap.size + 3 ≤ w7.heap.size := (by have := hgr.size; (try simp at this); omega); have S7 := boxes3 HB7.out; clear hgr hx7)
        | (go_at_call 54; refine (f54_any w6.heap.size gx gy x y 0 0 slx sly xs ys (w6.alloc _) (New.made w6) (HX6.out.below ((Below.refl _ _).alloc (Nat.le_refl _) _) (Nat.le_refl _)) (HY6.out.below ((Below.refl _ _).alloc (Nat.le_refl _) _) (Nat.le_refl _)) (HX6.out.num.le_of HL.out.2.1 HL.out.1) (HY6.out.num.le_of HL.out.2.2 HL.out.1)).mono ?_; rintro e w7 ⟨rfl, hgr, sl7, xs7, hx7⟩; have HX7 := Lib.hid (hx7.le (B' := w.heap.size + 3) (by simp; omega)); have HB7 := Lib.hid ((HB6.out.alloc L6 _).grown hgr (by simp; omega) (by intro q hq; cases hq; omega)); have L7 : w.heap.size + 3 ≤ w7.heap.size := (by have := hgr.size; (try simp at this); omega); have S7 := boxes3 HB7.out; clear hgr hx7)
        | (go_at_call 48; refine (f48_any _ _ (andZ x y) sl7 xs7 w7 HX7.out).mono ?_; rintro e w8 ⟨v8, rfl, hk8, hb8⟩; obtain ⟨a8, p8, rfl⟩ := hk8.shape; have HK8 := Lib.hid (hk8.le L7); have HB8 := Lib.hid (HB7.out.trans (hb8.mono L7)); obtain ⟨⟨t0, t1, t2⟩, u0, u1, u2⟩ := later3 HB8.out (Nat.le_refl _); have S8 := boxes3 HB8.out; clear hk8 hb8))
    all_goals
      have HE := Lib.hid (fun u1 u2 => kend HA.out HB8.out HK8.out (Nat.le_refl _) u1 u2)
      go_wp2
      refine bodyPost_ret (v := .agg #[.int .i64 a8, .pointer p8]) (by simp [results, Try.results35, go_sem, t2]) rfl ?_
      exact ⟨_, rfl, (HE.out _ _).1, (HE.out _ _).2⟩
  · go_enter Try.func35, Try.ntmps35
    go_wp2_with fail
    refine (f51_any ax _ _).mono ?_
    rintro e w1 ⟨rfl, hb⟩
    have HB : Hid (Below (w.heap.size + 3) _ w1) := hb.mono (by simp)
    obtain ⟨⟨c0, c1, c2⟩, g0, g1, g2⟩ := later3 HB.out (Nat.le_refl _)
    clear hb
    go_wp2_with fail
    refine (f51_any ay _ _).mono ?_
    rintro e w2 ⟨rfl, hb⟩
    have HB2 := Lib.hid (HB.out.trans (hb.mono (by have := HB.out.size; simpa using this)))
    clear c0 c1 c2 g0 g1 g2 hb HB
    obtain ⟨⟨c0, c1, c2⟩, g0, g1, g2⟩ := later3 HB2.out (Nat.le_refl _)
    have hz2 : w.heap.size + 3 ≤ w2.heap.size := by have := HB2.out.size; simpa using this
    have HKX2 := Lib.hid (HKX.out.below HB2.out (by simp))
    have HKY2 := Lib.hid (HKY.out.below HB2.out (by simp))
    have n0 : w.heap.size ≠ w.heap.size + 2 := by omega
    have n1 : w.heap.size + 1 ≠ w.heap.size + 2 := by omega
    clear HKX HKY
    go_wp2_with fail
    have S2 := boxes3 HB2.out
    go_region_held3 (fun w' => w'.cell? ⟨w.heap.size, 0, none⟩ = some (.int .i64 ax) ∧ w'.cell? ⟨w.heap.size, 1, none⟩ = some (.pointer none) ∧ w'.cell? ⟨w.heap.size + 1, 0, none⟩ = some (.int .i64 ay) ∧ w'.cell? ⟨w.heap.size + 1, 1, none⟩ = some (.pointer (some p)))
      (first
        | with_reducible exact S8
        | with_reducible exact S7
        | with_reducible exact S6
        | with_reducible exact S5
        | with_reducible exact S2
        | with_reducible exact boxes3 (HB6.out.alloc L6 _)
        | with_reducible exact boxes3 (HB5.out.alloc L5 _)
        | with_reducible exact boxes3 (HB5.out.alloc L5 _).drew
        | with_reducible exact boxes3 (HB5.out.drew.alloc L5 _)
        | with_reducible exact boxes3 HB5.out.drew
        | with_reducible exact boxes3 (HB2.out.alloc hz2 _)
        | with_reducible exact boxes3 (HB2.out.alloc hz2 _).drew
        | with_reducible exact boxes3 (HB2.out.drew.alloc hz2 _)
        | with_reducible exact boxes3 HB2.out.drew
        | (refine ⟨?_, ?_, ?_, ?_⟩ <;> (repeat (with_reducible refine set_other ?_ (by first | exact n0 | exact n1))) <;> first | with_reducible exact S8.1 | with_reducible exact S8.2.1 | with_reducible exact S8.2.2.1 | with_reducible exact S8.2.2.2)
        | go_keep)
      (first
        | (go_at_call_of 50 (Value.agg #[.int .i64 ax, .pointer none]); refine (f50_any _ x Bx _ (HKX2.out.below (B := w2.heap.size) ?_ (Nat.le_refl _)) _ HPX.out).mono ?_; (first | with_reducible exact Below.refl _ _ | with_reducible exact (Below.refl _ _).drew | with_reducible exact (Below.refl _ _).alloc (Nat.le_refl _) _ | with_reducible exact ((Below.refl _ _).alloc (Nat.le_refl _) _).drew | with_reducible exact ((Below.refl _ _).drew).alloc (Nat.le_refl _) _); rintro e w5 ⟨gx, slx, xs, rfl, hgx, hxb, hbx⟩; have BX5 : Hid (Below w2.heap.size w2 w5) := (by refine (fun (h : Below w2.heap.size w2 _) => h.trans (hbx.mono h.size)) ?_; first | with_reducible exact Below.refl _ _ | with_reducible exact (Below.refl _ _).drew | with_reducible exact (Below.refl _ _).alloc (Nat.le_refl _) _ | with_reducible exact ((Below.refl _ _).alloc (Nat.le_refl _) _).drew | with_reducible exact ((Below.refl _ _).drew).alloc (Nat.le_refl _) _); have HX5 := Lib.hid hxb; have HB5 := Lib.hid (HB2.out.trans (BX5.out.mono hz2)); have S5 := boxes3 HB5.out; have L5 : w.heap.size + 3 ≤ w5.heap.size := Nat.le_trans hz2 BX5.out.size; (try (have NA5 : Hid (New w5 w2.heap.size) := (hbx.block w2.heap.size (by simp)).trans (New.made w2))); clear hxb hbx hgx)
        | (go_at_call_of 50 (Value.agg #[.int .i64 ay, .pointer (some p)]); refine (f50_any _ y By _ ((HKY2.out.below BX5.out (Nat.le_refl _)).below (B := w5.heap.size) ?_ (Nat.le_refl _)) _ HPY.out).mono ?_; (first | with_reducible exact Below.refl _ _ | with_reducible exact (Below.refl _ _).drew | with_reducible exact (Below.refl _ _).alloc (Nat.le_refl _) _ | with_reducible exact ((Below.refl _ _).alloc (Nat.le_refl _) _).drew | with_reducible exact ((Below.refl _ _).drew).alloc (Nat.le_refl _) _); rintro e w6 ⟨gy, sly, ys, rfl, hgy, hyb, hby⟩; have BY6 : Hid (Below w5.heap.size w5 w6) := (by refine (fun (h : Below w5.heap.size w5 _) => h.trans (hby.mono h.size)) ?_; first | with_reducible exact Below.refl _ _ | with_reducible exact (Below.refl _ _).drew | with_reducible exact (Below.refl _ _).alloc (Nat.le_refl _) _ | with_reducible exact ((Below.refl _ _).alloc (Nat.le_refl _) _).drew | with_reducible exact ((Below.refl _ _).drew).alloc (Nat.le_refl _) _); have HY6 := Lib.hid hyb; have HX6 := Lib.hid (HX5.out.below BY6.out (Nat.le_refl _)); have HB6 := Lib.hid (HB5.out.trans (BY6.out.mono L5)); have S6 := boxes3 HB6.out; have L6 : w.heap.size + 3 ≤ w6.heap.size := Nat.le_trans L5 BY6.out.size; (try (have NB6 : Hid (New w6 w5.heap.size) := (hby.block w5.heap.size (by simp)).trans (New.made w5))); (try (have NA6 : Hid (New w6 w2.heap.size) := (BY6.out.block w2.heap.size (Array.getElem?_eq_some_iff.1 NA5.out).1).trans NA5.out)); clear hyb hby hgy)
        | (go_at_call 54; refine (f54_any w2.heap.size gx gy x y 0 0 slx sly xs ys w6 NA6.out HX6.out HY6.out (HX6.out.num.le_of HL.out.2.1 HL.out.1) (HY6.out.num.le_of HL.out.2.2 HL.out.1)).mono ?_; rintro e w7 ⟨rfl, hgr, sl7, xs7, hx7⟩; have HX7 := Lib.hid (hx7.le (B' := w.heap.size + 3) (by omega)); have HB7 := Lib.hid (HB6.out.grown hgr (by omega) (by intro q hq; cases hq; omega)); have L7 : w.heap.size + 3 ≤ w7.heap.size := (by have := hgr.size; (try simp at this); omega); have S7 := boxes3 HB7.out; clear hgr hx7)
        | (go_at_call 54; refine (f54_any w5.heap.size gx gy x y 0 0 slx sly xs ys w6 NB6.out HX6.out HY6.out (HX6.out.num.le_of HL.out.2.1 HL.out.1) (HY6.out.num.le_of HL.out.2.2 HL.out.1)).mono ?_; rintro e w7 ⟨rfl, hgr, sl7, xs7, hx7⟩; have HX7 := Lib.hid (hx7.le (B' := w.heap.size + 3) (by omega)); have HB7 := Lib.hid (HB6.out.grown hgr (by omega) (by intro q hq; cases hq; omega)); have L7 : w.heap.size + 3 ≤ w7.heap.size := (by have := hgr.size; (try simp at this); omega); have S7 := boxes3 HB7.out; clear hgr hx7)
        | (go_at_call 54; refine (f54_any w6.heap.size gx gy x y 0 0 slx sly xs ys (w6.alloc _) (New.made w6) (HX6.out.below ((Below.refl _ _).alloc (Nat.le_refl _) _) (Nat.le_refl _)) (HY6.out.below ((Below.refl _ _).alloc (Nat.le_refl _) _) (Nat.le_refl _)) (HX6.out.num.le_of HL.out.2.1 HL.out.1) (HY6.out.num.le_of HL.out.2.2 HL.out.1)).mono ?_; rintro e w7 ⟨rfl, hgr, sl7, xs7, hx7⟩; have HX7 := Lib.hid (hx7.le (B' := w.heap.size + 3) (by simp; omega)); have HB7 := Lib.hid ((HB6.out.alloc L6 _).grown hgr (by simp; omega) (by intro q hq; cases hq; omega)); have L7 : w.heap.size + 3 ≤ w7.heap.size := (by have := hgr.size; (try simp at this); omega); have S7 := boxes3 HB7.out; clear hgr hx7)
        | (go_at_call 48; refine (f48_any _ _ (andZ x y) sl7 xs7 w7 HX7.out).mono ?_; rintro e w8 ⟨v8, rfl, hk8, hb8⟩; obtain ⟨a8, p8, rfl⟩ := hk8.shape; have HK8 := Lib.hid (hk8.le L7); have HB8 := Lib.hid (HB7.out.trans (hb8.mono L7)); obtain ⟨⟨t0, t1, t2⟩, u0, u1, u2⟩ := later3 HB8.out (Nat.le_refl _); have S8 := boxes3 HB8.out; clear hk8 hb8))
    all_goals
      have HE := Lib.hid (fun u1 u2 => kend HA.out HB8.out HK8.out (Nat.le_refl _) u1 u2)
      go_wp2
      refine bodyPost_ret (v := .agg #[.int .i64 a8, .pointer p8]) (by simp [results, Try.results35, go_sem, t2]) rfl ?_
      exact ⟨_, rfl, (HE.out _ _).1, (HE.out _ _).2⟩
theorem f35_any (vx vy : Value) (x y : Int) (k : Nat) (hk : k ≤ 800) (hzx : x.natAbs < W ^ k) (hzy : y.natAbs < W ^ k) (Bx By : Nat) (w : World) (hx : KInt Bx w vx x) (hy : KInt By w vy y) :
    Calls Try.prog 35 #[vx, vy] w (MakesK (andZ x y) w) := by
  by_cases h : smallB x = true ∧ smallB y = true
  · rw [hx.small h.1, hy.small h.2]
    exact f35_small x y h.1 h.2 w
  · refine f35_great vx vy x y k hk hzx hzy Bx By w hx hy ?_
    cases h1 : smallB x <;> cases h2 : smallB y <;> simp_all

set_option maxRecDepth 100000 in
set_option maxHeartbeats 4000000 in
theorem f18_any (m : Nat) (hm : m ≤ 4000) (vx vy : Value) (x y : Int) (Bx By : Nat) (w : World) (hx : VInt Bx m w vx x) (hy : VInt By m w vy y) : Calls Try.prog 18 #[vx, vy] w (MakesV 8000 (andZ x y) w) := by
  have HLX : Hid (x.natAbs < W ^ (m / 8 + 1)) := by
    obtain ⟨_, l, _, _, hb, hl⟩ := hx
    exact Nat.lt_of_lt_of_le hb.lt (pow_words _ _ (by omega))
  have HLY : Hid (y.natAbs < W ^ (m / 8 + 1)) := by
    obtain ⟨_, l, _, _, hb, hl⟩ := hy
    exact Nat.lt_of_lt_of_le hb.lt (pow_words _ _ (by omega))
  obtain ⟨d1, a1, k1, c1, rfl⟩ := hx.shape
  obtain ⟨d2, a2, k2, c2, rfl⟩ := hy.shape
  have HM : Hid (m ≤ 4000 ∧ m / 8 + 1 ≤ 800) := ⟨hm, by omega⟩
  have hA : Below w.heap.size w (((w.alloc (.cells #[.int .i64 2, .bool d1, .slice a1 k1 c1, .int .u64 0, .string ⟨#[]⟩, .slice none 0 0] 27)).alloc (.cells #[.int .i64 2, .bool d2, .slice a2 k2 c2, .int .u64 0, .string ⟨#[]⟩, .slice none 0 0] 27)).alloc (.cells #[.int .i64 0, .bool false, .slice none 0 0, .int .u64 0, .string ⟨#[]⟩, .slice none 0 0] 27)) := (((Below.refl _ _).alloc (Nat.le_refl _) _).alloc (by simp) _).alloc (by simp; omega) _
  have HA := Lib.hid hA
  have HVX := Lib.hid (hx.below hA (Nat.le_refl _))
  have HVY := Lib.hid (hy.below hA (Nat.le_refl _))
  have HB2 := Lib.hid (Below.refl (w.heap.size + 3) (((w.alloc (.cells #[.int .i64 2, .bool d1, .slice a1 k1 c1, .int .u64 0, .string ⟨#[]⟩, .slice none 0 0] 27)).alloc (.cells #[.int .i64 2, .bool d2, .slice a2 k2 c2, .int .u64 0, .string ⟨#[]⟩, .slice none 0 0] 27)).alloc (.cells #[.int .i64 0, .bool false, .slice none 0 0, .int .u64 0, .string ⟨#[]⟩, .slice none 0 0] 27)))
  have n0 : w.heap.size ≠ w.heap.size + 2 := by omega
  have n1 : w.heap.size + 1 ≠ w.heap.size + 2 := by omega
  clear hx hy hA hm
  go_enter Try.func18, Try.ntmps18
  go_wp2_with fail
  have S2 := boxes6 HB2.out
  have S2d := boxes6 HB2.out.drew
  go_region_held3 (fun w' => w'.cell? ⟨w.heap.size, 0, none⟩ = some (.int .i64 2) ∧ w'.cell? ⟨w.heap.size, 1, none⟩ = some (.bool d1) ∧ w'.cell? ⟨w.heap.size, 2, none⟩ = some (.slice a1 k1 c1) ∧ w'.cell? ⟨w.heap.size, 3, none⟩ = some (.int .u64 0) ∧ w'.cell? ⟨w.heap.size, 4, none⟩ = some (.string ⟨#[]⟩) ∧ w'.cell? ⟨w.heap.size, 5, none⟩ = some (.slice none 0 0) ∧ w'.cell? ⟨w.heap.size + 1, 0, none⟩ = some (.int .i64 2) ∧ w'.cell? ⟨w.heap.size + 1, 1, none⟩ = some (.bool d2) ∧ w'.cell? ⟨w.heap.size + 1, 2, none⟩ = some (.slice a2 k2 c2) ∧ w'.cell? ⟨w.heap.size + 1, 3, none⟩ = some (.int .u64 0) ∧ w'.cell? ⟨w.heap.size + 1, 4, none⟩ = some (.string ⟨#[]⟩) ∧ w'.cell? ⟨w.heap.size + 1, 5, none⟩ = some (.slice none 0 0))
    (first
      | with_reducible exact S8
      | with_reducible exact S7
      | with_reducible exact S6
      | with_reducible exact S5
      | with_reducible exact S2
      | with_reducible exact S2d
      | (obtain ⟨e0, e1, e2, e3, e4, e5, f0, f1, f2, f3, f4, f5⟩ := S8; refine ⟨?_, ?_, ?_, ?_, ?_, ?_, ?_, ?_, ?_, ?_, ?_, ?_⟩ <;> (repeat (with_reducible refine set_other ?_ (by first | exact n0 | exact n1))) <;> with_reducible assumption)
      | go_keep)
    (first
      | (go_at_call_of 28 (Value.agg #[.int .i64 2, .bool d1, .slice a1 k1 c1, .int .u64 0, .string ⟨#[]⟩, .slice none 0 0]); refine (f28_any m HM.out.1 _ x Bx _ (by exact HVX.out)).mono ?_; rintro e w5 ⟨v5, rfl, hk5, hb5⟩; have HK5 := Lib.hid hk5; have HB5 := Lib.hid (HB2.out.drew.trans (hb5.mono (by simp))); have L5 : w.heap.size + 3 ≤ w5.heap.size := (by have := hb5.size; simpa using this); have S5 := boxes6 HB5.out; have HVY5 := Lib.hid (HVY.out.below (show Below _ _ _ from HB5.out) (by simp)); clear hk5 hb5)
      | (go_at_call 28; refine (f28_any m HM.out.1 _ y By w5 HVY5.out).mono ?_; rintro e w6 ⟨v6, rfl, hk6, hb6⟩; have HK6 := Lib.hid hk6; have HKX6 := Lib.hid (HK5.out.below hb6 (Nat.le_refl _)); have HB6 := Lib.hid (HB5.out.trans (hb6.mono L5)); have L6 : w.heap.size + 3 ≤ w6.heap.size := Nat.le_trans L5 hb6.size; have S6 := boxes6 HB6.out; clear hk6 hb6)
      | (go_at_call 35; refine (f35_any v5 v6 x y (m / 8 + 1) HM.out.2 HLX.out HLY.out _ _ w6 HKX6.out HK6.out).mono ?_; rintro e w7 ⟨v7, rfl, hk7, hb7⟩; have HK7 := Lib.hid hk7; have HB7 := Lib.hid (HB6.out.trans (hb7.mono L6)); have L7 : w.heap.size + 3 ≤ w7.heap.size := Nat.le_trans L6 hb7.size; have S7 := boxes6 HB7.out; clear hk7 hb7)
      | (go_at_call 20; refine (f20_any v7 (andZ x y) _ w7 HK7.out).mono ?_; rintro e w8 ⟨v8, rfl, hv8, hb8⟩; obtain ⟨d8, a8, k8, c8, rfl⟩ := hv8.shape; have HV8 := Lib.hid (hv8.le L7 (Nat.le_refl _)); have HB8 := Lib.hid (HB7.out.trans (hb8.mono L7)); obtain ⟨⟨t0, t1, t2⟩, u0, u1, u2⟩ := later3 HB8.out (Nat.le_refl _); have S8 := boxes6 HB8.out; clear hv8 hb8))
  have HE := Lib.hid (fun u0 u1 u2 u3 u4 u5 => vend HA.out HB8.out HV8.out (Nat.le_refl _) u0 u1 u2 u3 u4 u5)
  go_wp2
  refine bodyPost_ret (v := .agg #[.int .i64 2, .bool d8, .slice a8 k8 c8, .int .u64 0, .string ⟨#[]⟩, .slice none 0 0]) (by simp [results, Try.results18, go_sem, t2]) rfl ?_
  exact ⟨_, rfl, (HE.out _ _ _ _ _ _).1, (HE.out _ _ _ _ _ _).2⟩
end Go.Proofs.Ytidkdjnfpepnfaa
