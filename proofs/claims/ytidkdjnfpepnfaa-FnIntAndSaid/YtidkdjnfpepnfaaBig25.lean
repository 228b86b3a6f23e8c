/- Walks of the package's ints: Sub. -/
import Derived.Test.YtidkdjnfpepnfaaBig24
import Derived.Test.YtidkdjnfpepnfaaSp9
namespace Go.Proofs.Ytidkdjnfpepnfaa
open Go.RowKit

theorem kend {w w8 A : World} {v : Value} {Z : Int} {B3 : Nat} (hA : Below w.heap.size w A) (h4 : Below (w.heap.size + 3) A w8) (hx : KInt B3 w8 v Z) (hB : w.heap.size + 3 ≤ B3) (u1 u2 : Value) :
    KInt w.heap.size ((w8.setCell ⟨w.heap.size + 1 + 1, 0, none⟩ u1).setCell ⟨w.heap.size + 1 + 1, 1, none⟩ u2) v Z ∧ Below w.heap.size w ((w8.setCell ⟨w.heap.size + 1 + 1, 0, none⟩ u1).setCell ⟨w.heap.size + 1 + 1, 1, none⟩ u2) := by
  constructor
  · refine KInt.le (B := w.heap.size + 3) ?_ (by omega)
    iterate 2 (refine KInt.setOld ?_ (show w.heap.size + 1 + 1 < w.heap.size + 3 by omega) _)
    exact hx.le hB
  · iterate 2 (refine Below.setCell ?_ (show w.heap.size ≤ w.heap.size + 1 + 1 by omega) _)
    exact hA.trans (h4.mono (by omega))

set_option maxRecDepth 100000 in
set_option maxHeartbeats 2000000 in
theorem f33_small (x y : Int) (hx : smallB x = true) (hy : smallB y = true) (w : World) :
    Calls Try.prog 33 #[.agg #[.int .i64 x, .pointer none], .agg #[.int .i64 y, .pointer none]] w (MakesK (x - y) w) := by
  have hx1 := (smallB_iff x).1 hx
  have hy1 := (smallB_iff y).1 hy
  have HF := Lib.hid (fun w => f53_any (x - y) (by omega) (by omega) w)
  have ew : IntKind.i64.wrap (x - y) = x - y := by rw [IntKind.wrap_i64]; omega
  have hlo : -9223372036854775808 ≤ x - y := by omega
  have hhi : x - y < 9223372036854775808 := by omega
  have HA : Hid (Below w.heap.size w (((w.alloc (.cells #[.int .i64 x, .pointer none] 49)).alloc (.cells #[.int .i64 y, .pointer none] 49)).alloc (.cells #[.int .i64 0, .pointer none] 49))) := (((Below.refl _ _).alloc (Nat.le_refl _) _).alloc (by simp) _).alloc (by simp; omega) _
  clear hx hy
  obtain ⟨hx1, hx2⟩ := hx1
  obtain ⟨hy1, hy2⟩ := hy1
  go_enter Try.func33, Try.ntmps33
  go_wp2_with fail
  refine (f51_any x none _).mono ?_
  rintro e w1 ⟨rfl, hb⟩
  have HB : Hid (Below (w.heap.size + 3) _ w1) := hb.mono (by simp)
  obtain ⟨⟨c0, c1, c2⟩, g0, g1, g2⟩ := later3 HB.out (Nat.le_refl _)
  clear hb
  go_wp2_with fail
  refine (f51_any y none _).mono ?_
  rintro e w2 ⟨rfl, hb⟩
  have HB2 := Lib.hid (HB.out.trans (hb.mono (by have := HB.out.size; simpa using this)))
  clear c0 c1 c2 g0 g1 g2 hb HB
  obtain ⟨⟨c0, c1, c2⟩, g0, g1, g2⟩ := later3 HB2.out (Nat.le_refl _)
  go_wp2_with fail
  refine (HF.out _).mono ?_
  rintro e w3 ⟨v3, rfl, hk, hb⟩
  obtain ⟨ka, kp, rfl⟩ := hk.shape
  have hz := HB2.out.size
  simp at hz
  have HK := Lib.hid (hk.le (B' := w.heap.size + 3) (by omega))
  have HB3 := Lib.hid (HB2.out.trans (hb.mono (by omega)))
  clear c0 c1 c2 g0 g1 g2 hb hk HB2 HF
  obtain ⟨⟨c0, c1, c2⟩, g0, g1, g2⟩ := later3 HB3.out (Nat.le_refl _)
  have HE := Lib.hid (fun u1 u2 => kend HA.out HB3.out HK.out (Nat.le_refl _) u1 u2)
  go_wp2_with fail
  refine bodyPost_ret (v := .agg #[.int .i64 ka, .pointer kp]) (by simp [results, Try.results33, go_sem, c2]) rfl ?_
  exact ⟨_, rfl, (HE.out _ _).1, (HE.out _ _).2⟩

theorem al_other {w : World} {a : Addr} {v : Value} {o : Obj} (h : w.cell? a = some v) : (w.alloc o).cell? a = some v :=
  (((Below.refl _ _).alloc (Nat.le_refl _) o).cell (World.block_lt_of_cell? w _ h)).trans h
theorem IsW.le_of {n k : Nat} {xs : List Nat} (h : IsW n xs) (hn : n < W ^ k) (hk : k ≤ 800) : xs.length ≤ 800 := Nat.le_trans (h.len_le hn) hk

/-- Two boxes of two cells each. -/
theorem boxes3 {w w' : World} {v0 v1 u0 u1 : Value} {o : Array Value} {t t' t'' : TypeId} (hb : Below (w.heap.size + 3) (((w.alloc (.cells #[v0, v1] t)).alloc (.cells #[u0, u1] t')).alloc (.cells o t'')) w') :
    w'.cell? ⟨w.heap.size, 0, none⟩ = some v0 ∧ w'.cell? ⟨w.heap.size, 1, none⟩ = some v1 ∧ w'.cell? ⟨w.heap.size + 1, 0, none⟩ = some u0 ∧ w'.cell? ⟨w.heap.size + 1, 1, none⟩ = some u1 := by
  obtain ⟨⟨p0, p1, p2⟩, _⟩ := later3 hb (Nat.le_refl _)
  exact ⟨p0 0, p0 1, p1 0, p1 1⟩

set_option maxRecDepth 100000 in
set_option maxHeartbeats 4000000 in
theorem f33_great (vx vy : Value) (x y : Int) (k : Nat) (hk : k ≤ 800) (hzx : x.natAbs < W ^ k) (hzy : y.natAbs < W ^ k) (Bx By : Nat) (w : World) (hx : KInt Bx w vx x) (hy : KInt By w vy y) (hbig : smallB x = false ∨ smallB y = false) :
    Calls Try.prog 33 #[vx, vy] w (MakesK (x - y) w) := by
  obtain ⟨ax, px, rfl⟩ := hx.shape
  obtain ⟨ay, py, rfl⟩ := hy.shape
  have HPX := Lib.hid hx.ptrLt
  have HPY := Lib.hid hy.ptrLt
  have hp : (∃ p, px = some p) ∨ (px = none ∧ ∃ p, py = some p) := by
    rcases hx with ⟨hs, h⟩ | ⟨_, g, _, _, h, _⟩
    · rcases hy with ⟨hs2, h2⟩ | ⟨_, g2, _, _, h2, _⟩
      · rw [hs, hs2] at hbig; simp at hbig
      · simp at h h2; exact .inr ⟨h.2, _, h2.2⟩
    · simp at h; exact .inl ⟨_, h.2⟩
  have hA : Below w.heap.size w (((w.alloc (.cells #[.int .i64 ax, .pointer px] 49)).alloc (.cells #[.int .i64 ay, .pointer py] 49)).alloc (.cells #[.int .i64 0, .pointer none] 49)) := (((Below.refl _ _).alloc (Nat.le_refl _) _).alloc (by simp) _).alloc (by simp; omega) _
  have HA := Lib.hid hA
  have HKX := Lib.hid (hx.below hA (Nat.le_refl _))
  have HKY := Lib.hid (hy.below hA (Nat.le_refl _))
  have HL : Hid (k ≤ 800 ∧ x.natAbs < W ^ k ∧ y.natAbs < W ^ k) := ⟨hk, hzx, hzy⟩
  clear hx hy hA hbig hk hzx hzy
  rcases hp with ⟨p, rfl⟩ | ⟨rfl, p, rfl⟩
  · go_enter Try.func33, Try.ntmps33
    go_wp2_with fail
    refine (f51_any ax _ _).mono ?_
    rintro e w1 ⟨rfl, hb⟩
    have HB : Hid (Below (w.heap.size + 3) _ w1) := hb.mono (by simp)
    obtain ⟨⟨c0, c1, c2⟩, g0, g1, g2⟩ := later3 HB.out (Nat.le_refl _)
    clear hb
    go_wp2_with fail
    refine (f51_any ay _ _).mono ?_
    rintro e w2 ⟨rfl, hb⟩
    have HB2 := Lib.hid (HB.out.trans (hb.mono (by have := HB.out.size; simpa using this)))
    clear c0 c1 c2 g0 g1 g2 hb HB
    obtain ⟨⟨c0, c1, c2⟩, g0, g1, g2⟩ := later3 HB2.out (Nat.le_refl _)
    have hz2 : w.heap.size + 3 ≤ w2.heap.size := by have := HB2.out.size; simpa using this
    have HKX2 := Lib.hid (HKX.out.below HB2.out (by simp))
    have HKY2 := Lib.hid (HKY.out.below HB2.out (by simp))
    have n0 : w.heap.size ≠ w.heap.size + 2 := by omega
    have n1 : w.heap.size + 1 ≠ w.heap.size + 2 := by omega
    clear HKX HKY
    go_wp2_with fail
    have S2 := boxes3 HB2.out
    go_region_held3 (fun w' => w'.cell? ⟨w.heap.size, 0, none⟩ = some (.int .i64 ax) ∧ w'.cell? ⟨w.heap.size, 1, none⟩ = some (.pointer (some p)) ∧ w'.cell? ⟨w.heap.size + 1, 0, none⟩ = some (.int .i64 ay) ∧ w'.cell? ⟨w.heap.size + 1, 1, none⟩ = some (.pointer py))
      (first
        | with_reducible exact S8
        | with_reducible exact S7
        | with_reducible exact S6
        | with_reducible exact S5
        | with_reducible exact S2
        | with_reducible exact boxes3 (HB6.out.alloc L6 _)
        | with_reducible exact boxes3 (HB5.out.alloc L5 _)
        | with_reducible exact boxes3 (HB5.out.alloc L5 _).drew
        | with_reducible exact boxes3 (HB5.out.drew.alloc L5 _)
        | with_reducible exact boxes3 HB5.out.drew
        | with_reducible exact boxes3 (HB2.out.alloc hz2 _)
        | with_reducible exact boxes3 (HB2.out.alloc hz2 _).drew
        | with_reducible exact boxes3 (HB2.out.drew.alloc hz2 _)
        | with_reducible exact boxes3 HB2.out.drew
        | (refine ⟨?_, ?_, ?_, ?_⟩ <;> (repeat (with_reducible refine set_other ?_ (by first | exact n0 | exact n1))) <;> first | with_reducible exact S8.1 | with_reducible exact S8.2.1 | with_reducible exact S8.2.2.1 | with_reducible exact S8.2.2.2)
        | go_keep)
      (first
        | (go_at_call_of 50 (Value.agg #[.int .i64 ax, .pointer (some p)]); refine (f50_any _ x Bx _ (HKX2.out.below (B := w2.heap.size) ?_ (Nat.le_refl _)) _ HPX.out).mono ?_; (first | with_reducible exact Below.refl _ _ | with_reducible exact (Below.refl _ _).drew | with_reducible exact (Below.refl _ _).alloc (Nat.le_refl _) _ | with_reducible exact ((Below.refl _ _).alloc (Nat.le_refl _) _).drew | with_reducible exact ((Below.refl _ _).drew).alloc (Nat.le_refl _) _); rintro e w5 ⟨gx, slx, xs, rfl, hgx, hxb, hbx⟩; have BX5 : Hid (Below w2.heap.size w2 w5) := (by refine (fun (h : Below w2.heap.size w2 _) => h.trans (hbx.mono h.size)) ?_; first | with_reducible exact Below.refl _ _ | with_reducible exact (Below.refl _ _).drew | with_reducible exact (Below.refl _ _).alloc (Nat.le_refl _) _ | with_reducible exact ((Below.refl _ _).alloc (Nat.le_refl _) _).drew | with_reducible exact ((Below.refl _ _).drew).alloc (Nat.le_refl _) _); have HX5 := Lib.hid hxb; have HB5 := Lib.hid (HB2.out.trans (BX5.out.mono hz2)); have S5 := boxes3 HB5.out; have L5 : w.heap.size + 3 ≤ w5.heap.size := Nat.le_trans hz2 BX5.out.size; (try (have NA5 : Hid (New w5 w2.heap.size) := (hbx.block w2.heap.size (by simp)).trans (New.made w2))); clear hxb hbx hgx)
        | (go_at_call_of 50 (Value.agg #[.int .i64 ay, .pointer py]); refine (f50_any _ y By _ ((HKY2.out.below BX5.out (Nat.le_refl _)).below (B := w5.heap.size) ?_ (Nat.le_refl _)) _ HPY.out).mono ?_; (first | with_reducible exact Below.refl _ _ | with_reducible exact (Below.refl _ _).drew | with_reducible exact (Below.refl _ _).alloc (Nat.le_refl _) _ | with_reducible exact ((Below.refl _ _).alloc (Nat.le_refl _) _).drew | with_reducible exact ((Below.refl _ _).drew).alloc (Nat.le_refl _) _); rintro e w6 ⟨gy, sly, ys, rfl, hgy, hyb, hby⟩; have BY6 : Hid (Below w5.heap.size w5 w6) := (by refine (fun (h : Below w5.heap.size w5 _) => h.trans (hby.mono h.size)) ?_; first | with_reducible exact Below.refl _ _ | with_reducible exact (Below.refl _ _).drew | with_reducible exact (Below.refl _ _).alloc (Nat.le_refl _) _ | with_reducible exact ((Below.refl _ _).alloc (Nat.le_refl _) _).drew | with_reducible exact ((Below.refl _ _).drew).alloc (Nat.le_refl _) _); have HY6 := Lib.hid hyb; have HX6 := Lib.hid (HX5.out.below BY6.out (Nat.le_refl _)); have HB6 := Lib.hid (HB5.out.trans (BY6.out.mono L5)); have S6 := boxes3 HB6.out; have L6 : w.heap.size + 3 ≤ w6.heap.size := Nat.le_trans L5 BY6.out.size; (try (have NB6 : Hid (New w6 w5.heap.size) := (hby.block w5.heap.size (by simp)).trans (New.made w5))); (try (have NA6 : Hid (New w6 w2.heap.size) := (BY6.out.block w2.heap.size (Array.getElem?_eq_some_iff.1 NA5.out).1).trans NA5.out)); clear hyb hby hgy)
        | (go_at_call 52; refine (f52_any w2.heap.size gx gy x y 0 0 slx sly xs ys w6 NA6.out HX6.out HY6.out (HX6.out.num.le_of HL.out.2.1 HL.out.1) (HY6.out.num.le_of HL.out.2.2 HL.out.1)).mono ?_; rintro e w7 ⟨rfl, hgr, sl7, xs7, hx7⟩; have HX7 := Lib.hid (hx7.le (B' := w.heap.size + 3) (by omega)); have HB7 := Lib.hid (HB6.out.grown hgr (by omega) (by intro q hq; cases hq; omega)); have L7 : w.heap.size + 3 ≤ w7.heap.size := (by have := hgr.size; (try simp at this); omega); have S7 := boxes3 HB7.out; clear hgr hx7)
        | (go_at_call 52; refine (f52_any w5.heap.size gx gy x y 0 0 slx sly xs ys w6 NB6.out HX6.out HY6.out (HX6.out.num.le_of HL.out.2.1 HL.out.1) (HY6.out.num.le_of HL.out.2.2 HL.out.1)).mono ?_; rintro e w7 ⟨rfl, hgr, sl7, xs7, hx7⟩; have HX7 := Lib.hid (hx7.le (B' := w.heap.size + 3) (by omega)); have HB7 := Lib.hid (HB6.out.grown hgr (by omega) (by intro q hq; cases hq; omega)); have L7 : w.heap.size + 3 ≤ w7.heap.size := (by have := hgr.size; (try simp at this); omega); have S7 := boxes3 HB7.out; clear hgr hx7)
        | (go_at_call 52; refine (f52_any w6.heap.size gx gy x y 0 0 slx sly xs ys (w6.alloc _) (New.made w6) (HX6.out.below ((Below.refl _ _).alloc (Nat.le_refl _) _) (Nat.le_refl _)) (HY6.out.below ((Below.refl _ _).alloc (Nat.le_refl _) _) (Nat.le_refl _)) (HX6.out.num.le_of HL.out.2.1 HL.out.1) (HY6.out.num.le_of HL.out.2.2 HL.out.1)).mono ?_; rintro e w7 ⟨rfl, hgr, sl7, xs7, hx7⟩; have HX7 := Lib.hid (hx7.le (B' := w.heap.size + 3) (by simp; omega)); have HB7 := Lib.hid ((HB6.out.alloc L6 _).grown hgr (by simp; omega) (by intro q hq; cases hq; omega)); have L7 : w.heap.size + 3 ≤ w7.heap.size := (by have := hgr.size; (try simp at this); omega); have S7 := boxes3 HB7.out; clear hgr hx7)
        | (go_at_call 48; refine (f48_any _ _ (x - y) sl7 xs7 w7 HX7.out).mono ?_; rintro e w8 ⟨v8, rfl, hk8, hb8⟩; obtain ⟨a8, p8, rfl⟩ := hk8.shape; have HK8 := Lib.hid (hk8.le L7); have HB8 := Lib.hid (HB7.out.trans (hb8.mono L7)); obtain ⟨⟨t0, t1, t2⟩, u0, u1, u2⟩ := later3 HB8.out (Nat.le_refl _); have S8 := boxes3 HB8.out; clear hk8 hb8))
    all_goals
      have HE := Lib.hid (fun u1 u2 => kend HA.out HB8.out HK8.out (Nat.le_refl _) u1 u2)
      go_wp2
      refine bodyPost_ret (v := .agg #[.int .i64 a8, .pointer p8]) (by simp [results, Try.results33, go_sem, t2]) rfl ?_
      exact ⟨_, rfl, (HE.out _ _).1, (HE.out _ _).2⟩
  · go_enter Try.func33, Try.ntmps33
    go_wp2_with fail
    refine (f51_any ax _ _).mono ?_
    rintro e w1 ⟨rfl, hb⟩
    have HB : Hid (Below (w.heap.size + 3) _ w1) := hb.mono (by simp)
    obtain ⟨⟨c0, c1, c2⟩, g0, g1, g2⟩ := later3 HB.out (Nat.le_refl _)
    clear hb
    go_wp2_with fail
    refine (f51_any ay _ _).mono ?_
    rintro e w2 ⟨rfl, hb⟩
    have HB2 := Lib.hid (HB.out.trans (hb.mono (by have := HB.out.size; simpa using this)))
    clear c0 c1 c2 g0 g1 g2 hb HB
    obtain ⟨⟨c0, c1, c2⟩, g0, g1, g2⟩ := later3 HB2.out (Nat.le_refl _)
    have hz2 : w.heap.size + 3 ≤ w2.heap.size := by have := HB2.out.size; simpa using this
    have HKX2 := Lib.hid (HKX.out.below HB2.out (by simp))
    have HKY2 := Lib.hid (HKY.out.below HB2.out (by simp))
    have n0 : w.heap.size ≠ w.heap.size + 2 := by omega
    have n1 : w.heap.size + 1 ≠ w.heap.size + 2 := by omega
    clear HKX HKY
    go_wp2_with fail
    have S2 := boxes3 HB2.out
    go_region_held3 (fun w' => w'.cell? ⟨w.heap.size, 0, none⟩ = some (.int .i64 ax) ∧ w'.cell? ⟨w.heap.size, 1, none⟩ = some (.pointer none) ∧ w'.cell? ⟨w.heap.size + 1, 0, none⟩ = some (.int .i64 ay) ∧ w'.cell? ⟨w.heap.size + 1, 1, none⟩ = some (.pointer (some p)))
      (first
        | with_reducible exact S8
        | with_reducible exact S7
        | with_reducible exact S6
        | with_reducible exact S5
        | with_reducible exact S2
        | with_reducible exact boxes3 (HB6.out.alloc L6 _)
        | with_reducible exact boxes3 (HB5.out.alloc L5 _)
        | with_reducible exact boxes3 (HB5.out.alloc L5 _).drew
        | with_reducible exact boxes3 (HB5.out.drew.alloc L5 _)
        | with_reducible exact boxes3 HB5.out.drew
        | with_reducible exact boxes3 (HB2.out.alloc hz2 _)
        | with_reducible exact boxes3 (HB2.out.alloc hz2 _).drew
        | with_reducible exact boxes3 (HB2.out.drew.alloc hz2 _)
        | with_reducible exact boxes3 HB2.out.drew
        | (refine ⟨?_, ?_, ?_, ?_⟩ <;> (repeat (with_reducible refine set_other ?_ (by first | exact n0 | exact n1))) <;> first | with_reducible exact S8.1 | with_reducible exact S8.2.1 | with_reducible exact S8.2.2.1 | with_reducible exact S8.2.2.2)
        | go_keep)
      (first
        | (go_at_call_of 50 (Value.agg #[.int .i64 ax, .pointer none]); refine (f50_any _ x Bx _ (HKX2.out.below (B := w2.heap.size) ?_ (Nat.le_refl _)) _ HPX.out).mono ?_; (first | with_reducible exact Below.refl _ _ | with_reducible exact (Below.refl _ _).drew | with_reducible exact (Below.refl _ _).alloc (Nat.le_refl _) _ | with_reducible exact ((Below.refl _ _).alloc (Nat.le_refl _) _).drew | with_reducible exact ((Below.refl _ _).drew).alloc (Nat.le_refl _) _); rintro e w5 ⟨gx, slx, xs, rfl, hgx, hxb, hbx⟩; have BX5 : Hid (Below w2.heap.size w2 w5) := (by refine (fun (h : Below w2.heap.size w2 _) => h.trans (hbx.mono h.size)) ?_; first | with_reducible exact Below.refl _ _ | with_reducible exact (Below.refl _ _).drew | with_reducible exact (Below.refl _ _).alloc (Nat.le_refl _) _ | with_reducible exact ((Below.refl _ _).alloc (Nat.le_refl _) _).drew | with_reducible exact ((Below.refl _ _).drew).alloc (Nat.le_refl _) _); have HX5 := Lib.hid hxb; have HB5 := Lib.hid (HB2.out.trans (BX5.out.mono hz2)); have S5 := boxes3 HB5.out; have L5 : w.heap.size + 3 ≤ w5.heap.size := Nat.le_trans hz2 BX5.out.size; (try (have NA5 : Hid (New w5 w2.heap.size) := (hbx.block w2.heap.size (by simp)).trans (New.made w2))); clear hxb hbx hgx)
        | (go_at_call_of 50 (Value.agg #[.int .i64 ay, .pointer (some p)]); refine (f50_any _ y By _ ((HKY2.out.below BX5.out (Nat.le_refl _)).below (B := w5.heap.size) ?_ (Nat.le_refl _)) _ HPY.out).mono ?_; (first | with_reducible exact Below.refl _ _ | with_reducible exact (Below.refl _ _).drew | with_reducible exact (Below.refl _ _).alloc (Nat.le_refl _) _ | with_reducible exact ((Below.refl _ _).alloc (Nat.le_refl _) _).drew | with_reducible exact ((Below.refl _ _).drew).alloc (Nat.le_refl _) _); rintro e w6 ⟨gy, sly, ys, rfl, hgy, hyb, hby⟩; have BY6 : Hid (Below w5.heap.size w5 w6) := (by refine (fun (h : Below w5.heap.size w5 _) => h.trans (hby.mono h.size)) ?_; first | with_reducible exact Below.refl _ _ | with_reducible exact (Below.refl _ _).drew | with_reducible exact (Below.refl _ _).alloc (Nat.le_refl _) _ | with_reducible exact ((Below.refl _ _).alloc (Nat.le_refl _) _).drew | with_reducible exact ((Below.refl _ _).drew).alloc (Nat.le_refl _) _); have HY6 := Lib.hid hyb; have HX6 := Lib.hid (HX5.out.below BY6.out (Nat.le_refl _)); have HB6 := Lib.hid (HB5.out.trans (BY6.out.mono L5)); have S6 := boxes3 HB6.out; have L6 : w.heap.size + 3 ≤ w6.heap.size := Nat.le_trans L5 BY6.out.size; (try (have NB6 : Hid (New w6 w5.heap.size) := (hby.block w5.heap.size (by simp)).trans (New.made w5))); (try (have NA6 : Hid (New w6 w2.heap.size) := (BY6.out.block w2.heap.size (Array.getElem?_eq_some_iff.1 NA5.out).1).trans NA5.out)); clear hyb hby hgy)
        | (go_at_call 52; refine (f52_any w2.heap.size gx gy x y 0 0 slx sly xs ys w6 NA6.out HX6.out HY6.out (HX6.out.num.le_of HL.out.2.1 HL.out.1) (HY6.out.num.le_of HL.out.2.2 HL.out.1)).mono ?_; rintro e w7 ⟨rfl, hgr, sl7, xs7, hx7⟩; have HX7 := Lib.hid (hx7.le (B' := w.heap.size + 3) (by omega)); have HB7 := Lib.hid (HB6.out.grown hgr (by omega) (by intro q hq; cases hq; omega)); have L7 : w.heap.size + 3 ≤ w7.heap.size := (by have := hgr.size; (try simp at this); omega); have S7 := boxes3 HB7.out; clear hgr hx7)
        | (go_at_call 52; refine (f52_any w5.heap.size gx gy x y 0 0 slx sly xs ys w6 NB6.out HX6.out HY6.out (HX6.out.num.le_of HL.out.2.1 HL.out.1) (HY6.out.num.le_of HL.out.2.2 HL.out.1)).mono ?_; rintro e w7 ⟨rfl, hgr, sl7, xs7, hx7⟩; have HX7 := Lib.hid (hx7.le (B' := w.heap.size + 3) (by omega)); have HB7 := Lib.hid (HB6.out.grown hgr (by omega) (by intro q hq; cases hq; omega)); have L7 : w.heap.size + 3 ≤ w7.heap.size := (by have := hgr.size; (try simp at this); omega); have S7 := boxes3 HB7.out; clear hgr hx7)
        | (go_at_call 52; refine (f52_any w6.heap.size gx gy x y 0 0 slx sly xs ys (w6.alloc _) (New.made w6) (HX6.out.below ((Below.refl _ _).alloc (Nat.le_refl _) _) (Nat.le_refl _)) (HY6.out.below ((Below.refl _ _).alloc (Nat.le_refl _) _) (Nat.le_refl _)) (HX6.out.num.le_of HL.out.2.1 HL.out.1) (HY6.out.num.le_of HL.out.2.2 HL.out.1)).mono ?_; rintro e w7 ⟨rfl, hgr, sl7, xs7, hx7⟩; have HX7 := Lib.hid (hx7.le (B' := w.heap.size + 3) (by simp; omega)); have HB7 := Lib.hid ((HB6.out.alloc L6 _).grown hgr (by simp; omega) (by intro q hq; cases hq; omega)); have L7 : w.heap.size + 3 ≤ w7.heap.size := (by have := hgr.size; (try simp at this); omega); have S7 := boxes3 HB7.out; clear hgr hx7)
        | (go_at_call 48; refine (f48_any _ _ (x - y) sl7 xs7 w7 HX7.out).mono ?_; rintro e w8 ⟨v8, rfl, hk8, hb8⟩; obtain ⟨a8, p8, rfl⟩ := hk8.shape; have HK8 := Lib.hid (hk8.le L7); have HB8 := Lib.hid (HB7.out.trans (hb8.mono L7)); obtain ⟨⟨t0, t1, t2⟩, u0, u1, u2⟩ := later3 HB8.out (Nat.le_refl _); have S8 := boxes3 HB8.out; clear hk8 hb8))
    all_goals
      have HE := Lib.hid (fun u1 u2 => kend HA.out HB8.out HK8.out (Nat.le_refl _) u1 u2)
      go_wp2
      refine bodyPost_ret (v := .agg #[.int .i64 a8, .pointer p8]) (by simp [results, Try.results33, go_sem, t2]) rfl ?_
      exact ⟨_, rfl, (HE.out _ _).1, (HE.out _ _).2⟩
end Go.Proofs.Ytidkdjnfpepnfaa
