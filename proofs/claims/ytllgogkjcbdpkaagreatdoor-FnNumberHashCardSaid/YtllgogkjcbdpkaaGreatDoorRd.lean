/- The reference's Floor and Rsh, of numbers not below 0. -/
import Derived.Test.YtllgogkjcbdpkaaGreatDoorRc
import Derived.Test.YtllgogkjcbdpkaaGreatDoorGen
namespace Go.Proofs.YtllgogkjcbdpkaaGreatDoor.Z
open Go.RowKit

theorem signed_nat (m : Nat) : signed false m = (m : Int) := rfl
theorem sint_nat {B n : Nat} {w : World} {v : Value} {m : Nat} (h : SInt B n w v (m : Int)) : ∃ a l c, v = .agg #[.bool false, .slice a l c] := by
  obtain ⟨sl, l, rfl, hr, _⟩ := h
  obtain ⟨a, c, rfl⟩ := hr.len
  exact ⟨a, l.length, c, by simp⟩
def FloorIs (A D k : Nat) (w : World) (e : Ending) (w' : World) : Prop := ∃ v1 v2, e = .returned (.tuple #[v1, v2]) ∧ SInt w.heap.size k w' v1 ((A / D : Nat) : Int) ∧ SInt w.heap.size k w' v2 ((A % D : Nat) : Int) ∧ Below w.heap.size w w'
set_option maxRecDepth 100000 in
set_option maxHeartbeats 4000000 in
theorem f31_any (k : Nat) (hk : k ≤ 1000) (v1 v2 : Value) (A D : Nat) (hD : 0 < D) (B : Nat) (w : World) (hx : SInt B k w v1 (A : Int)) (hy : SInt B k w v2 (D : Int)) : Calls Tryz.prog 31 #[v1, v2] w (FloorIs A D k w) := by
  obtain ⟨s1, l1, rfl, r1, b1, hl1⟩ := hx
  obtain ⟨s2, l2, rfl, r2, b2, hl2⟩ := hy
  obtain ⟨a1, c1, rfl⟩ := r1.len
  obtain ⟨a2, c2, rfl⟩ := r2.len
  have e1 : decide ((A : Int) < 0) = false := by simp
  have e2 : decide ((D : Int) < 0) = false := by simp
  rw [e1, e2]
  rw [Int.natAbs_natCast] at b1 b2
  have bel : Below w.heap.size w ((((w.alloc (.cells #[.bool false, .slice a1 l1.length c1] 24)).alloc (.cells #[.bool false, .slice a2 l2.length c2] 24)).alloc (.cells #[.bool false, .slice none 0 0] 24)).alloc (.cells #[.bool false, .slice none 0 0] 24)) := ((((Below.refl _ _).alloc (Nat.le_refl _) _).alloc (by simp) _).alloc (by simp; omega) _).alloc (by simp; omega) _
  have H49 := Lib.hid (fun W (hb : Below w.heap.size w W) => f49_any _ _ l1 l2 A D b1 b2 (by omega) (by omega) hD W ((r1.below hb (Nat.le_refl _)).le (Nat.zero_le _)) ((r2.below hb (Nat.le_refl _)).le (Nat.zero_le _)))
  have HBW := Lib.hid bel
  have HB1 := Lib.hid b1
  have HB2 := Lib.hid b2
  clear e1 e2 r1 r2 b1 b2 bel
  go_enter Tryz.func31, Tryz.ntmps31
  go_wp2_with fail
  go_at_call 49
  refine (H49.out _ (by exact HBW.out)).mono ?_
  rintro e w1 ⟨v1, v2, m1, m2, rfl, hr1, hi1, hr2, hi2, hb1⟩
  obtain ⟨q1, d1, rfl⟩ := hr1.len
  obtain ⟨q2, d2, rfl⟩ := hr2.len
  have x0 : w1.cell? ⟨w.heap.size, 0, none⟩ = some (.bool false) := (hb1.cell (p := ⟨w.heap.size, 0, none⟩) (by simp; omega)).trans (by simp [go_sem])
  have y0 : w1.cell? ⟨w.heap.size + 1, 0, none⟩ = some (.bool false) := (hb1.cell (p := ⟨w.heap.size + 1, 0, none⟩) (by simp)).trans (by simp [go_sem])
  have zc : ∀ i, w1.cell? ⟨w.heap.size + 2, i, none⟩ = #[Value.bool false, Value.slice none 0 0][i]? := fun i => (hb1.cell (p := ⟨w.heap.size + 2, i, none⟩) (by simp)).trans (by simp [go_sem])
  have zf : ∀ i, w1.frozen? ⟨w.heap.size + 2, i, none⟩ = false := fun i => (hb1.frozen (p := ⟨w.heap.size + 2, i, none⟩) (by simp)).trans (by simp [go_sem])
  have uc : ∀ i, w1.cell? ⟨w.heap.size + 3, i, none⟩ = #[Value.bool false, Value.slice none 0 0][i]? := fun i => (hb1.cell (p := ⟨w.heap.size + 3, i, none⟩) (by simp)).trans (by simp [go_sem])
  have uf : ∀ i, w1.frozen? ⟨w.heap.size + 3, i, none⟩ = false := fun i => (hb1.frozen (p := ⟨w.heap.size + 3, i, none⟩) (by simp)).trans (by simp [go_sem])
  have ZL : w.heap.size + 4 ≤ w1.heap.size := by have := hb1.size; simp at this; omega
  have HR1 := Lib.hid hr1
  have HR2 := Lib.hid hr2
  have HI1 := Lib.hid hi1
  have HI2 := Lib.hid hi2
  have HB3 := Lib.hid (HBW.out.trans (hb1.mono HBW.out.size))
  have hl1' : m1.length ≤ k := by
    have := hi1.len_le (k := l1.length) (Nat.lt_of_le_of_lt (Nat.div_le_self _ _) HB1.out.lt); omega
  have hl2' : m2.length ≤ k := by
    have := hi2.len_le (k := l2.length) (Nat.lt_trans (Nat.mod_lt _ hD) HB2.out.lt); omega
  clear hr1 hi1 hr2 hi2 hb1 HBW H49
  go_wp2_with fail
  have n1 : w.heap.size + 1 ≠ w.heap.size + 2 := by omega
  have n2 : w.heap.size + 1 ≠ w.heap.size + 3 := by omega
  go_region_held3 (fun w' => w'.cell? ⟨w.heap.size + 1, 0, none⟩ = some (.bool false))
    (first
      | exact y2
      | exact y1
      | exact y0
      | ((repeat (with_reducible refine set_other ?_ (by first | exact n1 | exact n2))); first | exact y2 | exact y1)
      | go_keep)
    (first
      | (have _t := HRqo; go_at_call_of 11 (Value.slice q2 m2.length d2); refine (f11_any false _ m2 (by omega) HI2.out.low _ 0 (by exact (HRqo.out.le (Nat.zero_le _)))).mono ?_; rintro e wz ⟨vr, rfl, hsr, hbz⟩; rw [HI2.out.val] at hsr; have hbz2 : Below wq.heap.size wq wz := bel_from hbz ⟨rfl, rfl, rfl, rfl⟩; have HZr := Lib.hid (hsr.le (B' := w.heap.size + 4) (by show w.heap.size + 4 ≤ wq.heap.size; omega) (Nat.le_trans (strip_len _) hl2')); have HBZ := Lib.hid (HBq.out.trans (hbz2.mono HBq.out.size)); have hbw : Below w1.heap.size w1 wz := Cq.out.trans (hbz2.mono Cq.out.size); have HZq := Lib.hid (HSq4.out.below hbz2 (Nat.le_refl _)); have y2 : wz.cell? ⟨w.heap.size + 1, 0, none⟩ = some (.bool false) := cell_below y0 hbw; have zc2 : ∀ i, wz.cell? ⟨w.heap.size + 2, i, none⟩ = #[Value.bool false, Value.slice none 0 0][i]? := (fun i => (hbw.cell (p := ⟨w.heap.size + 2, i, none⟩) (by show w.heap.size + 2 < _; omega)).trans (zc i)); have zf2 : ∀ i, wz.frozen? ⟨w.heap.size + 2, i, none⟩ = false := (fun i => (hbw.frozen (p := ⟨w.heap.size + 2, i, none⟩) (by show w.heap.size + 2 < _; omega)).trans (zf i)); have uc2 : ∀ i, wz.cell? ⟨w.heap.size + 3, i, none⟩ = #[Value.bool false, Value.slice none 0 0][i]? := (fun i => (hbw.cell (p := ⟨w.heap.size + 3, i, none⟩) (by show w.heap.size + 3 < _; omega)).trans (uc i)); have uf2 : ∀ i, wz.frozen? ⟨w.heap.size + 3, i, none⟩ = false := (fun i => (hbw.frozen (p := ⟨w.heap.size + 3, i, none⟩) (by show w.heap.size + 3 < _; omega)).trans (uf i)); obtain ⟨dq, aq, kq, cq, rfl⟩ := HZq.out.shape; obtain ⟨dr, ar, kr, cr, rfl⟩ := HZr.out.shape; clear hsr hbz hbz2 hbw)
      | (have _t := HRro; go_at_call_of 11 (Value.slice q1 m1.length d1); refine (f11_any false _ m1 (by omega) HI1.out.low _ 0 (by exact (HRro.out.le (Nat.zero_le _)))).mono ?_; rintro e wz ⟨vq, rfl, hsq, hbz⟩; rw [HI1.out.val] at hsq; have hbz2 : Below wr.heap.size wr wz := bel_from hbz ⟨rfl, rfl, rfl, rfl⟩; have HZq := Lib.hid (hsq.le (B' := w.heap.size + 4) (by show w.heap.size + 4 ≤ wr.heap.size; omega) (Nat.le_trans (strip_len _) hl1')); have HBZ := Lib.hid (HBr.out.trans (hbz2.mono HBr.out.size)); have hbw : Below w1.heap.size w1 wz := Cr.out.trans (hbz2.mono Cr.out.size); have HZr := Lib.hid (HSr4.out.below hbz2 (Nat.le_refl _)); have y2 : wz.cell? ⟨w.heap.size + 1, 0, none⟩ = some (.bool false) := cell_below y0 hbw; have zc2 : ∀ i, wz.cell? ⟨w.heap.size + 2, i, none⟩ = #[Value.bool false, Value.slice none 0 0][i]? := (fun i => (hbw.cell (p := ⟨w.heap.size + 2, i, none⟩) (by show w.heap.size + 2 < _; omega)).trans (zc i)); have zf2 : ∀ i, wz.frozen? ⟨w.heap.size + 2, i, none⟩ = false := (fun i => (hbw.frozen (p := ⟨w.heap.size + 2, i, none⟩) (by show w.heap.size + 2 < _; omega)).trans (zf i)); have uc2 : ∀ i, wz.cell? ⟨w.heap.size + 3, i, none⟩ = #[Value.bool false, Value.slice none 0 0][i]? := (fun i => (hbw.cell (p := ⟨w.heap.size + 3, i, none⟩) (by show w.heap.size + 3 < _; omega)).trans (uc i)); have uf2 : ∀ i, wz.frozen? ⟨w.heap.size + 3, i, none⟩ = false := (fun i => (hbw.frozen (p := ⟨w.heap.size + 3, i, none⟩) (by show w.heap.size + 3 < _; omega)).trans (uf i)); obtain ⟨dq, aq, kq, cq, rfl⟩ := HZq.out.shape; obtain ⟨dr, ar, kr, cr, rfl⟩ := HZr.out.shape; clear hsq hbz hbz2 hbw)
      | (go_at_call_of 11 (Value.slice q1 m1.length d1); refine (f11_any false _ m1 (by omega) HI1.out.low _ 0 (by exact (HR1.out.le (Nat.zero_le _)))).mono ?_; rintro e wq ⟨vq, rfl, hsq, hbq⟩; rw [HI1.out.val] at hsq; have HSq4 := Lib.hid (hsq.le (B' := w.heap.size + 4) (by show w.heap.size + 4 ≤ w1.heap.size; omega) (Nat.le_trans (strip_len _) hl1')); have hbq2 : Below w1.heap.size w1 wq := bel_from hbq ⟨rfl, rfl, rfl, rfl⟩; have HBq := Lib.hid (HB3.out.trans (hbq2.mono HB3.out.size)); have HRqo := Lib.hid (HR2.out.below hbq2 (Nat.le_refl _)); have y1 : wq.cell? ⟨w.heap.size + 1, 0, none⟩ = some (.bool false) := cell_below y0 hbq2; have ZLq : w.heap.size + 4 ≤ wq.heap.size := Nat.le_trans ZL hbq2.size; have Cq := Lib.hid hbq2; clear hsq hbq hbq2)
      | (go_at_call_of 11 (Value.slice q2 m2.length d2); refine (f11_any false _ m2 (by omega) HI2.out.low _ 0 (by exact (HR2.out.le (Nat.zero_le _)))).mono ?_; rintro e wr ⟨vr, rfl, hsr, hbr⟩; rw [HI2.out.val] at hsr; have HSr4 := Lib.hid (hsr.le (B' := w.heap.size + 4) (by show w.heap.size + 4 ≤ w1.heap.size; omega) (Nat.le_trans (strip_len _) hl2')); have hbr2 : Below w1.heap.size w1 wr := bel_from hbr ⟨rfl, rfl, rfl, rfl⟩; have HBr := Lib.hid (HB3.out.trans (hbr2.mono HB3.out.size)); have HRro := Lib.hid (HR1.out.below hbr2 (Nat.le_refl _)); have y1 : wr.cell? ⟨w.heap.size + 1, 0, none⟩ = some (.bool false) := cell_below y0 hbr2; have ZLr : w.heap.size + 4 ≤ wr.heap.size := Nat.le_trans ZL hbr2.size; have Cr := Lib.hid hbr2; clear hsr hbr hbr2))
  all_goals
    clear y0 zc zf uc uf x0
    go_wp2_with fail
    refine bodyPost_ret (v := .tuple #[.agg #[.bool dq, .slice aq kq cq], .agg #[.bool dr, .slice ar kr cr]]) (by simp [results, Tryz.results31, go_sem, zc2, uc2]) rfl ?_
    refine ⟨_, _, rfl, ?_, ?_, ?_⟩
    · refine SInt.le (B := w.heap.size + 4) (n := k) ?_ (by omega) (Nat.le_refl _)
      iterate 4 (refine SInt.setOld ?_ (by first | (show w.heap.size + 2 < w.heap.size + 4; omega) | (show w.heap.size + 3 < w.heap.size + 4; omega)) _)
      exact HZq.out
    · refine SInt.le (B := w.heap.size + 4) (n := k) ?_ (by omega) (Nat.le_refl _)
      iterate 4 (refine SInt.setOld ?_ (by first | (show w.heap.size + 2 < w.heap.size + 4; omega) | (show w.heap.size + 3 < w.heap.size + 4; omega)) _)
      exact HZr.out
    · iterate 4 (refine Below.setCell ?_ (by first | (show w.heap.size ≤ w.heap.size + 2; omega) | (show w.heap.size ≤ w.heap.size + 3; omega)) _)
      exact HBZ.out
end Go.Proofs.YtllgogkjcbdpkaaGreatDoor.Z
