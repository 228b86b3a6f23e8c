/- Written by wip/tools/port2.py out of the text V2 of seat YtllgogkjcbdpkaaGreat. -/
/- Walks of the reference's comparison of integers. (Printed by mkv2.py.) -/
import Derived.Test.YtllgogkjcbdpkaaGreatDoorZSp5
import Derived.Test.YtllgogkjcbdpkaaGreatDoorZSp7
namespace Go.Proofs.YtllgogkjcbdpkaaGreatDoor.Z
open Go.RowKit

theorem bel_via {B : Nat} {a b c d : World} (h : Below B a b) (hb : Below c.heap.size c d) (s : c.heap = b.heap ∧ c.os = b.os ∧ c.tape = b.tape ∧ c.output = b.output) (hB : B ≤ b.heap.size) : Below B a d := by
  have hbc : Below B a c := ⟨s.2.1.trans h.os, s.2.2.1.trans h.tape, s.2.2.2.trans h.output, by rw [s.1]; exact h.size, fun k hk => by rw [s.1]; exact h.block k hk⟩
  exact hbc.trans (hb.mono (by rw [s.1]; exact hB))
theorem cel_via {b c d : World} {p : Addr} {v : Value} (h : b.cell? p = some v) (hb : Below c.heap.size c d) (s : c.heap = b.heap) : d.cell? p = some v := by
  have hc : c.cell? p = some v := by rw [← h]; exact World.cell?_of_block (by rw [s])
  exact (hb.cell (World.block_lt_of_cell? c _ hc)).trans hc
/-- The sign, off a length and a mark. -/
def sgr (d : Bool) (n : Nat) : Int := if n = 0 then 0 else if d then -1 else 1
set_option maxRecDepth 100000 in
theorem f33_raw (d : Bool) (a : Option Addr) (n c : Nat) (w : World) : Calls Tryz.prog 33 #[.agg #[.bool d, .slice a n c]] w fun e w' => e = .returned (.bool ((n : Int) == 0)) ∧ Below w.heap.size w w' := by
  go_enter Tryz.func33, Tryz.ntmps33
  go_wp2
  go_ret
  exact ⟨rfl, (Below.refl _ _).alloc (Nat.le_refl _) _⟩
set_option maxRecDepth 100000 in
theorem f35_raw (d : Bool) (a : Option Addr) (n c : Nat) (w : World) : Calls Tryz.prog 35 #[.agg #[.bool d, .slice a n c]] w fun e w' => e = .returned (.int .i64 (sgr d n)) ∧ Below w.heap.size w w' := by
  have HA : Hid (Below w.heap.size w (w.alloc (.cells #[.bool d, .slice a n c] 24))) := (Below.refl _ _).alloc (Nat.le_refl _) _
  have hc0 : (w.alloc (.cells #[.bool d, .slice a n c] 24)).cell? ⟨w.heap.size, 0, none⟩ = some (.bool d) := by simp
  by_cases h0 : n = 0
  · have t0 : ((n : Int) == 0) = true := by rw [h0]; rfl
    have HS : Hid (sgr d n = 0) := by show _ = _; simp [sgr, h0]
    clear h0
    go_enter Tryz.func35, Tryz.ntmps35
    go_wp2_with fail
    go_at_call 33
    refine (f33_raw d a n c _).mono ?_
    rintro e w1 ⟨rfl, hb1⟩
    have HB1 := Lib.hid (HA.out.trans (hb1.mono HA.out.size))
    clear hb1
    go_wp2
    go_ret
    exact ⟨by rw [HS.out]; rfl, HB1.out⟩
  · have t0 : ((n : Int) == 0) = false := by rw [beq_eq_false_iff_ne]; omega
    cases d
    · have HS : Hid (sgr false n = 1) := by show _ = _; simp [sgr, h0]
      clear h0
      go_enter Tryz.func35, Tryz.ntmps35
      go_wp2_with fail
      go_at_call 33
      refine (f33_raw false a n c _).mono ?_
      rintro e w1 ⟨rfl, hb1⟩
      have HB1 := Lib.hid (HA.out.trans (hb1.mono HA.out.size))
      have hc1 := cel_via hc0 hb1 rfl
      clear hb1
      go_wp2
      go_ret
      exact ⟨by rw [HS.out]; rfl, HB1.out⟩
    · have HS : Hid (sgr true n = -1) := by show _ = _; simp [sgr, h0]
      clear h0
      go_enter Tryz.func35, Tryz.ntmps35
      go_wp2_with fail
      go_at_call 33
      refine (f33_raw true a n c _).mono ?_
      rintro e w1 ⟨rfl, hb1⟩
      have HB1 := Lib.hid (HA.out.trans (hb1.mono HA.out.size))
      have hc1 := cel_via hc0 hb1 rfl
      clear hb1
      go_wp2
      go_ret
      exact ⟨by rw [HS.out]; rfl, HB1.out⟩
def CmpIs (z : Int) (w : World) (e : Ending) (w' : World) : Prop := e = .returned (.int .i64 z) ∧ Below w.heap.size w w'
set_option maxRecDepth 100000 in
set_option maxHeartbeats 2000000 in
theorem f16_ne (d1 d2 : Bool) (a1 a2 : Option Addr) (n1 c1 n2 c2 : Nat) (h : ¬ sgr d1 n1 = sgr d2 n2) (w : World) :
    Calls Tryz.prog 16 #[.agg #[.bool d1, .slice a1 n1 c1], .agg #[.bool d2, .slice a2 n2 c2]] w (CmpIs (if sgr d1 n1 < sgr d2 n2 then -1 else 1) w) := by
  have t0 : (sgr d1 n1 == sgr d2 n2) = false := by simpa using h
  have t1 : (sgr d1 n1 != sgr d2 n2) = true := by simpa using h
  obtain ⟨x, hx⟩ : ∃ x, x = sgr d1 n1 := ⟨_, rfl⟩
  obtain ⟨y, hy⟩ : ∃ y, y = sgr d2 n2 := ⟨_, rfl⟩
  have H1 := Lib.hid (fun w => f35_raw d1 a1 n1 c1 w)
  have H2 := Lib.hid (fun w => f35_raw d2 a2 n2 c2 w)
  rw [← hx] at H1 t0 t1 ⊢
  rw [← hy] at H2 t0 t1 ⊢
  clear hx hy h
  have HBx : Hid (Below w.heap.size w ((w.alloc (.cells #[.bool d1, .slice a1 n1 c1] 24)).alloc (.cells #[.bool d2, .slice a2 n2 c2] 24))) := ((Below.refl _ _).alloc (Nat.le_refl _) _).alloc (by simp) _
  have x0 : ((w.alloc (.cells #[.bool d1, .slice a1 n1 c1] 24)).alloc (.cells #[.bool d2, .slice a2 n2 c2] 24)).cell? ⟨w.heap.size, 0, none⟩ = some (.bool d1) := by simp [go_sem]
  have x1 : ((w.alloc (.cells #[.bool d1, .slice a1 n1 c1] 24)).alloc (.cells #[.bool d2, .slice a2 n2 c2] 24)).cell? ⟨w.heap.size, 1, none⟩ = some (.slice a1 n1 c1) := by simp [go_sem]
  have x2 : ((w.alloc (.cells #[.bool d1, .slice a1 n1 c1] 24)).alloc (.cells #[.bool d2, .slice a2 n2 c2] 24)).cell? ⟨w.heap.size + 1, 0, none⟩ = some (.bool d2) := by simp [go_sem]
  have x3 : ((w.alloc (.cells #[.bool d1, .slice a1 n1 c1] 24)).alloc (.cells #[.bool d2, .slice a2 n2 c2] 24)).cell? ⟨w.heap.size + 1, 1, none⟩ = some (.slice a2 n2 c2) := by simp [go_sem]
  by_cases hlt : x < y
  · have HR : Hid ((if x < y then (-1 : Int) else 1) = -1) := by show _ = _; rw [if_pos hlt]
    rw [HR.out]
    go_enter Tryz.func16, Tryz.ntmps16
    go_wp2_with fail
    generalize (w.alloc (.cells #[.bool d1, .slice a1 n1 c1] 24)).alloc (.cells #[.bool d2, .slice a2 n2 c2] 24) = W0 at *
    go_region_held3 (fun w' => w'.cell? ⟨w.heap.size, 0, none⟩ = some (.bool d1) ∧ w'.cell? ⟨w.heap.size, 1, none⟩ = some (.slice a1 n1 c1) ∧ w'.cell? ⟨w.heap.size + 1, 0, none⟩ = some (.bool d2) ∧ w'.cell? ⟨w.heap.size + 1, 1, none⟩ = some (.slice a2 n2 c2))
      (first | with_reducible exact ⟨x0, x1, x2, x3⟩ | go_keep)
      (first
        | (go_at_call 35; refine (H1.out _).mono ?_; rintro e wb ⟨rfl, hb⟩; have y0 := cel_via x0 hb rfl; have y1 := cel_via x1 hb rfl; have y2 := cel_via x2 hb rfl; have y3 := cel_via x3 hb rfl; have HBy := Lib.hid (bel_via HBx.out hb ⟨rfl, rfl, rfl, rfl⟩ HBx.out.size); clear hb x0 x1 x2 x3 HBx; have x0 := y0; have x1 := y1; have x2 := y2; have x3 := y3; have HBx := HBy; clear y0 y1 y2 y3 HBy)
        | (go_at_call 35; refine (H2.out _).mono ?_; rintro e wb ⟨rfl, hb⟩; have y0 := cel_via x0 hb rfl; have y1 := cel_via x1 hb rfl; have y2 := cel_via x2 hb rfl; have y3 := cel_via x3 hb rfl; have HBy := Lib.hid (bel_via HBx.out hb ⟨rfl, rfl, rfl, rfl⟩ HBx.out.size); clear hb x0 x1 x2 x3 HBx; have x0 := y0; have x1 := y1; have x2 := y2; have x3 := y3; have HBx := HBy; clear y0 y1 y2 y3 HBy))
    go_wp2
    go_region_held3 (fun w' => w'.cell? ⟨w.heap.size, 0, none⟩ = some (.bool d1) ∧ w'.cell? ⟨w.heap.size, 1, none⟩ = some (.slice a1 n1 c1) ∧ w'.cell? ⟨w.heap.size + 1, 0, none⟩ = some (.bool d2) ∧ w'.cell? ⟨w.heap.size + 1, 1, none⟩ = some (.slice a2 n2 c2))
      (first | with_reducible exact ⟨x0, x1, x2, x3⟩ | go_keep)
      (first
        | (go_at_call 35; refine (H1.out _).mono ?_; rintro e wb ⟨rfl, hb⟩; have y0 := cel_via x0 hb rfl; have y1 := cel_via x1 hb rfl; have y2 := cel_via x2 hb rfl; have y3 := cel_via x3 hb rfl; have HBy := Lib.hid (bel_via HBx.out hb ⟨rfl, rfl, rfl, rfl⟩ HBx.out.size); clear hb x0 x1 x2 x3 HBx; have x0 := y0; have x1 := y1; have x2 := y2; have x3 := y3; have HBx := HBy; clear y0 y1 y2 y3 HBy)
        | (go_at_call 35; refine (H2.out _).mono ?_; rintro e wb ⟨rfl, hb⟩; have y0 := cel_via x0 hb rfl; have y1 := cel_via x1 hb rfl; have y2 := cel_via x2 hb rfl; have y3 := cel_via x3 hb rfl; have HBy := Lib.hid (bel_via HBx.out hb ⟨rfl, rfl, rfl, rfl⟩ HBx.out.size); clear hb x0 x1 x2 x3 HBx; have x0 := y0; have x1 := y1; have x2 := y2; have x3 := y3; have HBx := HBy; clear y0 y1 y2 y3 HBy))
    go_wp2
    go_ret
    exact ⟨rfl, HBx.out⟩
  · have HR : Hid ((if x < y then (-1 : Int) else 1) = 1) := by show _ = _; rw [if_neg hlt]
    rw [HR.out]
    go_enter Tryz.func16, Tryz.ntmps16
    go_wp2_with fail
    generalize (w.alloc (.cells #[.bool d1, .slice a1 n1 c1] 24)).alloc (.cells #[.bool d2, .slice a2 n2 c2] 24) = W0 at *
    go_region_held3 (fun w' => w'.cell? ⟨w.heap.size, 0, none⟩ = some (.bool d1) ∧ w'.cell? ⟨w.heap.size, 1, none⟩ = some (.slice a1 n1 c1) ∧ w'.cell? ⟨w.heap.size + 1, 0, none⟩ = some (.bool d2) ∧ w'.cell? ⟨w.heap.size + 1, 1, none⟩ = some (.slice a2 n2 c2))
      (first | with_reducible exact ⟨x0, x1, x2, x3⟩ | go_keep)
      (first
        | (go_at_call 35; refine (H1.out _).mono ?_; rintro e wb ⟨rfl, hb⟩; have y0 := cel_via x0 hb rfl; have y1 := cel_via x1 hb rfl; have y2 := cel_via x2 hb rfl; have y3 := cel_via x3 hb rfl; have HBy := Lib.hid (bel_via HBx.out hb ⟨rfl, rfl, rfl, rfl⟩ HBx.out.size); clear hb x0 x1 x2 x3 HBx; have x0 := y0; have x1 := y1; have x2 := y2; have x3 := y3; have HBx := HBy; clear y0 y1 y2 y3 HBy)
        | (go_at_call 35; refine (H2.out _).mono ?_; rintro e wb ⟨rfl, hb⟩; have y0 := cel_via x0 hb rfl; have y1 := cel_via x1 hb rfl; have y2 := cel_via x2 hb rfl; have y3 := cel_via x3 hb rfl; have HBy := Lib.hid (bel_via HBx.out hb ⟨rfl, rfl, rfl, rfl⟩ HBx.out.size); clear hb x0 x1 x2 x3 HBx; have x0 := y0; have x1 := y1; have x2 := y2; have x3 := y3; have HBx := HBy; clear y0 y1 y2 y3 HBy))
    go_wp2
    go_region_held3 (fun w' => w'.cell? ⟨w.heap.size, 0, none⟩ = some (.bool d1) ∧ w'.cell? ⟨w.heap.size, 1, none⟩ = some (.slice a1 n1 c1) ∧ w'.cell? ⟨w.heap.size + 1, 0, none⟩ = some (.bool d2) ∧ w'.cell? ⟨w.heap.size + 1, 1, none⟩ = some (.slice a2 n2 c2))
      (first | with_reducible exact ⟨x0, x1, x2, x3⟩ | go_keep)
      (first
        | (go_at_call 35; refine (H1.out _).mono ?_; rintro e wb ⟨rfl, hb⟩; have y0 := cel_via x0 hb rfl; have y1 := cel_via x1 hb rfl; have y2 := cel_via x2 hb rfl; have y3 := cel_via x3 hb rfl; have HBy := Lib.hid (bel_via HBx.out hb ⟨rfl, rfl, rfl, rfl⟩ HBx.out.size); clear hb x0 x1 x2 x3 HBx; have x0 := y0; have x1 := y1; have x2 := y2; have x3 := y3; have HBx := HBy; clear y0 y1 y2 y3 HBy)
        | (go_at_call 35; refine (H2.out _).mono ?_; rintro e wb ⟨rfl, hb⟩; have y0 := cel_via x0 hb rfl; have y1 := cel_via x1 hb rfl; have y2 := cel_via x2 hb rfl; have y3 := cel_via x3 hb rfl; have HBy := Lib.hid (bel_via HBx.out hb ⟨rfl, rfl, rfl, rfl⟩ HBx.out.size); clear hb x0 x1 x2 x3 HBx; have x0 := y0; have x1 := y1; have x2 := y2; have x3 := y3; have HBx := HBy; clear y0 y1 y2 y3 HBy))
    go_wp2
    go_ret
    exact ⟨rfl, HBx.out⟩
set_option maxRecDepth 100000 in
set_option maxHeartbeats 2000000 in
theorem f16_eq (d1 d2 : Bool) (a1 a2 : Option Addr) (n1 c1 n2 c2 : Nat) (h : sgr d1 n1 = sgr d2 n2) (m1 m2 : Nat) (l1 l2 : List Nat) (h1 : IsB m1 l1) (h2 : IsB m2 l2) (hl1 : l1.length ≤ 100000) (hl2 : l2.length ≤ 100000) (B : Nat) (w : World)
    (hr1 : Row B .u8 w (.slice a1 n1 c1) l1) (hr2 : Row B .u8 w (.slice a2 n2 c2) l2) :
    Calls Tryz.prog 16 #[.agg #[.bool d1, .slice a1 n1 c1], .agg #[.bool d2, .slice a2 n2 c2]] w (CmpIs (if d1 then ord3 m2 m1 else ord3 m1 m2) w) := by
  have H1 := Lib.hid (fun w => f35_raw d1 a1 n1 c1 w)
  have H2 := Lib.hid (fun w => f35_raw d2 a2 n2 c2 w)
  rw [h] at H1
  generalize sgr d2 n2 = y at *
  have HR1 := Lib.hid hr1
  have HR2 := Lib.hid hr2
  have HM := Lib.hid (And.intro h1 h2)
  clear h hr1 hr2 h1 h2
  have HBx : Hid (Below w.heap.size w ((w.alloc (.cells #[.bool d1, .slice a1 n1 c1] 24)).alloc (.cells #[.bool d2, .slice a2 n2 c2] 24))) := ((Below.refl _ _).alloc (Nat.le_refl _) _).alloc (by simp) _
  have x0 : ((w.alloc (.cells #[.bool d1, .slice a1 n1 c1] 24)).alloc (.cells #[.bool d2, .slice a2 n2 c2] 24)).cell? ⟨w.heap.size, 0, none⟩ = some (.bool d1) := by simp [go_sem]
  have x1 : ((w.alloc (.cells #[.bool d1, .slice a1 n1 c1] 24)).alloc (.cells #[.bool d2, .slice a2 n2 c2] 24)).cell? ⟨w.heap.size, 1, none⟩ = some (.slice a1 n1 c1) := by simp [go_sem]
  have x2 : ((w.alloc (.cells #[.bool d1, .slice a1 n1 c1] 24)).alloc (.cells #[.bool d2, .slice a2 n2 c2] 24)).cell? ⟨w.heap.size + 1, 0, none⟩ = some (.bool d2) := by simp [go_sem]
  have x3 : ((w.alloc (.cells #[.bool d1, .slice a1 n1 c1] 24)).alloc (.cells #[.bool d2, .slice a2 n2 c2] 24)).cell? ⟨w.heap.size + 1, 1, none⟩ = some (.slice a2 n2 c2) := by simp [go_sem]
  cases hd : d1
  · subst hd
    go_enter Tryz.func16, Tryz.ntmps16
    go_wp2_with fail
    generalize (w.alloc (.cells #[.bool false, .slice a1 n1 c1] 24)).alloc (.cells #[.bool d2, .slice a2 n2 c2] 24) = W0 at *
    go_region_held3 (fun w' => w'.cell? ⟨w.heap.size, 0, none⟩ = some (.bool false) ∧ w'.cell? ⟨w.heap.size, 1, none⟩ = some (.slice a1 n1 c1) ∧ w'.cell? ⟨w.heap.size + 1, 0, none⟩ = some (.bool d2) ∧ w'.cell? ⟨w.heap.size + 1, 1, none⟩ = some (.slice a2 n2 c2))
      (first | with_reducible exact ⟨x0, x1, x2, x3⟩ | go_keep)
      (first
        | (go_at_call 35; refine (H1.out _).mono ?_; rintro e wb ⟨rfl, hb⟩; have y0 := cel_via x0 hb rfl; have y1 := cel_via x1 hb rfl; have y2 := cel_via x2 hb rfl; have y3 := cel_via x3 hb rfl; have HBy := Lib.hid (bel_via HBx.out hb ⟨rfl, rfl, rfl, rfl⟩ HBx.out.size); clear hb x0 x1 x2 x3 HBx; have x0 := y0; have x1 := y1; have x2 := y2; have x3 := y3; have HBx := HBy; clear y0 y1 y2 y3 HBy)
        | (go_at_call 35; refine (H2.out _).mono ?_; rintro e wb ⟨rfl, hb⟩; have y0 := cel_via x0 hb rfl; have y1 := cel_via x1 hb rfl; have y2 := cel_via x2 hb rfl; have y3 := cel_via x3 hb rfl; have HBy := Lib.hid (bel_via HBx.out hb ⟨rfl, rfl, rfl, rfl⟩ HBx.out.size); clear hb x0 x1 x2 x3 HBx; have x0 := y0; have x1 := y1; have x2 := y2; have x3 := y3; have HBx := HBy; clear y0 y1 y2 y3 HBy))
    go_wp2_with fail
    go_at_call 36
    refine (f36_any _ _ l1 l2 m1 m2 HM.out.1 HM.out.2 hl1 hl2 B _ (HR1.out.below HBx.out (Nat.le_refl _)) (HR2.out.below HBx.out (Nat.le_refl _))).mono ?_
    rintro e w9 ⟨rfl, m9, hw9⟩
    have HB9 : Hid (Below w.heap.size w w9) := by show Below _ _ _; rw [hw9]; exact below_drewN HBx.out m9
    clear hw9
    go_wp2
    go_ret
    exact ⟨rfl, HB9.out⟩
  · subst hd
    go_enter Tryz.func16, Tryz.ntmps16
    go_wp2_with fail
    generalize (w.alloc (.cells #[.bool true, .slice a1 n1 c1] 24)).alloc (.cells #[.bool d2, .slice a2 n2 c2] 24) = W0 at *
    go_region_held3 (fun w' => w'.cell? ⟨w.heap.size, 0, none⟩ = some (.bool true) ∧ w'.cell? ⟨w.heap.size, 1, none⟩ = some (.slice a1 n1 c1) ∧ w'.cell? ⟨w.heap.size + 1, 0, none⟩ = some (.bool d2) ∧ w'.cell? ⟨w.heap.size + 1, 1, none⟩ = some (.slice a2 n2 c2))
      (first | with_reducible exact ⟨x0, x1, x2, x3⟩ | go_keep)
      (first
        | (go_at_call 35; refine (H1.out _).mono ?_; rintro e wb ⟨rfl, hb⟩; have y0 := cel_via x0 hb rfl; have y1 := cel_via x1 hb rfl; have y2 := cel_via x2 hb rfl; have y3 := cel_via x3 hb rfl; have HBy := Lib.hid (bel_via HBx.out hb ⟨rfl, rfl, rfl, rfl⟩ HBx.out.size); clear hb x0 x1 x2 x3 HBx; have x0 := y0; have x1 := y1; have x2 := y2; have x3 := y3; have HBx := HBy; clear y0 y1 y2 y3 HBy)
        | (go_at_call 35; refine (H2.out _).mono ?_; rintro e wb ⟨rfl, hb⟩; have y0 := cel_via x0 hb rfl; have y1 := cel_via x1 hb rfl; have y2 := cel_via x2 hb rfl; have y3 := cel_via x3 hb rfl; have HBy := Lib.hid (bel_via HBx.out hb ⟨rfl, rfl, rfl, rfl⟩ HBx.out.size); clear hb x0 x1 x2 x3 HBx; have x0 := y0; have x1 := y1; have x2 := y2; have x3 := y3; have HBx := HBy; clear y0 y1 y2 y3 HBy))
    go_wp2_with fail
    go_at_call 36
    refine (f36_any _ _ l2 l1 m2 m1 HM.out.2 HM.out.1 hl2 hl1 B _ (HR2.out.below HBx.out (Nat.le_refl _)) (HR1.out.below HBx.out (Nat.le_refl _))).mono ?_
    rintro e w9 ⟨rfl, m9, hw9⟩
    have HB9 : Hid (Below w.heap.size w w9) := by show Below _ _ _; rw [hw9]; exact below_drewN HBx.out m9
    clear hw9
    go_wp2
    go_ret
    exact ⟨rfl, HB9.out⟩
/-- Which of two integers is the greater. -/
def cmpZ (x y : Int) : Int := if x < y then -1 else if x = y then 0 else 1
theorem sgr_sign {z : Int} {l : List Nat} (h : IsB z.natAbs l) : sgr (decide (z < 0)) l.length = z.sign := by
  have hz := h.zero
  unfold sgr
  by_cases h0 : z = 0
  · have : l = [] := hz.1 (by omega)
    simp [this, h0]
  · have hl : l ≠ [] := fun e => by have := hz.2 e; omega
    have hl2 : l.length ≠ 0 := fun e => hl (List.length_eq_zero_iff.1 e)
    rw [if_neg hl2]
    by_cases hn : z < 0
    · simp [hn, Int.sign_eq_neg_one_of_neg hn]
    · simp [hn, Int.sign_eq_one_of_pos (show 0 < z by omega)]
theorem f16_any (k : Nat) (hk : k ≤ 100000) (v1 v2 : Value) (z1 z2 : Int) (B : Nat) (w : World) (hx : SInt B k w v1 z1) (hy : SInt B k w v2 z2) : Calls Tryz.prog 16 #[v1, v2] w (CmpIs (cmpZ z1 z2) w) := by
  obtain ⟨s1, l1, rfl, r1, b1, hl1⟩ := hx
  obtain ⟨s2, l2, rfl, r2, b2, hl2⟩ := hy
  obtain ⟨a1, c1, rfl⟩ := r1.len
  obtain ⟨a2, c2, rfl⟩ := r2.len
  have g1 := sgr_sign b1
  have g2 := sgr_sign b2
  by_cases he : sgr (decide (z1 < 0)) l1.length = sgr (decide (z2 < 0)) l2.length
  · have := f16_eq (decide (z1 < 0)) (decide (z2 < 0)) a1 a2 l1.length c1 l2.length c2 he z1.natAbs z2.natAbs l1 l2 b1 b2 (by omega) (by omega) B w r1 r2
    have e : (if decide (z1 < 0) = true then ord3 z2.natAbs z1.natAbs else ord3 z1.natAbs z2.natAbs) = cmpZ z1 z2 := by
      rw [g1, g2] at he
      have hs : (z1 < 0 ↔ z2 < 0) ∧ (z1 = 0 ↔ z2 = 0) := by
        constructor
        · rw [← Int.sign_eq_neg_one_iff_neg, ← Int.sign_eq_neg_one_iff_neg, he]
        · exact ⟨fun h => Int.sign_eq_zero_iff_zero.1 (he.symm.trans (Int.sign_eq_zero_iff_zero.2 h)), fun h => Int.sign_eq_zero_iff_zero.1 (he.trans (Int.sign_eq_zero_iff_zero.2 h))⟩
      unfold ord3 cmpZ
      by_cases hn : z1 < 0
      · simp only [hn, decide_true, if_true]
        have := hs.1.1 hn
        by_cases h3 : z1 < z2
        · rw [if_pos h3, if_pos (by omega)]
        · rw [if_neg h3, if_neg (by omega)]
          by_cases h4 : z1 = z2
          · rw [if_pos h4, if_pos (by omega)]
          · rw [if_neg h4, if_neg (by omega)]
      · simp only [hn, decide_false, Bool.false_eq_true, if_false]
        have : ¬ z2 < 0 := fun h => hn (hs.1.2 h)
        by_cases h3 : z1 < z2
        · rw [if_pos h3, if_pos (by omega)]
        · rw [if_neg h3, if_neg (by omega)]
          by_cases h4 : z1 = z2
          · rw [if_pos h4, if_pos (by omega)]
          · rw [if_neg h4, if_neg (by omega)]
    rw [e] at this
    exact this
  · have := f16_ne (decide (z1 < 0)) (decide (z2 < 0)) a1 a2 l1.length c1 l2.length c2 he w
    have e : (if sgr (decide (z1 < 0)) l1.length < sgr (decide (z2 < 0)) l2.length then (-1 : Int) else 1) = cmpZ z1 z2 := by
      rw [g1, g2] at he ⊢
      unfold cmpZ
      rcases Int.lt_trichotomy z1 0 with h1 | h1 | h1 <;> rcases Int.lt_trichotomy z2 0 with h2 | h2 | h2
      all_goals first
        | (exfalso; rw [Int.sign_eq_neg_one_of_neg h1, Int.sign_eq_neg_one_of_neg h2] at he; exact he rfl)
        | (exfalso; rw [Int.sign_eq_one_of_pos h1, Int.sign_eq_one_of_pos h2] at he; exact he rfl)
        | (exfalso; rw [h1, h2] at he; exact he rfl)
        | (first
            | rw [Int.sign_eq_neg_one_of_neg h1]
            | rw [Int.sign_eq_one_of_pos h1]
            | (rw [h1]; rw [Int.sign_zero])
           first
            | rw [Int.sign_eq_neg_one_of_neg h2]
            | rw [Int.sign_eq_one_of_pos h2]
            | (rw [h2]; rw [Int.sign_zero])
           first
            | (rw [if_pos (by decide), if_pos (by omega)])
            | (rw [if_neg (by decide), if_neg (by omega), if_neg (by omega)]))
    rw [e] at this
    exact this
end Go.Proofs.YtllgogkjcbdpkaaGreatDoor.Z
