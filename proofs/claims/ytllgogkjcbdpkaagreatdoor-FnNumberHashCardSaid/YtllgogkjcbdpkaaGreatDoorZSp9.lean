/- Written by wip/tools/port2.py out of the text Sp9 of seat Ytidkdjnfpepnfaa. -/
/- The walk of the reference's Lsh. -/
import Derived.Test.YtllgogkjcbdpkaaGreatDoorZSp8
namespace Go.Proofs.YtllgogkjcbdpkaaGreatDoor.Z
open Go.RowKit

theorem one_end {w w3 A : World} {v : Value} {Z : Int} {B3 n3 k : Nat} (hA : Below w.heap.size w A) (h4 : Below (w.heap.size + 2) A w3) (hx : SInt B3 n3 w3 v Z) (hB : w.heap.size + 2 ≤ B3) (hn : n3 ≤ k) (u1 u2 : Value) :
    SInt w.heap.size k ((w3.setCell ⟨w.heap.size + 1, 0, none⟩ u1).setCell ⟨w.heap.size + 1, 1, none⟩ u2) v Z ∧ Below w.heap.size w ((w3.setCell ⟨w.heap.size + 1, 0, none⟩ u1).setCell ⟨w.heap.size + 1, 1, none⟩ u2) := by
  constructor
  · refine SInt.le (B := w.heap.size + 2) (n := k) ?_ (by omega) (Nat.le_refl _)
    iterate 2 (refine SInt.setOld ?_ (show w.heap.size + 1 < w.heap.size + 2 by omega) _)
    exact hx.le hB hn
  · iterate 2 (refine Below.setCell ?_ (show w.heap.size ≤ w.heap.size + 1 by omega) _)
    exact hA.trans (h4.mono (by omega))

set_option maxRecDepth 100000 in
set_option maxHeartbeats 2000000 in
theorem f15_any (k : Nat) (hk : k ≤ 400) (v : Value) (z : Int) (n : Nat) (hn : n ≤ 4096) (B : Nat) (w : World) (hx : SInt B k w v z) :
    Calls Tryz.prog 15 #[v, .int .i64 n] w (MakesS (k + 513) (z * 2 ^ n) w) := by
  obtain ⟨d1, a1, k1, c1, rfl⟩ := hx.shape
  have HX := Lib.hid ((hx.below ((Below.refl w.heap.size w).alloc (Nat.le_refl _) (.cells #[.bool d1, .slice a1 k1 c1] 24)) (Nat.le_refl _)).below ((Below.refl (w.heap.size + 1) (w.alloc (.cells #[.bool d1, .slice a1 k1 c1] 24))).alloc (by simp) (.cells #[.bool false, .slice none 0 0] 24)) (by simp))
  have HA : Hid (Below w.heap.size w ((w.alloc (.cells #[.bool d1, .slice a1 k1 c1] 24)).alloc (.cells #[.bool false, .slice none 0 0] 24))) := ((Below.refl _ _).alloc (Nat.le_refl _) _).alloc (by simp) _
  have HZ := Lib.hid (f33_any _ z _ _ _ HX.out)
  have n0 : w.heap.size ≠ w.heap.size + 1 := by omega
  clear hx
  by_cases hz : z = 0
  · have hd : decide (z = 0) = true := by simpa using hz
    rw [hd] at HZ
    have HQ : Hid (z * 2 ^ n = 0) := by show _ = _; rw [hz]; simp
    clear hd hz HX
    go_enter Tryz.func15, Tryz.ntmps15
    go_wp2_with fail
    refine HZ.out.mono ?_
    rintro e w1 ⟨rfl, hb⟩
    have HB : Hid (Below (w.heap.size + 2) _ w1) := hb.mono (by simp)
    obtain ⟨x0, y0, x1, y1⟩ := later2 HB.out (Nat.le_refl _)
    have HE := Lib.hid (fun u1 u2 => one_end (k := k + 513) (v := .agg #[.bool false, .slice none 0 0]) (Z := 0) (B3 := w.heap.size + 2) (n3 := 0) HA.out HB.out ⟨.slice none 0 0, [], by simp, .inl ⟨rfl, .inl rfl⟩, ⟨rfl, by simp, rfl⟩, by simp⟩ (Nat.le_refl _) (Nat.zero_le _) u1 u2)
    clear hb
    go_wp2_with fail
    refine bodyPost_ret (v := .agg #[.bool false, .slice none 0 0]) (by simp [results, Tryz.results15, go_sem, x1]) rfl ?_
    exact ⟨_, rfl, by rw [HQ.out]; exact (HE.out _ _).1, (HE.out _ _).2⟩
  · have hd : decide (z = 0) = false := by simpa using hz
    rw [hd] at HZ
    clear hd hz
    go_enter Tryz.func15, Tryz.ntmps15
    go_wp2_with fail
    refine HZ.out.mono ?_
    rintro e w1 ⟨rfl, hb⟩
    have HB : Hid (Below (w.heap.size + 2) _ w1) := hb.mono (by simp)
    obtain ⟨x0, y0, x1, y1⟩ := later2 HB.out (Nat.le_refl _)
    have HX1 := Lib.hid (HX.out.below HB.out (by simp))
    clear hb HZ HX
    go_wp2_with fail
    go_region_held3 (fun w' => w'.cell? ⟨w.heap.size, 0, none⟩ = some (.bool d1) ∧ w'.cell? ⟨w.heap.size, 1, none⟩ = some (.slice a1 k1 c1))
      (first
        | exact ⟨p0 0, p0 1⟩
        | exact ⟨r0 0, r0 1⟩
        | (refine ⟨?_, ?_⟩ <;> (repeat (with_reducible refine set_other ?_ n0)) <;> first | exact p0 0 | exact p0 1)
        | exact ⟨x0 0, x0 1⟩
        | go_keep)
      (first
        | (go_at_call 17; refine (f17_any n hn _).mono ?_; rintro e w2 ⟨v2, rfl, hs, hbel⟩; obtain ⟨d2, a2, k2, c2, rfl⟩ := hs.shape; have HX2 := Lib.hid ((SInt.drew HX1.out).below hbel (Nat.le_refl _)); have HP2 := Lib.hid hs; have hz1 := HB.out.size; have HB2 := Lib.hid (HB.out.drew.trans (hbel.mono (show w.heap.size + 2 ≤ w1.heap.size by simp at hz1; omega))); obtain ⟨r0, t0, r1, t1⟩ := later2 HB2.out (Nat.le_refl _); clear hs hbel)
        | (go_at_call 34; refine (f34_any k 513 (by omega) (by omega) _ _ z (2 ^ n) 0 _ (HX2.out.le (Nat.zero_le _) (Nat.le_refl _)) (HP2.out.le (Nat.zero_le _) (Nat.le_refl _))).mono ?_; rintro e w3 ⟨v3, rfl, hs3, hbel⟩; obtain ⟨d3, a3, k3, c3, rfl⟩ := hs3.shape; have HX3 := Lib.hid hs3; have hsz := HB2.out.size; have HB4 := Lib.hid (HB2.out.trans (hbel.mono (by simp at hsz; omega))); obtain ⟨p0, q0, p1, q1⟩ := later2 HB4.out (Nat.le_refl _); clear hs3 hbel))
    have HE := Lib.hid (fun u1 u2 => one_end HA.out HB4.out HX3.out (by simp at hsz; omega) (Nat.le_refl _) u1 u2)
    clear x0 y0 x1 y1 r0 t0 r1 t1 HX1 HX2 HP2 HX3 HB2 HB4 hsz
    go_wp2
    refine bodyPost_ret (v := .agg #[.bool d3, .slice a3 k3 c3]) (by simp [results, Tryz.results15, go_sem, p1]) rfl ?_
    exact ⟨_, rfl, (HE.out _ _).1, (HE.out _ _).2⟩
end Go.Proofs.YtllgogkjcbdpkaaGreatDoor.Z
