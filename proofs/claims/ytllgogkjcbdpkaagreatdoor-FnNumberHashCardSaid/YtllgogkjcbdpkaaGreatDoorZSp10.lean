/- Written by wip/tools/port2.py out of the text Sp10 of seat Ytidkdjnfpepnfaa. -/
/- The walks of the reference's Minus and Sub. -/
import Derived.Test.YtllgogkjcbdpkaaGreatDoorZSp9
namespace Go.Proofs.YtllgogkjcbdpkaaGreatDoor.Z
open Go.RowKit

theorem signed_minus (z : Int) : signed (!decide (z < 0)) z.natAbs = -z := by
  unfold signed; by_cases h : z < 0 <;> simp [h] <;> omega

set_option maxRecDepth 100000 in
set_option maxHeartbeats 1000000 in
theorem f32_any (k : Nat) (hk : k ≤ 100000) (v : Value) (z : Int) (B : Nat) (w : World) (hx : SInt B k w v z) : Calls Tryz.prog 32 #[v] w (MakesS k (-z) w) := by
  obtain ⟨s1, l, rfl, r1, b1, hl1⟩ := hx
  obtain ⟨a1, c1, rfl⟩ := r1.len
  have HM := Lib.hid (signed_minus z)
  generalize decide (z < 0) = d at *
  have HR := Lib.hid ((r1.alloc (.cells #[.bool d, .slice a1 l.length c1] 24)).alloc (.cells #[.bool false, .slice none 0 0] 24))
  have HBv := Lib.hid b1
  have HL : Hid ((strip l).length ≤ k) := Nat.le_trans (strip_len l) hl1
  have HA : Hid (Below w.heap.size w ((w.alloc (.cells #[.bool d, .slice a1 l.length c1] 24)).alloc (.cells #[.bool false, .slice none 0 0] 24))) := ((Below.refl _ _).alloc (Nat.le_refl _) _).alloc (by simp) _
  clear r1 b1
  go_enter Tryz.func32, Tryz.ntmps32
  go_wp2_with fail
  refine (f11_any (!d) _ l (by omega) HBv.out.low _ _ HR.out).mono ?_
  rintro e w1 ⟨v1, rfl, hs, hb⟩
  obtain ⟨d2, a2, k2, c2, rfl⟩ := hs.shape
  rw [HBv.out.val, HM.out] at hs
  have HS := Lib.hid hs
  have HB : Hid (Below (w.heap.size + 2) _ w1) := hb.mono (by simp)
  obtain ⟨x0, y0, x1, y1⟩ := later2 HB.out (Nat.le_refl _)
  have HE := Lib.hid (fun u1 u2 => one_end HA.out HB.out HS.out (by simp) HL.out u1 u2)
  clear hs hb
  go_wp2_with fail
  refine bodyPost_ret (v := .agg #[.bool d2, .slice a2 k2 c2]) (by simp [results, Tryz.results32, go_sem, x1]) rfl ?_
  exact ⟨_, rfl, (HE.out _ _).1, (HE.out _ _).2⟩

set_option maxRecDepth 100000 in
set_option maxHeartbeats 4000000 in
theorem f14_any (k : Nat) (hk : k ≤ 100000) (v1 v2 : Value) (z1 z2 : Int) (B : Nat) (w : World) (hx : SInt B k w v1 z1) (hy : SInt B k w v2 z2) :
    Calls Tryz.prog 14 #[v1, v2] w (MakesS (k + 1) (z1 - z2) w) := by
  obtain ⟨d1, a1, k1, c1, rfl⟩ := hx.shape
  obtain ⟨d2, a2, k2, c2, rfl⟩ := hy.shape
  have hA : Below w.heap.size w (((w.alloc (.cells #[.bool d1, .slice a1 k1 c1] 24)).alloc (.cells #[.bool d2, .slice a2 k2 c2] 24)).alloc (.cells #[.bool false, .slice none 0 0] 24)) := (((Below.refl _ _).alloc (Nat.le_refl _) _).alloc (by simp) _).alloc (by simp; omega) _
  have HA := Lib.hid hA
  have HX := Lib.hid ((hx.below hA (Nat.le_refl _)).le (Nat.zero_le _) (Nat.le_refl _))
  have HY := Lib.hid ((hy.below hA (Nat.le_refl _)).le (Nat.zero_le _) (Nat.le_refl _))
  have HB2 := Lib.hid (Below.refl (w.heap.size + 3) (((w.alloc (.cells #[.bool d1, .slice a1 k1 c1] 24)).alloc (.cells #[.bool d2, .slice a2 k2 c2] 24)).alloc (.cells #[.bool false, .slice none 0 0] 24)))
  have HK := Lib.hid hk
  have n0 : w.heap.size ≠ w.heap.size + 2 := by omega
  have n1 : w.heap.size + 1 ≠ w.heap.size + 2 := by omega
  have HQ : Hid (z1 + -z2 = z1 - z2) := by show _ = _; omega
  clear hx hy hA hk
  have S2 : _ ∧ _ ∧ _ ∧ _ := (fun (h : Below _ _ _) => (fun (p : _ ∧ _) => (⟨p.1.1 0, p.1.1 1, p.1.2.1 0, p.1.2.1 1⟩ : _ ∧ _ ∧ _ ∧ _)) (later3 h (Nat.le_refl _))) HB2.out
  go_enter Tryz.func14, Tryz.ntmps14
  go_wp2_with fail
  go_region_held3 (fun w' => w'.cell? ⟨w.heap.size, 0, none⟩ = some (.bool d1) ∧ w'.cell? ⟨w.heap.size, 1, none⟩ = some (.slice a1 k1 c1) ∧ w'.cell? ⟨w.heap.size + 1, 0, none⟩ = some (.bool d2) ∧ w'.cell? ⟨w.heap.size + 1, 1, none⟩ = some (.slice a2 k2 c2))
    (first
      | exact ⟨p0 0, p0 1, p1 0, p1 1⟩
      | exact ⟨x0 0, x0 1, x1 0, x1 1⟩
      | (refine ⟨?_, ?_, ?_, ?_⟩ <;> (repeat (with_reducible refine set_other ?_ (by first | exact n0 | exact n1))) <;> first | exact p0 0 | exact p0 1 | exact p1 0 | exact p1 1)
      | go_keep)
    (first
      | (go_at_call 32; refine (f32_any k HK.out _ z2 0 _ (by exact HY.out)).mono ?_; rintro e w5 ⟨v5, rfl, hs5, hb5⟩; have HS5 := Lib.hid (hs5.le (Nat.zero_le _) (Nat.le_refl _)); have HB5 := Lib.hid (HB2.out.drew.trans (hb5.mono (by simp))); have HX5 := Lib.hid (HX.out.below (show Below _ _ _ from HB5.out) (by simp)); have L5 : w.heap.size + 3 ≤ w5.heap.size := (by have := hb5.size; simpa using this); obtain ⟨⟨x0, x1, x2⟩, y0, y1, y2⟩ := later3 HB5.out (Nat.le_refl _); clear hs5 hb5)
      | (go_at_call 19; refine (f19_any k HK.out _ _ z1 (-z2) 0 w5 HX5.out HS5.out).mono ?_; rintro e w6 ⟨v6, rfl, hs6, hb6⟩; obtain ⟨d6, a6, k6, c6, rfl⟩ := hs6.shape; have HS6 := Lib.hid hs6; have HB6 := Lib.hid (HB5.out.trans (hb6.mono L5)); obtain ⟨⟨p0, p1, p2⟩, q0, q1, q2⟩ := later3 HB6.out (Nat.le_refl _); clear hs6 hb6))
  have HE := Lib.hid (fun u1 u2 => add_end HA.out HB6.out HS6.out L5 (Nat.le_refl _) u1 u2)
  clear x0 x1 x2 y0 y1 y2
  go_wp2
  refine bodyPost_ret (v := .agg #[.bool d6, .slice a6 k6 c6]) (by simp [results, Tryz.results14, go_sem, p2]) rfl ?_
  exact ⟨_, rfl, by rw [← HQ.out]; exact (HE.out _ _).1, (HE.out _ _).2⟩
end Go.Proofs.YtllgogkjcbdpkaaGreatDoor.Z
