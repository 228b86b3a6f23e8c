/- Written by wip/tools/port2.py out of the text Sp6 of seat Ytidkdjnfpepnfaa. -/
/- The walk of the reference's Add. -/
import Derived.Test.YtllgogkjcbdpkaaGreatDoorZSp5
namespace Go.Proofs.YtllgogkjcbdpkaaGreatDoor.Z
open Go.RowKit

theorem later3 {w w1 : World} {o o' o'' : Array Value} {t t' t'' : TypeId} {B : Nat} (hb : Below B (((w.alloc (.cells o t)).alloc (.cells o' t')).alloc (.cells o'' t'')) w1) (hB : w.heap.size + 3 ≤ B) :
    ((∀ j, w1.cell? ⟨w.heap.size, j, none⟩ = o[j]?) ∧ (∀ j, w1.cell? ⟨w.heap.size + 1, j, none⟩ = o'[j]?) ∧ (∀ j, w1.cell? ⟨w.heap.size + 2, j, none⟩ = o''[j]?)) ∧
    ((∀ j, w1.frozen? ⟨w.heap.size, j, none⟩ = false) ∧ (∀ j, w1.frozen? ⟨w.heap.size + 1, j, none⟩ = false) ∧ (∀ j, w1.frozen? ⟨w.heap.size + 2, j, none⟩ = false)) :=
  ⟨⟨fun j => (hb.cell (p := ⟨w.heap.size, j, none⟩) (by simp; omega)).trans (by simp [go_sem]), fun j => (hb.cell (p := ⟨w.heap.size + 1, j, none⟩) (by simp; omega)).trans (by simp [go_sem]), fun j => (hb.cell (p := ⟨w.heap.size + 2, j, none⟩) (by simp; omega)).trans (by simp [go_sem])⟩,
   ⟨fun j => (hb.frozen (p := ⟨w.heap.size, j, none⟩) (by simp; omega)).trans (by simp [go_sem]), fun j => (hb.frozen (p := ⟨w.heap.size + 1, j, none⟩) (by simp; omega)).trans (by simp [go_sem]), fun j => (hb.frozen (p := ⟨w.heap.size + 2, j, none⟩) (by simp; omega)).trans (by simp [go_sem])⟩⟩
theorem signed_self (z : Int) : z = signed (decide (z < 0)) z.natAbs := by
  unfold signed; by_cases h : z < 0 <;> simp [h] <;> omega
theorem signed_add_same (d : Bool) (a b : Nat) : signed d (a + b) = signed d a + signed d b := by
  cases d <;> simp [signed] ; omega
theorem signed_add_ge (d1 d2 : Bool) (h : d1 ≠ d2) (a b : Nat) (hb : b ≤ a) : signed d1 (a - b) = signed d1 a + signed d2 b := by
  cases d1 <;> cases d2 <;> simp_all [signed] <;> omega
theorem IsB.len_add {n1 n2 m k : Nat} {l : List Nat} (h : IsB m l) (h1 : n1 < 256 ^ k) (h2 : n2 < 256 ^ k) (hm : m ≤ n1 + n2) : l.length ≤ k + 1 := by
  refine h.len_le ?_
  rw [Nat.pow_succ]; omega
theorem IsB.lt_pow {n : Nat} {l : List Nat} (h : IsB n l) {k : Nat} (hk : l.length ≤ k) : n < 256 ^ k := Nat.lt_of_lt_of_le h.lt (Nat.pow_le_pow_right (by decide) hk)

theorem add_end {w w3 A : World} {v : Value} {Z : Int} {B3 n3 k : Nat} (hA : Below w.heap.size w A) (h4 : Below (w.heap.size + 3) A w3) (hx : SInt B3 n3 w3 v Z) (hB : w.heap.size + 3 ≤ B3) (hn : n3 ≤ k) (u1 u2 : Value) :
    SInt w.heap.size k ((w3.setCell ⟨w.heap.size + 1 + 1, 0, none⟩ u1).setCell ⟨w.heap.size + 1 + 1, 1, none⟩ u2) v Z ∧ Below w.heap.size w ((w3.setCell ⟨w.heap.size + 1 + 1, 0, none⟩ u1).setCell ⟨w.heap.size + 1 + 1, 1, none⟩ u2) := by
  constructor
  · refine SInt.le (B := w.heap.size + 3) (n := k) ?_ (by omega) (Nat.le_refl _)
    iterate 2 (refine SInt.setOld ?_ (show w.heap.size + 1 + 1 < w.heap.size + 3 by omega) _)
    exact hx.le hB hn
  · iterate 2 (refine Below.setCell ?_ (show w.heap.size ≤ w.heap.size + 1 + 1 by omega) _)
    exact hA.trans (h4.mono (by omega))

set_option maxRecDepth 100000 in
set_option maxHeartbeats 4000000 in
theorem f19_any (k : Nat) (hk : k ≤ 100000) (v1 v2 : Value) (z1 z2 : Int) (B : Nat) (w : World) (hx : SInt B k w v1 z1) (hy : SInt B k w v2 z2) :
    Calls Tryz.prog 19 #[v1, v2] w (MakesS (k + 1) (z1 + z2) w) := by
  obtain ⟨s1, l1, rfl, r1, b1, hl1⟩ := hx
  obtain ⟨s2, l2, rfl, r2, b2, hl2⟩ := hy
  obtain ⟨a1, c1, rfl⟩ := r1.len
  obtain ⟨a2, c2, rfl⟩ := r2.len
  have hs1 := signed_self z1
  have hs2 := signed_self z2
  generalize decide (z1 < 0) = d1 at *
  generalize decide (z2 < 0) = d2 at *
  have HR1 := Lib.hid (((r1.alloc (.cells #[.bool d1, .slice a1 l1.length c1] 24)).alloc (.cells #[.bool d2, .slice a2 l2.length c2] 24)).alloc (.cells #[.bool false, .slice none 0 0] 24))
  have HR2 := Lib.hid (((r2.alloc (.cells #[.bool d1, .slice a1 l1.length c1] 24)).alloc (.cells #[.bool d2, .slice a2 l2.length c2] 24)).alloc (.cells #[.bool false, .slice none 0 0] 24))
  have HB1 := Lib.hid b1
  have HB2 := Lib.hid b2
  have HS1 := Lib.hid hs1
  have HS2 := Lib.hid hs2
  have HP1 := Lib.hid (b1.lt_pow hl1)
  have HP2 := Lib.hid (b2.lt_pow hl2)
  clear r1 r2 b1 b2 hs1 hs2
  have HA : Hid (Below w.heap.size w (((w.alloc (.cells #[.bool d1, .slice a1 l1.length c1] 24)).alloc (.cells #[.bool d2, .slice a2 l2.length c2] 24)).alloc (.cells #[.bool false, .slice none 0 0] 24))) := (((Below.refl _ _).alloc (Nat.le_refl _) _).alloc (by simp) _).alloc (by simp; omega) _
  have n0 : w.heap.size ≠ w.heap.size + 2 := by omega
  have n1 : w.heap.size + 1 ≠ w.heap.size + 2 := by omega
  by_cases hd : d1 = d2
  · subst hd
    go_enter Tryz.func19, Tryz.ntmps19
    go_wp2_with fail
    go_region_held3 (fun w' => w'.cell? ⟨w.heap.size, 0, none⟩ = some (.bool d1) ∧ w'.cell? ⟨w.heap.size, 1, none⟩ = some (.slice a1 l1.length c1) ∧ w'.cell? ⟨w.heap.size + 1, 1, none⟩ = some (.slice a2 l2.length c2))
      (first
        | exact ⟨p0 0, p0 1, p1 1⟩
        | exact ⟨x0 0, x0 1, x1 1⟩
        | (refine ⟨?_, ?_, ?_⟩ <;> (repeat (with_reducible refine set_other ?_ (by first | exact n0 | exact n1))) <;> first | exact p0 0 | exact p0 1 | exact p1 1)
        | go_keep)
      (first
        | (go_at_call 38; refine (f38_any _ _ l1 l2 k hk hl1 hl2 HB1.out.low HB2.out.low _ _ (HR1.out.draws 1) (HR2.out.draws 1)).mono ?_; rintro e w2 ⟨v2, l, rfl, hr, hb, hbel⟩; have HX2 := Lib.hid hr; have HXB := Lib.hid hb; have HB3 := Lib.hid (((Below.refl (w.heap.size + 3) _).drew).trans (hbel.mono (by simp))); obtain ⟨⟨x0, x1, x2⟩, y0, y1, y2⟩ := later3 HB3.out (Nat.le_refl _); clear hr hb hbel)
        | (go_at_call 11; refine (f11_any d1 _ l (by have := HXB.out.len_add HP1.out HP2.out (by rw [HB1.out.val, HB2.out.val]; exact Nat.le_refl _); omega) HXB.out.low _ _ HX2.out).mono ?_; rintro e w3 ⟨v3, rfl, hs3, hbel⟩; obtain ⟨d3, a3, k3, c3, rfl⟩ := hs3.shape; have HX3 := Lib.hid hs3; have HB4 := Lib.hid (HB3.out.trans (hbel.mono (by have := HB3.out.size; simp at this; omega))); obtain ⟨⟨p0, p1, p2⟩, q0, q1, q2⟩ := later3 HB4.out (Nat.le_refl _); have hsz := HB3.out.size; clear hs3 hbel))
    have HQ : Hid (signed d1 (bv l) = z1 + z2) := by
      show _ = _
      rw [HXB.out.val, HB1.out.val, HB2.out.val, signed_add_same, ← HS1.out, ← HS2.out]
    have HL : Hid ((strip l).length ≤ k + 1) := by
      have h1 := strip_len l
      have h2 := HXB.out.len_add HP1.out HP2.out (by rw [HB1.out.val, HB2.out.val]; exact Nat.le_refl _)
      show _ ≤ _; omega
    have HE := Lib.hid (fun u1 u2 => add_end HA.out HB4.out HX3.out (by have := hsz; simp at this; omega) HL.out u1 u2)
    clear x0 x1 x2 y0 y1 y2 HR1 HR2 HX2 HX3 HB3 HB4 hsz
    go_wp2
    refine bodyPost_ret (v := .agg #[.bool d3, .slice a3 k3 c3]) (by simp [results, Tryz.results19, go_sem, p2]) rfl ?_
    exact ⟨_, rfl, by rw [← HQ.out]; exact (HE.out _ _).1, (HE.out _ _).2⟩
  · have HF := Lib.hid (f36_any _ _ l1 l2 _ _ HB1.out HB2.out (by omega) (by omega) _ _ HR1.out HR2.out)
    have hbe : (d1 == d2) = false := by rw [beq_eq_false_iff_ne]; exact hd
    have HD : Hid (d1 ≠ d2) := hd
    clear hd
    by_cases hge : z2.natAbs ≤ z1.natAbs
    · have ho : (0 : Int) ≤ ord3 z1.natAbs z2.natAbs := by unfold ord3; split <;> (try split) <;> omega
      have HG : Hid (z2.natAbs ≤ z1.natAbs) := by show _ ≤ _; omega
      clear hge
      generalize ord3 z1.natAbs z2.natAbs = o at *
      go_enter Tryz.func19, Tryz.ntmps19
      go_wp2_with fail
      refine HF.out.mono ?_
      rintro e w' ⟨rfl, m, rfl⟩
      clear HF
      go_wp2_with fail
      go_region_held3 (fun w' => w'.cell? ⟨w.heap.size, 0, none⟩ = some (.bool d1) ∧ w'.cell? ⟨w.heap.size, 1, none⟩ = some (.slice a1 l1.length c1) ∧ w'.cell? ⟨w.heap.size + 1, 1, none⟩ = some (.slice a2 l2.length c2))
        (first
          | exact ⟨p0 0, p0 1, p1 1⟩
          | exact ⟨x0 0, x0 1, x1 1⟩
          | (refine ⟨?_, ?_, ?_⟩ <;> (repeat (with_reducible refine set_other ?_ (by first | exact n0 | exact n1))) <;> first | exact p0 0 | exact p0 1 | exact p1 1)
          | go_keep)
        (first
          | (go_at_call 39; refine (f39_any _ _ l1 l2 _ _ HB1.out HB2.out HG.out (by omega) B _ (by exact HR1.out) (by exact HR2.out)).mono ?_; rintro e w2 ⟨v2, l, rfl, hr, hb, hbel⟩; have HX2 := Lib.hid hr; have HXB := Lib.hid hb; have HB3 := Lib.hid ((below_drewN (Below.refl (w.heap.size + 3) _) (m + 1)).trans (hbel.mono (by simp))); obtain ⟨⟨x0, x1, x2⟩, y0, y1, y2⟩ := later3 HB3.out (Nat.le_refl _); clear hr hb hbel)
          | (go_at_call 11; refine (f11_any d1 _ l (by have := HXB.out.len_add HP1.out HP2.out (by omega); omega) HXB.out.low _ _ HX2.out).mono ?_; rintro e w3 ⟨v3, rfl, hs3, hbel⟩; obtain ⟨d3, a3, k3, c3, rfl⟩ := hs3.shape; have HX3 := Lib.hid hs3; have HB4 := Lib.hid (HB3.out.trans (hbel.mono (by have := HB3.out.size; simp at this; omega))); obtain ⟨⟨p0, p1, p2⟩, q0, q1, q2⟩ := later3 HB4.out (Nat.le_refl _); have hsz := HB3.out.size; clear hs3 hbel))
      have HQ : Hid (signed d1 (bv l) = z1 + z2) := by
        show _ = _
        rw [HXB.out.val, signed_add_ge d1 d2 HD.out _ _ HG.out, ← HS1.out, ← HS2.out]
      have HL : Hid ((strip l).length ≤ k + 1) := by
        have h1 := strip_len l
        have h2 := HXB.out.len_add HP1.out HP2.out (by omega)
        show _ ≤ _; omega
      have HE := Lib.hid (fun u1 u2 => add_end HA.out HB4.out HX3.out (by have := hsz; simp at this; omega) HL.out u1 u2)
      clear x0 x1 x2 y0 y1 y2 HR1 HR2 HX2 HX3 HB3 HB4 hsz
      go_wp2
      refine bodyPost_ret (v := .agg #[.bool d3, .slice a3 k3 c3]) (by simp [results, Tryz.results19, go_sem, p2]) rfl ?_
      exact ⟨_, rfl, by rw [← HQ.out]; exact (HE.out _ _).1, (HE.out _ _).2⟩
    · have ho : ¬ (0 : Int) ≤ ord3 z1.natAbs z2.natAbs := by rw [ord3_lt (by omega)]; omega
      have HG : Hid (z1.natAbs ≤ z2.natAbs) := by show _ ≤ _; omega
      clear hge
      generalize ord3 z1.natAbs z2.natAbs = o at *
      go_enter Tryz.func19, Tryz.ntmps19
      go_wp2_with fail
      refine HF.out.mono ?_
      rintro e w' ⟨rfl, m, rfl⟩
      clear HF
      go_wp2_with fail
      go_region_held3 (fun w' => w'.cell? ⟨w.heap.size + 1, 0, none⟩ = some (.bool d2) ∧ w'.cell? ⟨w.heap.size, 1, none⟩ = some (.slice a1 l1.length c1) ∧ w'.cell? ⟨w.heap.size + 1, 1, none⟩ = some (.slice a2 l2.length c2))
        (first
          | exact ⟨p1 0, p0 1, p1 1⟩
          | exact ⟨x1 0, x0 1, x1 1⟩
          | (refine ⟨?_, ?_, ?_⟩ <;> (repeat (with_reducible refine set_other ?_ (by first | exact n0 | exact n1))) <;> first | exact p1 0 | exact p0 1 | exact p1 1)
          | go_keep)
        (first
          | (go_at_call 39; refine (f39_any _ _ l2 l1 _ _ HB2.out HB1.out HG.out (by omega) B _ (by exact HR2.out) (by exact HR1.out)).mono ?_; rintro e w2 ⟨v2, l, rfl, hr, hb, hbel⟩; have HX2 := Lib.hid hr; have HXB := Lib.hid hb; have HB3 := Lib.hid ((below_drewN (Below.refl (w.heap.size + 3) _) (m + 1)).trans (hbel.mono (by simp))); obtain ⟨⟨x0, x1, x2⟩, y0, y1, y2⟩ := later3 HB3.out (Nat.le_refl _); clear hr hb hbel)
          | (go_at_call 11; refine (f11_any d2 _ l (by have := HXB.out.len_add HP1.out HP2.out (by omega); omega) HXB.out.low _ _ HX2.out).mono ?_; rintro e w3 ⟨v3, rfl, hs3, hbel⟩; obtain ⟨d3, a3, k3, c3, rfl⟩ := hs3.shape; have HX3 := Lib.hid hs3; have HB4 := Lib.hid (HB3.out.trans (hbel.mono (by have := HB3.out.size; simp at this; omega))); obtain ⟨⟨p0, p1, p2⟩, q0, q1, q2⟩ := later3 HB4.out (Nat.le_refl _); have hsz := HB3.out.size; clear hs3 hbel))
      have HQ : Hid (signed d2 (bv l) = z1 + z2) := by
        show _ = _
        rw [HXB.out.val, signed_add_ge d2 d1 (Ne.symm HD.out) _ _ HG.out, ← HS1.out, ← HS2.out, Int.add_comm]
      have HL : Hid ((strip l).length ≤ k + 1) := by
        have h1 := strip_len l
        have h2 := HXB.out.len_add HP1.out HP2.out (by omega)
        show _ ≤ _; omega
      have HE := Lib.hid (fun u1 u2 => add_end HA.out HB4.out HX3.out (by have := hsz; simp at this; omega) HL.out u1 u2)
      clear x0 x1 x2 y0 y1 y2 HR1 HR2 HX2 HX3 HB3 HB4 hsz
      go_wp2
      refine bodyPost_ret (v := .agg #[.bool d3, .slice a3 k3 c3]) (by simp [results, Tryz.results19, go_sem, p2]) rfl ?_
      exact ⟨_, rfl, by rw [← HQ.out]; exact (HE.out _ _).1, (HE.out _ _).2⟩
end Go.Proofs.YtllgogkjcbdpkaaGreatDoor.Z
