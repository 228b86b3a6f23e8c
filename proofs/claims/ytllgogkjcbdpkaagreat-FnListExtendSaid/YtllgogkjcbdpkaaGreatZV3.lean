/- Written by wip/tools/port2.py out of the text V3 of seat YtgcofpmhojplhaaGreatDoor. -/
/- Walks of the reference's small integers, read back. -/
import Derived.Test.YtllgogkjcbdpkaaGreatZV2
namespace Go.Proofs.YtllgogkjcbdpkaaGreat.Z
open Go.RowKit

set_option maxRecDepth 100000 in
set_option maxHeartbeats 1000000 in
theorem f23_any (n : Nat) (hn : n ≤ 2147483647) (v : Value) (z : Int) (B : Nat) (w : World) (hv : VInt B n w v z) : Calls Tryz.prog 23 #[v] w (MakesS n z w) := by
  obtain ⟨sl, l, rfl, hr, hb, hl⟩ := hv
  obtain ⟨a, c, rfl⟩ := hr.len
  obtain ⟨W1, hW1⟩ : ∃ W1, W1 = (w.alloc (.cells #[.int .i64 2, .bool (decide (z < 0)), .slice a l.length c, .int .u64 0, .string ⟨#[]⟩, .slice none 0 0] 31)).alloc (.cells #[.bool false, .slice none 0 0] 51) := ⟨_, rfl⟩
  have HW1 : Hid (Below (w.heap.size + 1) W1 W1) := Below.refl _ _
  have HB1 : Hid (Below w.heap.size w W1) := by show Below _ _ _; subst hW1; exact ((Below.refl _ _).alloc (Nat.le_refl _) _).alloc (by simp) _
  have hz2 : W1.heap.size = w.heap.size + 2 := by subst hW1; simp
  have x0 : W1.cell? ⟨w.heap.size + 1, 0, none⟩ = some (.bool false) := by subst hW1; simp [go_sem]
  have x1 : W1.cell? ⟨w.heap.size + 1, 1, none⟩ = some (.slice none 0 0) := by subst hW1; simp [go_sem]
  have y0 : W1.frozen? ⟨w.heap.size + 1, 0, none⟩ = false := by subst hW1; simp [go_sem]
  have y1 : W1.frozen? ⟨w.heap.size + 1, 1, none⟩ = false := by subst hW1; simp [go_sem]
  have H18 := Lib.hid (f15_any (decide (z < 0)) _ l (by omega) hb.low W1 B (hr.below HB1.out (Nat.le_refl _)))
  have HQ : Hid (signed (decide (z < 0)) (bv l) = z ∧ strip l = l) := by
    refine ⟨?_, hb.top⟩
    rw [hb.val]
    unfold signed
    by_cases h : z < 0
    · simp [h]; omega
    · simp [h]; omega
  have HL := Lib.hid hl
  rw [hW1] at H18
  clear hr hb hl
  go_enter Tryz.func23, Tryz.ntmps23
  go_wp2_with fail
  go_at_call 15
  refine H18.out.mono ?_
  rintro e w2 ⟨v2, rfl, hs, hb2⟩
  rw [← hW1] at hs hb2
  obtain ⟨d2, a2, k2, c2, rfl⟩ := hs.shape
  have c0 : w2.cell? ⟨w.heap.size + 1, 0, none⟩ = some (.bool false) := cel_via x0 hb2 rfl
  have c1 : w2.cell? ⟨w.heap.size + 1, 1, none⟩ = some (.slice none 0 0) := cel_via x1 hb2 rfl
  have f0 : w2.frozen? ⟨w.heap.size + 1, 0, none⟩ = false := (hb2.frozen (p := ⟨w.heap.size + 1, 0, none⟩) (by rw [hz2]; simp)).trans y0
  have f1 : w2.frozen? ⟨w.heap.size + 1, 1, none⟩ = false := (hb2.frozen (p := ⟨w.heap.size + 1, 1, none⟩) (by rw [hz2]; simp)).trans y1
  have HS := Lib.hid hs
  have HB2 := Lib.hid (HB1.out.trans (hb2.mono HB1.out.size))
  have HZ := Lib.hid hz2
  clear hs hb2 hW1 hz2
  go_wp2
  refine bodyPost_ret (v := .agg #[.bool d2, .slice a2 k2 c2]) (by simp [results, Tryz.results23, go_sem, c0, c1]) rfl ?_
  refine ⟨_, rfl, ?_, ?_⟩
  · have h := HS.out
    rw [HQ.out.1, HQ.out.2, HZ.out] at h
    refine SInt.le (B := w.heap.size + 2) (n := l.length) ?_ (by omega) HL.out
    iterate 2 (refine SInt.setOld ?_ (show w.heap.size + 1 < w.heap.size + 2 by omega) _)
    exact h
  · iterate 2 (refine Below.setCell ?_ (show w.heap.size ≤ w.heap.size + 1 by omega) _)
    exact HB2.out
/-- Of one digit at most: the digits. -/
theorem dg_small (l : List Nat) (hl : l.length ≤ 1) (i : Nat) : dg l i = if i = 0 then bv l else 0 := by
  unfold dg
  match l, hl with
  | [], _ => simp [bv]
  | [a], _ =>
    by_cases h : i = 0
    · subst h; simp [bv]
    · simp [h]
theorem SInt.heap {B n : Nat} {w w' : World} {v : Value} {z : Int} (h : SInt B n w v z) (e : w'.heap = w.heap) : SInt B n w' v z := by
  obtain ⟨sl, l, h1, h2, h3⟩ := h
  refine ⟨sl, l, h1, ?_, h3⟩
  rcases h2 with h2 | ⟨h0, g, off, c, hv, hc, hB', hg, hcell⟩
  · exact .inl h2
  · exact .inr ⟨h0, g, off, c, hv, hc, hB', by rw [e]; exact hg, fun i hi => (World.cell?_of_block (w := w) (by rw [e])).trans (hcell i hi)⟩
end Go.Proofs.YtllgogkjcbdpkaaGreat.Z
