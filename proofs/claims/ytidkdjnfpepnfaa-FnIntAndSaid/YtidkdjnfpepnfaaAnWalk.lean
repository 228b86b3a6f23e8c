/- The walk of laws.FnIntAnd. (Printed by mklaw2.py.) -/
import Derived.Test.YtidkdjnfpepnfaaBw7
import Derived.Test.YtidkdjnfpepnfaaSp13
import Derived.Test.YtidkdjnfpepnfaaIbWalk
namespace Go.Proofs.Ytidkdjnfpepnfaa
open Go.RowKit

/-- The four boxes of the law. -/
theorem boxes_law7 {w1 w2 w' : World} {d1 d2 d3 d4 : Bool} {a1 a2 a3 a4 : Option Addr} {k1 c1 k2 c2 k3 c3 k4 c4 : Nat} (h1 : Below (w1.heap.size + 2) ((w1.alloc (.cells #[.bool d1, .slice a1 k1 c1] 30)).alloc (.cells #[.int .i64 2, .bool d2, .slice a2 k2 c2, .int .u64 0, .string ⟨#[]⟩, .slice none 0 0] 27)) w2)
    (h2 : Below (w2.heap.size + 2) ((w2.alloc (.cells #[.bool d3, .slice a3 k3 c3] 30)).alloc (.cells #[.int .i64 2, .bool d4, .slice a4 k4 c4, .int .u64 0, .string ⟨#[]⟩, .slice none 0 0] 27)) w') :
    w'.cell? ⟨w1.heap.size, 0, none⟩ = some (.bool d1) ∧ w'.cell? ⟨w1.heap.size, 1, none⟩ = some (.slice a1 k1 c1) ∧ w'.cell? ⟨w1.heap.size + 1, 0, none⟩ = some (.int .i64 2) ∧ w'.cell? ⟨w1.heap.size + 1, 1, none⟩ = some (.bool d2) ∧ w'.cell? ⟨w1.heap.size + 1, 2, none⟩ = some (.slice a2 k2 c2) ∧ w'.cell? ⟨w1.heap.size + 1, 3, none⟩ = some (.int .u64 0) ∧ w'.cell? ⟨w1.heap.size + 1, 4, none⟩ = some (.string ⟨#[]⟩) ∧ w'.cell? ⟨w1.heap.size + 1, 5, none⟩ = some (.slice none 0 0) ∧ w'.cell? ⟨w2.heap.size, 0, none⟩ = some (.bool d3) ∧ w'.cell? ⟨w2.heap.size, 1, none⟩ = some (.slice a3 k3 c3) ∧ w'.cell? ⟨w2.heap.size + 1, 0, none⟩ = some (.int .i64 2) ∧ w'.cell? ⟨w2.heap.size + 1, 1, none⟩ = some (.bool d4) ∧ w'.cell? ⟨w2.heap.size + 1, 2, none⟩ = some (.slice a4 k4 c4) ∧ w'.cell? ⟨w2.heap.size + 1, 3, none⟩ = some (.int .u64 0) ∧ w'.cell? ⟨w2.heap.size + 1, 4, none⟩ = some (.string ⟨#[]⟩) ∧ w'.cell? ⟨w2.heap.size + 1, 5, none⟩ = some (.slice none 0 0) := by
  have h3 : Below (w1.heap.size + 2) ((w1.alloc (.cells #[.bool d1, .slice a1 k1 c1] 30)).alloc (.cells #[.int .i64 2, .bool d2, .slice a2 k2 c2, .int .u64 0, .string ⟨#[]⟩, .slice none 0 0] 27)) w' := h1.trans ((((Below.refl w2.heap.size w2).alloc (Nat.le_refl _) _).alloc (by simp) _).trans (h2.mono (by omega)) |>.mono (by have := h1.size; simp at this; omega))
  obtain ⟨x0, _, x1, _⟩ := later2 h3 (Nat.le_refl _)
  obtain ⟨y0, _, y1, _⟩ := later2 h2 (Nat.le_refl _)
  exact ⟨x0 0, x0 1, x1 0, x1 1, x1 2, x1 3, x1 4, x1 5, y0 0, y0 1, y1 0, y1 1, y1 2, y1 3, y1 4, y1 5⟩

set_option maxRecDepth 100000 in
set_option maxHeartbeats 4000000 in
theorem f7_core (neg1 neg2 : Bool) (v1 v2 : Value) (l1 l2 : List Nat) (hl1 : l1.length ≤ 2147483647) (hl2 : l2.length ≤ 2147483647) (hd1 : ∀ d ∈ l1, d < 256) (hd2 : ∀ d ∈ l2, d < 256) (w : World) (hr1 : Row 0 .u8 w v1 l1) (hr2 : Row 0 .u8 w v2 l2) :
    Calls Try.prog 7 #[.bool neg1, v1, .bool neg2, v2] w fun e w' => e = .returned (.bool true) ∧ Below w.heap.size w w' := by
  have HF := Lib.hid (f12_core neg1 300 (by omega) v1 l1 (l1.take 300) hl1 hd1 rfl w hr1)
  obtain ⟨aa, ca, rfl⟩ := hr1.len
  have HR2 := Lib.hid hr2
  have HD2 := Lib.hid hd2
  obtain ⟨ab, cb, rfl⟩ := hr2.len
  clear hr1 hr2 hd1 hd2
  generalize signed neg1 (bv (l1.take 300)) = x at *
  obtain ⟨y, hy⟩ : ∃ y, y = signed neg2 (bv (l2.take 300)) := ⟨_, rfl⟩
  have HY := Lib.hid hy
  clear hy
  go_enter Try.func7, Try.ntmps7
  go_wp2_with fail
  refine HF.out.mono ?_
  rintro e w1 ⟨v, u, rfl, hs, hv, hb⟩
  obtain ⟨d2, a2, k2, c2, rfl⟩ := hv.shape
  obtain ⟨d1, a1, k1, c1, rfl⟩ := hs.shape
  have hA : Below w1.heap.size w1 ((w1.alloc (.cells #[.bool d1, .slice a1 k1 c1] 30)).alloc (.cells #[.int .i64 2, .bool d2, .slice a2 k2 c2, .int .u64 0, .string ⟨#[]⟩, .slice none 0 0] 27)) := ((Below.refl _ _).alloc (Nat.le_refl _) _).alloc (by simp) _
  have HS1 := Lib.hid (hs.below hA (Nat.le_refl _))
  have HV1 := Lib.hid (hv.below hA (Nat.le_refl _))
  have HB1 : Hid (Below w.heap.size w ((w1.alloc (.cells #[.bool d1, .slice a1 k1 c1] 30)).alloc (.cells #[.int .i64 2, .bool d2, .slice a2 k2 c2, .int .u64 0, .string ⟨#[]⟩, .slice none 0 0] 27))) := hb.trans (hA.mono hb.size)
  have HG := Lib.hid (f12_core neg2 300 (by omega) (.slice ab l2.length cb) l2 (l2.take 300) hl2 HD2.out rfl _ (HR2.out.below HB1.out (Nat.le_refl _)))
  rw [← HY.out] at HG
  clear hs hv hb hA HF HR2 HD2 HY
  go_wp2_with fail
  refine HG.out.mono ?_
  rintro e w2 ⟨v', u', rfl, hs, hv, hb⟩
  obtain ⟨d4, a4, k4, c4, rfl⟩ := hv.shape
  obtain ⟨d3, a3, k3, c3, rfl⟩ := hs.shape
  have hA : Below w2.heap.size w2 ((w2.alloc (.cells #[.bool d3, .slice a3 k3 c3] 30)).alloc (.cells #[.int .i64 2, .bool d4, .slice a4 k4 c4, .int .u64 0, .string ⟨#[]⟩, .slice none 0 0] 27)) := ((Below.refl _ _).alloc (Nat.le_refl _) _).alloc (by simp) _
  have hz : w1.heap.size + 2 ≤ w2.heap.size := by have := hb.size; simpa using this
  have HS3 := Lib.hid ((hs.below hA (Nat.le_refl _)).le (Nat.zero_le _) (Nat.le_refl _))
  have HV3 := Lib.hid (hv.below hA (Nat.le_refl _))
  have HBB : Hid (Below (w1.heap.size + 2) ((w1.alloc (.cells #[.bool d1, .slice a1 k1 c1] 30)).alloc (.cells #[.int .i64 2, .bool d2, .slice a2 k2 c2, .int .u64 0, .string ⟨#[]⟩, .slice none 0 0] 27)) w2) := hb.mono (by simp)
  have HS2 := Lib.hid (((HS1.out.below hb (Nat.le_refl _)).below hA (Nat.le_refl _)).le (Nat.zero_le _) (Nat.le_refl _))
  have HV2 := Lib.hid ((HV1.out.below hb (Nat.le_refl _)).below hA (Nat.le_refl _))
  have HB2 : Hid (Below w.heap.size w ((w2.alloc (.cells #[.bool d3, .slice a3 k3 c3] 30)).alloc (.cells #[.int .i64 2, .bool d4, .slice a4 k4 c4, .int .u64 0, .string ⟨#[]⟩, .slice none 0 0] 27))) := (HB1.out.trans (hb.mono HB1.out.size)).trans (hA.mono (by have := HB1.out.size; simp at this; omega))
  have HC2 := Lib.hid (Below.refl (w2.heap.size + 2) ((w2.alloc (.cells #[.bool d3, .slice a3 k3 c3] 30)).alloc (.cells #[.int .i64 2, .bool d4, .slice a4 k4 c4, .int .u64 0, .string ⟨#[]⟩, .slice none 0 0] 27)))
  have S2 := boxes_law7 HBB.out HC2.out
  have S2d := boxes_law7 HBB.out HC2.out.drew
  clear hs hv hb hA HG HS1 HV1 HB1
  go_wp2_with fail
  go_region_held3 (fun w' => w'.cell? ⟨w1.heap.size, 0, none⟩ = some (.bool d1) ∧ w'.cell? ⟨w1.heap.size, 1, none⟩ = some (.slice a1 k1 c1) ∧ w'.cell? ⟨w1.heap.size + 1, 0, none⟩ = some (.int .i64 2) ∧ w'.cell? ⟨w1.heap.size + 1, 1, none⟩ = some (.bool d2) ∧ w'.cell? ⟨w1.heap.size + 1, 2, none⟩ = some (.slice a2 k2 c2) ∧ w'.cell? ⟨w1.heap.size + 1, 3, none⟩ = some (.int .u64 0) ∧ w'.cell? ⟨w1.heap.size + 1, 4, none⟩ = some (.string ⟨#[]⟩) ∧ w'.cell? ⟨w1.heap.size + 1, 5, none⟩ = some (.slice none 0 0) ∧ w'.cell? ⟨w2.heap.size, 0, none⟩ = some (.bool d3) ∧ w'.cell? ⟨w2.heap.size, 1, none⟩ = some (.slice a3 k3 c3) ∧ w'.cell? ⟨w2.heap.size + 1, 0, none⟩ = some (.int .i64 2) ∧ w'.cell? ⟨w2.heap.size + 1, 1, none⟩ = some (.bool d4) ∧ w'.cell? ⟨w2.heap.size + 1, 2, none⟩ = some (.slice a4 k4 c4) ∧ w'.cell? ⟨w2.heap.size + 1, 3, none⟩ = some (.int .u64 0) ∧ w'.cell? ⟨w2.heap.size + 1, 4, none⟩ = some (.string ⟨#[]⟩) ∧ w'.cell? ⟨w2.heap.size + 1, 5, none⟩ = some (.slice none 0 0))
    (first
      | with_reducible exact S6
      | with_reducible exact S5
      | with_reducible exact S4
      | with_reducible exact S2
      | with_reducible exact S2d
      | go_keep)
    (first
      | (go_at_call 18; refine (f18_any 300 (by omega) _ _ x y _ _ _ (by exact HV2.out) (by exact HV3.out)).mono ?_; rintro e w4 ⟨v4, rfl, hv4, hb4⟩; have HV4 := Lib.hid hv4; have HC4 := Lib.hid (HC2.out.drew.trans (hb4.mono (by simp))); have L4 : w2.heap.size + 2 ≤ w4.heap.size := (by have := hb4.size; simpa using this); have S4 := boxes_law7 HBB.out HC4.out; have HX4 := Lib.hid (HS2.out.below (show Below (w2.heap.size + 2) _ _ from HC4.out) (by simp)); have HY4 := Lib.hid (HS3.out.below (show Below (w2.heap.size + 2) _ _ from HC4.out) (by simp)); clear hv4 hb4)
      | (go_at_call 19; refine (f19_any 300 (by omega) (by omega) _ _ x y 0 w4 HX4.out HY4.out).mono ?_; rintro e w5 ⟨v5, rfl, hs5, hb5⟩; have HS5 := Lib.hid hs5; have HC5 := Lib.hid (HC4.out.trans (hb5.mono L4)); have L5 : w2.heap.size + 2 ≤ w5.heap.size := Nat.le_trans L4 hb5.size; have S5 := boxes_law7 HBB.out HC5.out; have HV5 := Lib.hid (HV4.out.below hb5 (Nat.le_refl _)); clear hs5 hb5)
      | (go_at_call 8; refine (f8_any 8000 310 (by omega) _ _ (andZ x y) w5 _ _ HV5.out HS5.out).mono ?_; rintro e w6 ⟨rfl, hb6⟩; have HC6 := Lib.hid (HC5.out.trans (hb6.mono L5)); have S6 := boxes_law7 HBB.out HC6.out; clear hb6))
  have HE := Lib.hid (HB2.out.trans (HC6.out.mono (by have := HB2.out.size; simp at this; omega)))
  clear S2 S2d S4 S5 S6 HX4 HY4 HV4 HV5 HS5
  go_wp2
  go_ret
  exact ⟨rfl, HE.out⟩

theorem f7_any (neg1 : Bool) (a1 : Option Addr) (len1 cap1 : Nat) (zs1 : List Int) (neg2 : Bool) (a2 : Option Addr) (len2 cap2 : Nat) (zs2 : List Int) (w : World) (h1 : IsRow .u8 w a1 len1 cap1 zs1) (h2 : IsRow .u8 w a2 len2 cap2 zs2) :
    Calls Try.prog 7 #[.bool neg1, .slice a1 len1 cap1, .bool neg2, .slice a2 len2 cap2] w fun e w' => e = .returned (.bool true) ∧ Below w.heap.size w w' := by
  by_cases hl1 : len1 ≤ 2147483647
  · by_cases hl2 : len2 ≤ 2147483647
    · obtain ⟨l1, p1, p2, p3⟩ := h1.toRow
      obtain ⟨l2, q1, q2, q3⟩ := h2.toRow
      exact f7_core neg1 neg2 _ _ l1 l2 (by omega) (by omega) p2 q2 w p3 q3
    · have hl' : (2147483647 : Int) < len2 := by omega
      have hl'' : ¬ (2147483647 : Int) < len1 := by omega
      clear h1 h2
      go_enter Try.func7, Try.ntmps7
      go_wp2
      go_ret
      exact ⟨rfl, Below.refl _ _⟩
  · have hl' : (2147483647 : Int) < len1 := by omega
    clear h1 h2
    go_enter Try.func7, Try.ntmps7
    go_wp2
    go_ret
    exact ⟨rfl, Below.refl _ _⟩
end Go.Proofs.Ytidkdjnfpepnfaa
