/- Walks of the package's ints: MakeInt64, Sub. -/
import Derived.Test.YtidkdjnfpepnfaaBig14
import Derived.Test.YtidkdjnfpepnfaaBig22
import Derived.Test.YtidkdjnfpepnfaaBig23
namespace Go.Proofs.Ytidkdjnfpepnfaa
open Go.RowKit

theorem f52_any (g gx gy : Nat) (zx zy : Int) (Bx By : Nat) (slx sly : Value) (xs ys : List Nat) (w : World) (hnew : New w g) (hx : BInt Bx w gx zx slx xs) (hy : BInt By w gy zy sly ys) (hlx : xs.length ≤ 800) (hly : ys.length ≤ 800) :
    Calls Try.prog 52 #[.pointer (some ⟨g, 0, none⟩), .pointer (some ⟨gx, 0, none⟩), .pointer (some ⟨gy, 0, none⟩)] w (SetPost g (zx - zy) w) := by
  by_cases hab : decide (zx < 0) = decide (zy < 0)
  · by_cases hge : zy.natAbs ≤ zx.natAbs
    · exact f52_ge g gx gy zx zy Bx By slx sly xs ys w hnew hx hy hlx hly _ _ rfl rfl hab hge
    · exact f52_lt g gx gy zx zy Bx By slx sly xs ys w hnew hx hy hlx hly _ _ rfl rfl hab (by omega)
  · exact f52_diff g gx gy zx zy Bx By slx sly xs ys w hnew hx hy hlx hly _ _ rfl rfl hab

theorem smallB_iff (z : Int) : smallB z = true ↔ -2147483648 ≤ z ∧ z ≤ 2147483647 := by unfold smallB; simp; omega

set_option maxRecDepth 100000 in
set_option maxHeartbeats 1000000 in
theorem f57_wide (z : Int) (h1 : -9223372036854775808 < z) (h2 : z < 9223372036854775808) (w : World) : Calls Try.prog 57 #[.int .i64 z] w (MakesB z w) := by
  by_cases hz : z = 0
  · subst hz
    go_enter Try.func57, Try.ntmps57
    go_wp2
    go_ret
    refine ⟨w.heap.size, .slice none 0 0, [], rfl, Nat.le_refl _, ⟨by simpa using heap_alloc_new w _, .inl ⟨rfl, .inl rfl⟩, isW_nil, by simp⟩, (Below.refl _ _).alloc (Nat.le_refl _) _⟩
  · have hne : (z == 0) = false := by rw [beq_eq_false_iff_ne]; exact hz
    by_cases hn : z < 0
    · have hm : Hid (IntKind.u64.wrap (-IntKind.u64.wrap z) = (z.natAbs : Int)) := by show _ = _; rw [IntKind.wrap_u64, IntKind.wrap_u64]; omega
      have HM := Lib.hid (made_one w z z.natAbs true rfl hz (by simpa using hn) (by unfold W; omega))
      go_enter Try.func57, Try.ntmps57
      go_wp2
      go_ret
      refine ⟨w.heap.size + 1, .slice (some ⟨w.heap.size, 0, none⟩) 1 1, [z.natAbs], rfl, by omega, ?_, ((Below.refl _ _).alloc (Nat.le_refl _) _).alloc (by simp) _⟩
      rw [hm.out]; exact HM.out
    · have hm : Hid (z = (z.natAbs : Int)) := by show _ = _; omega
      have HM := Lib.hid (made_one w z z.natAbs false rfl hz (by simpa using hn) (by unfold W; omega))
      go_enter Try.func57, Try.ntmps57
      go_wp2
      go_ret
      refine ⟨w.heap.size + 1, .slice (some ⟨w.heap.size, 0, none⟩) 1 1, [z.natAbs], rfl, by omega, ?_, ((Below.refl _ _).alloc (Nat.le_refl _) _).alloc (by simp) _⟩
      have := HM.out
      rw [← hm.out] at this
      exact this

set_option maxRecDepth 100000 in
set_option maxHeartbeats 1000000 in
theorem f53_any (z : Int) (h1 : -4294967296 ≤ z) (h2 : z ≤ 4294967296) (w : World) : Calls Try.prog 53 #[.int .i64 z] w (MakesK z w) := by
  by_cases hs : smallB z = true
  · have HS := Lib.hid hs
    have hs1 := (smallB_iff z).1 hs
    have ha : (-2147483648 : Int) ≤ z := hs1.1
    have hb : z ≤ 2147483647 := hs1.2
    clear hs hs1
    go_enter Try.func53, Try.ntmps53
    go_wp2_with fail
    refine (f41_any z _).mono ?_
    rintro e w1 ⟨rfl, hb⟩
    obtain ⟨c, f⟩ := later hb (by simp)
    have HB : Hid (Below w.heap.size w w1) := ((Below.refl _ _).alloc (Nat.le_refl _) _).trans (hb.mono (by simp))
    clear hb
    go_wp2_with fail
    refine bodyPost_ret (v := .agg #[.int .i64 z, .pointer none]) (by simp [results, Try.results53, go_sem, c]) rfl ?_
    refine ⟨_, rfl, .inl ⟨HS.out, rfl⟩, ?_⟩
    iterate 2 (refine Below.setCell ?_ (show w.heap.size ≤ w.heap.size by omega) _)
    exact HB.out
  · have hs : smallB z = false := by simpa using hs
    have HS := Lib.hid hs
    have hn : ¬ (-2147483648 ≤ z ∧ z ≤ 2147483647) := fun h => by
      have := (smallB_iff z).2 h; rw [hs] at this; cases this
    clear hs
    have HF := Lib.hid (fun w => f57_wide z (by omega) (by omega) w)
    have hc : ((-2147483648 : Int) ≤ z ∧ ¬ z ≤ 2147483647) ∨ ¬ (-2147483648 : Int) ≤ z := by omega
    clear hn
    rcases hc with ⟨ha, hb⟩ | ha
    all_goals
      go_enter Try.func53, Try.ntmps53
      go_wp2_with fail
      refine (HF.out _).mono ?_
      rintro e w1 ⟨g, sl, xs, rfl, hg, hx, hb1⟩
      have hg1 : w.heap.size + 1 ≤ g := by simpa using hg
      have hz1 : w.heap.size + 1 ≤ w1.heap.size := by have := hb1.size; simpa using this
      have HX := Lib.hid hx
      have HB1 : Hid (Below (w.heap.size + 1) (w.alloc (.cells #[.int .i64 0, .pointer none] 49)) w1) := hb1.mono (by simp)
      clear hx hb1 HF hg
      go_wp2_with fail
      refine (f42_any g _).mono ?_
      rintro e w2 ⟨rfl, hb2⟩
      have HX2 := Lib.hid (HX.out.below hb2 (Nat.le_refl _))
      have HB2 := Lib.hid (HB1.out.trans (hb2.mono hz1))
      obtain ⟨c, f⟩ := later HB2.out (Nat.le_refl _)
      clear hb2 HX HB1
      go_wp2_with fail
      refine bodyPost_ret (v := .agg #[.int .i64 0, .pointer (some ⟨g, 0, none⟩)]) (by simp [results, Try.results53, go_sem, c]) rfl ?_
      refine ⟨_, rfl, .inr ⟨HS.out, g, sl, xs, rfl, by omega, ?_⟩, ?_⟩
      · refine BInt.le (B := w.heap.size + 1) ?_ (by omega)
        iterate 2 (refine BInt.setOld ?_ (by omega) (show w.heap.size < w.heap.size + 1 by omega) _)
        exact HX2.out.le (by simp)
      · iterate 2 (refine Below.setCell ?_ (show w.heap.size ≤ w.heap.size by omega) _)
        exact ((Below.refl _ _).alloc (Nat.le_refl _) _).trans (HB2.out.mono (by omega))
end Go.Proofs.Ytidkdjnfpepnfaa
