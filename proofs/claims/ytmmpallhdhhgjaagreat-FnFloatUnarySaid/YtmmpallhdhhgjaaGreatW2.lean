/- Walks of the package's floats: the answer told; FloatUnary. -/
import Derived.Test.YtmmpallhdhhgjaaGreatW1
namespace Go.Proofs.YtmmpallhdhhgjaaGreat
open Go.RowKit

set_option maxRecDepth 100000 in
theorem f8_float (x : Nat) (w : World) : Calls Tryz.prog 8 #[.iface 43 (.float .f64 x), .nilIface] w fun e w' => e = .returned (.tuple #[(.agg #[.int .i64 3, .bool false, .slice none 0 0, .int .u64 (x : Nat), .string ⟨#[]⟩, .slice none 0 0]), .bool true]) ∧ Below w.heap.size w w' := by
  go_enter Tryz.func8, Tryz.ntmps8
  go_wp2_with fail
  go_at_call 11
  refine (f11_float _ _).mono ?_
  rintro e w1 ⟨rfl, hb⟩
  have HB := Lib.hid (((Below.refl w.heap.size w).alloc (Nat.le_refl _) (.cells #[.int .i64 0, .bool false, .slice none 0 0, .int .u64 0, .string ⟨#[]⟩, .slice none 0 0] 26)).trans (hb.mono (by simp)))
  have hc := bcell hb
  have ZB := hb.size
  simp at ZB
  clear hb
  have zl : w.heap.size < w1.heap.size := ZB
  have hc0 : ∀ o, w1.cell? ⟨w.heap.size, o, none⟩ = (w.alloc (.cells #[.int .i64 0, .bool false, .slice none 0 0, .int .u64 0, .string ⟨#[]⟩, .slice none 0 0] 26)).cell? ⟨w.heap.size, o, none⟩ := fun o => hc.1 _ o (by simp)
  have hf0 : ∀ o, w1.frozen? ⟨w.heap.size, o, none⟩ = (w.alloc (.cells #[.int .i64 0, .bool false, .slice none 0 0, .int .u64 0, .string ⟨#[]⟩, .slice none 0 0] 26)).frozen? ⟨w.heap.size, o, none⟩ := fun o => hc.2 _ o (by simp)
  go_wp2
  refine bodyPost_ret (v := .tuple #[(.agg #[.int .i64 3, .bool false, .slice none 0 0, .int .u64 (x : Nat), .string ⟨#[]⟩, .slice none 0 0]), .bool true]) (by simp [results, Tryz.results8, go_sem, hc0]) rfl ⟨rfl, ?_⟩
  iterate 6 (refine Below.setCell ?_ (show w.heap.size ≤ w.heap.size from Nat.le_refl _) _)
  exact HB.out

/-- What FloatUnary leaves. -/
def MakesF (y : Nat) (w : World) (e : Ending) (w' : World) : Prop := e = .returned (.tuple #[(.agg #[.int .i64 3, .bool false, .slice none 0 0, .int .u64 (y : Nat), .string ⟨#[]⟩, .slice none 0 0]), .bool true]) ∧ Below w.heap.size w w'
set_option maxRecDepth 100000 in
theorem f4_pos (x : Nat) (w : World) : Calls Tryz.prog 4 #[.int .i64 19, .int .u64 x] w (MakesF x w) := by
  go_enter Tryz.func4, Tryz.ntmps4
  go_wp2_with fail
  refine (f7_19 _).mono ?_
  rintro e w1 ⟨rfl, hb⟩
  have HB := Lib.hid (((Below.refl w.heap.size w).alloc (Nat.le_refl _) (.cells #[.int .i64 0, .bool false, .slice none 0 0, .int .u64 0, .string ⟨#[]⟩, .slice none 0 0] 26)).trans (hb.mono (by simp)))
  have HZ : Hid (w.heap.size < w1.heap.size) := by have := hb.size; simp at this; exact this
  have HC := Lib.hid (fun o => hb.cell (p := ⟨w.heap.size, o, none⟩) (by simp))
  have HF := Lib.hid (fun o => hb.frozen (p := ⟨w.heap.size, o, none⟩) (by simp))
  clear hb
  go_wp2_with (first
    | (go_at_call 9; refine (f9_any _ _).mono ?_; rintro e w' ⟨rfl, rfl⟩)
    | (go_at_call 10; refine (f10_pos _ _).mono ?_; rintro e w' ⟨rfl, rfl⟩)
    | fail)
  go_at_call 8
  refine (f8_float _ _).mono ?_
  rintro e w2 ⟨rfl, hb2⟩
  have HB2 := Lib.hid (HB.out.trans (hb2.mono (Nat.le_of_lt HZ.out)))
  have hc0 : ∀ o, w2.cell? ⟨w.heap.size, o, none⟩ = (w.alloc (.cells #[.int .i64 0, .bool false, .slice none 0 0, .int .u64 0, .string ⟨#[]⟩, .slice none 0 0] 26)).cell? ⟨w.heap.size, o, none⟩ := fun o => (hb2.cell (p := ⟨w.heap.size, o, none⟩) HZ.out).trans (HC.out o)
  have hf0 : ∀ o, w2.frozen? ⟨w.heap.size, o, none⟩ = (w.alloc (.cells #[.int .i64 0, .bool false, .slice none 0 0, .int .u64 0, .string ⟨#[]⟩, .slice none 0 0] 26)).frozen? ⟨w.heap.size, o, none⟩ := fun o => (hb2.frozen (p := ⟨w.heap.size, o, none⟩) HZ.out).trans (HF.out o)
  clear hb2
  go_wp2
  refine bodyPost_ret (v := .tuple #[(.agg #[.int .i64 3, .bool false, .slice none 0 0, .int .u64 (x : Nat), .string ⟨#[]⟩, .slice none 0 0]), .bool true]) (by simp [results, Tryz.results4, go_sem, hc0]) rfl ⟨rfl, ?_⟩
  iterate 6 (refine Below.setCell ?_ (show w.heap.size ≤ w.heap.size from Nat.le_refl _) _)
  exact HB2.out
set_option maxRecDepth 100000 in
theorem f4_neg (x : Nat) (w : World) : Calls Tryz.prog 4 #[.int .i64 20, .int .u64 x] w (MakesF (flip63 x) w) := by
  go_enter Tryz.func4, Tryz.ntmps4
  go_wp2_with fail
  refine (f7_20 _).mono ?_
  rintro e w1 ⟨rfl, hb⟩
  have HB := Lib.hid (((Below.refl w.heap.size w).alloc (Nat.le_refl _) (.cells #[.int .i64 0, .bool false, .slice none 0 0, .int .u64 0, .string ⟨#[]⟩, .slice none 0 0] 26)).trans (hb.mono (by simp)))
  have HZ : Hid (w.heap.size < w1.heap.size) := by have := hb.size; simp at this; exact this
  have HC := Lib.hid (fun o => hb.cell (p := ⟨w.heap.size, o, none⟩) (by simp))
  have HF := Lib.hid (fun o => hb.frozen (p := ⟨w.heap.size, o, none⟩) (by simp))
  clear hb
  go_wp2_with (first
    | (go_at_call 9; refine (f9_any _ _).mono ?_; rintro e w' ⟨rfl, rfl⟩)
    | (go_at_call 10; refine (f10_neg _ _).mono ?_; rintro e w' ⟨rfl, rfl⟩)
    | fail)
  go_at_call 8
  refine (f8_float _ _).mono ?_
  rintro e w2 ⟨rfl, hb2⟩
  have HB2 := Lib.hid (HB.out.trans (hb2.mono (Nat.le_of_lt HZ.out)))
  have hc0 : ∀ o, w2.cell? ⟨w.heap.size, o, none⟩ = (w.alloc (.cells #[.int .i64 0, .bool false, .slice none 0 0, .int .u64 0, .string ⟨#[]⟩, .slice none 0 0] 26)).cell? ⟨w.heap.size, o, none⟩ := fun o => (hb2.cell (p := ⟨w.heap.size, o, none⟩) HZ.out).trans (HC.out o)
  have hf0 : ∀ o, w2.frozen? ⟨w.heap.size, o, none⟩ = (w.alloc (.cells #[.int .i64 0, .bool false, .slice none 0 0, .int .u64 0, .string ⟨#[]⟩, .slice none 0 0] 26)).frozen? ⟨w.heap.size, o, none⟩ := fun o => (hb2.frozen (p := ⟨w.heap.size, o, none⟩) HZ.out).trans (HF.out o)
  clear hb2
  go_wp2
  refine bodyPost_ret (v := .tuple #[(.agg #[.int .i64 3, .bool false, .slice none 0 0, .int .u64 (flip63 x : Nat), .string ⟨#[]⟩, .slice none 0 0]), .bool true]) (by simp [results, Tryz.results4, go_sem, hc0]) rfl ⟨rfl, ?_⟩
  iterate 6 (refine Below.setCell ?_ (show w.heap.size ≤ w.heap.size from Nat.le_refl _) _)
  exact HB2.out
end Go.Proofs.YtmmpallhdhhgjaaGreat
