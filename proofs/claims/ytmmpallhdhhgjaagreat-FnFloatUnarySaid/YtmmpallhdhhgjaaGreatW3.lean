/- A float that is no number stays none under the other sign; the walk of laws.FnFloatUnary. -/
import Derived.Test.YtmmpallhdhhgjaaGreatW2
import Derived.Laws.BitsAllLaws
namespace Go.Proofs.YtmmpallhdhhgjaaGreat
open Go.RowKit

theorem order_self (d : Ieee.Datum) : (d.order d != some .eq) = d.isNaN := by
  cases d with
  | number s m i => simp [Ieee.Datum.order, Ieee.Datum.isNaN]
  | infinity s => simp [Ieee.Datum.order, Ieee.Datum.isNaN]
  | nan s f => simp [Ieee.Datum.order, Ieee.Datum.isNaN]
theorem nan_rung (f : Ieee.Format) (x y : Nat) (h : x % f.signWeight = y % f.signWeight) : (f.read x).isNaN = (f.read y).isNaN := by
  unfold Ieee.Format.read
  simp only [h]
  split
  · rfl
  · split
    · rfl
    · split <;> rfl
/-- Is it no number? -/
def nanB (x : Nat) : Bool := (FloatKind.f64.format.order x x != some .eq)
theorem nan_flip (x : Nat) : nanB (flip63 x) = nanB x := by
  unfold nanB
  show ((FloatKind.f64.format.read _).order _ != _) = ((FloatKind.f64.format.read _).order _ != _)
  rw [order_self, order_self]
  refine nan_rung _ _ _ ?_
  show (x ^^^ 2 ^ 63) % 2 ^ 63 = x % 2 ^ 63
  rw [Nat.xor_mod_two_pow, Nat.mod_self, Nat.xor_zero]
theorem flip_bits (x : Nat) (hx : x < 18446744073709551616) : bits BinOp.xor IntKind.u64 (x : Int) 9223372036854775808 = (flip63 x : Nat) :=
  u64_xor_nat x 9223372036854775808 hx (by decide)
set_option maxRecDepth 100000 in
theorem f5_any (x : Nat) (w : World) : Calls Tryz.prog 5 #[.float .f64 x] w fun e w' => e = .returned (.bool (nanB x)) ∧ w = w' := by
  go_enter Tryz.func5, Tryz.ntmps5
  go_wp2
  go_ret
  exact ⟨rfl, rfl⟩
set_option maxRecDepth 100000 in
set_option maxHeartbeats 1000000 in
theorem f3_num (x : Nat) (hx : x < 18446744073709551616) (hb0 : nanB x = false) (w : World) : Calls Tryz.prog 3 #[.int .u64 x] w fun e w' => e = .returned (.bool true) ∧ Below w.heap.size w w' := by
  have hn := nan_flip x
  rw [hb0] at hn
  have hbt := flip_bits x hx
  have hcall := fun y w => call6 y w
  have HNEG := Lib.hid (fun w => f4_neg x w)
  generalize flip63 x = y at *
  clear hx
  go_enter Tryz.func3, Tryz.ntmps3
  go_wp2_with fail
  refine (f4_pos _ _).mono ?_
  rintro e w1 ⟨rfl, hb⟩
  have HB := Lib.hid (hb.trans ((((Below.refl w1.heap.size w1).alloc (Nat.le_refl _) (.cells #[.int .i64 3, .bool false, .slice none 0 0, .int .u64 (x : Nat), .string ⟨#[]⟩, .slice none 0 0] 26))).mono hb.size))
  clear hb
  go_wp2_with fail
  refine (HNEG.out _).mono ?_
  rintro e w2 ⟨rfl, hb⟩
  have HB2 := Lib.hid ((HB.out.trans (hb.mono HB.out.size)).trans ((((Below.refl w2.heap.size w2).alloc (Nat.le_refl _) (.cells #[.int .i64 3, .bool false, .slice none 0 0, .int .u64 (y : Nat), .string ⟨#[]⟩, .slice none 0 0] 26))).mono (HB.out.trans (hb.mono HB.out.size)).size))
  have hz : w1.heap.size < w2.heap.size := by have := hb.size; simp at this; exact this
  have hc : ∀ o, w2.cell? ⟨w1.heap.size, o, none⟩ = (w1.alloc (.cells #[.int .i64 3, .bool false, .slice none 0 0, .int .u64 (x : Nat), .string ⟨#[]⟩, .slice none 0 0] 26)).cell? ⟨w1.heap.size, o, none⟩ := fun o => hb.cell (p := ⟨w1.heap.size, o, none⟩) (by simp)
  clear hb HNEG HB
  have p0 : (w2.alloc (.cells #[.int .i64 3, .bool false, .slice none 0 0, .int .u64 (y : Nat), .string ⟨#[]⟩, .slice none 0 0] 26)).cell? ⟨w1.heap.size, 0, none⟩ = some (.int .i64 3) := (((Below.refl w2.heap.size w2).alloc (Nat.le_refl _) (.cells #[.int .i64 3, .bool false, .slice none 0 0, .int .u64 (y : Nat), .string ⟨#[]⟩, .slice none 0 0] 26)).cell (p := ⟨w1.heap.size, 0, none⟩) hz).trans ((hc 0).trans (by simp))
  have p3 : (w2.alloc (.cells #[.int .i64 3, .bool false, .slice none 0 0, .int .u64 (y : Nat), .string ⟨#[]⟩, .slice none 0 0] 26)).cell? ⟨w1.heap.size, 3, none⟩ = some (.int .u64 (x : Nat)) := (((Below.refl w2.heap.size w2).alloc (Nat.le_refl _) (.cells #[.int .i64 3, .bool false, .slice none 0 0, .int .u64 (y : Nat), .string ⟨#[]⟩, .slice none 0 0] 26)).cell (p := ⟨w1.heap.size, 3, none⟩) hz).trans ((hc 3).trans (by simp))
  have HZ := Lib.hid hz
  clear hz hc
  go_wp2_with (first
    | (go_at_call 5; refine (f5_any _ _).mono ?_; rintro e w' ⟨rfl, rfl⟩)
    | fail)
  go_ret
  exact ⟨rfl, HB2.out⟩
set_option maxRecDepth 100000 in
set_option maxHeartbeats 1000000 in
theorem f3_nan (x : Nat) (hx : x < 18446744073709551616) (hb0 : nanB x = true) (w : World) : Calls Tryz.prog 3 #[.int .u64 x] w fun e w' => e = .returned (.bool true) ∧ Below w.heap.size w w' := by
  have hn := nan_flip x
  rw [hb0] at hn
  have hbt := flip_bits x hx
  have hcall := fun y w => call6 y w
  have HNEG := Lib.hid (fun w => f4_neg x w)
  generalize flip63 x = y at *
  clear hx
  go_enter Tryz.func3, Tryz.ntmps3
  go_wp2_with fail
  refine (f4_pos _ _).mono ?_
  rintro e w1 ⟨rfl, hb⟩
  have HB := Lib.hid (hb.trans ((((Below.refl w1.heap.size w1).alloc (Nat.le_refl _) (.cells #[.int .i64 3, .bool false, .slice none 0 0, .int .u64 (x : Nat), .string ⟨#[]⟩, .slice none 0 0] 26))).mono hb.size))
  clear hb
  go_wp2_with fail
  refine (HNEG.out _).mono ?_
  rintro e w2 ⟨rfl, hb⟩
  have HB2 := Lib.hid ((HB.out.trans (hb.mono HB.out.size)).trans ((((Below.refl w2.heap.size w2).alloc (Nat.le_refl _) (.cells #[.int .i64 3, .bool false, .slice none 0 0, .int .u64 (y : Nat), .string ⟨#[]⟩, .slice none 0 0] 26))).mono (HB.out.trans (hb.mono HB.out.size)).size))
  have hz : w1.heap.size < w2.heap.size := by have := hb.size; simp at this; exact this
  have hc : ∀ o, w2.cell? ⟨w1.heap.size, o, none⟩ = (w1.alloc (.cells #[.int .i64 3, .bool false, .slice none 0 0, .int .u64 (x : Nat), .string ⟨#[]⟩, .slice none 0 0] 26)).cell? ⟨w1.heap.size, o, none⟩ := fun o => hb.cell (p := ⟨w1.heap.size, o, none⟩) (by simp)
  clear hb HNEG HB
  have p0 : (w2.alloc (.cells #[.int .i64 3, .bool false, .slice none 0 0, .int .u64 (y : Nat), .string ⟨#[]⟩, .slice none 0 0] 26)).cell? ⟨w1.heap.size, 0, none⟩ = some (.int .i64 3) := (((Below.refl w2.heap.size w2).alloc (Nat.le_refl _) (.cells #[.int .i64 3, .bool false, .slice none 0 0, .int .u64 (y : Nat), .string ⟨#[]⟩, .slice none 0 0] 26)).cell (p := ⟨w1.heap.size, 0, none⟩) hz).trans ((hc 0).trans (by simp))
  have p3 : (w2.alloc (.cells #[.int .i64 3, .bool false, .slice none 0 0, .int .u64 (y : Nat), .string ⟨#[]⟩, .slice none 0 0] 26)).cell? ⟨w1.heap.size, 3, none⟩ = some (.int .u64 (x : Nat)) := (((Below.refl w2.heap.size w2).alloc (Nat.le_refl _) (.cells #[.int .i64 3, .bool false, .slice none 0 0, .int .u64 (y : Nat), .string ⟨#[]⟩, .slice none 0 0] 26)).cell (p := ⟨w1.heap.size, 3, none⟩) hz).trans ((hc 3).trans (by simp))
  have HZ := Lib.hid hz
  clear hz hc
  go_wp2_with (first
    | (go_at_call 5; refine (f5_any _ _).mono ?_; rintro e w' ⟨rfl, rfl⟩)
    | fail)
  go_ret
  exact ⟨rfl, HB2.out⟩
theorem f3_any (a : Int) (h : (Lit.int .u64 a).wf = true) (w : World) : Calls Tryz.prog 3 #[.int .u64 a] w fun e w' => e = .returned (.bool true) ∧ Below w.heap.size w w' := by
  have h' : 0 ≤ a ∧ a ≤ 18446744073709551615 := by simpa [Lit.wf, IntKind.min, IntKind.max, IntKind.signed, IntKind.bits] using h
  obtain ⟨x, rfl⟩ := Int.eq_ofNat_of_zero_le h'.1
  cases hb : nanB x
  · exact f3_num x (by omega) hb w
  · exact f3_nan x (by omega) hb w
end Go.Proofs.YtmmpallhdhhgjaaGreat
