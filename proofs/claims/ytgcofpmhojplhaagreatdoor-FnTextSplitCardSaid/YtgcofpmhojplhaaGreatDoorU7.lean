/- Walks of the thin package's scalars: none, or one small integer. -/
import Derived.Test.YtgcofpmhojplhaaGreatDoorU6
import Derived.Test.YtgcofpmhojplhaaGreatDoorMZb
namespace Go.Proofs.YtgcofpmhojplhaaGreatDoor
open Go.RowKit
open Z (VInt KInt Row)

/-- Block g holds the value of an integer. -/
def VCells (g : Nat) (w : World) (d : Bool) (sl : Value) : Prop := w.cell? ⟨g, 0, none⟩ = some (.int .i64 2) ∧ w.cell? ⟨g, 1, none⟩ = some (.bool d) ∧ w.cell? ⟨g, 2, none⟩ = some sl ∧ w.cell? ⟨g, 3, none⟩ = some (.int .u64 0) ∧ w.cell? ⟨g, 4, none⟩ = some (.string ⟨#[]⟩) ∧ w.cell? ⟨g, 5, none⟩ = some (.slice none 0 0)
def VAgg (d : Bool) (sl : Value) : Value := .agg #[.int .i64 2, .bool d, sl, .int .u64 0, .string ⟨#[]⟩, .slice none 0 0]
def SmallK (z : Int) (w : World) (e : Ending) (w' : World) : Prop := e = .returned (.agg #[.int .i64 z, .pointer none]) ∧ Below w.heap.size w w'
theorem f91_small (v : Value) (z : Int) (hz : Z.smallB z = true) (B : Nat) (w : World) (hv : VInt B 4000 w v z) : Calls Tryz.prog 91 #[v] w (SmallK z w) := by
  refine (Z.f91_any 4000 (by omega) v z B w hv).mono fun e w' ⟨u, he, hk, hb⟩ => ?_
  rcases hk with ⟨_, rfl⟩ | ⟨h, _⟩
  · exact ⟨he, hb⟩
  · rw [hz] at h; cases h
def IfInt (z : Int) (w : World) (e : Ending) (w' : World) : Prop := e = .returned (.tuple #[.iface 150 (.agg #[.int .i64 z, .pointer none]), .bool true]) ∧ Below w.heap.size w w'
set_option maxRecDepth 100000 in
set_option maxHeartbeats 1000000 in
theorem f69_int (d : Bool) (a : Option Addr) (n c : Nat) (z : Int) (hz : Z.smallB z = true) (B : Nat) (w : World) (hv : VInt B 4000 w (VAgg d (.slice a n c)) z) :
    Calls Tryz.prog 69 #[.int .i64 2, .agg #[.int .i64 2, .bool d, .slice a n c, .int .u64 0, .string ⟨#[]⟩, .slice none 0 0]] w (IfInt z w) := by
  have HA : Hid (Below w.heap.size w (w.alloc (.cells #[.int .i64 2, .bool d, .slice a n c, .int .u64 0, .string ⟨#[]⟩, .slice none 0 0] 28))) := (Below.refl _ _).alloc (Nat.le_refl _) _
  have H91 := Lib.hid (f91_small _ z hz B (w.alloc (.cells #[.int .i64 2, .bool d, .slice a n c, .int .u64 0, .string ⟨#[]⟩, .slice none 0 0] 28)) (hv.below HA.out (Nat.le_refl _)))
  clear hv hz
  go_enter Tryz.func69, Tryz.ntmps69
  go_wp2_with fail
  go_at_call 91
  refine H91.out.mono ?_
  rintro e w1 ⟨rfl, hb1⟩
  have HB1 := Lib.hid (HA.out.trans (hb1.mono HA.out.size))
  clear hb1
  go_wp2
  go_ret2
  exact ⟨rfl, HB1.out⟩
def ScalIs (xs : List Value) (w : World) (e : Ending) (w' : World) : Prop := ∃ v, e = .returned (.tuple #[v, .bool true]) ∧ w'.ownsRow w.heap.size 52 1 v xs.length xs ∧ Below w.heap.size w w'
set_option maxRecDepth 100000 in
set_option maxHeartbeats 1000000 in
theorem f40_none (w : World) : Calls Tryz.prog 40 #[.slice none 0 0] w (ScalIs [] w) := by
  obtain ⟨i0, hi, hz0, hz1, hz2⟩ := info_parts infoVal
  have hmk := fun w : World => run_make (P := Tryz.prog) w 57 52 i0 .nilIface Tryz.underlying57 hi hz0 .i64 .i64 (0 : Int) (0 : Int) (by omega) (by omega) (by rw [hz2]; omega) (by omega)
  simp only [hz1, Int.toNat_zero, Nat.mul_one] at hmk
  have HO0 := Lib.hid (own_room w .nilIface 0 52 (by unfold maxLen; omega))
  go_enter Tryz.func40, Tryz.ntmps40
  go_wp2
  go_loop [4, 14] (fun o i => o = .slice (some ⟨w.heap.size, 0, none⟩) 0 0 ∧ i = .int .i64 0) (fun _ _ => 0)
  case atStart => exact ⟨rfl, rfl⟩
  case round =>
    obtain ⟨rfl, rfl⟩ := hrel
    go_wp2
    go_ret2
    exact ⟨_, rfl, HO0.out, (Below.refl _ _).alloc (Nat.le_refl _) _⟩
set_option maxRecDepth 100000 in
set_option maxHeartbeats 2000000 in
theorem f40_one (g c : Nat) (d : Bool) (a : Option Addr) (n cc : Nat) (z : Int) (hz : Z.smallB z = true) (w : World) (hc : VCells g w d (.slice a n cc)) (hv : VInt 0 4000 w (VAgg d (.slice a n cc)) z) :
    Calls Tryz.prog 40 #[.slice (some ⟨g, 0, none⟩) 1 c] w (ScalIs [.iface 150 (.agg #[.int .i64 z, .pointer none])] w) := by
  obtain ⟨i0, hi, hz0, hz1, hz2⟩ := info_parts infoVal
  have hmk := fun w : World => run_make (P := Tryz.prog) w 57 52 i0 .nilIface Tryz.underlying57 hi hz0 .i64 .i64 (0 : Int) (1 : Int) (by omega) (by omega) (by rw [hz2]; omega) (by omega)
  simp only [hz1, show ((1 : Int)).toNat = 1 from rfl, Nat.mul_one] at hmk
  have HO0 := Lib.hid (own_room w .nilIface 1 52 (by unfold maxLen; omega))
  have HB0 : Hid (Below w.heap.size w (w.alloc (.cells (madeCells #[.nilIface] 1) 52))) := (Below.refl _ _).alloc (Nat.le_refl _) _
  have HC := Lib.hid hc
  have HV := Lib.hid hv
  have HZ := Lib.hid hz
  clear hc hv hz
  go_enter Tryz.func40, Tryz.ntmps40
  go_wp2
  clear hmk
  go_loopw [4, 14] (fun o i wr => (o = .slice (some ⟨w.heap.size, 0, none⟩) 0 1 ∧ i = .int .i64 0 ∧ wr = w.alloc (.cells (madeCells #[.nilIface] 1) 52)) ∨ (i = .int .i64 1 ∧ Hid (wr.ownsRow w.heap.size 52 1 o 1 [.iface 150 (.agg #[.int .i64 z, .pointer none])] ∧ Below w.heap.size w wr))) (fun _ i _ => 1 - (RowKit.intOf i).toNat)
  case atStart => exact .inl ⟨rfl, rfl, rfl⟩
  case round =>
    rcases hrel with ⟨rfl, rfl, rfl⟩ | ⟨rfl, HR⟩
    · generalize hw1 : w.alloc (.cells (madeCells #[.nilIface] 1) 52) = w1 at *
      have HW1 := Lib.hid hw1
      clear hw1
      have hcx := HC.out
      have c0 : w1.cell? ⟨g, 0, none⟩ = _ := cell_below hcx.1 HB0.out
      have c1 : w1.cell? ⟨g, 1, none⟩ = _ := cell_below hcx.2.1 HB0.out
      have c2 : w1.cell? ⟨g, 2, none⟩ = _ := cell_below hcx.2.2.1 HB0.out
      have c3 : w1.cell? ⟨g, 3, none⟩ = _ := cell_below hcx.2.2.2.1 HB0.out
      have c4 : w1.cell? ⟨g, 4, none⟩ = _ := cell_below hcx.2.2.2.2.1 HB0.out
      have c5 : w1.cell? ⟨g, 5, none⟩ = _ := cell_below hcx.2.2.2.2.2 HB0.out
      have HA : Hid (Below w.heap.size w (w1.alloc (.cells #[.int .i64 2, .bool d, .slice a n cc, .int .u64 0, .string ⟨#[]⟩, .slice none 0 0] 28))) := HB0.out.alloc HB0.out.size _
      have H69 := Lib.hid (f69_int d a n cc z HZ.out 0 _ (HV.out.below HA.out (Nat.le_refl _)))
      have HO1 := Lib.hid (HO0.out.alloc (.cells #[.int .i64 2, .bool d, .slice a n cc, .int .u64 0, .string ⟨#[]⟩, .slice none 0 0] 28))
      clear hcx
      go_wp2_with fail
      go_at_call 69
      refine H69.out.mono ?_
      rintro e w2 ⟨rfl, hb2⟩
      have HB2 := Lib.hid (HA.out.trans (hb2.mono HA.out.size))
      have HO2 := Lib.hid (own_below HO1.out hb2)
      have K5 : Hid (w.heap.size ≤ (w2.alloc (.cells #[.iface 150 (.agg #[.int .i64 z, .pointer none])] 52)).heap.size) := by show _ ≤ _; have := HB2.out.size; simp; omega
      clear hb2 c0 c1 c2 c3 c4 c5
      go_wp2_with (at_builtin; refine wpList_append_own _ rfl (.tmp 27) (.tmp 29) 57 rfl w.heap.size 52 i0 .nilIface 1 16 Tryz.underlying57 hi hz0 hz1 hz2 rfl (by decide) _ 0 _ rfl (HO2.out.alloc _) ⟨w2.heap.size, 0, none⟩ 1 1 [.iface 150 (.agg #[.int .i64 z, .pointer none])] rfl rfl (one_new _ _ _) (by intro u hu; simp at hu; subst hu; rfl) (by decide) (by decide) K5.out ?_)
      intro v' w3 hown' hgrow _
      have R := rel_app1 HO2.out HB2.out HB2.out.size hown' hgrow
      have HR := Lib.hid R
      clear hown' hgrow R
      go_wp2
      go_roundw
      case rel => exact .inr ⟨rfl, by simpa using HR.out.1, HR.out.2⟩
      case measure => simp [RowKit.intOf]
    · go_wp2
      go_ret2
      exact ⟨_, rfl, HR.out.1, HR.out.2⟩
set_option maxRecDepth 100000 in
theorem f22_of (v : Value) (xs : List Value) (w : World) (h : Calls Tryz.prog 40 #[v] w (ScalIs xs w)) : Calls Tryz.prog 22 #[v] w (ScalIs xs w) := by
  have HC := Lib.hid h
  clear h
  go_enter Tryz.func22, Tryz.ntmps22
  go_wp2_with fail
  go_at_call 40
  refine HC.out.mono ?_
  rintro e w1 ⟨u, rfl, ho, hb⟩
  have HO := Lib.hid ho
  have HB := Lib.hid hb
  clear ho hb
  go_wp2
  go_ret2
  exact ⟨_, rfl, HO.out, HB.out⟩
end Go.Proofs.YtgcofpmhojplhaaGreatDoor
