/- Walks of the package's arguments by place: unpackPositionalArgsNoEscape at a value, or a value and a small integer. -/
import Derived.Test.YtgcofpmhojplhaaGreatDoorU1
namespace Go.Proofs.YtgcofpmhojplhaaGreatDoor
open Go.RowKit

/-- Two old cells hold this; below B all is as it was. -/
def Put2 (a b B : Nat) (x y : Value) (w w' : World) : Prop := Below B w w' ∧ w'.cell? ⟨a, 0, none⟩ = some x ∧ w'.cell? ⟨b, 0, none⟩ = some y
def Puts2Nil (a b B : Nat) (x y : Value) (w : World) (e : Ending) (w' : World) : Prop := e = .returned .nilIface ∧ Put2 a b B x y w w'
set_option maxRecDepth 100000 in
set_option maxHeartbeats 1000000 in
theorem f58_val (nm : ByteArray) (t : TypeId) (x : Value) (g c h a b B : Nat) (y : Value) (w : World) (hg : w.cell? ⟨g, 0, none⟩ = some (.iface t x)) (h0 : w.cell? ⟨h, 0, none⟩ = some (.iface 116 (.pointer (some ⟨a, 0, none⟩))))
    (ha : w.cell? ⟨a, 0, none⟩ = some .nilIface) (hfa : w.frozen? ⟨a, 0, none⟩ = false) (hb : w.cell? ⟨b, 0, none⟩ = some y) (hab : a ≠ b) (hB : B ≤ a) :
    Calls Tryz.prog 58 #[.string nm, .slice (some ⟨g, 0, none⟩) 1 c, .slice none 0 0, .int .i64 0, .slice (some ⟨h, 0, none⟩) 2 2] w (Puts2Nil a b B (.iface t x) y w) := by
  have HC : Hid (∀ w, Calls Tryz.prog 82 #[.string nm, .slice (some ⟨g, 0, none⟩) 1 c, .slice none 0 0, .int .i64 0, .int .i64 2] w fun e w' => e = .returned .nilIface ∧ w = w') := fun w => f82_two nm _ 1 _ (by omega) w
  have HU := Lib.hid (f83_val t x a .nilIface w ha hfa)
  have hal := World.block_lt_of_cell? w _ ha
  have HBL := Lib.hid hb
  have HAB := Lib.hid (And.intro hab (And.intro hB hal))
  clear ha hfa hb hab hB hal
  go_enter Tryz.func58, Tryz.ntmps58
  go_wp2_with (go_at_call 82; refine (HC.out _).mono ?_; rintro e w' ⟨rfl, rfl⟩)
  go_loopw [27] (fun i wr => (i = .int .i64 0 ∧ wr = w) ∨ (i = .int .i64 1 ∧ Hid (Put1 a (.iface t x) w wr))) (fun i _ => 1 - (RowKit.intOf i).toNat)
  case atStart => exact .inl ⟨rfl, rfl⟩
  case round =>
    rcases hrel with ⟨rfl, rfl⟩ | ⟨rfl, HP⟩
    · go_wp2_with (go_at_call 83; refine HU.out.mono ?_; rintro e w' ⟨rfl, hp⟩; have HP := Lib.hid hp; clear hp)
      go_roundw
      case rel => exact .inr ⟨rfl, HP.out⟩
      case measure => simp [RowKit.intOf]
    · go_wp2
      go_ret
      exact ⟨rfl, HP.out.below HAB.out.2.1 HAB.out.2.2, HP.out.val, HP.out.cell (Ne.symm HAB.out.1) HBL.out⟩
set_option maxRecDepth 100000 in
set_option maxHeartbeats 1000000 in
theorem f58_int (nm : ByteArray) (t : TypeId) (x : Value) (z : Int) (g c h a b B : Nat) (y : Value) (w : World) (hg : w.cell? ⟨g, 0, none⟩ = some (.iface t x)) (hg1 : w.cell? ⟨g, 1, none⟩ = some (.iface 150 (.agg #[.int .i64 z, .pointer none])))
    (h0 : w.cell? ⟨h, 0, none⟩ = some (.iface 116 (.pointer (some ⟨a, 0, none⟩)))) (h1 : w.cell? ⟨h, 1, none⟩ = some (.iface 117 (.pointer (some ⟨b, 0, none⟩))))
    (ha : w.cell? ⟨a, 0, none⟩ = some .nilIface) (hfa : w.frozen? ⟨a, 0, none⟩ = false) (hb : w.cell? ⟨b, 0, none⟩ = some y) (hfb : w.frozen? ⟨b, 0, none⟩ = false) (hab : a ≠ b) (hB : B ≤ a) (hBb : B ≤ b) (hga : g ≠ a) (hha : h ≠ a) :
    Calls Tryz.prog 58 #[.string nm, .slice (some ⟨g, 0, none⟩) 2 c, .slice none 0 0, .int .i64 0, .slice (some ⟨h, 0, none⟩) 2 2] w (Puts2Nil a b B (.iface t x) (.int .i64 z) w) := by
  have HC : Hid (∀ w, Calls Tryz.prog 82 #[.string nm, .slice (some ⟨g, 0, none⟩) 2 c, .slice none 0 0, .int .i64 0, .int .i64 2] w fun e w' => e = .returned .nilIface ∧ w = w') := fun w => f82_two nm _ 2 _ (by omega) w
  have HU := Lib.hid (f83_val t x a .nilIface w ha hfa)
  have hal := World.block_lt_of_cell? w _ ha
  have hbl := World.block_lt_of_cell? w _ hb
  have HB0 := Lib.hid hb
  have HBF := Lib.hid hfb
  have HG1 := Lib.hid hg1
  have HH1 := Lib.hid h1
  have HAB := Lib.hid (And.intro hab (And.intro hB (And.intro hal (And.intro hBb hbl))))
  have HGA := Lib.hid hga
  have HHA := Lib.hid hha
  clear ha hfa hb hfb hab hB hal hbl hBb hga hha hg1 h1
  go_enter Tryz.func58, Tryz.ntmps58
  go_wp2_with (go_at_call 82; refine (HC.out _).mono ?_; rintro e w' ⟨rfl, rfl⟩)
  go_loopw [27] (fun i wr => (i = .int .i64 0 ∧ wr = w) ∨ (i = .int .i64 1 ∧ Hid (Put1 a (.iface t x) w wr)) ∨ (i = .int .i64 2 ∧ Hid (∃ w1, Put1 a (.iface t x) w w1 ∧ Put1 b (.int .i64 z) w1 wr))) (fun i _ => 2 - (RowKit.intOf i).toNat)
  case atStart => exact .inl ⟨rfl, rfl⟩
  case round =>
    rcases hrel with ⟨rfl, rfl⟩ | ⟨rfl, HP⟩ | ⟨rfl, HP⟩
    · go_wp2_with (go_at_call 83; refine HU.out.mono ?_; rintro e w' ⟨rfl, hp⟩; have HP := Lib.hid hp; clear hp)
      go_roundw
      case rel => exact .inr (.inl ⟨rfl, HP.out⟩)
      case measure => simp [RowKit.intOf]
    · have k1 : wr.cell? ⟨g, 1, none⟩ = some (.iface 150 (.agg #[.int .i64 z, .pointer none])) := HP.out.cell HGA.out HG1.out
      have k2 : wr.cell? ⟨h, 1, none⟩ = some (.iface 117 (.pointer (some ⟨b, 0, none⟩))) := HP.out.cell HHA.out HH1.out
      have HU2 := Lib.hid (f83_int z b y wr (HP.out.cell (Ne.symm HAB.out.1) HB0.out) (HP.out.free (Ne.symm HAB.out.1) HB0.out HBF.out))
      go_wp2_with (go_at_call 83; refine HU2.out.mono ?_; rintro e w' ⟨rfl, hp⟩; have HP2 := Lib.hid hp; clear hp)
      go_roundw
      case rel => exact .inr (.inr ⟨rfl, wr, HP.out, HP2.out⟩)
      case measure => simp [RowKit.intOf]
    · obtain ⟨w1, hp1, hp2⟩ := HP.out
      have HP1 := Lib.hid hp1
      have HP2 := Lib.hid hp2
      clear hp1 hp2
      go_wp2
      go_ret
      have hx := HAB.out
      exact ⟨rfl, (HP1.out.below hx.2.1 hx.2.2.1).trans (HP2.out.below hx.2.2.2.1 (Nat.lt_of_lt_of_le hx.2.2.2.2 HP1.out.size)), HP2.out.cell hx.1 HP1.out.val, HP2.out.val⟩
end Go.Proofs.YtgcofpmhojplhaaGreatDoor
