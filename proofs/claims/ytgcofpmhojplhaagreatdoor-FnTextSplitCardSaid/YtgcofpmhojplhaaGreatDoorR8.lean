/- Walks of the thin package's texts: none, or one. -/
import Derived.Test.YtgcofpmhojplhaaGreatDoorR7
namespace Go.Proofs.YtgcofpmhojplhaaGreatDoor
open Go.RowKit

theorem info52 : (Tryz.prog.info? 52).map (fun i => (i.zero, i.size, i.bytes)) = some (some .nilIface, 1, 16) := by kernel_rfl
set_option maxRecDepth 100000 in
theorem f17_none (w : World) : Calls Tryz.prog 17 #[.slice none 0 0] w fun e w' => e = .returned (.slice none 0 0) ∧ w = w' := by
  go_enter Tryz.func17, Tryz.ntmps17
  go_wp2
  go_loop [2, 7] (fun v i => v = .slice none 0 0 ∧ i = .int .i64 0) (fun _ _ => 0)
  case atStart => exact ⟨rfl, rfl⟩
  case round =>
    obtain ⟨rfl, rfl⟩ := hrel
    go_wp2
    go_ret
    exact ⟨rfl, rfl⟩
/-- A slice of one string as a value. -/
def OneArg (cs : ByteArray) (w : World) (e : Ending) (w' : World) : Prop := ∃ g c, e = .returned (.slice (some ⟨g, 0, none⟩) 1 c) ∧ w'.cell? ⟨g, 0, none⟩ = some (.iface 72 (.string cs)) ∧ Below w.heap.size w w'
theorem one_row {w : World} {B : Nat} {v x : Value} (h : w.ownsRow B 52 1 v 1 [x]) : ∃ g c, v = .slice (some ⟨g, 0, none⟩) 1 c ∧ w.cell? ⟨g, 0, none⟩ = some x := by
  rcases h.2 with ⟨_, h⟩ | ⟨g, cap, cur, rfl, _, hg, _, _, _, ht⟩
  · omega
  · refine ⟨g, cap, rfl, ?_⟩
    have h0 : cur[0]? = some x := by
      rw [← Array.getElem?_toList]
      cases hc : cur.toList with
      | nil => rw [hc] at ht; simp at ht
      | cons a t => rw [hc] at ht; simp at ht; simp [ht]
    simp [World.cell?, hg, h0]
set_option maxRecDepth 100000 in
set_option maxHeartbeats 1000000 in
theorem f17_one (cs : ByteArray) (g c : Nat) (w : World) (hg : w.cell? ⟨g, 0, none⟩ = some (.string cs)) : Calls Tryz.prog 17 #[.slice (some ⟨g, 0, none⟩) 1 c] w (OneArg cs w) := by
  obtain ⟨i0, hi, hz0, hz1, hz2⟩ := info_parts info52
  go_enter Tryz.func17, Tryz.ntmps17
  go_wp2
  go_loopw [2, 7] (fun v i wr => (v = .slice none 0 0 ∧ i = .int .i64 0 ∧ wr = w) ∨ (i = .int .i64 1 ∧ Hid (wr.ownsRow w.heap.size 52 1 v 1 [.iface 72 (.string cs)] ∧ Below w.heap.size w wr))) (fun _ i _ => 1 - (RowKit.intOf i).toNat)
  case atStart => exact .inl ⟨rfl, rfl, rfl⟩
  case round =>
    rcases hrel with ⟨rfl, rfl, rfl⟩ | ⟨rfl, HO⟩
    · go_wp2_with (at_builtin; refine wpList_append_own _ rfl _ _ 57 rfl wr.heap.size 52 i0 .nilIface 1 16 Tryz.underlying57 hi hz0 hz1 hz2 rfl (by decide) _ 0 [] rfl ⟨rfl, .inl ⟨rfl, rfl⟩⟩ ⟨wr.heap.size, 0, none⟩ 1 1 [.iface 72 (.string cs)] rfl rfl (cell_one_new _ _ _) (by intro u hu; simp at hu; subst hu; rfl) (by decide) (by decide) (by simp) ?_; intro v' w1 ho hg1 _; have HO1 := Lib.hid ho; have HB1 : Hid (Below wr.heap.size wr w1) := ((Below.refl _ _).alloc (Nat.le_refl _) _).grown hg1 (by simp) (by intro k hk; cases hk); clear ho hg1)
      go_roundw
      case rel => exact .inr ⟨rfl, by simpa using HO1.out, HB1.out⟩
      case measure => simp [RowKit.intOf]
    · obtain ⟨g2, c2, rfl, hc2⟩ := one_row HO.out.1
      have HC2 := Lib.hid hc2
      clear hc2
      go_wp2
      go_ret
      exact ⟨g2, c2, rfl, HC2.out, HO.out.2⟩
end Go.Proofs.YtgcofpmhojplhaaGreatDoor
