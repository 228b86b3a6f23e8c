/- Walks of the package's arguments by place: one string, or none. -/
import Derived.Test.YtgcofpmhojplhaaGreatDoorR2
namespace Go.Proofs.YtgcofpmhojplhaaGreatDoor
open Go.RowKit

set_option maxRecDepth 100000 in
theorem f82_any (nm : ByteArray) (a : Option Addr) (n c : Nat) (hn : n ≤ 1) (w : World) : Calls Tryz.prog 82 #[.string nm, .slice a n c, .slice none 0 0, .int .i64 0, .int .i64 1] w fun e w' => e = .returned .nilIface ∧ w = w' := by
  have h1 : (n : Int) ≤ 1 := by omega
  have h2 : ¬ (n : Int) > 1 := by omega
  clear hn
  go_enter Tryz.func82, Tryz.ntmps82
  go_wp2
  go_ret
  exact ⟨rfl, rfl⟩
set_option maxRecDepth 100000 in
theorem f73_str (cs : ByteArray) (w : World) : Calls Tryz.prog 73 #[.iface 72 (.string cs)] w fun e w' => e = .returned (.tuple #[.string cs, .bool true]) ∧ w = w' := by
  have a72 : ∀ w, (Instr.typeAssert (.iface 72 (.string cs)) 52 72 true).run Tryz.prog w = .ok (.tuple #[.string cs, .bool true]) w := fun _ => by kernel_rfl
  go_enter Tryz.func73, Tryz.ntmps73
  go_wp2
  go_ret2
  exact ⟨rfl, rfl⟩
set_option maxRecDepth 100000 in
theorem f83_str (cs : ByteArray) (p : Nat) (w : World) (hc : (w.cell? ⟨p, 0, none⟩).isSome = true) (hf : w.frozen? ⟨p, 0, none⟩ = false) : Calls Tryz.prog 83 #[.iface 72 (.string cs), .iface 105 (.pointer (some ⟨p, 0, none⟩))] w fun e w' => e = .returned .nilIface ∧ w.setCell ⟨p, 0, none⟩ (.string cs) = w' := by
  have a116 : ∀ w, (Instr.typeAssert (.iface 105 (.pointer (some ⟨p, 0, none⟩))) 20 116 true).run Tryz.prog w = .ok (.tuple #[.pointer none, .bool false]) w := fun _ => by kernel_rfl
  have a105 : ∀ w, (Instr.typeAssert (.iface 105 (.pointer (some ⟨p, 0, none⟩))) 20 105 true).run Tryz.prog w = .ok (.tuple #[.pointer (some ⟨p, 0, none⟩), .bool true]) w := fun _ => by kernel_rfl
  obtain ⟨v0, hv0⟩ := Option.isSome_iff_exists.1 hc
  clear hc
  go_enter Tryz.func83, Tryz.ntmps83
  go_wp2_with (go_at_call 73; refine (f73_str _ _).mono ?_; rintro e w' ⟨rfl, rfl⟩)
  go_ret
  exact ⟨rfl, rfl⟩
set_option maxRecDepth 100000 in
theorem f56_any (nm : ByteArray) (w : World) : Calls Tryz.prog 56 #[.string nm, .func (.func 35) #[] #[]] w fun e w' => e = .returned (.pointer (some ⟨w.heap.size, 0, none⟩)) ∧ w.alloc (.cells #[.string nm, .func (.func 35) #[] #[], .nilIface] 134) = w' := by
  go_enter Tryz.func56, Tryz.ntmps56
  go_wp2
  go_ret
  exact ⟨rfl, rfl⟩
set_option maxRecDepth 100000 in
theorem f59_any (nm : ByteArray) (b : Nat) (w : World) (h : w.cell? ⟨b, 0, none⟩ = some (.string nm)) : Calls Tryz.prog 59 #[.pointer (some ⟨b, 0, none⟩)] w fun e w' => e = .returned (.string nm) ∧ w = w' := by
  go_enter Tryz.func59, Tryz.ntmps59
  go_wp2
  go_ret
  exact ⟨rfl, rfl⟩
set_option maxRecDepth 100000 in
theorem f60_any (s : ByteArray) (b : Nat) (w : World) (h : w.cell? ⟨b, 2, none⟩ = some (.iface 72 (.string s))) : Calls Tryz.prog 60 #[.pointer (some ⟨b, 0, none⟩)] w fun e w' => e = .returned (.iface 72 (.string s)) ∧ w = w' := by
  go_enter Tryz.func60, Tryz.ntmps60
  go_wp2
  go_ret
  exact ⟨rfl, rfl⟩
set_option maxRecDepth 100000 in
theorem f15_str (s : ByteArray) (w : World) : Calls Tryz.prog 15 #[.iface 72 (.string s), .nilIface] w fun e w' => e = .returned (.tuple #[.string s, .bool true]) ∧ w = w' := by
  have a72 : ∀ w, (Instr.typeAssert (.iface 72 (.string s)) 52 72 true).run Tryz.prog w = .ok (.tuple #[.string s, .bool true]) w := fun _ => by kernel_rfl
  go_enter Tryz.func15, Tryz.ntmps15
  go_wp2
  go_ret2
  exact ⟨rfl, rfl⟩
set_option maxRecDepth 100000 in
theorem f58_none (nm : ByteArray) (ar : Value) (har : ar = .slice none 0 0 ∨ ∃ a c, ar = .slice (some a) 0 c) (h : Nat) (w : World) : Calls Tryz.prog 58 #[.string nm, ar, .slice none 0 0, .int .i64 0, .slice (some ⟨h, 0, none⟩) 1 1] w fun e w' => e = .returned .nilIface ∧ w = w' := by
  have HC : Hid (∀ w, Calls Tryz.prog 82 #[.string nm, ar, .slice none 0 0, .int .i64 0, .int .i64 1] w fun e w' => e = .returned .nilIface ∧ w = w') := fun w => by
    rcases har with rfl | ⟨a, c, rfl⟩ <;> exact f82_any nm _ 0 _ (by omega) w
  rcases har with rfl | ⟨a, c, rfl⟩
  all_goals
    go_enter Tryz.func58, Tryz.ntmps58
    go_wp2_with (go_at_call 82; refine (HC.out _).mono ?_; rintro e w' ⟨rfl, rfl⟩)
    go_loop [27] (fun i => i = .int .i64 0) (fun _ => 0)
    case atStart => rfl
    case round =>
      obtain rfl := hrel
      go_wp2
      go_ret
      exact ⟨rfl, rfl⟩
set_option maxRecDepth 100000 in
theorem f58_one (nm cs : ByteArray) (g c h p : Nat) (w : World) (hg : w.cell? ⟨g, 0, none⟩ = some (.iface 72 (.string cs))) (hh : w.cell? ⟨h, 0, none⟩ = some (.iface 105 (.pointer (some ⟨p, 0, none⟩)))) (hc : (w.cell? ⟨p, 0, none⟩).isSome = true) (hf : w.frozen? ⟨p, 0, none⟩ = false) :
    Calls Tryz.prog 58 #[.string nm, .slice (some ⟨g, 0, none⟩) 1 c, .slice none 0 0, .int .i64 0, .slice (some ⟨h, 0, none⟩) 1 1] w fun e w' => e = .returned .nilIface ∧ w.setCell ⟨p, 0, none⟩ (.string cs) = w' := by
  have HC : Hid (∀ w, Calls Tryz.prog 82 #[.string nm, .slice (some ⟨g, 0, none⟩) 1 c, .slice none 0 0, .int .i64 0, .int .i64 1] w fun e w' => e = .returned .nilIface ∧ w = w') := fun w => f82_any nm _ 1 _ (by omega) w
  have HU := Lib.hid (f83_str cs p w hc hf)
  clear hc hf
  go_enter Tryz.func58, Tryz.ntmps58
  go_wp2_with (go_at_call 82; refine (HC.out _).mono ?_; rintro e w' ⟨rfl, rfl⟩)
  go_loopw [27] (fun i wr => (i = .int .i64 0 ∧ wr = w) ∨ (i = .int .i64 1 ∧ wr = w.setCell ⟨p, 0, none⟩ (.string cs))) (fun i _ => 1 - (RowKit.intOf i).toNat)
  case atStart => exact .inl ⟨rfl, rfl⟩
  case round =>
    rcases hrel with ⟨rfl, rfl⟩ | ⟨rfl, rfl⟩
    · go_wp2_with (go_at_call 83; refine HU.out.mono ?_; rintro e w' ⟨rfl, rfl⟩)
      go_roundw
      case rel => exact .inr ⟨rfl, trivial⟩
      case measure => simp [RowKit.intOf]
    · go_wp2
      go_ret
      exact ⟨rfl, rfl⟩
end Go.Proofs.YtgcofpmhojplhaaGreatDoor
