/- Walks of the package's ord. -/
import Derived.Test.YtbimbpplkhdeiaaDoorO1
namespace Go.Proofs.YtbimbpplkhdeiaaDoor
open Go.RowKit

/-- An int, and no error. -/
def OrdOne (z : Int) (w : World) (e : Ending) (w' : World) : Prop := e = .returned (.tuple #[.iface 52 (.agg #[.int .i64 z, .pointer none]), .nilIface]) ∧ Below w.heap.size w w'
/-- No value, and an error. -/
def OrdNo (w : World) (e : Ending) (w' : World) : Prop := ∃ a : Addr, e = .returned (.tuple #[.nilIface, .iface 89 (.pointer (some a))]) ∧ Below w.heap.size w w'

theorem dec_one (s : ByteArray) (r : Nat) (hs : s.data.toList = Lib.encodeRune (r : Int)) (hv : Lib.validRune (r : Int) = true) : Lib.decodeGo s = (r, s.size) := by
  have hp : 0 < s.size := by rw [size_list, hs]; exact List.length_pos_iff.2 (encodeRune_ne _)
  rw [decodeGo_list s hp, hs]
  have e := decL_encode r hv []
  rw [List.append_nil] at e
  rw [e, size_list, hs]
theorem dec_no (s : ByteArray) (rs : List Nat) (hs : s.data.toList = textOf rs) (hv : AllValid rs) (hn : rs.length ≠ 1) : (Lib.decodeGo s).2 = 0 ∨ (0 < (Lib.decodeGo s).2 ∧ (Lib.decodeGo s).2 < s.size) := by
  match rs, hs, hv, hn with
  | [], hs, _, _ =>
    left
    have : s.size = 0 := by rw [size_list, hs]; rfl
    unfold Lib.decodeGo; rw [if_pos this]
  | [r], _, _, hn => exact absurd rfl hn
  | r :: r2 :: t, hs, hv, _ =>
    right
    have h1 := List.length_pos_iff.2 (encodeRune_ne (r : Int))
    have h2 := List.length_pos_iff.2 (encodeRune_ne (r2 : Int))
    have hsz : s.size = (Lib.encodeRune (r : Int)).length + (textOf (r2 :: t)).length := by rw [size_list, hs, textOf_cons, List.length_append]
    have h3 : 0 < (textOf (r2 :: t)).length := by rw [textOf_cons, List.length_append]; omega
    rw [decodeGo_list s (by omega), hs, textOf_cons, decL_encode r (hv r (by simp))]
    exact ⟨h1, by show (Lib.encodeRune (r : Int)).length < _; omega⟩

set_option maxRecDepth 100000 in
theorem f20_str_one (s : ByteArray) (r : Nat) (hs : s.data.toList = Lib.encodeRune (r : Int)) (hv : Lib.validRune (r : Int) = true) (g : Nat) (w : World) (hc : w.cell? ⟨g, 0, none⟩ = some (.iface 35 (.string s))) (hT : Lib.Utf8Tabs 0 1 w) :
    Calls Tryd.prog 20 #[.pointer none, .pointer none, .slice (some ⟨g, 0, none⟩) 1 1, .slice none 0 0] w (OrdOne r w) := by
  have a35 : ∀ w, (Instr.typeAssert (.iface 35 (.string s)) 39 35 true).run Tryd.prog w = .ok (.tuple #[.string s, .bool true]) w := fun _ => by kernel_rfl
  have hr := (validRune_iff (r : Int)).1 hv
  have HD : Hid (Calls Tryd.prog 9 #[.string s] w fun e w' => e = .returned (.tuple #[.int .i32 r, .int .i64 s.size]) ∧ Below w.heap.size w w') := by
    have h := Tryd.utf8_DecodeRuneInString s w hT
    rw [dec_one s r hs hv] at h
    exact h
  have hp : 0 < s.size := by rw [size_list, hs]; exact List.length_pos_iff.2 (encodeRune_ne _)
  have h4 : s.size ≤ 4 := by rw [size_list, hs, encodeRune_len]; exact (Lib.encodeRuneZ_length _).2
  have t1 : ((s.size : Int) == 0) = false := by
    have h : ¬ (s.size : Int) = 0 := by omega
    simpa using h
  have hr31 : r ≤ 1114111 := by omega
  clear hs hv hT hr
  go_enter Tryd.func20, Tryd.ntmps20
  go_wp2_with (first
    | (go_at_call 9; refine HD.out.mono ?_; rintro e w1 ⟨rfl, hb⟩; have HB := Lib.hid hb; clear hb)
    | (go_at_call 27; refine (f27_any _ (by omega) (by omega) _).mono ?_; rintro e w2 ⟨rfl, hb⟩; have HB2 := Lib.hid (HB.out.trans (hb.mono HB.out.size)); clear hb))
  go_ret2
  exact ⟨rfl, HB2.out⟩
set_option maxRecDepth 100000 in
theorem f20_str_no (s : ByteArray) (rs : List Nat) (hs : s.data.toList = textOf rs) (hv : AllValid rs) (hn : rs.length ≠ 1) (g : Nat) (w : World) (hc : w.cell? ⟨g, 0, none⟩ = some (.iface 35 (.string s))) (hT : Lib.Utf8Tabs 0 1 w) :
    Calls Tryd.prog 20 #[.pointer none, .pointer none, .slice (some ⟨g, 0, none⟩) 1 1, .slice none 0 0] w (OrdNo w) := by
  have a35 : ∀ w, (Instr.typeAssert (.iface 35 (.string s)) 39 35 true).run Tryd.prog w = .ok (.tuple #[.string s, .bool true]) w := fun _ => by kernel_rfl
  have HD := Lib.hid (Tryd.utf8_DecodeRuneInString s w hT)
  have hk := dec_no s rs hs hv hn
  generalize (Lib.decodeGo s).1 = r at *
  generalize (Lib.decodeGo s).2 = k at *
  clear hs hv hT hn
  rcases hk with hk | ⟨hk, hk2⟩
  · have t1 : ((k : Int) == 0) = true := by rw [hk]; rfl
    clear hk
    go_enter Tryd.func20, Tryd.ntmps20
    go_wp2_with (first
      | (go_at_call 9; refine HD.out.mono ?_; rintro e w1 ⟨rfl, hb⟩; have HB := Lib.hid hb; clear hb)
      | (go_at_call 26; refine (f26_any _ _).mono ?_; rintro e w2 ⟨rfl, rfl⟩))
    go_ret2
    exact ⟨_, rfl, HB.out.alloc HB.out.size _⟩
  · have t1 : ((k : Int) == 0) = false := by
      have h : ¬ (k : Int) = 0 := by omega
      simpa using h
    have t2 : ((k : Int) != (s.size : Int)) = true := by
      have h : ¬ (k : Int) = (s.size : Int) := by omega
      simpa using h
    clear hk hk2
    go_enter Tryd.func20, Tryd.ntmps20
    go_wp2_with (first
      | (go_at_call 9; refine HD.out.mono ?_; rintro e w1 ⟨rfl, hb⟩; have HB := Lib.hid hb; clear hb)
      | (go_at_call 26; refine (f26_any _ _).mono ?_; rintro e w2 ⟨rfl, rfl⟩))
    go_ret2
    exact ⟨_, rfl, HB.out.alloc HB.out.size _⟩
set_option maxRecDepth 100000 in
theorem f20_bytes_one (s : ByteArray) (hs : s.size = 1) (g : Nat) (w : World) (hc : w.cell? ⟨g, 0, none⟩ = some (.iface 44 (.string s))) :
    Calls Tryd.prog 20 #[.pointer none, .pointer none, .slice (some ⟨g, 0, none⟩) 1 1, .slice none 0 0] w (OrdOne ((s.data.toList.getD 0 0).toNat : Int) w) := by
  have a35 : ∀ w, (Instr.typeAssert (.iface 44 (.string s)) 39 35 true).run Tryd.prog w = .ok (.tuple #[.string ⟨#[]⟩, .bool false]) w := fun _ => by kernel_rfl
  have a44 : ∀ w, (Instr.typeAssert (.iface 44 (.string s)) 39 44 true).run Tryd.prog w = .ok (.tuple #[.string s, .bool true]) w := fun _ => by kernel_rfl
  have hp : 0 < s.size := by omega
  have e0 : (s[0].toNat : Int) = ((s.data.toList.getD 0 0).toNat : Int) := by rw [at_list s 0 hp _ rfl]
  have h256 : (s.data.toList.getD 0 0).toNat < 256 := UInt8.toNat_lt _
  generalize (s.data.toList.getD 0 0).toNat = x at *
  have t2 : ((s.size : Int) != 1) = false := by rw [hs]; rfl
  clear hs
  go_enter Tryd.func20, Tryd.ntmps20
  go_wp2_with (go_at_call 27; refine (f27_any _ (by omega) (by omega) _).mono ?_; rintro e w2 ⟨rfl, hb⟩; have HB2 := Lib.hid hb; clear hb)
  go_ret2
  exact ⟨rfl, HB2.out⟩
set_option maxRecDepth 100000 in
theorem f20_bytes_no (s : ByteArray) (hs : s.size ≠ 1) (g : Nat) (w : World) (hc : w.cell? ⟨g, 0, none⟩ = some (.iface 44 (.string s))) :
    Calls Tryd.prog 20 #[.pointer none, .pointer none, .slice (some ⟨g, 0, none⟩) 1 1, .slice none 0 0] w (OrdNo w) := by
  have a35 : ∀ w, (Instr.typeAssert (.iface 44 (.string s)) 39 35 true).run Tryd.prog w = .ok (.tuple #[.string ⟨#[]⟩, .bool false]) w := fun _ => by kernel_rfl
  have a44 : ∀ w, (Instr.typeAssert (.iface 44 (.string s)) 39 44 true).run Tryd.prog w = .ok (.tuple #[.string s, .bool true]) w := fun _ => by kernel_rfl
  have t2 : ((s.size : Int) != 1) = true := by
    have h : ¬ (s.size : Int) = 1 := by omega
    simpa using h
  clear hs
  go_enter Tryd.func20, Tryd.ntmps20
  go_wp2_with (go_at_call 26; refine (f26_any _ _).mono ?_; rintro e w2 ⟨rfl, rfl⟩)
  go_ret2
  exact ⟨_, rfl, (Below.refl _ _).alloc (Nat.le_refl _) _⟩
end Go.Proofs.YtbimbpplkhdeiaaDoor
