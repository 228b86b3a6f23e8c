/- The walk of FnStringIndex: the i-th byte of a string, as a string; no condition. -/
import Derived.Test.YthmflamghjgeeaaProg
import Derived.WalkKit
import Derived.WalkSpells
import Derived.WalkLawsBesides
import Derived.Deep.QuietTactic
import Derived.BigQuiet
namespace Go.Proofs.Ythmflamghjgeeaa
open Go.RowKit

theorem quiet_left {P : Program} {f : FuncId} {args : Array Value} {w : World} {n : Nat} {v : Value}
    (h : Calls P f args (w.drewN n) fun e w' => e = .returned v ∧ w.drewN n = w') : Calls P f args (w.drewN n) fun e w'' => e = .returned v ∧ ∃ m, w'' = w.drewN m :=
  h.mono fun _ _ ⟨he, hm⟩ => ⟨he, n, hm.symm⟩

/-- starlark's String.Index. -/
theorem f21_any (s : ByteArray) (i : Nat) (hi : i < s.size) (hs : s.size ≤ 2147483647) (w : World) :
    Calls Try.prog 21 #[.string s, .int .i64 i] w fun e w' => e = .returned (.iface 51 (.string (s.extract i (i + 1)))) ∧ w = w' := by
  go_enter Try.func21, Try.ntmps21
  go_wp2
  go_ret
  exact ⟨rfl, rfl⟩

theorem ta_51 (v : Value) (w : World) : (Instr.typeAssert (Value.iface 51 v) 54 51 true).run Try.prog w = .ok (.tuple #[v, .bool true]) w := by kernel_rfl

set_option maxRecDepth 100000 in
/-- impl.StringIndex at a place of the string. -/
theorem f8_any (s : ByteArray) (i : Nat) (hi : i < s.size) (hs : s.size ≤ 2147483647) (w : World) :
    Calls Try.prog 8 #[.string s, .int .i64 i] w fun e w' => e = .returned (.string (s.extract i (i + 1))) ∧ w = w' := by
  have hta := ta_51
  go_enter Try.func8, Try.ntmps8
  go_wp2_with (go_at_call 21; refine (f21_any s i hi hs _).mono ?_; rintro e w' ⟨rfl, rfl⟩)
  go_ret
  exact ⟨rfl, rfl⟩

theorem f8_int (s : ByteArray) (i : Int) (h0 : 0 ≤ i) (hi : i < s.size) (hs : s.size ≤ 2147483647) (w : World) :
    Calls Try.prog 8 #[.string s, .int .i64 i] w fun e w' => e = .returned (.string (s.extract i.toNat (i.toNat + 1))) ∧ w = w' := by
  obtain ⟨n, rfl⟩ := Int.eq_ofNat_of_zero_le h0
  simpa using f8_any s n (by omega) hs w

theorem tmod_lo (i : Int) (n : Nat) (h : 0 < n) : -(n : Int) < i.tmod n ∧ i.tmod n < n := by
  have h1 := Int.tmod_lt_of_pos i (b := (n : Int)) (by omega)
  have h2 := Int.lt_tmod_of_pos i (b := (n : Int)) (by omega)
  exact ⟨h2, h1⟩

set_option maxRecDepth 100000 in
/-- The law's walk behind its first tests: at a string that is not empty. -/
theorem si_core (s : ByteArray) (i : Int) (hs : s.size ≤ 2147483647) (h0 : s.toList.isEmpty = false) (hp : 0 < s.size) (w : World) :
    Calls Try.prog 3 #[.string s, .int .i64 i] w fun e w' => e = .returned (.bool true) ∧ ∃ n, w' = w.drewN n := by
  obtain ⟨b1, b2⟩ := tmod_lo i s.size hp
  have hn : ((s.size : Int) == 0) = false := by rw [beq_eq_false_iff_ne]; omega
  have b3 : 0 ≤ (i.tmod s.size + s.size) % s.size := Int.emod_nonneg _ (by omega)
  have b4 : (i.tmod s.size + s.size) % s.size < s.size := Int.emod_lt_of_pos _ (by omega)
  go_enter Try.func3, Try.ntmps3
  go_wp2_with fail
  generalize (i.tmod s.size + s.size) % s.size = j at *
  obtain ⟨k, rfl⟩ := Int.eq_ofNat_of_zero_le b3
  have b5 : k < s.size := by omega
  go_quiet ((go_at_call 8; exact quiet_left (f8_any s k b5 hs _)))
  go_wp2
  go_ret
  exact ⟨rfl, _, rfl⟩

set_option maxRecDepth 100000 in
/-- .. at an empty string, in whose place x is taken. -/
theorem si_empty (i : Int) (w : World) :
    Calls Try.prog 3 #[.string ⟨#[]⟩, .int .i64 i] w fun e w' => e = .returned (.bool true) ∧ ∃ n, w' = w.drewN n := by
  go_enter Try.func3, Try.ntmps3
  go_wp2_with fail
  go_quiet ((go_at_call 8; exact quiet_left (f8_any ⟨#[120]⟩ 0 (by decide) (by decide) _)))
  go_wp2
  go_ret
  exact ⟨rfl, _, rfl⟩

set_option maxRecDepth 100000 in
/-- .. at a string that is too long to be asked for. -/
theorem si_long (s : ByteArray) (i : Int) (hs : 2147483647 < s.size) (w : World) :
    Calls Try.prog 3 #[.string s, .int .i64 i] w fun e w' => e = .returned (.bool true) ∧ ∃ n, w' = w.drewN n := by
  have hs' : (2147483647 : Int) < s.size := by omega
  go_enter Try.func3, Try.ntmps3
  go_wp2_with fail
  go_ret
  exact ⟨rfl, 0, rfl⟩

theorem si_walk (s : ByteArray) (i : Int) (w : World) :
    Calls Try.prog 3 #[.string s, .int .i64 i] w fun e w' => e = .returned (.bool true) ∧ ∃ n, w' = w.drewN n := by
  by_cases h1 : 2147483647 < s.size
  · exact si_long s i h1 w
  · by_cases h2 : s.size = 0
    · have : s = ⟨#[]⟩ := by
        obtain ⟨⟨l⟩⟩ := s
        have : l.length = 0 := h2
        rw [List.eq_nil_of_length_eq_zero this]
      subst this
      exact si_empty i w
    · refine si_core s i (by omega) ?_ (by omega) w
      obtain ⟨⟨l⟩⟩ := s
      have : l.length ≠ 0 := h2
      rw [ByteArray.toList_mk]
      cases l with
      | nil => exact absurd rfl this
      | cons a l => rfl
end Go.Proofs.Ythmflamghjgeeaa
