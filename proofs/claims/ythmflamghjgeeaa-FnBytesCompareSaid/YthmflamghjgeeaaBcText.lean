/- Walks for FnBytesCompare: how two texts are compared. -/
import Derived.Test.YthmflamghjgeeaaProg
import Derived.WalkKit
import Derived.WalkSpells
import Derived.WalkLawsBesides
import Derived.Deep.QuietTactic
import Derived.BigQuiet
import Derived.Lib.Hide
import Derived.Lib.Bytealg
import Derived.Deep.DeepCutAuto
namespace Go.Proofs.Ythmflamghjgeeaa.Bc
open Go.RowKit Go.Lib

theorem ret_int {k : IntKind} {a b : Int} (h : a = b) : Ending.returned (.int k a) = .returned (.int k b) := by rw [h]

def cmpLen (a b : Int) : Int := if a < b then -1 else if b < a then 1 else 0

theorem f31_any (a b : Int) (w : World) : Calls Try.prog 31 #[.int .i64 a, .int .i64 b] w fun e w' => e = .returned (.int .i64 (cmpLen a b)) ∧ w = w' := by
  go_enter Try.func31, Try.ntmps31
  go_wp2
  all_goals go_ret
  all_goals (refine ⟨ret_int ?_, rfl⟩; unfold cmpLen; (repeat' split) <;> omega)

theorem call78 (a b : ByteArray) (w : World) : (callFunc 78 #[.string a, .string b]).run Try.prog w = .ok (.value (.int .i64 (compareBytes a.data.toList b.data.toList))) w := by
  rw [run_callFunc_extern Try.func78 (by kernel_rfl) (by kernel_rfl) (by kernel_rfl) (e := Extern.BytealgCompare.compare) (by kernel_rfl), run_compareString]; rfl

set_option maxRecDepth 100000 in
theorem f46_any (a b : ByteArray) (w : World) : Calls Try.prog 46 #[.string a, .string b] w fun e w' => e = .returned (.int .i64 (compareBytes a.data.toList b.data.toList)) ∧ w = w' := by
  have hx := fun w => call78 a b w
  go_enter Try.func46, Try.ntmps46
  go_wp2
  go_ret
  exact ⟨rfl, rfl⟩

theorem cmp_step (a b : List UInt8) (k : Nat) (ha : k < a.length) (hb : k < b.length) : compareBytes (a.drop k) (b.drop k) = if a[k] < b[k] then -1 else if b[k] < a[k] then 1 else compareBytes (a.drop (k + 1)) (b.drop (k + 1)) := by
  rw [List.drop_eq_getElem_cons ha, List.drop_eq_getElem_cons hb, compareBytes]
theorem cmp_end (a b : List UInt8) (k : Nat) (ha : k ≤ a.length) (_hb : k ≤ b.length) (h : ¬ (k < a.length ∧ k < b.length)) : compareBytes (a.drop k) (b.drop k) = cmpLen a.length b.length := by
  unfold cmpLen
  by_cases h1 : k < a.length
  · have h2 : k = b.length := by omega
    rw [List.drop_eq_getElem_cons h1, List.drop_of_length_le (by omega : b.length ≤ k), compareBytes, if_neg (by omega), if_pos (by omega)]
  · have h2 : k = a.length := by omega
    rw [List.drop_of_length_le (by omega : a.length ≤ k)]
    by_cases h3 : k < b.length
    · rw [List.drop_eq_getElem_cons h3, compareBytes, if_pos (by omega)]
    · rw [List.drop_of_length_le (by omega : b.length ≤ k), compareBytes, if_neg (by omega), if_neg (by omega)]
theorem cmp_lt (a b : ByteArray) (k : Nat) (ha : k < a.size) (hb : k < b.size) (H : compareBytes a.data.toList b.data.toList = compareBytes (a.data.toList.drop k) (b.data.toList.drop k)) (h : (a[k].toNat : Int) < b[k].toNat) : compareBytes a.data.toList b.data.toList = -1 := by
  rw [H, cmp_step _ _ k (by simpa using ha) (by simpa using hb), if_pos]
  exact UInt8.lt_iff_toNat_lt.2 (by exact_mod_cast h)
theorem cmp_gt (a b : ByteArray) (k : Nat) (ha : k < a.size) (hb : k < b.size) (H : compareBytes a.data.toList b.data.toList = compareBytes (a.data.toList.drop k) (b.data.toList.drop k)) (h : (b[k].toNat : Int) < a[k].toNat) : compareBytes a.data.toList b.data.toList = 1 := by
  have h' : b[k].toNat < a[k].toNat := by exact_mod_cast h
  rw [H, cmp_step _ _ k (by simpa using ha) (by simpa using hb), if_neg, if_pos]
  · exact UInt8.lt_iff_toNat_lt.2 h'
  · intro hc
    have := UInt8.lt_iff_toNat_lt.1 hc
    have e1 : a.data.toList[k]'(by simpa using ha) = a[k] := rfl
    have e2 : b.data.toList[k]'(by simpa using hb) = b[k] := rfl
    rw [e1, e2] at this
    omega
theorem cmp_eq (a b : ByteArray) (k : Nat) (ha : k < a.size) (hb : k < b.size) (H : compareBytes a.data.toList b.data.toList = compareBytes (a.data.toList.drop k) (b.data.toList.drop k)) (h : (a[k].toNat : Int) = b[k].toNat) :
    compareBytes a.data.toList b.data.toList = compareBytes (a.data.toList.drop (k + 1)) (b.data.toList.drop (k + 1)) := by
  have h' : a[k].toNat = b[k].toNat := by exact_mod_cast h
  have e1 : a.data.toList[k]'(by simpa using ha) = a[k] := rfl
  have e2 : b.data.toList[k]'(by simpa using hb) = b[k] := rfl
  have h2 : a[k] = b[k] := UInt8.toNat_inj.1 h'
  rw [H, cmp_step _ _ k (by simpa using ha) (by simpa using hb), e1, e2, h2, if_neg (UInt8.lt_irrefl _), if_neg (UInt8.lt_irrefl _)]

set_option maxRecDepth 100000 in
theorem f32_any (a b : ByteArray) (ha : a.size ≤ 2147483647) (hb : b.size ≤ 2147483647) (w : World) :
    Calls Try.prog 32 #[.string a, .string b] w fun e w' => e = .returned (.int .i64 (compareBytes a.data.toList b.data.toList)) ∧ ∃ n, w' = w.drewN n := by
  go_enter Try.func32, Try.ntmps32
  go_wp2
  go_loopw [5] (fun i wr => ∃ k : Nat, i = .int .i64 k ∧ k ≤ a.size ∧ k ≤ b.size ∧ Hid (compareBytes a.data.toList b.data.toList = compareBytes (a.data.toList.drop k) (b.data.toList.drop k)) ∧ ∃ n, wr = w.drewN n) (fun i _ => a.size - (intOf i).toNat)
  case atStart => exact ⟨0, rfl, Nat.zero_le _, Nat.zero_le _, rfl, 0, rfl⟩
  case round =>
    obtain ⟨k, rfl, h1, h2, H, n, rfl⟩ := hrel
    by_cases hlt : k < a.size ∧ k < b.size
    · obtain ⟨hka, hkb⟩ := hlt
      rcases Int.lt_trichotomy (a[k].toNat : Int) (b[k].toNat : Int) with h | h | h
      · have hne : ((a[k].toNat : Int) != b[k].toNat) = true := by rw [bne_iff_ne]; omega
        have hd : decide ((a[k].toNat : Int) < b[k].toNat) = true := by simpa using h
        have F := cmp_lt a b k hka hkb H.out h
        have F' := Lib.hid F
        clear F
        go_wp2
        go_quiet (fail)
        go_wp2
        go_quiet (fail)
        go_wp2
        go_ret
        exact ⟨ret_int F'.out.symm, by first | exact ⟨_, rfl⟩ | (simp only [World.drewN_drewN]; exact ⟨_, rfl⟩)⟩
      · have hne : ((a[k].toNat : Int) != b[k].toNat) = false := by rw [bne_eq_false_iff_eq]; exact h
        have F := cmp_eq a b k hka hkb H.out h
        have F' := Lib.hid F
        clear F h
        go_wp2
        go_quiet (fail)
        go_wp2
        go_roundw
        case rel => exact ⟨k + 1, by go_num, by omega, by omega, F', by first | exact ⟨_, rfl⟩ | (simp only [World.drewN_drewN]; exact ⟨_, rfl⟩)⟩
        case measure => simp [intOf]; omega
      · have hne : ((a[k].toNat : Int) != b[k].toNat) = true := by rw [bne_iff_ne]; omega
        have hd : decide ((a[k].toNat : Int) < b[k].toNat) = false := by simp; omega
        have F := cmp_gt a b k hka hkb H.out h
        have F' := Lib.hid F
        clear F
        go_wp2
        go_quiet (fail)
        go_wp2
        go_quiet (fail)
        go_wp2
        go_ret
        exact ⟨ret_int F'.out.symm, by first | exact ⟨_, rfl⟩ | (simp only [World.drewN_drewN]; exact ⟨_, rfl⟩)⟩
    · have F : Hid (compareBytes a.data.toList b.data.toList = cmpLen a.size b.size) := by
        show _ = _
        rw [H.out, cmp_end _ _ k (by simpa using h1) (by simpa using h2) (by simpa using hlt)]; simp
      go_wp2_with (go_at_call 31; refine (f31_any _ _ _).mono ?_; rintro e w' ⟨rfl, rfl⟩)
      all_goals go_ret
      all_goals exact ⟨ret_int F.out.symm, _, rfl⟩
end Go.Proofs.Ythmflamghjgeeaa.Bc
