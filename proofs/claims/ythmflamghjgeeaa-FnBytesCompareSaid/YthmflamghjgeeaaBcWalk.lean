/- Walks for FnBytesCompare: the comparison of the program, and that of the reference. -/
import Derived.Test.YthmflamghjgeeaaBcText
import Derived.Deep.RegionHeld3
namespace Go.Proofs.Ythmflamghjgeeaa.Bc
open Go.RowKit Go.Lib

/-- What an operator (13 to 18) asks of an order. -/
def cmpOp (op n : Int) : Bool :=
  if op = 13 then n == 0 else if op = 14 then n != 0 else if op = 15 then decide (n < 0) else if op = 16 then decide (n ≤ 0) else if op = 17 then decide (0 < n) else decide (0 ≤ n)

def IsOp (op : Int) : Prop := op = 13 ∨ op = 14 ∨ op = 15 ∨ op = 16 ∨ op = 17 ∨ op = 18
def IsOrd (op : Int) : Prop := op = 15 ∨ op = 16 ∨ op = 17 ∨ op = 18

theorem ret_bool {a b : Bool} (h : a = b) : Ending.returned (.bool a) = .returned (.bool b) := by rw [h]

set_option maxRecDepth 100000 in
theorem f29_any (op n : Int) (h : IsOrd op) (w : World) : Calls Try.prog 29 #[.int .i64 op, .int .i64 n] w fun e w' => e = .returned (.bool (cmpOp op n)) ∧ w = w' := by
  obtain rfl | rfl | rfl | rfl := h
  all_goals
    go_enter Try.func29, Try.ntmps29
    go_wp2
    go_ret
    exact ⟨ret_bool (by simp [cmpOp]), rfl⟩

def tok (op : Int) : Int := if op = 13 then 37 else if op = 14 then 38 else if op = 15 then 33 else if op = 16 then 36 else if op = 17 then 34 else 35

set_option maxRecDepth 100000 in
theorem f24_any (op : Int) (h : IsOp op) (w : World) : Calls Try.prog 24 #[.int .i64 op] w fun e w' => e = .returned (.tuple #[.int .i8 (tok op), .bool true]) ∧ Below w.heap.size w w' := by
  obtain rfl | rfl | rfl | rfl | rfl | rfl := h
  all_goals
    go_enter Try.func24, Try.ntmps24
    go_wp2
    go_ret2
    exact ⟨rfl, (Below.refl _ _).alloc (Nat.le_refl _) _⟩

set_option maxRecDepth 100000 in
theorem f45_any (op n : Int) (h : IsOp op) (w : World) : Calls Try.prog 45 #[.int .i8 (tok op), .int .i64 n] w fun e w' => e = .returned (.bool (cmpOp op n)) ∧ w = w' := by
  obtain rfl | rfl | rfl | rfl | rfl | rfl := h
  all_goals
    simp only [tok]
    go_enter Try.func45, Try.ntmps45
    go_wp2
    go_ret
    exact ⟨ret_bool (by simp [cmpOp]), rfl⟩

theorem ta_64 (v : Value) (w : World) : (Instr.typeAssert (Value.iface 64 v) 54 64 false).run Try.prog w = .ok v w := by kernel_rfl

set_option maxRecDepth 100000 in
theorem f26_any (op : Int) (a b : ByteArray) (h : IsOp op) (w : World) :
    Calls Try.prog 26 #[.string a, .int .i8 (tok op), .iface 64 (.string b), .int .i64 1] w fun e w' => e = .returned (.tuple #[.bool (cmpOp op (compareBytes a.data.toList b.data.toList)), .nilIface]) ∧ w = w' := by
  have hta := ta_64
  go_enter Try.func26, Try.ntmps26
  go_wp2_with (first
    | (go_at_call 46; refine (f46_any _ _ _).mono ?_; rintro e w' ⟨rfl, rfl⟩)
    | (go_at_call 45; refine (f45_any op _ h _).mono ?_; rintro e w' ⟨rfl, rfl⟩))
  go_ret2
  exact ⟨rfl, rfl⟩

set_option maxRecDepth 100000 in
theorem f25_any (b : Bool) (w : World) : Calls Try.prog 25 #[.bool b, .nilIface] w fun e w' => e = .returned (.tuple #[.bool b, .bool true]) ∧ ∃ n, w' = w.drewN n := by
  cases b
  all_goals
    go_enter Try.func25, Try.ntmps25
    go_wp2
    go_quiet (fail)
    go_wp2
    go_ret2
    exact ⟨rfl, _, rfl⟩

set_option maxRecDepth 100000 in
theorem f13_any (op : Int) (a b : ByteArray) (h : IsOp op) (w : World) :
    Calls Try.prog 13 #[.int .i64 op, .string a, .string b] w fun e w' => e = .returned (.tuple #[.bool (cmpOp op (compareBytes a.data.toList b.data.toList)), .bool true]) ∧ Below w.heap.size w w' := by
  go_enter Try.func13, Try.ntmps13
  go_wp2_with (first
    | (go_at_call 24; refine (f24_any _ h _).mono ?_; rintro e w' ⟨rfl, hb⟩)
    | (go_at_call 26; refine (f26_any _ _ _ h _).mono ?_; rintro e w' ⟨rfl, rfl⟩)
    | (go_at_call 25; refine (f25_any _ _).mono ?_; rintro e w' ⟨rfl, n, rfl⟩))
  go_ret2
  exact ⟨rfl, hb.trans ⟨rfl, rfl, rfl, Nat.le_refl _, fun _ _ => rfl⟩⟩

/-- A value of a text, as the reference has it. -/
abbrev textVal (s : ByteArray) : Value := .agg #[.int .i64 4, .bool false, .slice none 0 0, .int .u64 0, .string s, .slice none 0 0]

set_option maxRecDepth 100000 in
theorem f15_any (s : ByteArray) (w : World) : Calls Try.prog 15 #[.string s] w fun e w' => e = .returned (textVal s) ∧ Below w.heap.size w w' := by
  go_enter Try.func15, Try.ntmps15
  go_wp2
  refine bodyPost_ret (v := textVal s) (by simp [results, Try.results15, go_sem, textVal]) rfl ⟨rfl, ?_⟩
  exact (Below.refl _ _).alloc (Nat.le_refl _) _

set_option maxRecDepth 100000 in
theorem f28_any (s : ByteArray) (w : World) : Calls Try.prog 28 #[textVal s] w fun e w' => e = .returned (.bool false) ∧ Below w.heap.size w w' := by
  go_enter Try.func28, Try.ntmps28
  go_wp2
  go_ret
  exact ⟨rfl, (Below.refl _ _).alloc (Nat.le_refl _) _⟩

theorem bcell {W w1 : World} (hb : Below W.heap.size W w1) : (∀ b o, b < W.heap.size → w1.cell? ⟨b, o, none⟩ = W.cell? ⟨b, o, none⟩) ∧ (∀ b o, b < W.heap.size → w1.frozen? ⟨b, o, none⟩ = W.frozen? ⟨b, o, none⟩) :=
  ⟨fun b o h => hb.cell (p := ⟨b, o, none⟩) h, fun b o h => hb.frozen (p := ⟨b, o, none⟩) h⟩

set_option maxRecDepth 100000 in
theorem f27_any (a b : ByteArray) (w : World) : Calls Try.prog 27 #[textVal a, textVal b] w fun e w' => e = .returned (.bool (a.toList == b.toList)) ∧ Below w.heap.size w w' := by
  go_enter Try.func27, Try.ntmps27
  go_wp2_with fail
  refine (f28_any a _).mono ?_
  rintro e w1 ⟨rfl, hb1⟩
  obtain ⟨hc1, hf1⟩ := bcell hb1
  simp only [World.size_alloc] at hc1 hf1
  have hl0 : w.heap.size < w.heap.size + 1 + 1 := by omega
  have hl1 : w.heap.size + 1 < w.heap.size + 1 + 1 := by omega
  go_wp2_with fail
  go_loop [7] (fun i => i = .int .i64 0) (fun _ => 0)
  case atStart => rfl
  case round =>
    obtain rfl := hrel
    go_wp2
    go_ret
    exact ⟨rfl, (((Below.refl _ _).alloc (Nat.le_refl _) _).alloc (by simp) _).trans (hb1.mono (by simp; omega))⟩

theorem compare_eq : ∀ (a b : List UInt8), (compareBytes a b = 0) ↔ a = b
  | [], [] => by simp [compareBytes]
  | [], _ :: _ => by simp [compareBytes]
  | _ :: _, [] => by simp [compareBytes]
  | x :: a, y :: b => by
    have ih := compare_eq a b
    rw [compareBytes]
    by_cases h : x < y
    · have : x ≠ y := fun e => by subst e; exact UInt8.lt_irrefl _ h
      simp [h, this]
    · by_cases h' : y < x
      · have : x ≠ y := fun e => by subst e; exact UInt8.lt_irrefl _ h'
        simp [h, h', this]
      · have : x = y := UInt8.le_antisymm (UInt8.not_lt.1 h') (UInt8.not_lt.1 h)
        subst this
        simp [h, ih]

theorem cmp13 (a b : ByteArray) : (a.toList == b.toList) = cmpOp 13 (compareBytes a.data.toList b.data.toList) := by
  simp only [cmpOp, if_pos, ByteArray.toList_eq]
  rw [Bool.eq_iff_iff]; simp [compare_eq]
theorem cmp14 (a b : ByteArray) : (!(a.toList == b.toList)) = cmpOp 14 (compareBytes a.data.toList b.data.toList) := by
  simp only [cmpOp, if_pos, ByteArray.toList_eq]
  rw [Bool.eq_iff_iff]; simp [compare_eq]

set_option maxRecDepth 100000 in
theorem f14_any (op : Int) (a b : ByteArray) (h : IsOp op) (ha : a.size ≤ 2147483647) (hb : b.size ≤ 2147483647) (w : World) :
    Calls Try.prog 14 #[.int .i64 op, textVal a, textVal b] w fun e w' => e = .returned (.tuple #[.bool (cmpOp op (compareBytes a.data.toList b.data.toList)), .bool true]) ∧ Below w.heap.size w w' := by
  by_cases ho : op = 13
  · subst ho
    have F := Lib.hid (cmp13 a b)
    go_enter Try.func14, Try.ntmps14
    go_wp2_with (go_at_call 27; refine (f27_any a b _).mono ?_; rintro e w' ⟨rfl, hb1⟩)
    go_ret2
    exact ⟨by rw [← F.out]; rfl, (((Below.refl _ _).alloc (Nat.le_refl _) _).alloc (by simp) _).trans (hb1.mono (by simp; omega))⟩
  by_cases ho' : op = 14
  · subst ho'
    have F := Lib.hid (cmp14 a b)
    go_enter Try.func14, Try.ntmps14
    go_wp2_with (go_at_call 27; refine (f27_any a b _).mono ?_; rintro e w' ⟨rfl, hb1⟩)
    go_ret2
    exact ⟨by rw [← F.out]; rfl, (((Below.refl _ _).alloc (Nat.le_refl _) _).alloc (by simp) _).trans (hb1.mono (by simp; omega))⟩
  have ho2 : IsOrd op := by unfold IsOp at h; unfold IsOrd; omega
  have e1 : (op == 13) = false := by rw [beq_eq_false_iff_ne]; exact ho
  have e2 : (op == 14) = false := by rw [beq_eq_false_iff_ne]; exact ho'
  clear ho ho'
  go_enter Try.func14, Try.ntmps14
  go_wp2_with fail
  refine (f28_any a _).mono ?_
  rintro e w1 ⟨rfl, hb1⟩
  obtain ⟨hc1, hf1⟩ := bcell hb1
  simp only [World.size_alloc] at hc1 hf1
  have hl0 : w.heap.size < w.heap.size + 1 + 1 := by omega
  have hl1 : w.heap.size + 1 < w.heap.size + 1 + 1 := by omega
  go_wp2_with fail
  refine (f32_any a b ha hb _).mono ?_
  rintro e w2 ⟨rfl, n, rfl⟩
  go_wp2_with fail
  refine (f29_any op _ ho2 _).mono ?_
  rintro e w2 ⟨rfl, rfl⟩
  go_wp2_with fail
  go_ret2
  exact ⟨rfl, (((((Below.refl _ _).alloc (Nat.le_refl _) _).alloc (by simp) _).trans (hb1.mono (by simp; omega)))).trans ⟨rfl, rfl, rfl, Nat.le_refl _, fun _ _ => rfl⟩⟩

theorem ext_trans {a b c : World} (h1 : Below a.heap.size a b) (h2 : Below b.heap.size b c) : Below a.heap.size a c := h1.trans (h2.mono h1.size)

/-- The operator that the law makes of any number. -/
def opOf (n : Int) : Int := (n.tmod 6 + 6) % 6 + 13
theorem opOf_is (n : Int) : IsOp (opOf n) := by unfold IsOp opOf; omega

set_option maxRecDepth 100000 in
theorem f12_any (n : Int) (w : World) : Calls Try.prog 12 #[.int .i64 n] w fun e w' => e = .returned (.int .i64 (opOf n)) ∧ w = w' := by
  have h1 : -6 < n.tmod 6 ∧ n.tmod 6 < 6 := ⟨Int.lt_tmod_of_pos n (by omega), Int.tmod_lt_of_pos n (by omega)⟩
  obtain ⟨h1, h2⟩ := h1
  go_enter Try.func12, Try.ntmps12
  go_wp2
  go_ret
  exact ⟨ret_int (by unfold opOf; omega), rfl⟩

set_option maxRecDepth 100000 in
set_option maxHeartbeats 1000000 in
theorem f5_core (n : Int) (a b : ByteArray) (ha : a.size ≤ 2147483647) (hb : b.size ≤ 2147483647) (w : World) :
    Calls Try.prog 5 #[.int .i64 n, .string a, .string b] w fun e w' => e = .returned (.bool true) ∧ Below w.heap.size w w' := by
  have h := opOf_is n
  have ga : (2147483647 < (a.size : Int)) = False := by simp; omega
  have gb : (2147483647 < (b.size : Int)) = False := by simp; omega
  go_enter Try.func5, Try.ntmps5
  go_wp2_with (first
    | (go_at_call 12; refine (f12_any _ _).mono ?_; rintro e w' ⟨rfl, rfl⟩)
    | (go_at_call 13; refine (f13_any _ _ _ h _).mono ?_; rintro e w' ⟨rfl, hb1⟩)
    | (go_at_call 15; refine (f15_any _ _).mono ?_; rintro e w' ⟨rfl, hb2⟩)
    | (go_at_call 14; refine (f14_any _ _ _ h ha hb _).mono ?_; rintro e w' ⟨rfl, hb3⟩))
  go_ret
  exact ⟨rfl, by repeat (first | assumption | refine ext_trans (by assumption) ?_)⟩

theorem f5_any (n : Int) (a b : ByteArray) (w : World) :
    Calls Try.prog 5 #[.int .i64 n, .string a, .string b] w fun e w' => e = .returned (.bool true) ∧ Below w.heap.size w w' := by
  by_cases ha : 2147483647 < a.size
  · have ha' : (2147483647 : Int) < a.size := by omega
    go_enter Try.func5, Try.ntmps5
    go_wp2
    go_ret
    exact ⟨rfl, Below.refl _ _⟩
  · by_cases hb : 2147483647 < b.size
    · have hb' : (2147483647 : Int) < b.size := by omega
      have ha' : ¬ (2147483647 : Int) < a.size := by omega
      go_enter Try.func5, Try.ntmps5
      go_wp2
      go_ret
      exact ⟨rfl, Below.refl _ _⟩
    · exact f5_core n a b (by omega) (by omega) w

end Go.Proofs.Ythmflamghjgeeaa.Bc
