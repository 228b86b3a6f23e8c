/- The walk of FnRangeEqual: two ranges are equal just if they are the same numbers; no condition. -/
import Derived.Test.YthmflamghjgeeaaProg
import Derived.WalkKit
import Derived.WalkSpells
import Derived.WalkLawsBesides
import Derived.Deep.QuietTactic
import Derived.BigQuiet
import Derived.Deep.DeepCutAuto
import Derived.Deep.RegionWith
import Derived.Deep.RegionHeld3
import Derived.Lib.Hide
namespace Go.Proofs.Ythmflamghjgeeaa.Re
open Go.RowKit

theorem quiet_left {P : Program} {f : FuncId} {args : Array Value} {w : World} {n : Nat} {v : Value}
    (h : Calls P f args (w.drewN n) fun e w' => e = .returned v ∧ w.drewN n = w') : Calls P f args (w.drewN n) fun e w'' => e = .returned v ∧ ∃ m, w'' = w.drewN m :=
  h.mono fun _ _ ⟨he, hm⟩ => ⟨he, n, hm.symm⟩

/-- How many numbers a range has. -/
def cnt (a b c : Int) : Int := if 0 < c then (if a < b then (b - a - 1) / c + 1 else 0) else (if b < a then (a - b - 1) / (-c) + 1 else 0)

theorem quo_in (x c : Int) (h0 : 0 ≤ x) (h1 : x ≤ 4294967296) (hc : 0 < c) : 0 ≤ x / c ∧ x / c ≤ 4294967296 :=
  ⟨Int.ediv_nonneg h0 (by omega), Int.le_trans (Int.ediv_le_self c h0) h1⟩
theorem neg_tdiv (x c : Int) (h0 : 0 ≤ x) : -(x.tdiv c) = x / (-c) := by rw [← Int.tdiv_neg, Int.tdiv_eq_ediv_of_nonneg h0]
theorem cnt_up (a b c : Int) (hc : 0 < c) (h : a < b) : (b - a + c - 1) / c = cnt a b c := by
  unfold cnt; rw [if_pos hc, if_pos h, show b - a + c - 1 = (b - a - 1) + 1 * c from by omega, Int.add_mul_ediv_right _ _ (by omega)]
theorem cnt_up' (a b c : Int) (hc : 0 < c) (h : a < b) : (b - 1 - a) / c + 1 = cnt a b c := by
  unfold cnt; rw [if_pos hc, if_pos h, show b - 1 - a = b - a - 1 from by omega]
theorem cnt_dn (a b c : Int) (hc : c < 0) (h : b < a) (hx : a - b - c - 1 ≤ 9223372036854775807) : wrap64 (-(a - b - c - 1).tdiv c) = cnt a b c := by
  have h1 : 0 ≤ (a - b - c - 1) / (-c) := Int.ediv_nonneg (by omega) (by omega)
  have h2 : (a - b - c - 1) / (-c) ≤ a - b - c - 1 := Int.ediv_le_self _ (by omega)
  rw [neg_tdiv _ _ (by omega), IntWalk.wrap64_in _ ⟨by omega, by omega⟩]
  unfold cnt; rw [if_neg (by omega), if_pos h, show a - b - c - 1 = (a - b - 1) + 1 * (-c) from by omega, Int.add_mul_ediv_right _ _ (by omega)]
theorem cnt_dn' (a b c : Int) (hc : c < 0) (h : b < a) (hx : a - b ≤ 9223372036854775807) : wrap64 (wrap64 (-(a - 1 - b).tdiv c) + 1) = cnt a b c := by
  have h1 : 0 ≤ (a - 1 - b) / (-c) := Int.ediv_nonneg (by omega) (by omega)
  have h2 : (a - 1 - b) / (-c) ≤ a - 1 - b := Int.ediv_le_self _ (by omega)
  rw [neg_tdiv _ _ (by omega), IntWalk.wrap64_in ((a - 1 - b) / (-c)) ⟨by omega, by omega⟩, IntWalk.wrap64_in _ ⟨by omega, by omega⟩]
  unfold cnt; rw [if_neg (by omega), if_pos h, show a - 1 - b = a - b - 1 from by omega]
theorem cnt_no (a b c : Int) (h1 : ¬ (0 < c ∧ a < b)) (h2 : ¬ (c < 0 ∧ b < a)) (h3 : c ≠ 0) : (0 : Int) = cnt a b c := by
  unfold cnt; split <;> split <;> omega

theorem ret_int {k : IntKind} {a b : Int} (h : a = b) : Ending.returned (.int k a) = .returned (.int k b) := by rw [h]

/-- A number brought into what 32 bits hold. -/
def w32 (n : Int) : Int := wrap32 n
theorem w32_in (n : Int) : -2147483648 ≤ w32 n ∧ w32 n ≤ 2147483647 := by unfold w32 wrap32; omega
theorem w32_eq (n : Int) : wrap64 (wrap32 n) = w32 n := by
  have h : -2147483648 ≤ wrap32 n ∧ wrap32 n ≤ 2147483647 := w32_in n
  rw [IntWalk.wrap64_in _ ⟨by omega, by omega⟩]; rfl

set_option maxRecDepth 100000 in
theorem f22_any (n : Int) (w : World) : Calls Try.prog 22 #[.int .i64 n] w fun e w' => e = .returned (.int .i64 (w32 n)) ∧ w = w' := by
  go_enter Try.func22, Try.ntmps22
  go_wp2
  go_ret
  exact ⟨ret_int (w32_eq n), rfl⟩

def In32 (a : Int) : Prop := -2147483648 ≤ a ∧ a ≤ 2147483647

set_option maxRecDepth 100000 in
theorem f10_any (a b c : Int) (ha : In32 a) (hb : In32 b) (hc : In32 c) (h : c ≠ 0) (w : World) :
    Calls Try.prog 10 #[.int .i64 a, .int .i64 b, .int .i64 c] w fun e w' => e = .returned (.int .i64 (cnt a b c)) ∧ w = w' := by
  obtain ⟨a1, a2⟩ := ha; obtain ⟨b1, b2⟩ := hb; obtain ⟨c1, c2⟩ := hc
  by_cases hc0 : 0 < c
  · by_cases hab : a < b
    · go_enter Try.func10, Try.ntmps10
      go_wp2
      go_ret
      exact ⟨ret_int (cnt_up a b c hc0 hab), rfl⟩
    · have hab' : b ≤ a := by omega
      have hc3 : ¬ c < 0 := by omega
      clear hab
      go_enter Try.func10, Try.ntmps10
      go_wp2
      go_ret
      exact ⟨ret_int (cnt_no a b c (by omega) (by omega) (by omega)), rfl⟩
  · have hc3 : c < 0 := by omega
    have hc4 : (-c == 0) = false := by rw [beq_eq_false_iff_ne]; omega
    by_cases hab : b < a
    · go_enter Try.func10, Try.ntmps10
      go_wp2
      go_ret
      exact ⟨ret_int (cnt_dn a b c hc3 hab (by omega)), rfl⟩
    · go_enter Try.func10, Try.ntmps10
      go_wp2
      go_ret
      exact ⟨ret_int (cnt_no a b c (by omega) (by omega) (by omega)), rfl⟩

set_option maxRecDepth 100000 in
theorem f44_any (a b c : Int) (ha : In32 a) (hb : In32 b) (hc : In32 c) (h : c ≠ 0) (w : World) :
    Calls Try.prog 44 #[.int .i64 a, .int .i64 b, .int .i64 c] w fun e w' => e = .returned (.int .i64 (cnt a b c)) ∧ w = w' := by
  obtain ⟨a1, a2⟩ := ha; obtain ⟨b1, b2⟩ := hb; obtain ⟨c1, c2⟩ := hc
  by_cases hc0 : 0 < c
  · by_cases hab : a < b
    · obtain ⟨q1, q2⟩ := quo_in (b - 1 - a) c (by omega) (by omega) hc0
      go_enter Try.func44, Try.ntmps44
      go_wp2
      go_ret
      exact ⟨ret_int (cnt_up' a b c hc0 hab), rfl⟩
    · go_enter Try.func44, Try.ntmps44
      go_wp2
      go_ret
      exact ⟨ret_int (cnt_no a b c (by omega) (by omega) (by omega)), rfl⟩
  · have hc3 : c < 0 := by omega
    have hc4 : (-c == 0) = false := by rw [beq_eq_false_iff_ne]; omega
    by_cases hab : b < a
    · go_enter Try.func44, Try.ntmps44
      go_wp2
      go_ret
      exact ⟨ret_int (cnt_dn' a b c hc3 hab (by omega)), rfl⟩
    · go_enter Try.func44, Try.ntmps44
      go_wp2
      go_ret
      exact ⟨ret_int (cnt_no a b c (by omega) (by omega) (by omega)), rfl⟩

/-- A step that is not 0. -/
def stp (c : Int) : Int := if w32 c = 0 then 1 else w32 c
theorem stp_in (c : Int) : In32 (stp c) ∧ stp c ≠ 0 := by
  unfold stp In32; have := w32_in c; split <;> omega

set_option maxRecDepth 100000 in
theorem f9_any (a b c : Int) (w : World) :
    Calls Try.prog 9 #[.int .i64 a, .int .i64 b, .int .i64 c] w fun e w' => e = .returned (.tuple #[.int .i64 (w32 a), .int .i64 (w32 b), .int .i64 (stp c)]) ∧ w = w' := by
  by_cases h : w32 c = 0
  · have hs : stp c = 1 := by unfold stp; rw [if_pos h]
    have H := Lib.hid hs
    clear hs
    go_enter Try.func9, Try.ntmps9
    go_wp2_with (go_at_call 22; refine (f22_any _ _).mono ?_; rintro e w' ⟨rfl, rfl⟩)
    go_ret3
    exact ⟨by rw [H.out]; rfl, rfl⟩
  · have hs : stp c = w32 c := by unfold stp; rw [if_neg h]
    have H := Lib.hid hs
    have hb : (w32 c == 0) = false := by rw [beq_eq_false_iff_ne]; exact h
    clear hs h
    go_enter Try.func9, Try.ntmps9
    go_wp2_with (go_at_call 22; refine (f22_any _ _).mono ?_; rintro e w' ⟨rfl, rfl⟩)
    go_ret3
    exact ⟨by rw [H.out]; rfl, rfl⟩

/-- Are two ranges (start, step, how many) the same numbers? -/
def sameB (s1 t1 n1 s2 t2 n2 : Int) : Bool := n1 == n2 && (n1 == 0 || (s1 == s2 && (n1 == 1 || t1 == t2)))

set_option maxRecDepth 100000 in
set_option maxHeartbeats 1000000 in
theorem f43_any (s1 e1 t1 n1 s2 e2 t2 n2 : Int) (w : World) :
    Calls Try.prog 43 #[.agg #[.int .i64 s1, .int .i64 e1, .int .i64 t1, .int .i64 n1], .agg #[.int .i64 s2, .int .i64 e2, .int .i64 t2, .int .i64 n2]] w
      fun e w' => e = .returned (.bool (sameB s1 t1 n1 s2 t2 n2)) ∧ ∃ c1 c2 : Array Value, w' = (w.alloc (.cells c1 91)).alloc (.cells c2 91) := by
  go_enter Try.func43, Try.ntmps43
  go_wp2
  all_goals go_ret
  all_goals (refine ⟨?_, _, _, rfl⟩; unfold sameB)
  all_goals simp_all

theorem below_two (w : World) (a b : Obj) : Below w.heap.size w ((w.alloc a).alloc b) := ((Below.refl _ _).alloc (Nat.le_refl _) _).alloc (by simp) _

set_option maxRecDepth 100000 in
set_option maxHeartbeats 1000000 in
theorem f23_any (a b c a' b' c' : Int) (ha : In32 a) (hb : In32 b) (hc : In32 c) (h : c ≠ 0) (ha' : In32 a') (hb' : In32 b') (hc' : In32 c') (h' : c' ≠ 0) (w : World) :
    Calls Try.prog 23 #[.agg #[.int .i64 a, .int .i64 b, .int .i64 c], .agg #[.int .i64 a', .int .i64 b', .int .i64 c']] w
      fun e w' => e = .returned (.bool (sameB a c (cnt a b c) a' c' (cnt a' b' c'))) ∧ Below w.heap.size w w' := by
  go_enter Try.func23, Try.ntmps23
  go_wp2
  go_region_held3 (fun w' => w'.cell? ⟨w.heap.size, 0, none⟩ = some (.int .i64 a) ∧ w'.cell? ⟨w.heap.size, 1, none⟩ = some (.int .i64 b) ∧ w'.cell? ⟨w.heap.size, 2, none⟩ = some (.int .i64 c) ∧ w'.cell? ⟨w.heap.size + 1, 0, none⟩ = some (.int .i64 a') ∧ w'.cell? ⟨w.heap.size + 1, 1, none⟩ = some (.int .i64 b') ∧ w'.cell? ⟨w.heap.size + 1, 2, none⟩ = some (.int .i64 c')) (simp [go_sem, World.cell?_alloc_past])
    (first
      | (go_at_call 44; refine (f44_any _ _ _ (by assumption) (by assumption) (by assumption) (by assumption) _).mono ?_; rintro e w' ⟨rfl, rfl⟩)
      | (go_at_call 43; refine (f43_any _ _ _ _ _ _ _ _ _).mono ?_; rintro e w' ⟨rfl, o1, o2, rfl⟩))
  go_wp2
  go_ret
  exact ⟨rfl, by (repeat (first | exact Below.refl _ _ | refine Below.drew ?_ | refine Below.alloc ?_ (by first | (simp; done) | (simp; omega)) _))⟩

set_option maxRecDepth 100000 in
set_option maxHeartbeats 1000000 in
theorem f11_any (a b c a' b' c' : Int) (ha : In32 a) (hb : In32 b) (hc : In32 c) (h : c ≠ 0) (ha' : In32 a') (hb' : In32 b') (hc' : In32 c') (h' : c' ≠ 0) (w : World) :
    Calls Try.prog 11 #[.agg #[.int .i64 a, .int .i64 b, .int .i64 c], .agg #[.int .i64 a', .int .i64 b', .int .i64 c']] w
      fun e w' => e = .returned (.bool (sameB a c (cnt a b c) a' c' (cnt a' b' c'))) ∧ Below w.heap.size w w' := by
  go_enter Try.func11, Try.ntmps11
  go_wp2_with (go_at_call 23; refine (f23_any _ _ _ _ _ _ ha hb hc h ha' hb' hc' h' _).mono ?_; rintro e w' ⟨rfl, hb⟩)
  go_ret
  exact ⟨rfl, (below_two _ _ _).trans (hb.mono (by simp; omega))⟩

theorem f11_val (a b c a' b' c' : Int) (ha : In32 a) (hb : In32 b) (hc : In32 c) (h : c ≠ 0) (ha' : In32 a') (hb' : In32 b') (hc' : In32 c') (h' : c' ≠ 0) (v : Bool) (hv : sameB a c (cnt a b c) a' c' (cnt a' b' c') = v) (w : World) :
    Calls Try.prog 11 #[.agg #[.int .i64 a, .int .i64 b, .int .i64 c], .agg #[.int .i64 a', .int .i64 b', .int .i64 c']] w
      fun e w' => e = .returned (.bool v) ∧ Below w.heap.size w w' := by
  subst hv; exact f11_any a b c a' b' c' ha hb hc h ha' hb' hc' h' w
theorem below_drewN {B : Nat} {a w : World} (h : Below B a w) (n : Nat) : Below B a (w.drewN n) := ⟨h.os, h.tape, h.output, h.size, h.block⟩

theorem bcell {W w1 : World} (hb : Below W.heap.size W w1) : (∀ b o, b < W.heap.size → w1.cell? ⟨b, o, none⟩ = W.cell? ⟨b, o, none⟩) ∧ (∀ b o, b < W.heap.size → w1.frozen? ⟨b, o, none⟩ = W.frozen? ⟨b, o, none⟩) :=
  ⟨fun b o h => hb.cell (p := ⟨b, o, none⟩) h, fun b o h => hb.frozen (p := ⟨b, o, none⟩) h⟩

theorem sameB_comm (s1 t1 n1 s2 t2 n2 : Int) : sameB s2 t2 n2 s1 t1 n1 = sameB s1 t1 n1 s2 t2 n2 := by
  unfold sameB; rw [Bool.eq_iff_iff]; simp; omega
theorem sameB_self (s t n : Int) : sameB s t n s t n = true := by unfold sameB; simp

set_option maxRecDepth 100000 in
set_option maxHeartbeats 4000000 in
theorem f4_core (a b c a' b' c' : Int) (w : World) (x y z x' y' z' : Int) (e1 : w32 a = x) (e2 : w32 b = y) (e3 : stp c = z) (e1' : w32 a' = x') (e2' : w32 b' = y') (e3' : stp c' = z')
    (hx : In32 x) (hy : In32 y) (hz : In32 z) (hz0 : z ≠ 0) (hx' : In32 x') (hy' : In32 y') (hz' : In32 z') (hz0' : z' ≠ 0) :
    Calls Try.prog 4 #[.agg #[.int .i64 a, .int .i64 b, .int .i64 c], .agg #[.int .i64 a', .int .i64 b', .int .i64 c']] w
      fun e w' => e = .returned (.bool true) ∧ Below w.heap.size w w' := by
  have F1 : Hid (sameB x' z' (cnt x' y' z') x z (cnt x y z) = sameB x z (cnt x y z) x' z' (cnt x' y' z')) := sameB_comm _ _ _ _ _ _
  have F2 : Hid (sameB x z (cnt x y z) x z (cnt x y z) = true) := sameB_self _ _ _
  go_enter Try.func4, Try.ntmps4
  go_upto_region 3 with (first
    | (go_at_call 9; refine (f9_any _ _ _ _).mono ?_; rintro e w' ⟨rfl, rfl⟩))
  clear e1 e2 e3 e1' e2' e3'
  go_quiet ((go_at_call 10; exact quiet_left (f10_any _ _ _ (by assumption) (by assumption) (by assumption) (by assumption) _)))
  go_upto_region 4 with fail
  go_cut [5, 6, 7] (fun _ _ s7 wx => s7 = .bool (sameB x z (cnt x y z) x' z' (cnt x' y' z')) ∧ wx.cell? ⟨w.heap.size, 0, none⟩ = some (.int .i64 x) ∧ wx.cell? ⟨w.heap.size, 1, none⟩ = some (.int .i64 y) ∧ wx.cell? ⟨w.heap.size, 2, none⟩ = some (.int .i64 z) ∧ wx.cell? ⟨w.heap.size + 1, 0, none⟩ = some (.int .i64 x') ∧ wx.cell? ⟨w.heap.size + 1, 1, none⟩ = some (.int .i64 y') ∧ wx.cell? ⟨w.heap.size + 1, 2, none⟩ = some (.int .i64 z') ∧ Below w.heap.size w wx ∧ w.heap.size + 1 < wx.heap.size)
  case first =>
    go_wp2_with fail
    all_goals go_meet
    all_goals refine ⟨?_, by first | (simp [go_sem]; done) | (simp [go_sem]; omega), by first | (simp [go_sem]; done) | (simp [go_sem]; omega), by first | (simp [go_sem]; done) | (simp [go_sem]; omega), by first | (simp [go_sem]; done) | (simp [go_sem]; omega), by first | (simp [go_sem]; done) | (simp [go_sem]; omega), by first | (simp [go_sem]; done) | (simp [go_sem]; omega), ?_, by simp⟩
    all_goals first
      | exact below_drewN (below_two _ _ _) _
      | (congr 1; unfold sameB; simp_all; done)
  case rest =>
    obtain ⟨rfl, g1, g2, g3, g4, g5, g6, hb, hsz⟩ := hcut
    go_wp2_with fail
    refine (f11_val x y z x' y' z' hx hy hz hz0 hx' hy' hz' hz0' _ rfl _).mono ?_
    rintro e w1 ⟨rfl, hb1⟩
    obtain ⟨hc1, hf1⟩ := bcell hb1
    have hl0 : w.heap.size < wc.heap.size := by omega
    have hz1 := hb1.size
    go_wp2_with fail
    refine (f11_val x' y' z' x y z hx' hy' hz' hz0' hx hy hz hz0 _ F1.out _).mono ?_
    rintro e w2 ⟨rfl, hb2⟩
    obtain ⟨hc2, hf2⟩ := bcell hb2
    have hl1 : w.heap.size < w1.heap.size := by omega
    have hl2 : w.heap.size + 1 < w1.heap.size := by omega
    go_wp2_with fail
    refine (f11_val x y z x y z hx hy hz hz0 hx hy hz hz0 _ F2.out _).mono ?_
    rintro e w3 ⟨rfl, hb3⟩
    go_wp2_with fail
    go_ret
    exact ⟨rfl, ((hb.trans (hb1.mono (by omega))).trans (hb2.mono (by omega))).trans (hb3.mono (by have := hb2.size; omega))⟩

theorem f4_any (a b c a' b' c' : Int) (w : World) :
    Calls Try.prog 4 #[.agg #[.int .i64 a, .int .i64 b, .int .i64 c], .agg #[.int .i64 a', .int .i64 b', .int .i64 c']] w
      fun e w' => e = .returned (.bool true) ∧ Below w.heap.size w w' :=
  f4_core a b c a' b' c' w _ _ _ _ _ _ rfl rfl rfl rfl rfl rfl (w32_in _) (w32_in _) (stp_in _).1 (stp_in _).2 (w32_in _) (w32_in _) (stp_in _).1 (stp_in _).2

end Go.Proofs.Ythmflamghjgeeaa.Re
