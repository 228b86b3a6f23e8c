/- Joined texts: Pa Pb Pc Pd Pe Pf Pg Ph Pi Pj Pk Pl Pm. -/
import Derived.Test.YtllgogkjcbdpkaaGreatDoorZCmp
import Derived.Test.YtllgogkjcbdpkaaGreatDoorGen
import Derived.StillTailTactics
import Derived.Test.YtllgogkjcbdpkaaGreatDoorRb
import Derived.Laws.BitsAllLaws
/- Small functions of the package: one as a natural number, as an integer; a quotient's two integers; an integer's words; its hash. -/
namespace Go.Proofs.YtllgogkjcbdpkaaGreatDoor.Z
open Go.RowKit

set_option maxRecDepth 100000 in
theorem f84_any (w : World) : Calls Tryz.prog 84 #[] w fun e w' => e = .returned (.slice (some ⟨w.heap.size, 0, none⟩) 1 1) ∧ w.alloc (.cells #[.int .u64 1] 85) = w' := by
  go_enter Tryz.func84, Tryz.ntmps84
  go_wp2
  go_ret
  exact ⟨rfl, rfl⟩
set_option maxRecDepth 100000 in
theorem f72_any (w : World) : Calls Tryz.prog 72 #[] w fun e w' => e = .returned (.pointer (some ⟨w.heap.size + 1, 0, none⟩)) ∧ (w.alloc (.cells #[.int .u64 1] 85)).alloc (.cells #[.bool false, .slice (some ⟨w.heap.size, 0, none⟩) 1 1] 79) = w' := by
  go_enter Tryz.func72, Tryz.ntmps72
  go_wp2_with (go_at_call 84; refine (f84_any _).mono ?_; rintro e w' ⟨rfl, rfl⟩)
  go_ret
  exact ⟨rfl, rfl⟩
set_option maxRecDepth 100000 in
theorem f45_any (g off : Nat) (sl : Value) (a : Option Addr) (n c : Nat) (hs : sl = .slice a n c) (w : World) (h : w.cell? ⟨g, off + 1, none⟩ = some sl) : Calls Tryz.prog 45 #[.pointer (some ⟨g, off, none⟩)] w fun e w' => e = .returned sl ∧ w = w' := by
  subst hs
  go_enter Tryz.func45, Tryz.ntmps45
  go_wp2
  go_ret
  exact ⟨rfl, rfl⟩
set_option maxRecDepth 100000 in
theorem f60_any (g : Nat) (w : World) : Calls Tryz.prog 60 #[.pointer (some ⟨g, 0, none⟩)] w fun e w' => e = .returned (.pointer (some ⟨g, 0, none⟩)) ∧ w = w' := by
  go_enter Tryz.func60, Tryz.ntmps60
  go_wp2
  go_ret
  exact ⟨rfl, rfl⟩
set_option maxRecDepth 100000 in
theorem f61_any (g : Nat) (a : Option Addr) (n c : Nat) (h0 : 0 < n) (w : World) (h : w.cell? ⟨g, 3, none⟩ = some (.slice a n c)) : Calls Tryz.prog 61 #[.pointer (some ⟨g, 0, none⟩)] w fun e w' => e = .returned (.pointer (some ⟨g, 2, none⟩)) ∧ w = w' := by
  have hn : ((n : Int) == 0) = false := by rw [beq_eq_false_iff_ne]; omega
  go_enter Tryz.func61, Tryz.ntmps61
  go_wp2
  go_ret
  exact ⟨rfl, rfl⟩
/-- The hash of an integer's lowest word. -/
def hshW (x : Int) : Int := IntKind.u32.wrap (12582917 * IntKind.u32.wrap (IntKind.u64.wrap (x + 3)))
/-- The hash of an integer. -/
def hsh (z : Int) : Int := hshW (if smallB z then IntKind.u64.wrap z else ((z.natAbs % W : Nat) : Int))
def HashIs (z : Int) (w : World) (e : Ending) (w' : World) : Prop := e = .returned (.tuple #[.int .u32 (hsh z), .nilIface]) ∧ Below w.heap.size w w'
set_option maxRecDepth 100000 in
set_option maxHeartbeats 2000000 in
theorem f27_any (v : Value) (z : Int) (B : Nat) (w : World) (hk : KInt B w v z) : Calls Tryz.prog 27 #[v] w (HashIs z w) := by
  rcases hk with ⟨hs, rfl⟩ | ⟨hs, g, sl, xs, rfl, hB, hx⟩
  · have HS : Hid (hsh z = hshW (IntKind.u64.wrap z)) := by show _ = _; unfold hsh; rw [hs]; rfl
    clear hs
    go_enter Tryz.func27, Tryz.ntmps27
    go_wp2_with fail
    go_at_call 44
    refine (f44_any z none _).mono ?_
    rintro e w1 ⟨rfl, hb⟩
    have HB := Lib.hid (((Below.refl w.heap.size w).alloc (Nat.le_refl _) (.cells #[.int .i64 z, .pointer none] 63)).trans (hb.mono (by simp)))
    clear hb
    go_wp2_with fail
    go_ret2
    exact ⟨by rw [HS.out]; rfl, HB.out⟩
  · have hne : xs ≠ [] := fun h => by
      have := hx.num.zero.2 h
      have : z = 0 := by omega
      subst this
      simp [smallB] at hs
    have hlow := hx.num.low
    have hval := hx.num.val
    have HS : Hid (hsh z = hshW ((xs.getD 0 0 : Nat) : Int)) := by
      show _ = _
      unfold hsh
      rw [hs]
      obtain ⟨x, r, rfl⟩ := List.exists_cons_of_ne_nil hne
      have hx0 : x < W := hlow x (by simp)
      simp only [wv] at hval
      simp only [Bool.false_eq_true, if_false, List.getD_cons_zero]
      rw [← hval, Nat.add_mul_mod_self_left, Nat.mod_eq_of_lt hx0]
    have bel : Below w.heap.size w (w.alloc (.cells #[.int .i64 0, .pointer (some ⟨g, 0, none⟩)] 63)) := (Below.refl _ _).alloc (Nat.le_refl _) _
    have HX := Lib.hid hx
    have HBL := Lib.hid bel
    have hlen : 0 < xs.length := List.length_pos_iff.2 hne
    clear hs hne hlow hval bel hx
    go_enter Tryz.func27, Tryz.ntmps27
    go_wp2_with fail
    go_at_call 44
    refine (f44_any 0 (some ⟨g, 0, none⟩) _).mono ?_
    rintro e w1 ⟨rfl, hb⟩
    have HB := Lib.hid (HBL.out.trans (hb.mono HBL.out.size))
    have hx1 := HX.out.below HB.out (Nat.le_refl _)
    rcases hx1.row with ⟨h0, _⟩ | ⟨_, gx, off, c, rfl, _, _, _, hcell⟩
    · simp [h0] at hlen
    · have c0 : w1.cell? ⟨gx, off, none⟩ = some (.int .u64 ((xs.getD 0 0 : Nat) : Int)) := hcell 0 hlen
      have hlen2 : (0 : Int) < (xs.length : Int) := by omega
      have hcs : w1.cell? ⟨g, 0 + 1, none⟩ = some (.slice (some ⟨gx, off, none⟩) xs.length c) := by simp [World.cell?, hx1.blk]
      have H45 := Lib.hid (f45_any g 0 _ _ _ _ rfl w1 hcs)
      clear hb hx1 hcell hcs
      generalize xs.getD 0 0 = y at *
      generalize xs.length = n at *
      go_wp2_with fail
      go_at_call 45
      refine H45.out.mono ?_
      rintro e w' ⟨rfl, rfl⟩
      go_wp2_with fail
      go_ret2
      exact ⟨by rw [HS.out]; rfl, HB.out⟩
end Go.Proofs.YtllgogkjcbdpkaaGreatDoor.Z

/- The thin package's hash of an integer. -/
namespace Go.Proofs.YtllgogkjcbdpkaaGreatDoor.Z
open Go.RowKit

set_option maxRecDepth 100000 in
theorem f25_any (h : Int) (w : World) : Calls Tryz.prog 25 #[.int .u32 h, .nilIface] w fun e w' => e = .returned (.tuple #[.int .u32 h, .bool true]) ∧ w = w' := by
  go_enter Tryz.func25, Tryz.ntmps25
  go_wp2
  go_ret2
  exact ⟨rfl, rfl⟩
def ToldIs (h : Int) (w : World) (e : Ending) (w' : World) : Prop := e = .returned (.tuple #[.int .u32 h, .bool true]) ∧ Below w.heap.size w w'
set_option maxRecDepth 100000 in
set_option maxHeartbeats 2000000 in
theorem f7_any (n : Nat) (hn : n ≤ 4000) (v : Value) (z : Int) (B : Nat) (w : World) (hv : VInt B n w v z) : Calls Tryz.prog 7 #[v] w (ToldIs (hsh z) w) := by
  obtain ⟨sl, l, rfl, hr, hb, hl⟩ := hv
  obtain ⟨a, c, rfl⟩ := hr.len
  have bel : Below w.heap.size w (w.alloc (.cells #[.int .i64 2, .bool (decide (z < 0)), .slice a l.length c, .int .u64 0, .string ⟨#[]⟩, .slice none 0 0] 28)) := (Below.refl _ _).alloc (Nat.le_refl _) _
  have H26 := Lib.hid (fun w1 (hb1 : Below w.heap.size w w1) => f26_any n hn _ z B w1 ⟨_, l, rfl, hr.below hb1 (Nat.le_refl _), hb, hl⟩)
  have HB := Lib.hid bel
  clear hr hb hl bel
  generalize decide (z < 0) = d at *
  generalize l.length = L at *
  go_enter Tryz.func7, Tryz.ntmps7
  go_wp2_with fail
  go_at_call 26
  refine (H26.out _ HB.out).mono ?_
  rintro e w1 ⟨u, rfl, hk, hb1⟩
  obtain ⟨ka, kp, rfl⟩ := hk.shape
  have H27 := Lib.hid (f27_any _ z _ w1 hk)
  have HB1 := Lib.hid (HB.out.trans (hb1.mono HB.out.size))
  clear hk hb1 H26
  go_wp2_with fail
  go_at_call 27
  refine H27.out.mono ?_
  rintro e w2 ⟨rfl, hb2⟩
  have HB2 := Lib.hid (HB1.out.trans (hb2.mono HB1.out.size))
  clear hb2 H27
  generalize hsh z = hz at *
  go_wp2_with (go_at_call 25; refine (f25_any _ _).mono ?_; rintro e w' ⟨rfl, rfl⟩)
  go_ret2
  exact ⟨rfl, HB2.out⟩
end Go.Proofs.YtllgogkjcbdpkaaGreatDoor.Z

/- A word as a natural number of the package; MakeInt64. -/
namespace Go.Proofs.YtllgogkjcbdpkaaGreatDoor.Z
open Go.RowKit

set_option maxRecDepth 100000 in
theorem f62_one (w : World) : Calls Tryz.prog 62 #[.slice none 0 0, .int .i64 1] w fun e w' => e = .returned (.slice (some ⟨w.heap.size, 0, none⟩) 1 1) ∧ w.alloc (.cells #[.int .u64 0] 85) = w' := by
  have hmk : ∀ w, (Instr.makeSlice 77 (.int .i64 1) (.int .i64 1)).run Tryz.prog w = .ok (.slice (some ⟨w.heap.size, 0, none⟩) 1 1) (w.alloc (.cells #[.int .u64 0] 85)) := fun _ => by kernel_rfl
  go_enter Tryz.func62, Tryz.ntmps62
  go_wp2
  go_ret
  exact ⟨rfl, rfl⟩
set_option maxRecDepth 100000 in
theorem f88_any (x : Nat) (h0 : x ≠ 0) (w : World) : Calls Tryz.prog 88 #[.slice none 0 0, .int .u64 x] w fun e w' => e = .returned (.slice (some ⟨w.heap.size, 0, none⟩) 1 1) ∧ w.alloc (.cells #[.int .u64 x] 85) = w' := by
  have hx : ((x : Int) == 0) = false := by rw [beq_eq_false_iff_ne]; omega
  go_enter Tryz.func88, Tryz.ntmps88
  go_wp2_with (go_at_call 62; refine (f62_one _).mono ?_; rintro e w' ⟨rfl, rfl⟩)
  go_ret
  exact ⟨rfl, rfl⟩
set_option maxRecDepth 100000 in
theorem f86_any (x : Nat) (h0 : x ≠ 0) (w : World) : Calls Tryz.prog 86 #[.slice none 0 0, .int .u64 x] w fun e w' => e = .returned (.slice (some ⟨w.heap.size, 0, none⟩) 1 1) ∧ w.alloc (.cells #[.int .u64 x] 85) = w' := by
  have H88 := Lib.hid (f88_any x h0)
  clear h0
  go_enter Tryz.func86, Tryz.ntmps86
  go_wp2_with (go_at_call 88; refine (H88.out _).mono ?_; rintro e w' ⟨rfl, rfl⟩)
  go_ret
  exact ⟨rfl, rfl⟩
end Go.Proofs.YtllgogkjcbdpkaaGreatDoor.Z

/- An integer of the package set to a word, wherever it lies. -/
namespace Go.Proofs.YtllgogkjcbdpkaaGreatDoor.Z
open Go.RowKit

def SetTo (g off x : Nat) (w : World) (e : Ending) (w' : World) : Prop := e = .returned (.pointer (some ⟨g, off, none⟩)) ∧ w'.cell? ⟨g, off, none⟩ = some (.bool false) ∧ ∃ a, w.heap.size ≤ a ∧ a < w'.heap.size ∧ a ≠ g ∧ w'.cell? ⟨g, off + 1, none⟩ = some (.slice (some ⟨a, 0, none⟩) 1 1) ∧ w'.heap[a]? = some (.cells #[.int .u64 x] 85 (0, 0)) ∧ w.heap.size ≤ w'.heap.size ∧ ∀ k, k ≠ g → k < w.heap.size → w'.heap[k]? = w.heap[k]?
set_option maxRecDepth 100000 in
set_option maxHeartbeats 2000000 in
theorem f77_any (g off x : Nat) (h0 : x ≠ 0) (b : Bool) (w : World) (c0 : w.cell? ⟨g, off, none⟩ = some (.bool b)) (c1 : w.cell? ⟨g, off + 1, none⟩ = some (.slice none 0 0)) (f0 : ∀ i, w.frozen? ⟨g, i, none⟩ = false) : Calls Tryz.prog 77 #[.pointer (some ⟨g, off, none⟩), .int .u64 x] w (SetTo g off x w) := by
  have H86 := Lib.hid (f86_any x h0)
  have zl : g < w.heap.size := World.block_lt_of_cell? w _ c0
  clear h0
  go_enter Tryz.func77, Tryz.ntmps77
  go_wp2_with (go_at_call 86; refine (H86.out _).mono ?_; rintro e w' ⟨rfl, rfl⟩)
  go_ret
  have ne : (⟨g, off, none⟩ : Addr) ≠ ⟨g, off + 1, none⟩ := fun e => by injection e with _ e _; omega
  generalize hW : (w.setCell ⟨g, off + 1, none⟩ (.slice (some ⟨w.heap.size, 0, none⟩) 1 1)).setCell ⟨g, off, none⟩ (.bool false) = W1
  have hs : W1.heap.size = w.heap.size := by rw [← hW]; simp [World.setCell]
  have d1 : W1.cell? ⟨g, off + 1, none⟩ = some (.slice (some ⟨w.heap.size, 0, none⟩) 1 1) := by
    rw [← hW, World.cell?_setCell_other _ _ _ _ ne]
    exact World.cell?_setCell_same _ _ _ c1
  have d0 : W1.cell? ⟨g, off, none⟩ = some (.bool false) := by
    rw [← hW]
    exact World.cell?_setCell_same (u := .bool b) _ _ _ ((World.cell?_setCell_other _ _ _ _ ne.symm).trans c0)
  have dk : ∀ k, k ≠ g → W1.heap[k]? = w.heap[k]? := fun k hk => by
    rw [← hW, Below.heap_setCell _ _ _ k hk, Below.heap_setCell _ _ _ k hk]
  refine ⟨rfl, ?_, w.heap.size, Nat.le_refl _, ?_, by omega, ?_, ?_, ?_, ?_⟩
  · exact (World.cell?_alloc_lt W1 _ _ (by rw [hs]; exact zl)).trans d0
  · show _ < (W1.heap.push _).size
    rw [Array.size_push]
    omega
  · exact (World.cell?_alloc_lt W1 _ _ (by rw [hs]; exact zl)).trans d1
  · have := heap_alloc_new W1 (.cells #[.int .u64 x] 85)
    rw [hs] at this
    exact this
  · show _ ≤ (W1.heap.push _).size
    rw [Array.size_push]
    omega
  · intro k hk hl
    rw [Below.heap_alloc _ _ k (by rw [hs]; exact hl), dk k hk]
end Go.Proofs.YtllgogkjcbdpkaaGreatDoor.Z

/- A float's absolute value. -/
namespace Go.Proofs.YtllgogkjcbdpkaaGreatDoor.Z
open Go.RowKit
theorem abs_word (s : Bool) (r : Nat) (h : r < 2047 * 2 ^ 52) : bits BinOp.andNot IntKind.u64 ((fw s r : Nat) : Int) 9223372036854775808 = ((fw false r : Nat) : Int) := by
  have := u64_andNot_nat (fw s r) 9223372036854775808 (fw_lt s r h) (by decide)
  refine this.trans ?_
  rw [show 18446744073709551615 - 9223372036854775808 = 2 ^ 63 - 1 by decide, Nat.and_two_pow_sub_one_eq_mod, fw_rung s r (by omega)]
  rfl
theorem call46 (x : Nat) (w : World) : (callFunc 46 #[.int .u64 (fw false x : Nat)]).run Tryz.prog w = .ok (.value (.float .f64 (fw false x))) w := by
  rw [run_callFunc_extern Tryz.func46 (by kernel_rfl) (by kernel_rfl) (by kernel_rfl) (e := Extern.MathFloatBits.float64frombits) (by kernel_rfl)]
  rfl
set_option maxRecDepth 100000 in
theorem f56_any (s : Bool) (r : Nat) (h : r < 2047 * 2 ^ 52) (w : World) : Calls Tryz.prog 56 #[.float .f64 (fw s r)] w fun e w' => e = .returned (.float .f64 (fw false r)) ∧ w = w' := by
  have hc := fun w => call10 (fw s r) w
  have hd := fun w => call46 r w
  have ha := abs_word s r h
  go_enter Tryz.func56, Tryz.ntmps56
  go_wp2
  go_ret
  exact ⟨rfl, rfl⟩
end Go.Proofs.YtllgogkjcbdpkaaGreatDoor.Z

/- The package's isFinite. -/
namespace Go.Proofs.YtllgogkjcbdpkaaGreatDoor.Z
open Go.RowKit
theorem fin_word (r : Nat) (h : r < 2047 * 2 ^ 52) : (FloatKind.f64.format.order (fw false r) 9218868437227405311 == some Ordering.lt || FloatKind.f64.format.order (fw false r) 9218868437227405311 == some Ordering.eq) = true := by
  have ho := order_fw false false r (2047 * 2 ^ 52 - 1) h (by omega)
  have hv := V_le (show r ≤ 2047 * 2 ^ 52 - 1 by omega)
  rw [show fw false (2047 * 2 ^ 52 - 1) = 9218868437227405311 by decide] at ho
  generalize hV : V (2047 * 2 ^ 52 - 1) = M at ho hv
  have hc : compare (sg false (V r)) (sg false M) ≠ .gt := by
    unfold sg
    rw [Ne, Int.compare_eq_gt]
    simp
    omega
  show (Ieee.double.order (fw false r) 9218868437227405311 == some Ordering.lt || Ieee.double.order (fw false r) 9218868437227405311 == some Ordering.eq) = true
  rw [ho]
  cases hq : compare (sg false (V r)) (sg false M) <;> first | rfl | exact absurd hq hc
set_option maxRecDepth 100000 in
theorem f47_any (s : Bool) (r : Nat) (h : r < 2047 * 2 ^ 52) (w : World) : Calls Tryz.prog 47 #[.float .f64 (fw s r)] w fun e w' => e = .returned (.bool true) ∧ w = w' := by
  have H56 := Lib.hid (fun w => f56_any s r h w)
  go_enter Tryz.func47, Tryz.ntmps47
  go_wp2_with (go_at_call 56; refine (H56.out _).mono ?_; rintro e w' ⟨rfl, rfl⟩)
  go_ret
  exact ⟨by rw [← fin_word r h]; rfl, rfl⟩
end Go.Proofs.YtllgogkjcbdpkaaGreatDoor.Z

/- A natural number's integer of any word. -/
namespace Go.Proofs.YtllgogkjcbdpkaaGreatDoor.Z
open Go.RowKit
set_option maxRecDepth 100000 in
set_option maxHeartbeats 1000000 in
theorem f68_wide (z : Int) (h1 : -9223372036854775808 ≤ z) (h2 : z < 9223372036854775808) (w : World) : Calls Tryz.prog 68 #[.int .i64 z] w (MakesB z w) := by
  by_cases hz : z = 0
  · subst hz
    go_enter Tryz.func68, Tryz.ntmps68
    go_wp2
    go_ret
    refine ⟨w.heap.size, .slice none 0 0, [], rfl, Nat.le_refl _, ⟨by simpa using heap_alloc_new w _, .inl ⟨rfl, .inl rfl⟩, isW_nil, by simp⟩, (Below.refl _ _).alloc (Nat.le_refl _) _⟩
  · have hne : (z == 0) = false := by rw [beq_eq_false_iff_ne]; exact hz
    by_cases hn : z < 0
    · have hm : Hid (IntKind.u64.wrap (-IntKind.u64.wrap z) = (z.natAbs : Int)) := by show _ = _; rw [IntKind.wrap_u64, IntKind.wrap_u64]; omega
      have HM := Lib.hid (made_one w z z.natAbs true rfl hz (by simpa using hn) (by unfold W; omega))
      go_enter Tryz.func68, Tryz.ntmps68
      go_wp2
      go_ret
      refine ⟨w.heap.size + 1, .slice (some ⟨w.heap.size, 0, none⟩) 1 1, [z.natAbs], rfl, by omega, ?_, ((Below.refl _ _).alloc (Nat.le_refl _) _).alloc (by simp) _⟩
      rw [hm.out]; exact HM.out
    · have hm : Hid (z = (z.natAbs : Int)) := by show _ = _; omega
      have HM := Lib.hid (made_one w z z.natAbs false rfl hz (by simpa using hn) (by unfold W; omega))
      go_enter Tryz.func68, Tryz.ntmps68
      go_wp2
      go_ret
      refine ⟨w.heap.size + 1, .slice (some ⟨w.heap.size, 0, none⟩) 1 1, [z.natAbs], rfl, by omega, ?_, ((Below.refl _ _).alloc (Nat.le_refl _) _).alloc (by simp) _⟩
      have := HM.out
      rw [← hm.out] at this
      exact this
end Go.Proofs.YtllgogkjcbdpkaaGreatDoor.Z

/- MakeInt64. -/
namespace Go.Proofs.YtllgogkjcbdpkaaGreatDoor.Z
open Go.RowKit
def MadeK (z : Int) (w : World) (e : Ending) (w' : World) : Prop := ∃ v, e = .returned v ∧ KInt w.heap.size w' v z ∧ Below w.heap.size w w'
set_option maxRecDepth 100000 in
theorem f57_any (z : Int) (h1 : -9223372036854775808 ≤ z) (h2 : z < 9223372036854775808) (w : World) : Calls Tryz.prog 57 #[.int .i64 z] w (MadeK z w) := by
  go_enter Tryz.func57, Tryz.ntmps57
  go_wp2_with (first | (go_at_call 53; refine (f53_any z _).mono ?_; rintro e w1 ⟨rfl, hb⟩; have c0 : w1.cell? ⟨w.heap.size, 0, none⟩ = some (.int .i64 0) := (hb.cell (by simp)).trans (by simp [go_sem]); have c1 : w1.cell? ⟨w.heap.size, 1, none⟩ = some (.pointer none) := (hb.cell (by simp)).trans (by simp [go_sem]); have f0 : ∀ i, w1.frozen? ⟨w.heap.size, i, none⟩ = false := fun i => (hb.frozen (by simp)).trans (by simp [go_sem])) | (go_at_call 68; refine (f68_wide z h1 h2 _).mono ?_; rintro e w1 ⟨g, sl, xs, rfl, hg, hx, hb⟩; have c0 : w1.cell? ⟨w.heap.size, 0, none⟩ = some (.int .i64 0) := (hb.cell (by simp)).trans (by simp [go_sem]); have c1 : w1.cell? ⟨w.heap.size, 1, none⟩ = some (.pointer none) := (hb.cell (by simp)).trans (by simp [go_sem]); have f0 : ∀ i, w1.frozen? ⟨w.heap.size, i, none⟩ = false := fun i => (hb.frozen (by simp)).trans (by simp [go_sem])) | (go_at_call 55; refine (f55_any g _).mono ?_; rintro e w2 ⟨rfl, hb2⟩; have hl := World.block_lt_of_cell? w1 _ c0; have d0 : w2.cell? ⟨w.heap.size, 0, none⟩ = some (.int .i64 0) := (hb2.cell (by simpa using hl)).trans c0; have d1 : w2.cell? ⟨w.heap.size, 1, none⟩ = some (.pointer none) := (hb2.cell (by simpa using hl)).trans c1; have e0 : ∀ i, w2.frozen? ⟨w.heap.size, i, none⟩ = false := fun i => (hb2.frozen (by simpa using hl)).trans (f0 i)))
  · refine bodyPost_ret (v := .agg #[.int .i64 z, .pointer none]) (by simp [results, Tryz.results57, go_sem, c0, c1]) rfl ?_
    exact ⟨_, rfl, .inl ⟨by unfold smallB; simp; omega, rfl⟩, ((((Below.refl _ _).alloc (Nat.le_refl _) _).trans (hb.mono (by simp))).setCell (Nat.le_refl _) _).setCell (Nat.le_refl _) _⟩
  all_goals
    refine bodyPost_ret (v := .agg #[.int .i64 0, .pointer (some ⟨g, 0, none⟩)]) (by simp [results, Tryz.results57, go_sem, d0, d1]) rfl ?_
    exact ⟨_, rfl, .inr ⟨by unfold smallB; simp; omega, g, sl, xs, rfl, by simp at hg; omega, (((hx.below hb2 (Nat.le_refl _)).setOld hg (by simp) _).setOld hg (by simp) _).le (by simp)⟩, (((((Below.refl _ _).alloc (Nat.le_refl _) _).trans (hb.mono (by simp))).trans (hb2.mono (by omega))).setCell (Nat.le_refl _) _).setCell (Nat.le_refl _) _⟩
end Go.Proofs.YtllgogkjcbdpkaaGreatDoor.Z

/- The small way of an integer out of a float. -/
namespace Go.Proofs.YtllgogkjcbdpkaaGreatDoor.Z
open Go.RowKit
theorem pow_pair (a b c d : Nat) (h : a + b = c + d) : (2 : Nat) ^ a * 2 ^ b = 2 ^ c * 2 ^ d := by rw [← Nat.pow_add, ← Nat.pow_add, h]
theorem V_at (q : Nat) (h : 1 ≤ q) : V (q * 2 ^ 52) = 2 ^ 52 * 2 ^ (q - 1) := by
  unfold V
  rw [if_neg (by omega), Nat.mul_mod_left, Nat.mul_div_cancel _ (by decide), Nat.add_zero]
theorem V_edge' (q : Nat) (h : q = 1086) : V (q * 2 ^ 52) = 2 ^ 63 * 2 ^ LP := by
  rw [V_at q (by omega)]
  exact pow_pair _ _ _ _ (by subst h; rfl)
theorem V_edge : V (1086 * 2 ^ 52) = 2 ^ 63 * 2 ^ LP := V_edge' 1086 rfl
/-- A float's integer part fits a word. -/
def Fits (s : Bool) (r : Nat) : Prop := -(2 ^ 63 * 2 ^ LP : Nat) ≤ sg s (V r) ∧ sg s (V r) < (2 ^ 63 * 2 ^ LP : Nat)
theorem lo_word (s : Bool) (r : Nat) (h : r < 2047 * 2 ^ 52) : FloatKind.f64.format.order 14114281232179134464 (fw s r) = some (compare (-(2 ^ 63 * 2 ^ LP : Nat) : Int) (sg s (V r))) := by
  have ho := order_fw true s (1086 * 2 ^ 52) r (by decide) h
  rw [show fw true (1086 * 2 ^ 52) = 14114281232179134464 by decide, V_edge] at ho
  exact ho
theorem hi_word (s : Bool) (r : Nat) (h : r < 2047 * 2 ^ 52) : FloatKind.f64.format.order (fw s r) 4890909195324358656 = some (compare (sg s (V r)) ((2 ^ 63 * 2 ^ LP : Nat) : Int)) := by
  have ho := order_fw s false r (1086 * 2 ^ 52) h (by decide)
  rw [show fw false (1086 * 2 ^ 52) = 4890909195324358656 by decide, V_edge] at ho
  exact ho
end Go.Proofs.YtllgogkjcbdpkaaGreatDoor.Z

/- The small way of an integer out of a float. -/
namespace Go.Proofs.YtllgogkjcbdpkaaGreatDoor.Z
open Go.RowKit
theorem fits_tr (s : Bool) (r : Nat) (h : Fits s r) : -9223372036854775808 ≤ sg s (tr r) ∧ sg s (tr r) < 9223372036854775808 := by
  obtain ⟨h1, h2⟩ := h
  have hp : 0 < 2 ^ LP := Nat.two_pow_pos _
  unfold tr
  generalize 2 ^ LP = p at *
  unfold sg at *
  cases s
  · simp at *
    have : V r / p < 9223372036854775808 := (Nat.div_lt_iff_lt_mul hp).2 (by omega)
    have h3 := Int.ofNat_lt.2 this
    rw [Int.natCast_ediv] at h3
    have h4 : (0 : Int) ≤ (V r : Int) / (p : Int) := Int.ediv_nonneg (by omega) (by omega)
    omega
  · simp at *
    have : V r / p ≤ 9223372036854775808 := Nat.div_le_of_le_mul (by rw [Nat.mul_comm]; omega)
    have h3 := Int.ofNat_le.2 this
    rw [Int.natCast_ediv] at h3
    have h4 : (0 : Int) ≤ (V r : Int) / (p : Int) := Int.ediv_nonneg (by omega) (by omega)
    omega
theorem conv_fits (s : Bool) (r : Nat) (hr : r < 2047 * 2 ^ 52) (h : Fits s r) : floatToIntVal .f64 (fw s r) .i64 = some (sg s (tr r)) := by
  have := toInt_fw s r hr
  have hb := fits_tr s r h
  unfold floatToIntVal
  rw [this]
  have e1 : IntKind.i64.min = -9223372036854775808 := by decide
  have e2 : IntKind.i64.max = 9223372036854775807 := by decide
  simp only [e1, e2]
  rw [if_pos (by omega)]
end Go.Proofs.YtllgogkjcbdpkaaGreatDoor.Z

/- The small way of an integer out of a float: the walk. -/
namespace Go.Proofs.YtllgogkjcbdpkaaGreatDoor.Z
open Go.RowKit
set_option maxRecDepth 100000 in
theorem f48_small (s : Bool) (r : Nat) (h : r < 2047 * 2 ^ 52) (hf : Fits s r) (w : World) : Calls Tryz.prog 48 #[.float .f64 (fw s r)] w (MadeK (sg s (tr r)) w) := by
  have hb := fits_tr s r hf
  have hc : ∀ w, (convert 66 2 (.float .f64 (fw s r))).run Tryz.prog w = .ok (.int .i64 (sg s (tr r))) w := fun w => run_convert_float_int w 66 2 .f64 .i64 _ _ (by rw [Tryz.underlying66]; rfl) Tryz.underlying2 (conv_fits s r h hf)
  have h2 : FloatKind.f64.format.order (fw s r) 4890909195324358656 = some .lt := by
    rw [hi_word s r h, Int.compare_eq_lt.2 hf.2]
  obtain ⟨o, h1, ho⟩ : ∃ o, FloatKind.f64.format.order 14114281232179134464 (fw s r) = some o ∧ (o = .lt ∨ o = .eq) := by
    refine ⟨_, lo_word s r h, ?_⟩
    have := hf.1
    cases hq : compare (-(2 ^ 63 * 2 ^ LP : Nat) : Int) (sg s (V r))
    · exact .inl rfl
    · exact .inr rfl
    · rw [Int.compare_eq_gt] at hq; omega
  have h57 := Lib.hid (fun w => f57_any (sg s (tr r)) hb.1 hb.2 w)
  clear hf hb h
  generalize sg s (tr r) = z at *
  generalize fw s r = u at *
  rcases ho with rfl | rfl
  all_goals
    go_enter Tryz.func48, Tryz.ntmps48
    go_wp2_with fail
    go_at_call 57
    refine (h57.out _).mono ?_
    rintro e w1 ⟨v, rfl, hk, hb⟩
    obtain ⟨a, p, rfl⟩ := hk.shape
    have HK := Lib.hid hk
    clear hk
    have c0 : w1.cell? ⟨w.heap.size, 0, none⟩ = some (.int .i64 0) := (hb.cell (by simp)).trans (by simp [go_sem])
    have c1 : w1.cell? ⟨w.heap.size, 1, none⟩ = some (.pointer none) := (hb.cell (by simp)).trans (by simp [go_sem])
    have f0 : ∀ i, w1.frozen? ⟨w.heap.size, i, none⟩ = false := fun i => (hb.frozen (by simp)).trans (by simp [go_sem])
    go_wp2_with fail
    refine bodyPost_ret (v := .agg #[.int .i64 a, .pointer p]) (by simp [results, Tryz.results48, go_sem, c0, c1]) rfl ?_
    exact ⟨_, rfl, ((HK.out.setOld (by simp) _).setOld (by simp) _).le (by simp), ((((Below.refl _ _).alloc (Nat.le_refl _) _).trans (hb.mono (by simp))).setCell (Nat.le_refl _) _).setCell (Nat.le_refl _) _⟩
end Go.Proofs.YtllgogkjcbdpkaaGreatDoor.Z

/- A finite float's hash: the hash of its integer. -/
namespace Go.Proofs.YtllgogkjcbdpkaaGreatDoor.Z
open Go.RowKit
set_option maxRecDepth 100000 in
theorem f29_of (s : Bool) (r : Nat) (h : r < 2047 * 2 ^ 52) (z : Int) (H48 : ∀ w, Calls Tryz.prog 48 #[.float .f64 (fw s r)] w (MadeK z w)) (w : World) : Calls Tryz.prog 29 #[.float .f64 (fw s r)] w (HashIs z w) := by
  have H := Lib.hid H48
  have H47 := Lib.hid (fun w => f47_any s r h w)
  clear H48 h
  generalize fw s r = u at *
  go_enter Tryz.func29, Tryz.ntmps29
  go_wp2_with (go_at_call 47; refine (H47.out _).mono ?_; rintro e w' ⟨rfl, rfl⟩)
  go_at_call 48
  refine (H.out _).mono ?_
  rintro e w1 ⟨v, rfl, hk, hb⟩
  have HK := Lib.hid (f27_any v z _ w1 hk)
  obtain ⟨a, p, rfl⟩ := hk.shape
  have HB := Lib.hid hb
  clear hk hb
  go_wp2_with fail
  go_at_call 27
  refine HK.out.mono ?_
  rintro e w2 ⟨rfl, hb2⟩
  have HB2 := Lib.hid (HB.out.trans (hb2.mono HB.out.size))
  clear hb2 HK
  generalize hh : hsh z = hz at *
  go_wp2_with fail
  go_ret2
  exact ⟨by rw [hh]; rfl, HB2.out⟩
end Go.Proofs.YtllgogkjcbdpkaaGreatDoor.Z

/- FloatHash: a finite float's word, told. -/
namespace Go.Proofs.YtllgogkjcbdpkaaGreatDoor.Z
open Go.RowKit
theorem call46' (x : Nat) (w : World) : (callFunc 46 #[.int .u64 (x : Nat)]).run Tryz.prog w = .ok (.value (.float .f64 x)) w := by
  rw [run_callFunc_extern Tryz.func46 (by kernel_rfl) (by kernel_rfl) (by kernel_rfl) (e := Extern.MathFloatBits.float64frombits) (by kernel_rfl)]
  rfl
set_option maxRecDepth 100000 in
theorem f28_any (u : Nat) (w : World) : Calls Tryz.prog 28 #[.int .u64 (u : Nat)] w fun e w' => e = .returned (.float .f64 u) ∧ w = w' := by
  have hd := fun w => call46' u w
  go_enter Tryz.func28, Tryz.ntmps28
  go_wp2
  go_ret
  exact ⟨rfl, rfl⟩
set_option maxRecDepth 100000 in
theorem f9_of (s : Bool) (r : Nat) (h : r < 2047 * 2 ^ 52) (z : Int) (H48 : ∀ w, Calls Tryz.prog 48 #[.float .f64 (fw s r)] w (MadeK z w)) (w : World) : Calls Tryz.prog 9 #[.int .u64 (fw s r : Nat)] w (ToldIs (hsh z) w) := by
  have H29 := Lib.hid (fun w => f29_of s r h z H48 w)
  clear H48 h
  generalize fw s r = u at *
  go_enter Tryz.func9, Tryz.ntmps9
  go_wp2_with (go_at_call 28; refine (f28_any u _).mono ?_; rintro e w' ⟨rfl, rfl⟩)
  go_at_call 29
  refine (H29.out _).mono ?_
  rintro e w2 ⟨rfl, hb2⟩
  have HB2 := Lib.hid hb2
  clear hb2 H29
  generalize hsh z = hz at *
  go_wp2_with (go_at_call 25; refine (f25_any _ _).mono ?_; rintro e w' ⟨rfl, rfl⟩)
  go_ret2
  exact ⟨rfl, HB2.out⟩
end Go.Proofs.YtllgogkjcbdpkaaGreatDoor.Z
