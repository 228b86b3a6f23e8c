/- Written by wip/tools/port2.py out of the text Big5 of seat Ytidkdjnfpepnfaa. -/
/- Walks of the package's great numbers: an Int in memory; isSmall, Int64. -/
import Derived.Test.YtllgogkjcbdpkaaGreatZBig4
namespace Go.Proofs.YtllgogkjcbdpkaaGreat.Z
open Go.RowKit

/-- The integer z lies in block g, its words in a block from B on. -/
structure BInt (B : Nat) (w : World) (g : Nat) (z : Int) (sl : Value) (xs : List Nat) : Prop where
  blk : w.heap[g]? = some (.cells #[.bool (decide (z < 0)), sl] 104 (0, 0))
  row : Row B .u64 w sl xs
  num : IsW z.natAbs xs
  len : xs.length ≤ 1000
theorem BInt.neg {B g : Nat} {w : World} {z : Int} {sl : Value} {xs : List Nat} (h : BInt B w g z sl xs) : w.cell? ⟨g, 0, none⟩ = some (.bool (decide (z < 0))) := by simp [World.cell?, h.blk]
theorem BInt.abs {B g : Nat} {w : World} {z : Int} {sl : Value} {xs : List Nat} (h : BInt B w g z sl xs) : w.cell? ⟨g, 1, none⟩ = some sl := by simp [World.cell?, h.blk]
theorem BInt.free {B g : Nat} {w : World} {z : Int} {sl : Value} {xs : List Nat} (h : BInt B w g z sl xs) (i : Nat) : w.frozen? ⟨g, i, none⟩ = false := by simp [World.frozen?, h.blk]
theorem BInt.lt {B g : Nat} {w : World} {z : Int} {sl : Value} {xs : List Nat} (h : BInt B w g z sl xs) : g < w.heap.size := (Array.getElem?_eq_some_iff.1 h.blk).1
theorem BInt.below {B' : Nat} {w w' : World} {g : Nat} {z : Int} {sl : Value} {xs : List Nat} {B : Nat} (h : BInt B' w g z sl xs) (hb : Below B w w') (hB : w.heap.size ≤ B) : BInt B' w' g z sl xs :=
  ⟨(hb.block g (Nat.lt_of_lt_of_le h.lt hB)).trans h.blk, h.row.below hb hB, h.num, h.len⟩
theorem BInt.le {B' B g : Nat} {w : World} {z : Int} {sl : Value} {xs : List Nat} (h : BInt B w g z sl xs) (hB : B' ≤ B) : BInt B' w g z sl xs := ⟨h.blk, h.row.le hB, h.num, h.len⟩

set_option maxRecDepth 100000 in
theorem f78_nil (v : Value) (hv : v = .slice none 0 0 ∨ ∃ a c, v = .slice (some a) 0 c) (w : World) : Calls Tryz.prog 78 #[v] w fun e w' => e = .returned (.int .u64 0) ∧ w = w' := by
  rcases hv with rfl | ⟨a, c, rfl⟩
  all_goals
    go_enter Tryz.func78, Tryz.ntmps78
    go_wp2
    go_ret
    exact ⟨rfl, rfl⟩
set_option maxRecDepth 100000 in
theorem f78_any (g off n c x : Nat) (hn : 0 < n) (w : World) (hc : w.cell? ⟨g, off, none⟩ = some (.int .u64 (x : Int))) : Calls Tryz.prog 78 #[.slice (some ⟨g, off, none⟩) n c] w fun e w' => e = .returned (.int .u64 (x : Int)) ∧ w = w' := by
  have hn1 : (0 : Int) < n := by omega
  have hn2 : ((n : Int) == 0) = false := by rw [beq_eq_false_iff_ne]; omega
  go_enter Tryz.func78, Tryz.ntmps78
  go_wp2
  go_ret
  exact ⟨rfl, rfl⟩

set_option maxRecDepth 100000 in
theorem f63_any (B g : Nat) (z : Int) (sl : Value) (xs : List Nat) (w : World) (h : BInt B w g z sl xs) (hz1 : -9223372036854775808 < z) (hz2 : z < 9223372036854775808) :
    Calls Tryz.prog 63 #[.pointer (some ⟨g, 0, none⟩)] w fun e w' => e = .returned (.int .i64 z) ∧ w = w' := by
  have c0 := h.neg
  have c1 := h.abs
  obtain ⟨_, hr, hnum, _⟩ := h
  by_cases h0 : z = 0
  · subst h0
    have hx : xs = [] := hnum.zero.1 rfl
    subst hx
    have hv := Lib.hid (f78_nil sl (by rcases hr with ⟨_, h⟩ | ⟨h, _⟩; exact h; simp at h) w)
    simp only [Int.lt_irrefl, decide_false] at c0
    go_enter Tryz.func63, Tryz.ntmps63
    go_wp2_with fail
    refine hv.out.mono ?_
    rintro e w' ⟨rfl, rfl⟩
    go_wp2_with fail
    go_ret
    exact ⟨rfl, rfl⟩
  · have hx : xs = [z.natAbs] := hnum.one (by unfold W; omega) (by omega)
    subst hx
    rcases hr with ⟨h, _⟩ | ⟨_, g', off, c, rfl, _, _, _, hcell⟩
    · simp at h
    have hv := Lib.hid (f78_any g' off 1 c z.natAbs (by omega) w (hcell 0 (by simp)))
    simp only [List.length_singleton] at c1
    obtain ⟨m, hm⟩ : ∃ m, m = z.natAbs := ⟨_, rfl⟩
    rw [← hm] at hv
    clear hcell hnum
    by_cases hneg : z < 0
    · have e1 : decide (z < 0) = true := by simpa using hneg
      rw [e1] at c0
      have hzm : Hid (-(m : Int) = z) := by show _ = _; omega
      have hm1 : m < 9223372036854775808 := by omega
      clear hm e1 hneg hz1 hz2 h0
      go_enter Tryz.func63, Tryz.ntmps63
      go_wp2_with fail
      refine hv.out.mono ?_
      rintro e w' ⟨rfl, rfl⟩
      go_wp2_with fail
      go_ret
      exact ⟨ret_int hzm.out, rfl⟩
    · have e1 : decide (z < 0) = false := by simpa using hneg
      rw [e1] at c0
      have hzm : Hid ((m : Int) = z) := by show _ = _; omega
      have hm1 : m < 9223372036854775808 := by omega
      clear hm e1 hneg hz1 hz2 h0
      go_enter Tryz.func63, Tryz.ntmps63
      go_wp2_with fail
      refine hv.out.mono ?_
      rintro e w' ⟨rfl, rfl⟩
      go_wp2_with fail
      go_ret
      exact ⟨ret_int hzm.out, rfl⟩

set_option maxRecDepth 100000 in
theorem f77_any (B g : Nat) (z : Int) (sl : Value) (xs : List Nat) (w : World) (h : BInt B w g z sl xs) : Calls Tryz.prog 77 #[.pointer (some ⟨g, 0, none⟩)] w (BitsPost z.natAbs w) := by
  have c1 := h.abs
  have HF : Hid (Calls Tryz.prog 88 #[sl] w (BitsPost z.natAbs w)) := by
    rcases h.row with ⟨rfl, hv⟩ | ⟨h0, g', off, c, rfl, hc, _, hg, hcell⟩
    · have : z.natAbs = 0 := h.num.zero.2 rfl
      rw [this]
      exact f88_nil sl hv w
    · have hl := h.len
      have hx := hcell (xs.length - 1) (by omega)
      have hlast := h.num.last h0
      have hlow : xs.getD (xs.length - 1) 0 < W := by
        have : xs.length - 1 < xs.length := by omega
        simp [this]; exact h.num.low _ (List.getElem_mem this)
      refine f88_any g' off xs.length c (xs.getD (xs.length - 1) 0) z.natAbs h0 (by omega) w hlow hlast ?_ ?_ hx
      · intro h1
        match xs, h1, h.num with
        | [x], _, hn => have := hn.val; simp [wv] at this; simp [this]
      · intro h1
        have := h.num.ge h0
        have h3 : W ^ 1 ≤ W ^ (xs.length - 1) := Nat.pow_le_pow_right W_pos (by omega)
        unfold W at *
        omega
  clear h
  go_enter Tryz.func77, Tryz.ntmps77
  go_wp2_with fail
  refine HF.out.mono ?_
  rintro e w' ⟨L, rfl, h1, h2, h3, h4, rfl⟩
  have H3 := Lib.hid h3
  have H4 := Lib.hid h4
  clear h3 h4
  go_wp2_with fail
  go_ret
  exact ⟨L, rfl, h1, h2, H3.out, H4.out, rfl⟩

/-- What the package holds as a small number. -/
def smallB (z : Int) : Bool := decide (-2147483648 ≤ z ∧ z < 2147483648)

set_option maxRecDepth 100000 in
set_option maxHeartbeats 1000000 in
theorem f61_any (B g : Nat) (z : Int) (sl : Value) (xs : List Nat) (w : World) (h : BInt B w g z sl xs) : Calls Tryz.prog 61 #[.pointer (some ⟨g, 0, none⟩)] w fun e w' => e = .returned (.bool (smallB z)) ∧ w = w' := by
  have HF := Lib.hid (f77_any B g z sl xs w h)
  have HB := Lib.hid h
  clear h
  by_cases h1 : z.natAbs < 2147483648
  · have F : Hid (smallB z = true) := by show _ = _; unfold smallB; simp; omega
    go_enter Tryz.func61, Tryz.ntmps61
    go_wp2_with fail
    refine HF.out.mono ?_
    rintro e w' ⟨L, rfl, q1, q2, q3, q4, rfl⟩
    have hL : L < 32 := q3.2 h1
    clear q3 q4 h1
    go_wp2_with fail
    go_ret
    exact ⟨ret_bool F.out.symm, rfl⟩
  by_cases h2 : z.natAbs < 4294967296
  · have hI := Lib.hid (f63_any B g z sl xs w HB.out (by omega) (by omega))
    go_enter Tryz.func61, Tryz.ntmps61
    go_wp2_with fail
    refine HF.out.mono ?_
    rintro e w' ⟨L, rfl, q1, q2, q3, q4, rfl⟩
    have hL : ¬ L < 32 := fun h => h1 (q3.1 h)
    have hL2 : L < 33 := q4.2 h2
    have hL3 : L = 32 := by omega
    subst hL3
    clear q3 q4
    have F : Hid (smallB z = (z == -2147483648)) := by
      show _ = _
      unfold smallB
      rw [Bool.eq_iff_iff]; simp; omega
    clear h1 h2
    go_wp2_with fail
    refine hI.out.mono ?_
    rintro e w' ⟨rfl, rfl⟩
    go_wp2_with fail
    go_ret
    exact ⟨ret_bool F.out.symm, rfl⟩
  · have F : Hid (smallB z = false) := by show _ = _; unfold smallB; simp; omega
    go_enter Tryz.func61, Tryz.ntmps61
    go_wp2_with fail
    refine HF.out.mono ?_
    rintro e w' ⟨L, rfl, q1, q2, q3, q4, rfl⟩
    have hL : ¬ L < 33 := fun h => h2 (q4.1 h)
    have hL2 : (L == 32) = false := by rw [beq_eq_false_iff_ne]; omega
    have hL3 : ¬ L < 32 := by omega
    have F2 : Hid (decide (L < 32) = false) := by show _ = _; simpa using hL3
    clear q3 q4 h1 h2 hL
    go_wp2_with fail
    go_ret
    exact ⟨ret_bool (by rw [F.out, F2.out]), rfl⟩
end Go.Proofs.YtllgogkjcbdpkaaGreat.Z
