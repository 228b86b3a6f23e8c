/- Joined texts: ZBig4 ZBig5 ZBig6 ZBig7 ZBig8 ZBig9 ZBig10 ZBig11. -/
import Derived.Test.YtllgogkjcbdpkaaGreatDoorZBig3
import Derived.Test.YtllgogkjcbdpkaaGreatDoorZShelf
import Derived.Lib.ItoaNum
/- Written by wip/tools/port2.py out of the text Big4 of seat Ytidkdjnfpepnfaa. -/
/- Walks of the package's great numbers: how many bits. -/
namespace Go.Proofs.YtllgogkjcbdpkaaGreatDoor.Z
open Go.RowKit

/-- y is x, or x with some more bits below its highest one. -/
def Smear (x y : Nat) : Prop := x ≤ y ∧ ∀ k, k ≤ 64 → x < 2 ^ k → y < 2 ^ k
theorem or_shift (x s : Nat) (M : Int) (hM : M = ((2 ^ s : Nat) : Int)) (hx : x < 2 ^ 64) : ∃ y : Nat, bits BinOp.or IntKind.u64 (x : Int) ((x : Int) / M) = (y : Int) ∧ Smear x y ∧ y < 2 ^ 64 := by
  subst hM
  have hq : x / 2 ^ s ≤ x := Nat.div_le_self _ _
  refine ⟨x ||| x / 2 ^ s, ?_, ⟨Nat.left_le_or, fun k _ h => Nat.or_lt_two_pow h (Nat.lt_of_le_of_lt hq h)⟩, Nat.or_lt_two_pow hx (Nat.lt_of_le_of_lt hq hx)⟩
  rw [← Int.natCast_ediv, (bits_nat .u64 64 (by decide) (fun n h1 h2 => wraps_u64 n h1 h2) x (x / 2 ^ s) hx (by omega)).2]
theorem Smear.trans {x y z : Nat} (h : Smear x y) (k : Smear y z) : Smear x z := ⟨Nat.le_trans h.1 k.1, fun i hi hx => k.2 i hi (h.2 i hi hx)⟩

/-- What bitLen tells of the words xs. -/
def BitsPost (m : Nat) (w : World) (e : Ending) (w' : World) : Prop := ∃ L : Int, e = .returned (.int .i64 L) ∧ 0 ≤ L ∧ L ≤ 1000000000 ∧ (L < 32 ↔ m < 2147483648) ∧ (L < 33 ↔ m < 4294967296) ∧ w = w'

set_option maxRecDepth 100000 in
theorem f76_nil (v : Value) (hv : v = .slice none 0 0 ∨ ∃ a c, v = .slice (some a) 0 c) (w : World) : Calls Tryz.prog 76 #[v] w (BitsPost 0 w) := by
  rcases hv with rfl | ⟨a, c, rfl⟩
  all_goals
    go_enter Tryz.func76, Tryz.ntmps76
    go_wp2
    go_ret
    exact ⟨0, rfl, by omega, by omega, by omega, by omega, rfl⟩

theorem bitLen_lt (y k : Nat) (hk : 1 ≤ k) (hk2 : k ≤ 64) (hy : y < 2 ^ 64) : Lib.bitLen y < k ↔ y < 2 ^ (k - 1) := by
  constructor
  · intro h
    by_cases h0 : y = 0
    · subst h0; exact Nat.pow_pos (by decide)
    · have hb := Lib.bitLenAux_bounds 64 y hy h0
      have : 2 ^ Lib.bitLenAux 64 y ≤ 2 ^ (k - 1) := Nat.pow_le_pow_right (by decide) (by unfold Lib.bitLen at h; omega)
      omega
  · intro h
    have := Lib.bitLen_le y (k - 1) (by omega) h
    omega

set_option maxRecDepth 100000 in
set_option maxHeartbeats 1000000 in
theorem f76_any (g off n c x m : Nat) (hn : 0 < n) (hnb : n ≤ 1000000) (w : World) (hx : x < 18446744073709551616) (hx0 : 0 < x) (h1 : n = 1 → m = x) (h2 : 1 < n → 18446744073709551616 ≤ m)
    (hcell : w.cell? ⟨g, off + (n - 1), none⟩ = some (.int .u64 (x : Int))) :
    Calls Tryz.prog 76 #[.slice (some ⟨g, off, none⟩) n c] w (BitsPost m w) := by
  have hn1 : (0 : Int) < n := by omega
  have H1 := Lib.hid h1
  have H2 := Lib.hid h2
  have HX := Lib.hid hx
  clear h1 h2 hx
  go_enter Tryz.func76, Tryz.ntmps76
  go_wp2_with fail
  obtain ⟨y1, e1, s1, b1⟩ := or_shift x 1 2 (by decide) HX.out
  rw [e1]
  obtain ⟨y2, e2, s2, b2⟩ := or_shift y1 2 4 (by decide) b1
  rw [e2]
  obtain ⟨y3, e3, s3, b3⟩ := or_shift y2 4 16 (by decide) b2
  rw [e3]
  obtain ⟨y4, e4, s4, b4⟩ := or_shift y3 8 256 (by decide) b3
  rw [e4]
  obtain ⟨y5, e5, s5, b5⟩ := or_shift y4 16 65536 (by decide) b4
  rw [e5]
  obtain ⟨y6, e6, s6, b6⟩ := or_shift y5 32 4294967296 (by decide) b5
  rw [show (y5 : Int) / 65536 / 65536 = (y5 : Int) / 4294967296 from by omega, e6]
  have S := Lib.hid (((((s1.trans s2).trans s3).trans s4).trans s5).trans s6)
  have HB6 := Lib.hid b6
  clear e1 e2 e3 e4 e5 e6 s1 s2 s3 s4 s5 s6 b1 b2 b3 b4 b5 b6
  refine (Tryz.bits_Len (y6 : Int) w (by omega) (by have := HB6.out; omega)).mono ?_
  rintro e w' ⟨rfl, rfl⟩
  have hlen : Hid (Lib.bitLen y6 ≤ 64) := Lib.bitLen_le y6 64 (by omega) HB6.out
  have h31 := Lib.hid (bitLen_lt y6 32 (by omega) (by omega) HB6.out)
  have h32 := Lib.hid (bitLen_lt y6 33 (by omega) (by omega) HB6.out)
  have hpos : Hid (1 ≤ Lib.bitLen y6) := by
    show 1 ≤ _
    have := (bitLen_lt y6 1 (by omega) (by omega) HB6.out)
    have h3 := S.out.1
    omega
  rw [Int.toNat_natCast]
  generalize Lib.bitLen y6 = L at *
  have hL := hlen.out
  go_wp2_with fail
  go_ret
  refine ⟨_, rfl, ?_⟩
  have q1 := h31.out
  have q2 := h32.out
  have q3 := hpos.out
  have q4 := S.out.1
  have q5 := S.out.2 31 (by omega)
  have q6 := S.out.2 32 (by omega)
  have q7 := H1.out
  have q8 := H2.out
  simp only [Nat.reduceSub] at q1 q2
  refine ⟨by omega, by omega, ?_, ?_, rfl⟩
  · by_cases hn : n = 1
    · have := q7 hn
      subst hn
      constructor
      · intro h; have : y6 < 2 ^ 31 := q1.1 (by omega); omega
      · intro h; have : L < 32 := q1.2 (q5 (by omega)); omega
    · have := q8 (by omega)
      constructor <;> intro h <;> omega
  · by_cases hn : n = 1
    · have := q7 hn
      subst hn
      constructor
      · intro h; have : y6 < 2 ^ 32 := q2.1 (by omega); omega
      · intro h; have : L < 33 := q2.2 (q6 (by omega)); omega
    · have := q8 (by omega)
      constructor <;> intro h <;> omega
end Go.Proofs.YtllgogkjcbdpkaaGreatDoor.Z

/- Written by wip/tools/port2.py out of the text Big5 of seat Ytidkdjnfpepnfaa. -/
/- Walks of the package's great numbers: an Int in memory; isSmall, Int64. -/
namespace Go.Proofs.YtllgogkjcbdpkaaGreatDoor.Z
open Go.RowKit

/-- The integer z lies in block g, its words in a block from B on. -/
structure BInt (B : Nat) (w : World) (g : Nat) (z : Int) (sl : Value) (xs : List Nat) : Prop where
  blk : w.heap[g]? = some (.cells #[.bool (decide (z < 0)), sl] 79 (0, 0))
  row : Row B .u64 w sl xs
  num : IsW z.natAbs xs
  len : xs.length ≤ 1000
theorem BInt.neg {B g : Nat} {w : World} {z : Int} {sl : Value} {xs : List Nat} (h : BInt B w g z sl xs) : w.cell? ⟨g, 0, none⟩ = some (.bool (decide (z < 0))) := by simp [World.cell?, h.blk]
theorem BInt.abs {B g : Nat} {w : World} {z : Int} {sl : Value} {xs : List Nat} (h : BInt B w g z sl xs) : w.cell? ⟨g, 1, none⟩ = some sl := by simp [World.cell?, h.blk]
theorem BInt.free {B g : Nat} {w : World} {z : Int} {sl : Value} {xs : List Nat} (h : BInt B w g z sl xs) (i : Nat) : w.frozen? ⟨g, i, none⟩ = false := by simp [World.frozen?, h.blk]
theorem BInt.lt {B g : Nat} {w : World} {z : Int} {sl : Value} {xs : List Nat} (h : BInt B w g z sl xs) : g < w.heap.size := (Array.getElem?_eq_some_iff.1 h.blk).1
theorem BInt.below {B' : Nat} {w w' : World} {g : Nat} {z : Int} {sl : Value} {xs : List Nat} {B : Nat} (h : BInt B' w g z sl xs) (hb : Below B w w') (hB : w.heap.size ≤ B) : BInt B' w' g z sl xs :=
  ⟨(hb.block g (Nat.lt_of_lt_of_le h.lt hB)).trans h.blk, h.row.below hb hB, h.num, h.len⟩
theorem BInt.le {B' B g : Nat} {w : World} {z : Int} {sl : Value} {xs : List Nat} (h : BInt B w g z sl xs) (hB : B' ≤ B) : BInt B' w g z sl xs := ⟨h.blk, h.row.le hB, h.num, h.len⟩

set_option maxRecDepth 100000 in
theorem f67_nil (v : Value) (hv : v = .slice none 0 0 ∨ ∃ a c, v = .slice (some a) 0 c) (w : World) : Calls Tryz.prog 67 #[v] w fun e w' => e = .returned (.int .u64 0) ∧ w = w' := by
  rcases hv with rfl | ⟨a, c, rfl⟩
  all_goals
    go_enter Tryz.func67, Tryz.ntmps67
    go_wp2
    go_ret
    exact ⟨rfl, rfl⟩
set_option maxRecDepth 100000 in
theorem f67_any (g off n c x : Nat) (hn : 0 < n) (w : World) (hc : w.cell? ⟨g, off, none⟩ = some (.int .u64 (x : Int))) : Calls Tryz.prog 67 #[.slice (some ⟨g, off, none⟩) n c] w fun e w' => e = .returned (.int .u64 (x : Int)) ∧ w = w' := by
  have hn1 : (0 : Int) < n := by omega
  have hn2 : ((n : Int) == 0) = false := by rw [beq_eq_false_iff_ne]; omega
  go_enter Tryz.func67, Tryz.ntmps67
  go_wp2
  go_ret
  exact ⟨rfl, rfl⟩

set_option maxRecDepth 100000 in
theorem f54_any (B g : Nat) (z : Int) (sl : Value) (xs : List Nat) (w : World) (h : BInt B w g z sl xs) (hz1 : -9223372036854775808 < z) (hz2 : z < 9223372036854775808) :
    Calls Tryz.prog 54 #[.pointer (some ⟨g, 0, none⟩)] w fun e w' => e = .returned (.int .i64 z) ∧ w = w' := by
  have c0 := h.neg
  have c1 := h.abs
  obtain ⟨_, hr, hnum, _⟩ := h
  by_cases h0 : z = 0
  · subst h0
    have hx : xs = [] := hnum.zero.1 rfl
    subst hx
    have hv := Lib.hid (f67_nil sl (by rcases hr with ⟨_, h⟩ | ⟨h, _⟩; exact h; simp at h) w)
    simp only [Int.lt_irrefl, decide_false] at c0
    go_enter Tryz.func54, Tryz.ntmps54
    go_wp2_with fail
    refine hv.out.mono ?_
    rintro e w' ⟨rfl, rfl⟩
    go_wp2_with fail
    go_ret
    exact ⟨rfl, rfl⟩
  · have hx : xs = [z.natAbs] := hnum.one (by unfold W; omega) (by omega)
    subst hx
    rcases hr with ⟨h, _⟩ | ⟨_, g', off, c, rfl, _, _, _, hcell⟩
    · simp at h
    have hv := Lib.hid (f67_any g' off 1 c z.natAbs (by omega) w (hcell 0 (by simp)))
    simp only [List.length_singleton] at c1
    obtain ⟨m, hm⟩ : ∃ m, m = z.natAbs := ⟨_, rfl⟩
    rw [← hm] at hv
    clear hcell hnum
    by_cases hneg : z < 0
    · have e1 : decide (z < 0) = true := by simpa using hneg
      rw [e1] at c0
      have hzm : Hid (-(m : Int) = z) := by show _ = _; omega
      have hm1 : m < 9223372036854775808 := by omega
      clear hm e1 hneg hz1 hz2 h0
      go_enter Tryz.func54, Tryz.ntmps54
      go_wp2_with fail
      refine hv.out.mono ?_
      rintro e w' ⟨rfl, rfl⟩
      go_wp2_with fail
      go_ret
      exact ⟨ret_int hzm.out, rfl⟩
    · have e1 : decide (z < 0) = false := by simpa using hneg
      rw [e1] at c0
      have hzm : Hid ((m : Int) = z) := by show _ = _; omega
      have hm1 : m < 9223372036854775808 := by omega
      clear hm e1 hneg hz1 hz2 h0
      go_enter Tryz.func54, Tryz.ntmps54
      go_wp2_with fail
      refine hv.out.mono ?_
      rintro e w' ⟨rfl, rfl⟩
      go_wp2_with fail
      go_ret
      exact ⟨ret_int hzm.out, rfl⟩

set_option maxRecDepth 100000 in
theorem f66_any (B g : Nat) (z : Int) (sl : Value) (xs : List Nat) (w : World) (h : BInt B w g z sl xs) : Calls Tryz.prog 66 #[.pointer (some ⟨g, 0, none⟩)] w (BitsPost z.natAbs w) := by
  have c1 := h.abs
  have HF : Hid (Calls Tryz.prog 76 #[sl] w (BitsPost z.natAbs w)) := by
    rcases h.row with ⟨rfl, hv⟩ | ⟨h0, g', off, c, rfl, hc, _, hg, hcell⟩
    · have : z.natAbs = 0 := h.num.zero.2 rfl
      rw [this]
      exact f76_nil sl hv w
    · have hl := h.len
      have hx := hcell (xs.length - 1) (by omega)
      have hlast := h.num.last h0
      have hlow : xs.getD (xs.length - 1) 0 < W := by
        have : xs.length - 1 < xs.length := by omega
        simp [this]; exact h.num.low _ (List.getElem_mem this)
      refine f76_any g' off xs.length c (xs.getD (xs.length - 1) 0) z.natAbs h0 (by omega) w hlow hlast ?_ ?_ hx
      · intro h1
        match xs, h1, h.num with
        | [x], _, hn => have := hn.val; simp [wv] at this; simp [this]
      · intro h1
        have := h.num.ge h0
        have h3 : W ^ 1 ≤ W ^ (xs.length - 1) := Nat.pow_le_pow_right W_pos (by omega)
        unfold W at *
        omega
  clear h
  go_enter Tryz.func66, Tryz.ntmps66
  go_wp2_with fail
  refine HF.out.mono ?_
  rintro e w' ⟨L, rfl, h1, h2, h3, h4, rfl⟩
  have H3 := Lib.hid h3
  have H4 := Lib.hid h4
  clear h3 h4
  go_wp2_with fail
  go_ret
  exact ⟨L, rfl, h1, h2, H3.out, H4.out, rfl⟩

/-- What the package holds as a small number. -/
def smallB (z : Int) : Bool := decide (-2147483648 ≤ z ∧ z < 2147483648)

set_option maxRecDepth 100000 in
set_option maxHeartbeats 1000000 in
theorem f52_any (B g : Nat) (z : Int) (sl : Value) (xs : List Nat) (w : World) (h : BInt B w g z sl xs) : Calls Tryz.prog 52 #[.pointer (some ⟨g, 0, none⟩)] w fun e w' => e = .returned (.bool (smallB z)) ∧ w = w' := by
  have HF := Lib.hid (f66_any B g z sl xs w h)
  have HB := Lib.hid h
  clear h
  by_cases h1 : z.natAbs < 2147483648
  · have F : Hid (smallB z = true) := by show _ = _; unfold smallB; simp; omega
    go_enter Tryz.func52, Tryz.ntmps52
    go_wp2_with fail
    refine HF.out.mono ?_
    rintro e w' ⟨L, rfl, q1, q2, q3, q4, rfl⟩
    have hL : L < 32 := q3.2 h1
    clear q3 q4 h1
    go_wp2_with fail
    go_ret
    exact ⟨ret_bool F.out.symm, rfl⟩
  by_cases h2 : z.natAbs < 4294967296
  · have hI := Lib.hid (f54_any B g z sl xs w HB.out (by omega) (by omega))
    go_enter Tryz.func52, Tryz.ntmps52
    go_wp2_with fail
    refine HF.out.mono ?_
    rintro e w' ⟨L, rfl, q1, q2, q3, q4, rfl⟩
    have hL : ¬ L < 32 := fun h => h1 (q3.1 h)
    have hL2 : L < 33 := q4.2 h2
    have hL3 : L = 32 := by omega
    subst hL3
    clear q3 q4
    have F : Hid (smallB z = (z == -2147483648)) := by
      show _ = _
      unfold smallB
      rw [Bool.eq_iff_iff]; simp; omega
    clear h1 h2
    go_wp2_with fail
    refine hI.out.mono ?_
    rintro e w' ⟨rfl, rfl⟩
    go_wp2_with fail
    go_ret
    exact ⟨ret_bool F.out.symm, rfl⟩
  · have F : Hid (smallB z = false) := by show _ = _; unfold smallB; simp; omega
    go_enter Tryz.func52, Tryz.ntmps52
    go_wp2_with fail
    refine HF.out.mono ?_
    rintro e w' ⟨L, rfl, q1, q2, q3, q4, rfl⟩
    have hL : ¬ L < 33 := fun h => h2 (q4.1 h)
    have hL2 : (L == 32) = false := by rw [beq_eq_false_iff_ne]; omega
    have hL3 : ¬ L < 32 := by omega
    have F2 : Hid (decide (L < 32) = false) := by show _ = _; simpa using hL3
    clear q3 q4 h1 h2 hL
    go_wp2_with fail
    go_ret
    exact ⟨ret_bool (by rw [F.out, F2.out]), rfl⟩
end Go.Proofs.YtllgogkjcbdpkaaGreatDoor.Z

/- Written by wip/tools/port2.py out of the text Big6 of seat Ytidkdjnfpepnfaa. -/
/- Walks of the package's great numbers: set, Set, Neg. -/
namespace Go.Proofs.YtllgogkjcbdpkaaGreatDoor.Z
open Go.RowKit

theorem splice_take {α : Type} (L X C : List α) (n q m : Nat) (hC : C.length = m) (hfit : q + m ≤ n) (hn : n ≤ L.length) (hX : L.take n = X) (R : List α) (hR : R = X.take q ++ (C ++ X.drop (q + m))) :
    (L.take q ++ (C ++ L.drop (q + m))).toArray.toList.take (n * 1) = R := by
  subst hX
  subst hR
  subst hC
  have h1 : (L.take q).length = q := by simp; omega
  have h2 : (L.take q ++ (C ++ L.drop (q + C.length))).take n = L.take q ++ (C ++ (L.drop (q + C.length)).take (n - q - C.length)) := by
    rw [List.take_append, h1, List.take_of_length_le (l := L.take q) (by omega), List.take_append, List.take_of_length_le (l := C) (by omega)]
  rw [Nat.mul_one, show (L.take q ++ (C ++ L.drop (q + C.length))).toArray.toList = L.take q ++ (C ++ L.drop (q + C.length)) from rfl, h2, List.take_take, Nat.min_eq_left (by omega), List.drop_take]
  congr 3
  omega

/-- 'copy(own[o:..], src)': the words go over. -/
theorem wp_copy_row {w : World} {o : Oper} {a : Act} {K : Act → World → Prop} {Q : Exit → Act → World → Prop} (d s : Operand) (dT sT : TypeId)
    (ho : o.op = .call { callee := .builtin .copy, args := #[d, s], argTypes := #[dT, sT] }) (hu : Tryz.prog.underlying dT = some (.slice 85))
    (dp : Option Addr) (dLen dCap : Nat) (hd : a.eval d = .slice dp dLen dCap) (vs : Value) (hs : a.eval s = vs) (B g n c : Nat) (xs : List Nat) (hown : OwnW B w g n c xs) (B' : Nat) (ys : List Nat) (hrow : Row B' .u64 w vs ys)
    (q : Nat) (hdp : 0 < ys.length → dp = some ⟨g, q, none⟩) (hlen : ys.length = dLen) (hfit : q + ys.length ≤ n)
    (h : ∀ w', OwnW B w' g n c (xs.take q ++ (ys ++ xs.drop (q + ys.length))) → w.grownBy w' (some g) → K (a.put o.dst (goInt ys.length)) w') : o.wp Tryz.prog a w K Q := by
  obtain ⟨i0, hi, hz0, hz1, hz2⟩ := info_parts info85
  have hsz : (Tryz.prog.info? 85).map (·.size) = some 1 := by rw [hi]; simp [hz1]
  rcases hrow with ⟨rfl, hv⟩ | ⟨h0, g', off, c', rfl, hc, _, hg, hcell⟩
  · have hn0 : ∃ sp sl sc, vs = .slice sp sl sc ∧ Nat.min sl dLen = 0 := by
      rcases hv with rfl | ⟨x, c, rfl⟩
      · exact ⟨none, 0, 0, rfl, by simp⟩
      · exact ⟨some x, 0, c, rfl, by simp⟩
    obtain ⟨sp, sl, sc, rfl, hmin⟩ := hn0
    have hrun := run_copy_none (P := Tryz.prog) w dT sT o.type 85 dp sp dLen dCap sl sc hu hsz hmin
    unfold Oper.wp
    simp [execOp, ho, resolve, invoke, builtin, hd, hs, hrun, Result.andThen]
    exact h w (by simpa using hown) (World.grownBy.refl _ _)
  · obtain rfl := hdp h0
    subst hlen
    rcases hown.2 with ⟨h', _⟩ | ⟨g2, c2, cur, h', hB, hgg, hnc, hcm, hcs, ht⟩
    · cases h'
    · cases h'
      have hxs := hown.1
      have hrun := run_copy_row (P := Tryz.prog) w dT sT o.type 85 g q ys.length dCap ⟨g', off, none⟩ ys.length c' cur 85 (ys.map fun x => Value.int .u64 (x : Nat)) hu hsz hgg (by simp)
        (by
          intro j u hu
          have hj : j < ys.length := by have := List.getElem?_eq_some_iff.1 hu; simpa using this.1
          have := hcell j hj
          rw [show (⟨g', off, none⟩ : Addr).add j = ⟨g', off + j, none⟩ from by unfold Addr.add; split <;> simp_all, this]
          simp [hj] at hu ⊢
          exact hu) (by simp; omega) (by intro u hu; obtain ⟨y, _, rfl⟩ := List.mem_map.1 hu; rfl)
      unfold Oper.wp
      simp [execOp, ho, resolve, invoke, builtin, hd, hs, hrun, Result.andThen]
      refine h _ ?_ ?_
      · refine ⟨?_, .inr ⟨g, c, _, rfl, hB, setRow_heap w g _ _ 85 _ hgg, hnc, hcm, ?_, ?_⟩⟩
        · have := hown.len; simp; omega
        · have : cur.toList.length = c := by simpa using hcs
          simp; omega
        · have hcl : cur.toList.length = c := by simpa using hcs
          exact splice_take cur.toList (xs.map fun x => Value.int .u64 (x : Nat)) (ys.map fun x => Value.int .u64 (x : Nat)) n q ys.length (by simp) (by omega) (by omega) (by simpa using ht) _ (by simp)
      · exact ⟨rfl, rfl, rfl, by simp [World.setRow], fun k _ hk => setRow_other w g k _ (fun e => hk (by rw [e]))⟩

theorem wpList_copy_row {w : World} {ops : Array Oper} {rest : List Oper} {o : Oper} {a : Act} {Q : Exit → Act → World → Prop} (hgd : o.guard = none) (d s : Operand) (dT sT : TypeId)
    (ho : o.op = .call { callee := .builtin .copy, args := #[d, s], argTypes := #[dT, sT] }) (hu : Tryz.prog.underlying dT = some (.slice 85))
    (dp : Option Addr) (dLen dCap : Nat) (hd : a.eval d = .slice dp dLen dCap) (vs : Value) (hs : a.eval s = vs) (B g n c : Nat) (xs : List Nat) (hown : OwnW B w g n c xs) (B' : Nat) (ys : List Nat) (hrow : Row B' .u64 w vs ys)
    (q : Nat) (hdp : 0 < ys.length → dp = some ⟨g, q, none⟩) (hlen : ys.length = dLen) (hfit : q + ys.length ≤ n)
    (h : ∀ w', OwnW B w' g n c (xs.take q ++ (ys ++ xs.drop (q + ys.length))) → w.grownBy w' (some g) → wpList Tryz.prog ops Q rest (a.put o.dst (goInt ys.length)) w') : wpList Tryz.prog ops Q (o :: rest) a w :=
  wpList_plain hgd fun _ hK => wp_copy_row d s dT sT ho hu dp dLen dCap hd vs hs B g n c xs hown B' ys hrow q hdp hlen hfit fun w' h1 h2 => hK _ _ (h w' h1 h2)

theorem size93 : (Tryz.prog.info? 85).map (·.size) = some 1 := by kernel_rfl

/-- A row of words in memory, fresh. -/
def MakesWords (xs : List Nat) (w : World) (e : Ending) (w' : World) : Prop := ∃ v, e = .returned v ∧ Row w.heap.size .u64 w' v xs ∧ Below w.heap.size w w'

set_option maxRecDepth 100000 in
set_option maxHeartbeats 1000000 in
theorem f65_any (B : Nat) (v : Value) (xs : List Nat) (hn : xs.length ≤ 1000) (w : World) (hr : Row B .u64 w v xs) : Calls Tryz.prog 65 #[.slice none 0 0, v] w (MakesWords xs w) := by
  by_cases h0 : xs.length = 0
  · obtain rfl : xs = [] := List.eq_nil_of_length_eq_zero h0
    rcases hr with ⟨_, rfl | ⟨a, c, rfl⟩⟩ | ⟨h, _⟩
    · go_enter Tryz.func65, Tryz.ntmps65
      go_wp2_with (first | (go_at_call 62; refine (f62_zero _).mono ?_; rintro e w' ⟨rfl, rfl⟩) | (refine wpList_copy_nothing rfl (.tmp 9) (.tmp 10) 77 77 rfl 85 Tryz.underlying77 size93 _ _ _ _ _ _ rfl rfl rfl ?_))
      go_ret
      exact ⟨_, rfl, .inl ⟨rfl, .inl rfl⟩, Below.refl _ _⟩
    · go_enter Tryz.func65, Tryz.ntmps65
      go_wp2_with (first | (go_at_call 62; refine (f62_zero _).mono ?_; rintro e w' ⟨rfl, rfl⟩) | (refine wpList_copy_nothing rfl (.tmp 9) (.tmp 10) 77 77 rfl 85 Tryz.underlying77 size93 _ _ _ _ _ _ rfl rfl rfl ?_))
      go_ret
      exact ⟨_, rfl, .inl ⟨rfl, .inl rfl⟩, Below.refl _ _⟩
    · simp at h
  · obtain ⟨a, c, rfl⟩ := hr.len
    have HR := Lib.hid hr
    clear hr
    go_enter Tryz.func65, Tryz.ntmps65
    go_wp2_with fail
    refine (f62_any xs.length (by omega) (by omega) _).mono ?_
    rintro e w1 ⟨g, c1, rfl, ho, hb⟩
    have hlow := ho.low
    have HR1 := Lib.hid (HR.out.below hb (Nat.le_refl _))
    have HO := Lib.hid ho
    have HB := Lib.hid hb
    have HZ : Hid (xs ++ (List.replicate xs.length 0).drop xs.length = xs) := by show _ = _; simp
    clear hb ho
    generalize List.replicate xs.length 0 = Z at *
    have K1 : Hid (0 + xs.length ≤ xs.length) := by show _ ≤ _; omega
    go_wp2_with (refine wpList_copy_row rfl (.tmp 9) (.tmp 10) 77 77 rfl Tryz.underlying77 (some ⟨g, 0, none⟩) xs.length c1 rfl _ rfl w.heap.size g xs.length c1 Z HO.out B xs HR1.out 0 (fun _ => rfl) rfl K1.out ?_)
    intro w2 ho2 hg2
    rw [HZ.out] at ho2
    have HR2 := Lib.hid ho2.row
    have HB2 : Hid (Below w.heap.size w w2) := HB.out.grown hg2 (by omega) (by intro k hk; cases hk; exact hlow.1)
    clear ho2 hg2
    go_wp2_with fail
    go_ret
    exact ⟨_, rfl, HR2.out, HB2.out⟩
end Go.Proofs.YtllgogkjcbdpkaaGreatDoor.Z

/- Written by wip/tools/port2.py out of the text Big7 of seat Ytidkdjnfpepnfaa. -/
/- Walks of the package's great numbers: Set, Neg, SetBytes of Int. -/
namespace Go.Proofs.YtllgogkjcbdpkaaGreatDoor.Z
open Go.RowKit

section
variable {P : Program} (w : World)
theorem run_neq_ptr_same {tp te : TypeId} {j : TypeInfo} (a : Addr) (hp : P.underlying tp = some (.pointer te)) (hte : P.info? te = some j) :
    (binOp .neq tp (.pointer (some a)) (.pointer (some a))).run P w = .ok (.bool false) w := by
  have h : ∀ d : Nat, (Op.equalIn (d + 1) tp (.pointer (some a)) (.pointer (some a))).run P w = .ok true w := fun d => by
    simp [Op.equalIn, run_underlying hp, sizeOf, typeInfo, hte, run_sameAddr_same]
  simp only [binOp]
  simp [Op.equal, Op.maxDepth, h 9999]
theorem run_neq_ptr_other {tp te : TypeId} {j : TypeInfo} {a b : Addr} {ca cb : Array Value} {ta tb : TypeId} (hp : P.underlying tp = some (.pointer te)) (hte : P.info? te = some j) (hsz : j.size ≠ 0)
    (hne : a ≠ b) (ha : w.heap[a.block]? = some (.cells ca ta (0, 0))) (hb : w.heap[b.block]? = some (.cells cb tb (0, 0))) :
    (binOp .neq tp (.pointer (some a)) (.pointer (some b))).run P w = .ok (.bool true) w := by
  have h : ∀ d : Nat, (Op.equalIn (d + 1) tp (.pointer (some a)) (.pointer (some b))).run P w = .ok false w := fun d => by
    simp [Op.equalIn, run_underlying hp, sizeOf, typeInfo, hte, hsz, run_sameAddr_other w hne ha hb]
  simp only [binOp]
  simp [Op.equal, Op.maxDepth, h 9999]
end
theorem info79 : (Tryz.prog.info? 79).map (·.size) = some 2 := by kernel_rfl
theorem ptr_other {w : World} {g g' : Nat} {ca cb : Array Value} {ta tb : TypeId} (hne : g ≠ g') (ha : w.heap[g]? = some (.cells ca ta (0, 0))) (hb : w.heap[g']? = some (.cells cb tb (0, 0))) :
    (binOp .neq 59 (.pointer (some ⟨g, 0, none⟩)) (.pointer (some ⟨g', 0, none⟩))).run Tryz.prog w = .ok (.bool true) w := by
  obtain ⟨j, hj, hs⟩ := Option.map_eq_some_iff.1 info79
  exact run_neq_ptr_other w Tryz.underlying59 hj (by rw [hs]; decide) (by intro h; exact hne (by injection h)) ha hb
theorem ptr_same {w : World} {g : Nat} : (binOp .neq 59 (.pointer (some ⟨g, 0, none⟩)) (.pointer (some ⟨g, 0, none⟩))).run Tryz.prog w = .ok (.bool false) w := by
  obtain ⟨j, hj, hs⟩ := Option.map_eq_some_iff.1 info79
  exact run_neq_ptr_same w _ Tryz.underlying59 hj

theorem Row.drew {B : Nat} {k : IntKind} {w : World} {v : Value} {l : List Nat} (h : Row B k w v l) : Row B k w.drew v l := h

theorem below_grownBy {w w' : World} (h : Below w.heap.size w w') (g : Nat) : w.grownBy w' (some g) := ⟨h.os, h.tape, h.output, h.size, fun k hk _ => h.block k hk⟩
theorem _root_.Go.World.grownBy.setCell {w w' : World} {g : Nat} (h : w.grownBy w' (some g)) (g' j : Nat) (u : Value) (hg : g' = g := by rfl) : w.grownBy (w'.setCell ⟨g', j, none⟩ u) (some g) := by
  subst hg
  exact ⟨h.os, h.tape, h.output, by simpa [World.setCell] using h.size, fun k hk hne => (Below.heap_setCell w' ⟨g', j, none⟩ u k (fun e => hne (by rw [e]))).trans (h.block k hk hne)⟩
/-- A new Int. -/
def New (w : World) (g : Nat) : Prop := w.heap[g]? = some (.cells #[.bool false, .slice none 0 0] 79 (0, 0))

/-- The integer z has come into block g. -/
def SetPost (g : Nat) (z : Int) (w : World) (e : Ending) (w' : World) : Prop :=
  e = .returned (.pointer (some ⟨g, 0, none⟩)) ∧ w.grownBy w' (some g) ∧ ∃ sl xs, BInt w.heap.size w' g z sl xs

set_option maxRecDepth 100000 in
set_option maxHeartbeats 1000000 in
theorem f51_any (g gx : Nat) (z : Int) (B : Nat) (sl : Value) (xs : List Nat) (w : World) (hn : New w g) (hx : BInt B w gx z sl xs) (hne : g ≠ gx) :
    Calls Tryz.prog 51 #[.pointer (some ⟨g, 0, none⟩), .pointer (some ⟨gx, 0, none⟩)] w (SetPost g z w) := by
  have hp := ptr_other hne hn hx.blk
  have zl : g < w.heap.size := (Array.getElem?_eq_some_iff.1 hn).1
  have xl := hx.lt
  have z1 : w.cell? ⟨g, 1, none⟩ = some (.slice none 0 0) := by simp [World.cell?, show w.heap[g]? = _ from hn]
  have x1 := hx.abs
  have HX := Lib.hid hx
  have HN := Lib.hid (show w.heap[g]? = _ from hn)
  clear hx hn
  have hne' : gx ≠ g := Ne.symm hne
  go_enter Tryz.func51, Tryz.ntmps51
  go_wp2_with fail
  go_region_with
    ((go_at_call 65; refine (f65_any B sl xs HX.out.len w.drew (Row.drew HX.out.row)).mono ?_; rintro e w2 ⟨v2, rfl, hrow, hb⟩; obtain ⟨a2, k2, rfl⟩ := hrow.len; have HB2 : Hid (Below w.heap.size w w2) := ⟨hb.os, hb.tape, hb.output, hb.size, hb.block⟩; have HBK := Lib.hid ((hb.block g zl).trans HN.out); have f2 := fun i => Joins.unfrozen_of_block HBK.out i; have c2 := fun i => Joins.cell_of_block HBK.out i; have c2x : w2.cell? ⟨gx, 0, none⟩ = some (.bool (decide (z < 0))) := (hb.cell (p := ⟨gx, 0, none⟩) xl).trans HX.out.neg))
  all_goals
    go_wp2
    go_ret
    refine ⟨rfl, ?_, .slice a2 xs.length k2, xs, ?_, ?_, HX.out.num, HX.out.len⟩
    · exact ((below_grownBy HB2.out _).setCell g 1 _).setCell g 0 _
    · exact Joins.block_setCell (Joins.block_setCell HBK.out (i := 1) _) (i := 0) _
    · exact Row.setOld (Row.setOld hrow zl _) zl _
end Go.Proofs.YtllgogkjcbdpkaaGreatDoor.Z

/- Written by wip/tools/port2.py out of the text Big8 of seat Ytidkdjnfpepnfaa. -/
/- Walks of the package's great numbers: SetBytes, Neg, and the whole number of a value of the thin package. -/
namespace Go.Proofs.YtllgogkjcbdpkaaGreatDoor.Z
open Go.RowKit

theorem f50_row (B : Nat) (v : Value) (l : List Nat) (hl : l.length ≤ 4000) (hd : ∀ d ∈ l, d < 256) (w : World) (hr : Row B .u8 w v l) : Calls Tryz.prog 50 #[.slice none 0 0, v] w (MakesNat (bv l) w) := by
  rcases hr with ⟨rfl, hv⟩ | ⟨h0, g, off, c, rfl, hc, _, hg, hcell⟩
  · exact f50_nil w v hv
  · exact f50_any g off c l h0 hl hc hd w hg hcell

theorem pow_words (n k : Nat) (h : n ≤ 8 * k) : 256 ^ n ≤ W ^ k := by
  have h2 : (256 : Nat) ^ n ≤ 256 ^ (8 * k) := Nat.pow_le_pow_right (by decide) h
  rw [Nat.pow_mul] at h2
  have h3 : (256 : Nat) ^ 8 = W := by decide
  rwa [h3] at h2

theorem IsW.len_of_bv {l xs : List Nat} (h : IsW (bv l) xs) (hd : ∀ d ∈ l, d < 256) (k : Nat) (hl : l.length ≤ 8 * k) : xs.length ≤ k :=
  h.len_le (Nat.lt_of_lt_of_le (bv_lt l hd) (pow_words _ k hl))

theorem natAbs_nat (n : Nat) : decide ((n : Int) < 0) = false := by simp

set_option maxRecDepth 100000 in
set_option maxHeartbeats 1000000 in
theorem f41_any (g : Nat) (B : Nat) (v : Value) (l : List Nat) (hl : l.length ≤ 4000) (hd : ∀ d ∈ l, d < 256) (w : World) (hn : New w g) (hr : Row B .u8 w v l) :
    Calls Tryz.prog 41 #[.pointer (some ⟨g, 0, none⟩), v] w (SetPost g (bv l) w) := by
  have HF := Lib.hid (f50_row B v l hl hd w hr)
  have HD := Lib.hid hd
  have zl : g < w.heap.size := (Array.getElem?_eq_some_iff.1 hn).1
  have z1 : w.cell? ⟨g, 1, none⟩ = some (.slice none 0 0) := by simp [World.cell?, show w.heap[g]? = _ from hn]
  have HN := Lib.hid (show w.heap[g]? = _ from hn)
  clear hn hr hd
  go_enter Tryz.func41, Tryz.ntmps41
  go_wp2_with fail
  refine HF.out.mono ?_
  rintro e w2 ⟨v2, xs, rfl, hrow, hnum, hb⟩
  obtain ⟨a2, k2, rfl⟩ := hrow.len
  have HR := Lib.hid hrow
  have HM := Lib.hid hnum
  have HB := Lib.hid hb
  have HBK := Lib.hid ((hb.block g zl).trans HN.out)
  have f2 := fun i => Joins.unfrozen_of_block HBK.out i
  have c2 := fun i => Joins.cell_of_block HBK.out i
  clear hrow hnum hb
  go_wp2_with fail
  go_ret
  refine ⟨rfl, ?_, .slice a2 xs.length k2, xs, ?_, ?_, by simpa using HM.out, HM.out.len_of_bv HD.out 1000 (by omega)⟩
  · exact ((below_grownBy HB.out _).setCell g 1 _).setCell g 0 _
  · rw [natAbs_nat]
    exact Joins.block_setCell (Joins.block_setCell HBK.out (i := 1) _) (i := 0) _
  · exact Row.setOld (Row.setOld HR.out zl _) zl _

set_option maxRecDepth 100000 in
theorem f51_self (g : Nat) (w : World) : Calls Tryz.prog 51 #[.pointer (some ⟨g, 0, none⟩), .pointer (some ⟨g, 0, none⟩)] w fun e w' => e = .returned (.pointer (some ⟨g, 0, none⟩)) ∧ w = w' := by
  have hp := ptr_same (w := w) (g := g)
  go_enter Tryz.func51, Tryz.ntmps51
  go_wp2_with fail
  go_ret
  exact ⟨rfl, rfl⟩

/-- z.Neg(z). -/
theorem neg_flag (z : Int) (xs : List Nat) (h : IsW z.natAbs xs) : decide (-z < 0) = (decide (0 < xs.length) && !decide (z < 0)) := by
  have := h.zero
  by_cases h0 : z = 0
  · subst h0
    have : xs = [] := this.1 rfl
    subst this; simp
  · have : xs ≠ [] := fun e => by have := this.2 e; omega
    have : 0 < xs.length := List.length_pos_iff.2 this
    rw [Bool.eq_iff_iff]; simp; omega

set_option maxRecDepth 100000 in
set_option maxHeartbeats 1000000 in
theorem f42_any (g : Nat) (z : Int) (B : Nat) (sl : Value) (xs : List Nat) (w : World) (hg : g < B) (hx : BInt B w g z sl xs) :
    Calls Tryz.prog 42 #[.pointer (some ⟨g, 0, none⟩), .pointer (some ⟨g, 0, none⟩)] w fun e w' => e = .returned (.pointer (some ⟨g, 0, none⟩)) ∧ BInt B w' g (-z) sl xs ∧ w.grownBy w' (some g) := by
  have x0 := hx.neg
  have x1 := hx.abs
  have f0 := hx.free
  obtain ⟨a, k, rfl⟩ := hx.row.len
  have HX := Lib.hid hx
  have HF := Lib.hid (neg_flag z xs hx.num)
  clear hx
  generalize hd : decide (z < 0) = d at *
  have HD := Lib.hid hd
  clear hd
  by_cases h0 : xs.length = 0
  · have e0 : Hid (decide (-z < 0) = false) := by show _ = _; rw [HF.out]; simp [h0]
    rw [h0] at x1
    go_enter Tryz.func42, Tryz.ntmps42
    go_wp2_with (go_at_call 51; refine (f51_self g _).mono ?_; rintro e w' ⟨rfl, rfl⟩)
    go_ret
    refine ⟨rfl, ⟨?_, Row.setOld HX.out.row hg _, by simpa using HX.out.num, HX.out.len⟩, ?_⟩
    · rw [e0.out]
      exact Joins.block_setCell HX.out.blk (i := 0) _
    · exact (World.grownBy.refl w _).setCell g 0 _
  · have e0 : Hid (decide (-z < 0) = !d) := by show _ = _; rw [HF.out]; simp; omega
    have hpos : (0 : Int) < xs.length := by omega
    go_enter Tryz.func42, Tryz.ntmps42
    go_wp2_with (go_at_call 51; refine (f51_self g _).mono ?_; rintro e w' ⟨rfl, rfl⟩)
    go_ret
    refine ⟨rfl, ⟨?_, Row.setOld HX.out.row hg _, by simpa using HX.out.num, HX.out.len⟩, ?_⟩
    · rw [e0.out]
      exact Joins.block_setCell HX.out.blk (i := 0) _
    · exact (World.grownBy.refl w _).setCell g 0 _
end Go.Proofs.YtllgogkjcbdpkaaGreatDoor.Z

/- Written by wip/tools/port2.py out of the text Big9 of seat Ytidkdjnfpepnfaa. -/
/- Walks of the package's ints: making one of a great number. -/
namespace Go.Proofs.YtllgogkjcbdpkaaGreatDoor.Z
open Go.RowKit

/-- The integer z as an int of the package. -/
def KInt (B : Nat) (w : World) (v : Value) (z : Int) : Prop :=
  (smallB z = true ∧ v = .agg #[.int .i64 z, .pointer none]) ∨
  (smallB z = false ∧ ∃ g sl xs, v = .agg #[.int .i64 0, .pointer (some ⟨g, 0, none⟩)] ∧ B ≤ g ∧ BInt B w g z sl xs)
theorem KInt.below {B' : Nat} {w w' : World} {v : Value} {z : Int} {B : Nat} (h : KInt B' w v z) (hb : Below B w w') (hB : w.heap.size ≤ B) : KInt B' w' v z := by
  rcases h with h | ⟨h, g, sl, xs, h1, h2, h3⟩
  · exact .inl h
  · exact .inr ⟨h, g, sl, xs, h1, h2, h3.below hb hB⟩
theorem KInt.le {B' : Nat} {w : World} {v : Value} {z : Int} {B : Nat} (h : KInt B w v z) (hB : B' ≤ B) : KInt B' w v z := by
  rcases h with h | ⟨h, g, sl, xs, h1, h2, h3⟩
  · exact .inl h
  · exact .inr ⟨h, g, sl, xs, h1, by omega, h3.le hB⟩
theorem BInt.setOld {B : Nat} {w : World} {g : Nat} {z : Int} {sl : Value} {xs : List Nat} (h : BInt B w g z sl xs) (hg : B ≤ g) {a : Addr} (ha : a.block < B) (u : Value) : BInt B (w.setCell a u) g z sl xs :=
  ⟨(Below.heap_setCell w a u g (by omega)).trans h.blk, h.row.setOld ha u, h.num, h.len⟩
theorem KInt.setOld {B : Nat} {w : World} {v : Value} {z : Int} (h : KInt B w v z) {a : Addr} (ha : a.block < B) (u : Value) : KInt B (w.setCell a u) v z := by
  rcases h with h | ⟨h, g, sl, xs, h1, h2, h3⟩
  · exact .inl h
  · exact .inr ⟨h, g, sl, xs, h1, h2, h3.setOld h2 ha u⟩
theorem KInt.shape {B : Nat} {w : World} {v : Value} {z : Int} (h : KInt B w v z) : ∃ a p, v = .agg #[.int .i64 a, .pointer p] := by
  rcases h with ⟨_, rfl⟩ | ⟨_, g, sl, xs, rfl, _⟩ <;> exact ⟨_, _, rfl⟩
def MakesK (z : Int) (w : World) (e : Ending) (w' : World) : Prop := ∃ v, e = .returned v ∧ KInt w.heap.size w' v z ∧ Below w.heap.size w w'

set_option maxRecDepth 100000 in
theorem f53_any (z : Int) (w : World) : Calls Tryz.prog 53 #[.int .i64 z] w fun e w' => e = .returned (.agg #[.int .i64 z, .pointer none]) ∧ Below w.heap.size w w' := by
  go_enter Tryz.func53, Tryz.ntmps53
  go_wp2
  refine bodyPost_ret (v := .agg #[.int .i64 z, .pointer none]) (by simp [results, Tryz.results53, go_sem]) rfl ?_
  refine ⟨rfl, ?_⟩
  exact (Below.refl _ _).alloc (Nat.le_refl _) _

set_option maxRecDepth 100000 in
theorem f55_any (g : Nat) (w : World) : Calls Tryz.prog 55 #[.pointer (some ⟨g, 0, none⟩)] w fun e w' => e = .returned (.agg #[.int .i64 0, .pointer (some ⟨g, 0, none⟩)]) ∧ Below w.heap.size w w' := by
  go_enter Tryz.func55, Tryz.ntmps55
  go_wp2
  refine bodyPost_ret (v := .agg #[.int .i64 0, .pointer (some ⟨g, 0, none⟩)]) (by simp [results, Tryz.results55, go_sem]) rfl ?_
  refine ⟨rfl, ?_⟩
  exact (Below.refl _ _).alloc (Nat.le_refl _) _

theorem smallB_lt {z : Int} (h : smallB z = true) : -9223372036854775808 < z ∧ z < 9223372036854775808 := by
  unfold smallB at h; simp at h; omega

theorem New.made (w : World) : New (w.alloc (.cells #[.bool false, .slice none 0 0] 79)) w.heap.size := heap_alloc_new w _

/-- A result cell in memory, filled: what the walk needs of a later world. -/
theorem later {w w1 : World} {o : Array Value} {t : TypeId} {B : Nat} (hb : Below B (w.alloc (.cells o t)) w1) (hB : w.heap.size + 1 ≤ B) :
    (∀ j, w1.cell? ⟨w.heap.size, j, none⟩ = o[j]?) ∧ (∀ j, w1.frozen? ⟨w.heap.size, j, none⟩ = false) :=
  ⟨fun j => (hb.cell (p := ⟨w.heap.size, j, none⟩) (by simp; omega)).trans (by simp [go_sem]), fun j => (hb.frozen (p := ⟨w.heap.size, j, none⟩) (by simp; omega)).trans (by simp [go_sem])⟩

theorem later2 {w w1 : World} {o o' : Array Value} {t t' : TypeId} {B : Nat} (hb : Below B ((w.alloc (.cells o t)).alloc (.cells o' t')) w1) (hB : w.heap.size + 2 ≤ B) :
    (∀ j, w1.cell? ⟨w.heap.size, j, none⟩ = o[j]?) ∧ (∀ j, w1.frozen? ⟨w.heap.size, j, none⟩ = false) ∧ (∀ j, w1.cell? ⟨w.heap.size + 1, j, none⟩ = o'[j]?) ∧ (∀ j, w1.frozen? ⟨w.heap.size + 1, j, none⟩ = false) :=
  ⟨fun j => (hb.cell (p := ⟨w.heap.size, j, none⟩) (by simp; omega)).trans (by simp [go_sem]), fun j => (hb.frozen (p := ⟨w.heap.size, j, none⟩) (by simp; omega)).trans (by simp [go_sem]),
   fun j => (hb.cell (p := ⟨w.heap.size + 1, j, none⟩) (by simp; omega)).trans (by simp [go_sem]), fun j => (hb.frozen (p := ⟨w.heap.size + 1, j, none⟩) (by simp; omega)).trans (by simp [go_sem])⟩

set_option maxRecDepth 100000 in
set_option maxHeartbeats 1000000 in
theorem f43_any (B g : Nat) (z : Int) (sl : Value) (xs : List Nat) (w : World) (hx : BInt B w g z sl xs) :
    Calls Tryz.prog 43 #[.pointer (some ⟨g, 0, none⟩)] w (MakesK z w) := by
  have HX1 := Lib.hid (BInt.below hx ((Below.refl w.heap.size w).alloc (Nat.le_refl _) (.cells #[.int .i64 0, .pointer none] 63)) (Nat.le_refl _))
  have gl := hx.lt
  clear hx
  by_cases hs : smallB z = true
  · have HS := Lib.hid hs
    have h1 := (smallB_lt hs).1
    have h2 := (smallB_lt hs).2
    go_enter Tryz.func43, Tryz.ntmps43
    go_wp2_with (first
      | (go_at_call 52; refine (f52_any B g z sl xs _ HX1.out).mono ?_; rintro e w' ⟨rfl, rfl⟩)
      | (go_at_call 54; refine (f54_any B g z sl xs _ HX1.out h1 h2).mono ?_; rintro e w' ⟨rfl, rfl⟩))
    refine (f53_any z _).mono ?_
    rintro e w1 ⟨rfl, hb⟩
    obtain ⟨c, f⟩ := later hb (by simp)
    have HB : Hid (Below w.heap.size w w1) := ((Below.refl _ _).alloc (Nat.le_refl _) _).trans (hb.mono (by simp))
    clear hb HX1 hs
    go_wp2_with fail
    refine bodyPost_ret (v := .agg #[.int .i64 z, .pointer none]) (by simp [results, Tryz.results43, go_sem, c]) rfl ?_
    refine ⟨_, rfl, .inl ⟨HS.out, rfl⟩, ?_⟩
    iterate 2 (refine Below.setCell ?_ (show w.heap.size ≤ w.heap.size by omega) _)
    exact HB.out
  · have hs : smallB z = false := by simpa using hs
    have HS := Lib.hid hs
    have hgn : w.heap.size + 1 ≠ g := by omega
    have HX2 := Lib.hid (BInt.below HX1.out ((Below.refl (w.heap.size + 1) _).alloc (by simp) (.cells #[.bool false, .slice none 0 0] 79)) (by simp))
    have HN : Hid (New ((w.alloc (.cells #[.int .i64 0, .pointer none] 63)).alloc (.cells #[.bool false, .slice none 0 0] 79)) (w.heap.size + 1)) := by
      show New _ _
      have := New.made (w.alloc (.cells #[.int .i64 0, .pointer none] 63))
      simpa using this
    go_enter Tryz.func43, Tryz.ntmps43
    go_wp2_with (first
      | (go_at_call 52; refine (f52_any B g z sl xs _ HX1.out).mono ?_; rintro e w' ⟨rfl, rfl⟩))
    refine (f51_any _ g z B sl xs _ HN.out HX2.out hgn).mono ?_
    rintro e w1 ⟨rfl, hgr, sl2, xs2, hx2⟩
    obtain ⟨a2, k2, rfl⟩ := hx2.row.len
    have HX3 : Hid (BInt (w.heap.size + 1) w1 (w.heap.size + 1) z (.slice a2 xs2.length k2) xs2) := hx2.le (by simp)
    have hb : Below (w.heap.size + 1) (w.alloc (.cells #[.int .i64 0, .pointer none] 63)) w1 := ((Below.refl _ _).alloc (by simp) _).grown hgr (by simp) (by intro q hq; cases hq; simp)
    have hz : w.heap.size + 2 ≤ w1.heap.size := by have := hgr.size; simpa using this
    have HB := Lib.hid hb
    clear hb hgr hx2 HX2 HX1 HN hgn hs
    go_wp2_with fail
    refine (f55_any (w.heap.size + 1) _).mono ?_
    rintro e w2 ⟨rfl, hb2⟩
    have HX4 := Lib.hid (HX3.out.below hb2 (Nat.le_refl _))
    have HB2 : Hid (Below (w.heap.size + 1) (w.alloc (.cells #[.int .i64 0, .pointer none] 63)) w2) := HB.out.trans (hb2.mono (by omega))
    obtain ⟨c, f⟩ := later HB2.out (by simp)
    clear hb2 HX3
    go_wp2_with fail
    refine bodyPost_ret (v := .agg #[.int .i64 0, .pointer (some ⟨w.heap.size + 1, 0, none⟩)]) (by simp [results, Tryz.results43, go_sem, c]) rfl ?_
    refine ⟨_, rfl, .inr ⟨HS.out, w.heap.size + 1, .slice a2 xs2.length k2, xs2, rfl, by omega, ?_⟩, ?_⟩
    · refine BInt.le (B := w.heap.size + 1) ?_ (by omega)
      iterate 2 (refine BInt.setOld ?_ (by omega) (show w.heap.size < w.heap.size + 1 by omega) _)
      exact HX4.out
    · iterate 2 (refine Below.setCell ?_ (show w.heap.size ≤ w.heap.size by omega) _)
      exact ((Below.refl _ _).alloc (Nat.le_refl _) _).trans (HB2.out.mono (by omega))
set_option maxRecDepth 100000 in
set_option maxHeartbeats 1000000 in
theorem f26_any (n : Nat) (hn : n ≤ 4000) (v : Value) (z : Int) (B : Nat) (w : World) (hv : VInt B n w v z) : Calls Tryz.prog 26 #[v] w (MakesK z w) := by
  obtain ⟨sl, l, rfl, hr, hb, hl⟩ := hv
  obtain ⟨a, c, rfl⟩ := hr.len
  have HR := Lib.hid (((hr.alloc (.cells #[.int .i64 2, .bool (decide (z < 0)), .slice a l.length c, .int .u64 0, .string ⟨#[]⟩, .slice none 0 0] 28)).alloc (.cells #[.int .i64 0, .pointer none] 63)).alloc (.cells #[.bool false, .slice none 0 0] 79))
  have HB := Lib.hid hb
  have hl' : l.length ≤ 4000 := by omega
  clear hr hl hb
  have HN : Hid (New (((w.alloc (.cells #[.int .i64 2, .bool (decide (z < 0)), .slice a l.length c, .int .u64 0, .string ⟨#[]⟩, .slice none 0 0] 28)).alloc (.cells #[.int .i64 0, .pointer none] 63)).alloc (.cells #[.bool false, .slice none 0 0] 79)) (w.heap.size + 2)) := by
    show New _ _
    have := New.made ((w.alloc (.cells #[.int .i64 2, .bool (decide (z < 0)), .slice a l.length c, .int .u64 0, .string ⟨#[]⟩, .slice none 0 0] 28)).alloc (.cells #[.int .i64 0, .pointer none] 63))
    simpa using this
  have hz : Hid (z = signed (decide (z < 0)) (bv l)) := by
    show _ = _
    rw [HB.out.val]; unfold signed; split <;> simp_all <;> omega
  generalize hd : decide (z < 0) = d at *
  have HD := Lib.hid hd
  clear hd
  go_enter Tryz.func26, Tryz.ntmps26
  go_wp2_with fail
  refine (f41_any (w.heap.size + 2) B _ l hl' HB.out.low _ HN.out HR.out).mono ?_
  rintro e w1 ⟨rfl, hgr, sl2, xs2, hx2⟩
  obtain ⟨a2, k2, rfl⟩ := hx2.row.len
  have HX3 : Hid (BInt (w.heap.size + 3) w1 (w.heap.size + 2) (bv l) (.slice a2 xs2.length k2) xs2) := hx2.le (by simp)
  have hb1 : Below (w.heap.size + 2) ((w.alloc (.cells #[.int .i64 2, .bool d, .slice a l.length c, .int .u64 0, .string ⟨#[]⟩, .slice none 0 0] 28)).alloc (.cells #[.int .i64 0, .pointer none] 63)) w1 := ((Below.refl _ _).alloc (by simp) _).grown hgr (by simp) (by intro q hq; cases hq; simp)
  have hz1 : w.heap.size + 3 ≤ w1.heap.size := by have := hgr.size; simpa using this
  have HB1 := Lib.hid hb1
  obtain ⟨c0, f0, c1, f1⟩ := later2 hb1 (Nat.le_refl _)
  clear hb1 hgr hx2 HN HR
  cases d with
  | false =>
    have e0 : Hid ((bv l : Int) = z) := by show _ = _; rw [hz.out]; rfl
    go_wp2_with fail
    refine (f43_any _ _ _ _ _ _ HX3.out).mono ?_
    rintro e w2 ⟨v, rfl, hk, hb2⟩
    rw [e0.out] at hk
    obtain ⟨ka, kp, rfl⟩ := hk.shape
    have HK := Lib.hid (hk.le hz1)
    have HB2 := Lib.hid (HB1.out.trans (hb2.mono (by omega)))
    obtain ⟨c0, f0, c1, f1⟩ := later2 HB2.out (Nat.le_refl _)
    clear hk hb2
    go_wp2_with fail
    refine bodyPost_ret (v := .agg #[.int .i64 ka, .pointer kp]) (by simp [results, Tryz.results26, go_sem, c1]) rfl ?_
    refine ⟨_, rfl, ?_, ?_⟩
    · refine KInt.le (B := w.heap.size + 3) ?_ (by omega)
      iterate 2 (refine KInt.setOld ?_ (show w.heap.size + 1 < w.heap.size + 3 by omega) _)
      exact HK.out
    · iterate 2 (refine Below.setCell ?_ (show w.heap.size ≤ w.heap.size + 1 by omega) _)
      exact (((Below.refl _ _).alloc (Nat.le_refl _) _).alloc (by simp) _).trans (HB2.out.mono (by omega))
  | true =>
    have e0 : Hid (-(bv l : Int) = z) := by show _ = _; rw [hz.out]; rfl
    go_wp2_with fail
    refine (f42_any (w.heap.size + 2) (bv l) (w.heap.size + 3) _ xs2 w1 (by omega) HX3.out).mono ?_
    rintro e w2 ⟨rfl, hx4, hgr⟩
    rw [e0.out] at hx4
    have HX4 := Lib.hid hx4
    have hz2 : w.heap.size + 3 ≤ w2.heap.size := by have := hgr.size; omega
    have HB2 := Lib.hid (HB1.out.grown hgr (by omega) (by intro q hq; cases hq; simp))
    obtain ⟨c0, f0, c1, f1⟩ := later2 HB2.out (Nat.le_refl _)
    clear hx4 hgr
    go_wp2_with fail
    refine (f43_any _ _ _ _ _ _ HX4.out).mono ?_
    rintro e w3 ⟨v, rfl, hk, hb2⟩
    obtain ⟨ka, kp, rfl⟩ := hk.shape
    have HK := Lib.hid (hk.le hz2)
    have HB2 := Lib.hid (HB2.out.trans (hb2.mono (by omega)))
    obtain ⟨c0, f0, c1, f1⟩ := later2 HB2.out (Nat.le_refl _)
    clear hk hb2
    go_wp2_with fail
    refine bodyPost_ret (v := .agg #[.int .i64 ka, .pointer kp]) (by simp [results, Tryz.results26, go_sem, c1]) rfl ?_
    refine ⟨_, rfl, ?_, ?_⟩
    · refine KInt.le (B := w.heap.size + 3) ?_ (by omega)
      iterate 2 (refine KInt.setOld ?_ (show w.heap.size + 1 < w.heap.size + 3 by omega) _)
      exact HK.out
    · iterate 2 (refine Below.setCell ?_ (show w.heap.size ≤ w.heap.size + 1 by omega) _)
      exact (((Below.refl _ _).alloc (Nat.le_refl _) _).alloc (by simp) _).trans (HB2.out.mono (by omega))
end Go.Proofs.YtllgogkjcbdpkaaGreatDoor.Z

/- Written by wip/tools/port2.py out of the text Big10 of seat Ytidkdjnfpepnfaa. -/
/- Walks of the package's great numbers: the bytes of one. -/
namespace Go.Proofs.YtllgogkjcbdpkaaGreatDoor.Z
open Go.RowKit

/-- A row of bytes of the call's own: from its block's head on. -/
def OwnB (B : Nat) (w : World) (g n c : Nat) (xs : List Nat) : Prop := w.ownsRow B 5 1 (.slice (some ⟨g, 0, none⟩) n c) n (xs.map fun x => Value.int .u8 (x : Nat))
theorem OwnB.len {B : Nat} {w : World} {g n c : Nat} {xs : List Nat} (h : OwnB B w g n c xs) : xs.length = n := by simpa using h.1
theorem OwnB.cell {B : Nat} {w : World} {g n c : Nat} {xs : List Nat} (h : OwnB B w g n c xs) (j : Nat) (hj : j < n) : w.cell? ⟨g, j, none⟩ = some (.int .u8 ((xs.getD j 0 : Nat) : Int)) := by
  have := World.ownsRow.cellAt h j (by omega)
  rw [this]
  have := h.len
  simp [show j < xs.length by omega]
theorem OwnB.free {B : Nat} {w : World} {g n c : Nat} {xs : List Nat} (h : OwnB B w g n c xs) (j : Nat) : w.frozen? ⟨g, j, none⟩ = false := World.ownsRow.frozenAt h j
theorem OwnB.low {B : Nat} {w : World} {g n c : Nat} {xs : List Nat} (h : OwnB B w g n c xs) : B ≤ g ∧ g < w.heap.size := World.ownsRow.lt h g rfl
theorem OwnB.row {B : Nat} {w : World} {g n c : Nat} {xs : List Nat} (h : OwnB B w g n c xs) : Row B .u8 w (.slice (some ⟨g, 0, none⟩) n c) xs := Row.ofOwn h
theorem OwnB.stored {B : Nat} {w : World} {g n c : Nat} {xs : List Nat} (h : OwnB B w g n c xs) (j y : Nat) : OwnB B (w.setCell ⟨g, j, none⟩ (.int .u8 (y : Int))) g n c (xs.set j y) := by
  have := (World.ownsRow.stored h j (.int .u8 (y : Int))).1
  unfold OwnB
  rw [List.map_set]
  exact this
theorem ownB_made (w : World) (n c : Nat) (hn : n ≤ c) (hc : c ≤ maxLen) : OwnB w.heap.size (w.alloc (.cells (madeCells #[.int .u8 0] c) 5)) w.heap.size n c (List.replicate n 0) := by
  refine ⟨by simp, .inr ⟨w.heap.size, c, _, rfl, Nat.le_refl _, heap_alloc_new w _, hn, hc, by simp [size_madeCells], ?_⟩⟩
  rw [toList_madeCells_one]
  simp [List.take_replicate]
  omega

/-- The last p of n bytes have been laid: they are the number v. -/
structure Put (n p v : Nat) (ys : List Nat) : Prop where
  len : ys.length = n
  low : ∀ d ∈ ys, d < 256
  sum : bv (ys.drop (n - p)) = v
theorem Put.start (n : Nat) : Put n 0 0 (List.replicate n 0) :=
  ⟨by simp, fun d hd => by have := (List.mem_replicate.1 hd).2; omega, by simp [bv]⟩
theorem Put.step {n p v : Nat} {ys : List Nat} (h : Put n p v ys) (b : Nat) (hb : b < 256) (i : Nat) (hi : i + p + 1 = n) : Put n (p + 1) (v + b * 256 ^ p) (ys.set i b) := by
  have hl := h.len
  refine ⟨by simpa using hl, fun d hm => ?_, ?_⟩
  · rcases List.mem_or_eq_of_mem_set hm with h1 | h1
    · exact h.low d h1
    · rw [h1]; exact hb
  · have hi' : i < (ys.set i b).length := by simp; omega
    have := h.sum
    rw [show n - p = i + 1 from by omega] at this
    rw [show n - (p + 1) = i from by omega, List.drop_eq_getElem_cons hi', bv, List.drop_set_of_lt (by omega), this]
    simp
    rw [show ys.length - (i + 1) = p from by omega]; omega
theorem word_step (V x k j : Nat) : V + W ^ k * (x % 256 ^ j) + x / 256 ^ j % 256 * 256 ^ (8 * k + j) = V + W ^ k * (x % 256 ^ (j + 1)) := by
  have h3 : (256 : Nat) ^ 8 = W := by decide
  rw [Nat.pow_succ 256 j, Nat.mod_mul, Nat.pow_add, Nat.pow_mul, h3, Nat.mul_add, ← Nat.add_assoc]
  congr 1
  rw [Nat.mul_comm, Nat.mul_assoc]
theorem word_done (xs : List Nat) (k : Nat) (hk : k < xs.length) (hx : xs.getD k 0 < W) : wv (xs.take k) + W ^ k * (xs.getD k 0 % 256 ^ 8) = wv (xs.take (k + 1)) := by
  have h3 : (256 : Nat) ^ 8 = W := by decide
  rw [h3, Nat.mod_eq_of_lt hx, List.take_succ_eq_append_getElem hk, wv_append]
  simp [wv, hk, List.length_take, Nat.min_eq_left (Nat.le_of_lt hk)]
theorem word_div (x j : Nat) : x / 256 ^ j / 256 = x / 256 ^ (j + 1) := by rw [Nat.div_div_eq_div_mul, Nat.pow_succ]

/-- What nat.bytes leaves. -/
def BytesPost (B g n c v : Nat) (w : World) (e : Ending) (w' : World) : Prop :=
  ∃ i ys, e = .returned (.int .i64 ((i : Nat) : Int)) ∧ i ≤ n ∧ OwnB B w' g n c ys ∧ (∀ d ∈ ys, d < 256) ∧ bv ys = v ∧ strip ys = ys.drop i ∧ w.grownBy w' (some g)

/-- What Int.Bytes leaves. -/
def MakesBytes (z : Int) (w : World) (e : Ending) (w' : World) : Prop :=
  ∃ v l, e = .returned v ∧ Row w.heap.size .u8 w' v l ∧ IsB z.natAbs l ∧ l.length ≤ 8000 ∧ Below w.heap.size w w'

/-- The last numbers of a row. -/
theorem Row.drop {B : Nat} {k : IntKind} {w : World} {g off n c : Nat} {l : List Nat} (m : Nat) (hm : m < n) (h : Row B k w (.slice (some ⟨g, off, none⟩) n c) l) : Row B k w (.slice (some ⟨g, off + m, none⟩) (n - m) (c - m)) (l.drop m) := by
  rcases h with ⟨rfl, h | ⟨a, c', h⟩⟩ | ⟨h0, g', off', c', h, hc, hB, hg, hcell⟩
  · cases h
  · simp only [Value.slice.injEq, Option.some.injEq] at h
    omega
  · simp only [Value.slice.injEq, Option.some.injEq, Addr.mk.injEq, and_true] at h
    obtain ⟨⟨rfl, rfl⟩, rfl, rfl⟩ := h
    refine .inr ⟨by simp; omega, g, off + m, c - m, by simp, by simp; omega, hB, hg, fun i hi => ?_⟩
    simp at hi
    rw [Nat.add_assoc, hcell (m + i) (by omega)]
    simp

end Go.Proofs.YtllgogkjcbdpkaaGreatDoor.Z

/- Written by wip/tools/port2.py out of the text Big11 of seat Ytidkdjnfpepnfaa. -/
/- Walks of the package's ints: get, NewInt, BigInt, Sign, number, IntBack. -/
namespace Go.Proofs.YtllgogkjcbdpkaaGreatDoor.Z
open Go.RowKit

set_option maxRecDepth 100000 in
theorem f44_any (a : Int) (p : Option Addr) (w : World) : Calls Tryz.prog 44 #[.agg #[.int .i64 a, .pointer p]] w fun e w' => e = .returned (.tuple #[.int .i64 a, .pointer p]) ∧ Below w.heap.size w w' := by
  go_enter Tryz.func44, Tryz.ntmps44
  go_wp2_with fail
  go_quiet (fail)
  go_wp2
  refine bodyPost_ret (v := .tuple #[.int .i64 a, .pointer p]) (by simp [results, Tryz.results44, go_sem]) rfl ?_
  exact ⟨rfl, below_drewN ((Below.refl _ _).alloc (Nat.le_refl _) _) _⟩

def MakesB (z : Int) (w : World) (e : Ending) (w' : World) : Prop :=
  ∃ g sl xs, e = .returned (.pointer (some ⟨g, 0, none⟩)) ∧ w.heap.size ≤ g ∧ BInt w.heap.size w' g z sl xs ∧ Below w.heap.size w w'

/-- The sign of an integer. -/
def sgn (z : Int) : Int := if z = 0 then 0 else if z < 0 then -1 else 1

theorem made_one (w : World) (z : Int) (m : Nat) (b : Bool) (hm : m = z.natAbs) (hz : z ≠ 0) (hb : decide (z < 0) = b) (hW : m < W) :
    BInt w.heap.size ((w.alloc (.cells #[.int .u64 (m : Int)] 85)).alloc (.cells #[.bool b, .slice (some ⟨w.heap.size, 0, none⟩) 1 1] 79)) (w.heap.size + 1) z (.slice (some ⟨w.heap.size, 0, none⟩) 1 1) [m] := by
  subst hm hb
  refine ⟨by simpa using heap_alloc_new (w.alloc (.cells #[.int .u64 (z.natAbs : Int)] 85)) _, ?_, isW_one _ (by omega) hW, by simp⟩
  refine Row.alloc (.inr ⟨by simp, w.heap.size, 0, 1, by simp, by simp, Nat.le_refl _, by simp, fun i hi => ?_⟩) _
  simp at hi
  subst hi
  simp [go_sem]

set_option maxRecDepth 100000 in
set_option maxHeartbeats 1000000 in
theorem f68_any (z : Int) (hs : smallB z = true) (w : World) : Calls Tryz.prog 68 #[.int .i64 z] w (MakesB z w) := by
  have h1 := (smallB_lt hs).1
  have h2 := (smallB_lt hs).2
  clear hs
  by_cases hz : z = 0
  · subst hz
    go_enter Tryz.func68, Tryz.ntmps68
    go_wp2
    go_ret
    refine ⟨w.heap.size, .slice none 0 0, [], rfl, Nat.le_refl _, ⟨by simpa using heap_alloc_new w _, .inl ⟨rfl, .inl rfl⟩, isW_nil, by simp⟩, (Below.refl _ _).alloc (Nat.le_refl _) _⟩
  · have hne : (z == 0) = false := by rw [beq_eq_false_iff_ne]; exact hz
    by_cases hn : z < 0
    · have hm : Hid (IntKind.u64.wrap (-IntKind.u64.wrap z) = (z.natAbs : Int)) := by show _ = _; rw [IntKind.wrap_u64, IntKind.wrap_u64]; omega
      have HM := Lib.hid (made_one w z z.natAbs true rfl hz (by simpa using hn) (by unfold W; omega))
      go_enter Tryz.func68, Tryz.ntmps68
      go_wp2
      go_ret
      refine ⟨w.heap.size + 1, .slice (some ⟨w.heap.size, 0, none⟩) 1 1, [z.natAbs], rfl, by omega, ?_, ((Below.refl _ _).alloc (Nat.le_refl _) _).alloc (by simp) _⟩
      rw [hm.out]; exact HM.out
    · have hm : Hid (z = (z.natAbs : Int)) := by show _ = _; omega
      have HM := Lib.hid (made_one w z z.natAbs false rfl hz (by simpa using hn) (by unfold W; omega))
      go_enter Tryz.func68, Tryz.ntmps68
      go_wp2
      go_ret
      refine ⟨w.heap.size + 1, .slice (some ⟨w.heap.size, 0, none⟩) 1 1, [z.natAbs], rfl, by omega, ?_, ((Below.refl _ _).alloc (Nat.le_refl _) _).alloc (by simp) _⟩
      have := HM.out
      rw [← hm.out] at this
      exact this

theorem sgn_lt (z : Int) : decide (sgn z < 0) = decide (z < 0) := by
  unfold sgn; rw [Bool.eq_iff_iff]; simp; split <;> (try split) <;> omega

theorem VInt.shape {B n : Nat} {w : World} {v : Value} {z : Int} (h : VInt B n w v z) : ∃ d a k c, v = .agg #[.int .i64 2, .bool d, .slice a k c, .int .u64 0, .string ⟨#[]⟩, .slice none 0 0] := by
  obtain ⟨sl, l, rfl, hr, _⟩ := h
  obtain ⟨a, c, rfl⟩ := hr.len
  exact ⟨_, _, _, _, rfl⟩

end Go.Proofs.YtllgogkjcbdpkaaGreatDoor.Z
