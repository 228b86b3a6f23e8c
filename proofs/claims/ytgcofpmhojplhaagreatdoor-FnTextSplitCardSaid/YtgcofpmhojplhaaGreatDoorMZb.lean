/- Joined texts: ZBig4 ZBig5 ZBig6 ZBig7 ZBig8 ZBig9 ZBig10 ZBig11 ZIbWalk ZSp4 ZSp5 ZOuWalk V1 ZSp7 V2 V3. -/
import Derived.Test.YtgcofpmhojplhaaGreatDoorMZa
import Derived.Test.YtgcofpmhojplhaaGreatDoorZShelf
import Derived.Lib.ItoaNum
/- Written by wip/tools/port2.py out of the text Big4 of seat Ytidkdjnfpepnfaa. -/
/- Walks of the package's great numbers: how many bits. -/
namespace Go.Proofs.YtgcofpmhojplhaaGreatDoor.Z
open Go.RowKit

/-- y is x, or x with some more bits below its highest one. -/
def Smear (x y : Nat) : Prop := x ≤ y ∧ ∀ k, k ≤ 64 → x < 2 ^ k → y < 2 ^ k
theorem or_shift (x s : Nat) (M : Int) (hM : M = ((2 ^ s : Nat) : Int)) (hx : x < 2 ^ 64) : ∃ y : Nat, bits BinOp.or IntKind.u64 (x : Int) ((x : Int) / M) = (y : Int) ∧ Smear x y ∧ y < 2 ^ 64 := by
  subst hM
  have hq : x / 2 ^ s ≤ x := Nat.div_le_self _ _
  refine ⟨x ||| x / 2 ^ s, ?_, ⟨Nat.left_le_or, fun k _ h => Nat.or_lt_two_pow h (Nat.lt_of_le_of_lt hq h)⟩, Nat.or_lt_two_pow hx (Nat.lt_of_le_of_lt hq hx)⟩
  rw [← Int.natCast_ediv, (bits_nat .u64 64 (by decide) (fun n h1 h2 => wraps_u64 n h1 h2) x (x / 2 ^ s) hx (by omega)).2]
theorem Smear.trans {x y z : Nat} (h : Smear x y) (k : Smear y z) : Smear x z := ⟨Nat.le_trans h.1 k.1, fun i hi hx => k.2 i hi (h.2 i hi hx)⟩

/-- What bitLen tells of the words xs. -/
def BitsPost (m : Nat) (w : World) (e : Ending) (w' : World) : Prop := ∃ L : Int, e = .returned (.int .i64 L) ∧ 0 ≤ L ∧ L ≤ 1000000000 ∧ (L < 32 ↔ m < 2147483648) ∧ (L < 33 ↔ m < 4294967296) ∧ w = w'

set_option maxRecDepth 100000 in
theorem f134_nil (v : Value) (hv : v = .slice none 0 0 ∨ ∃ a c, v = .slice (some a) 0 c) (w : World) : Calls Tryz.prog 134 #[v] w (BitsPost 0 w) := by
  rcases hv with rfl | ⟨a, c, rfl⟩
  all_goals
    go_enter Tryz.func134, Tryz.ntmps134
    go_wp2
    go_ret
    exact ⟨0, rfl, by omega, by omega, by omega, by omega, rfl⟩

theorem bitLen_lt (y k : Nat) (hk : 1 ≤ k) (hk2 : k ≤ 64) (hy : y < 2 ^ 64) : Lib.bitLen y < k ↔ y < 2 ^ (k - 1) := by
  constructor
  · intro h
    by_cases h0 : y = 0
    · subst h0; exact Nat.pow_pos (by decide)
    · have hb := Lib.bitLenAux_bounds 64 y hy h0
      have : 2 ^ Lib.bitLenAux 64 y ≤ 2 ^ (k - 1) := Nat.pow_le_pow_right (by decide) (by unfold Lib.bitLen at h; omega)
      omega
  · intro h
    have := Lib.bitLen_le y (k - 1) (by omega) h
    omega

set_option maxRecDepth 100000 in
set_option maxHeartbeats 1000000 in
theorem f134_any (g off n c x m : Nat) (hn : 0 < n) (hnb : n ≤ 1000000) (w : World) (hx : x < 18446744073709551616) (hx0 : 0 < x) (h1 : n = 1 → m = x) (h2 : 1 < n → 18446744073709551616 ≤ m)
    (hcell : w.cell? ⟨g, off + (n - 1), none⟩ = some (.int .u64 (x : Int))) :
    Calls Tryz.prog 134 #[.slice (some ⟨g, off, none⟩) n c] w (BitsPost m w) := by
  have hn1 : (0 : Int) < n := by omega
  have H1 := Lib.hid h1
  have H2 := Lib.hid h2
  have HX := Lib.hid hx
  clear h1 h2 hx
  go_enter Tryz.func134, Tryz.ntmps134
  go_wp2_with fail
  obtain ⟨y1, e1, s1, b1⟩ := or_shift x 1 2 (by decide) HX.out
  rw [e1]
  obtain ⟨y2, e2, s2, b2⟩ := or_shift y1 2 4 (by decide) b1
  rw [e2]
  obtain ⟨y3, e3, s3, b3⟩ := or_shift y2 4 16 (by decide) b2
  rw [e3]
  obtain ⟨y4, e4, s4, b4⟩ := or_shift y3 8 256 (by decide) b3
  rw [e4]
  obtain ⟨y5, e5, s5, b5⟩ := or_shift y4 16 65536 (by decide) b4
  rw [e5]
  obtain ⟨y6, e6, s6, b6⟩ := or_shift y5 32 4294967296 (by decide) b5
  rw [show (y5 : Int) / 65536 / 65536 = (y5 : Int) / 4294967296 from by omega, e6]
  have S := Lib.hid (((((s1.trans s2).trans s3).trans s4).trans s5).trans s6)
  have HB6 := Lib.hid b6
  clear e1 e2 e3 e4 e5 e6 s1 s2 s3 s4 s5 s6 b1 b2 b3 b4 b5 b6
  refine (Tryz.bits_Len (y6 : Int) w (by omega) (by have := HB6.out; omega)).mono ?_
  rintro e w' ⟨rfl, rfl⟩
  have hlen : Hid (Lib.bitLen y6 ≤ 64) := Lib.bitLen_le y6 64 (by omega) HB6.out
  have h31 := Lib.hid (bitLen_lt y6 32 (by omega) (by omega) HB6.out)
  have h32 := Lib.hid (bitLen_lt y6 33 (by omega) (by omega) HB6.out)
  have hpos : Hid (1 ≤ Lib.bitLen y6) := by
    show 1 ≤ _
    have := (bitLen_lt y6 1 (by omega) (by omega) HB6.out)
    have h3 := S.out.1
    omega
  rw [Int.toNat_natCast]
  generalize Lib.bitLen y6 = L at *
  have hL := hlen.out
  go_wp2_with fail
  go_ret
  refine ⟨_, rfl, ?_⟩
  have q1 := h31.out
  have q2 := h32.out
  have q3 := hpos.out
  have q4 := S.out.1
  have q5 := S.out.2 31 (by omega)
  have q6 := S.out.2 32 (by omega)
  have q7 := H1.out
  have q8 := H2.out
  simp only [Nat.reduceSub] at q1 q2
  refine ⟨by omega, by omega, ?_, ?_, rfl⟩
  · by_cases hn : n = 1
    · have := q7 hn
      subst hn
      constructor
      · intro h; have : y6 < 2 ^ 31 := q1.1 (by omega); omega
      · intro h; have : L < 32 := q1.2 (q5 (by omega)); omega
    · have := q8 (by omega)
      constructor <;> intro h <;> omega
  · by_cases hn : n = 1
    · have := q7 hn
      subst hn
      constructor
      · intro h; have : y6 < 2 ^ 32 := q2.1 (by omega); omega
      · intro h; have : L < 33 := q2.2 (q6 (by omega)); omega
    · have := q8 (by omega)
      constructor <;> intro h <;> omega
end Go.Proofs.YtgcofpmhojplhaaGreatDoor.Z

/- Written by wip/tools/port2.py out of the text Big5 of seat Ytidkdjnfpepnfaa. -/
/- Walks of the package's great numbers: an Int in memory; isSmall, Int64. -/
namespace Go.Proofs.YtgcofpmhojplhaaGreatDoor.Z
open Go.RowKit

/-- The integer z lies in block g, its words in a block from B on. -/
structure BInt (B : Nat) (w : World) (g : Nat) (z : Int) (sl : Value) (xs : List Nat) : Prop where
  blk : w.heap[g]? = some (.cells #[.bool (decide (z < 0)), sl] 196 (0, 0))
  row : Row B .u64 w sl xs
  num : IsW z.natAbs xs
  len : xs.length ≤ 1000
theorem BInt.neg {B g : Nat} {w : World} {z : Int} {sl : Value} {xs : List Nat} (h : BInt B w g z sl xs) : w.cell? ⟨g, 0, none⟩ = some (.bool (decide (z < 0))) := by simp [World.cell?, h.blk]
theorem BInt.abs {B g : Nat} {w : World} {z : Int} {sl : Value} {xs : List Nat} (h : BInt B w g z sl xs) : w.cell? ⟨g, 1, none⟩ = some sl := by simp [World.cell?, h.blk]
theorem BInt.free {B g : Nat} {w : World} {z : Int} {sl : Value} {xs : List Nat} (h : BInt B w g z sl xs) (i : Nat) : w.frozen? ⟨g, i, none⟩ = false := by simp [World.frozen?, h.blk]
theorem BInt.lt {B g : Nat} {w : World} {z : Int} {sl : Value} {xs : List Nat} (h : BInt B w g z sl xs) : g < w.heap.size := (Array.getElem?_eq_some_iff.1 h.blk).1
theorem BInt.below {B' : Nat} {w w' : World} {g : Nat} {z : Int} {sl : Value} {xs : List Nat} {B : Nat} (h : BInt B' w g z sl xs) (hb : Below B w w') (hB : w.heap.size ≤ B) : BInt B' w' g z sl xs :=
  ⟨(hb.block g (Nat.lt_of_lt_of_le h.lt hB)).trans h.blk, h.row.below hb hB, h.num, h.len⟩
theorem BInt.le {B' B g : Nat} {w : World} {z : Int} {sl : Value} {xs : List Nat} (h : BInt B w g z sl xs) (hB : B' ≤ B) : BInt B' w g z sl xs := ⟨h.blk, h.row.le hB, h.num, h.len⟩

set_option maxRecDepth 100000 in
theorem f126_nil (v : Value) (hv : v = .slice none 0 0 ∨ ∃ a c, v = .slice (some a) 0 c) (w : World) : Calls Tryz.prog 126 #[v] w fun e w' => e = .returned (.int .u64 0) ∧ w = w' := by
  rcases hv with rfl | ⟨a, c, rfl⟩
  all_goals
    go_enter Tryz.func126, Tryz.ntmps126
    go_wp2
    go_ret
    exact ⟨rfl, rfl⟩
set_option maxRecDepth 100000 in
theorem f126_any (g off n c x : Nat) (hn : 0 < n) (w : World) (hc : w.cell? ⟨g, off, none⟩ = some (.int .u64 (x : Int))) : Calls Tryz.prog 126 #[.slice (some ⟨g, off, none⟩) n c] w fun e w' => e = .returned (.int .u64 (x : Int)) ∧ w = w' := by
  have hn1 : (0 : Int) < n := by omega
  have hn2 : ((n : Int) == 0) = false := by rw [beq_eq_false_iff_ne]; omega
  go_enter Tryz.func126, Tryz.ntmps126
  go_wp2
  go_ret
  exact ⟨rfl, rfl⟩

set_option maxRecDepth 100000 in
theorem f114_any (B g : Nat) (z : Int) (sl : Value) (xs : List Nat) (w : World) (h : BInt B w g z sl xs) (hz1 : -9223372036854775808 < z) (hz2 : z < 9223372036854775808) :
    Calls Tryz.prog 114 #[.pointer (some ⟨g, 0, none⟩)] w fun e w' => e = .returned (.int .i64 z) ∧ w = w' := by
  have c0 := h.neg
  have c1 := h.abs
  obtain ⟨_, hr, hnum, _⟩ := h
  by_cases h0 : z = 0
  · subst h0
    have hx : xs = [] := hnum.zero.1 rfl
    subst hx
    have hv := Lib.hid (f126_nil sl (by rcases hr with ⟨_, h⟩ | ⟨h, _⟩; exact h; simp at h) w)
    simp only [Int.lt_irrefl, decide_false] at c0
    go_enter Tryz.func114, Tryz.ntmps114
    go_wp2_with fail
    refine hv.out.mono ?_
    rintro e w' ⟨rfl, rfl⟩
    go_wp2_with fail
    go_ret
    exact ⟨rfl, rfl⟩
  · have hx : xs = [z.natAbs] := hnum.one (by unfold W; omega) (by omega)
    subst hx
    rcases hr with ⟨h, _⟩ | ⟨_, g', off, c, rfl, _, _, _, hcell⟩
    · simp at h
    have hv := Lib.hid (f126_any g' off 1 c z.natAbs (by omega) w (hcell 0 (by simp)))
    simp only [List.length_singleton] at c1
    obtain ⟨m, hm⟩ : ∃ m, m = z.natAbs := ⟨_, rfl⟩
    rw [← hm] at hv
    clear hcell hnum
    by_cases hneg : z < 0
    · have e1 : decide (z < 0) = true := by simpa using hneg
      rw [e1] at c0
      have hzm : Hid (-(m : Int) = z) := by show _ = _; omega
      have hm1 : m < 9223372036854775808 := by omega
      clear hm e1 hneg hz1 hz2 h0
      go_enter Tryz.func114, Tryz.ntmps114
      go_wp2_with fail
      refine hv.out.mono ?_
      rintro e w' ⟨rfl, rfl⟩
      go_wp2_with fail
      go_ret
      exact ⟨ret_int hzm.out, rfl⟩
    · have e1 : decide (z < 0) = false := by simpa using hneg
      rw [e1] at c0
      have hzm : Hid ((m : Int) = z) := by show _ = _; omega
      have hm1 : m < 9223372036854775808 := by omega
      clear hm e1 hneg hz1 hz2 h0
      go_enter Tryz.func114, Tryz.ntmps114
      go_wp2_with fail
      refine hv.out.mono ?_
      rintro e w' ⟨rfl, rfl⟩
      go_wp2_with fail
      go_ret
      exact ⟨ret_int hzm.out, rfl⟩

set_option maxRecDepth 100000 in
theorem f125_any (B g : Nat) (z : Int) (sl : Value) (xs : List Nat) (w : World) (h : BInt B w g z sl xs) : Calls Tryz.prog 125 #[.pointer (some ⟨g, 0, none⟩)] w (BitsPost z.natAbs w) := by
  have c1 := h.abs
  have HF : Hid (Calls Tryz.prog 134 #[sl] w (BitsPost z.natAbs w)) := by
    rcases h.row with ⟨rfl, hv⟩ | ⟨h0, g', off, c, rfl, hc, _, hg, hcell⟩
    · have : z.natAbs = 0 := h.num.zero.2 rfl
      rw [this]
      exact f134_nil sl hv w
    · have hl := h.len
      have hx := hcell (xs.length - 1) (by omega)
      have hlast := h.num.last h0
      have hlow : xs.getD (xs.length - 1) 0 < W := by
        have : xs.length - 1 < xs.length := by omega
        simp [this]; exact h.num.low _ (List.getElem_mem this)
      refine f134_any g' off xs.length c (xs.getD (xs.length - 1) 0) z.natAbs h0 (by omega) w hlow hlast ?_ ?_ hx
      · intro h1
        match xs, h1, h.num with
        | [x], _, hn => have := hn.val; simp [wv] at this; simp [this]
      · intro h1
        have := h.num.ge h0
        have h3 : W ^ 1 ≤ W ^ (xs.length - 1) := Nat.pow_le_pow_right W_pos (by omega)
        unfold W at *
        omega
  clear h
  go_enter Tryz.func125, Tryz.ntmps125
  go_wp2_with fail
  refine HF.out.mono ?_
  rintro e w' ⟨L, rfl, h1, h2, h3, h4, rfl⟩
  have H3 := Lib.hid h3
  have H4 := Lib.hid h4
  clear h3 h4
  go_wp2_with fail
  go_ret
  exact ⟨L, rfl, h1, h2, H3.out, H4.out, rfl⟩

/-- What the package holds as a small number. -/
def smallB (z : Int) : Bool := decide (-2147483648 ≤ z ∧ z < 2147483648)

set_option maxRecDepth 100000 in
set_option maxHeartbeats 1000000 in
theorem f112_any (B g : Nat) (z : Int) (sl : Value) (xs : List Nat) (w : World) (h : BInt B w g z sl xs) : Calls Tryz.prog 112 #[.pointer (some ⟨g, 0, none⟩)] w fun e w' => e = .returned (.bool (smallB z)) ∧ w = w' := by
  have HF := Lib.hid (f125_any B g z sl xs w h)
  have HB := Lib.hid h
  clear h
  by_cases h1 : z.natAbs < 2147483648
  · have F : Hid (smallB z = true) := by show _ = _; unfold smallB; simp; omega
    go_enter Tryz.func112, Tryz.ntmps112
    go_wp2_with fail
    refine HF.out.mono ?_
    rintro e w' ⟨L, rfl, q1, q2, q3, q4, rfl⟩
    have hL : L < 32 := q3.2 h1
    clear q3 q4 h1
    go_wp2_with fail
    go_ret
    exact ⟨ret_bool F.out.symm, rfl⟩
  by_cases h2 : z.natAbs < 4294967296
  · have hI := Lib.hid (f114_any B g z sl xs w HB.out (by omega) (by omega))
    go_enter Tryz.func112, Tryz.ntmps112
    go_wp2_with fail
    refine HF.out.mono ?_
    rintro e w' ⟨L, rfl, q1, q2, q3, q4, rfl⟩
    have hL : ¬ L < 32 := fun h => h1 (q3.1 h)
    have hL2 : L < 33 := q4.2 h2
    have hL3 : L = 32 := by omega
    subst hL3
    clear q3 q4
    have F : Hid (smallB z = (z == -2147483648)) := by
      show _ = _
      unfold smallB
      rw [Bool.eq_iff_iff]; simp; omega
    clear h1 h2
    go_wp2_with fail
    refine hI.out.mono ?_
    rintro e w' ⟨rfl, rfl⟩
    go_wp2_with fail
    go_ret
    exact ⟨ret_bool F.out.symm, rfl⟩
  · have F : Hid (smallB z = false) := by show _ = _; unfold smallB; simp; omega
    go_enter Tryz.func112, Tryz.ntmps112
    go_wp2_with fail
    refine HF.out.mono ?_
    rintro e w' ⟨L, rfl, q1, q2, q3, q4, rfl⟩
    have hL : ¬ L < 33 := fun h => h2 (q4.1 h)
    have hL2 : (L == 32) = false := by rw [beq_eq_false_iff_ne]; omega
    have hL3 : ¬ L < 32 := by omega
    have F2 : Hid (decide (L < 32) = false) := by show _ = _; simpa using hL3
    clear q3 q4 h1 h2 hL
    go_wp2_with fail
    go_ret
    exact ⟨ret_bool (by rw [F.out, F2.out]), rfl⟩
end Go.Proofs.YtgcofpmhojplhaaGreatDoor.Z

/- Written by wip/tools/port2.py out of the text Big6 of seat Ytidkdjnfpepnfaa. -/
/- Walks of the package's great numbers: set, Set, Neg. -/
namespace Go.Proofs.YtgcofpmhojplhaaGreatDoor.Z
open Go.RowKit

theorem splice_take {α : Type} (L X C : List α) (n q m : Nat) (hC : C.length = m) (hfit : q + m ≤ n) (hn : n ≤ L.length) (hX : L.take n = X) (R : List α) (hR : R = X.take q ++ (C ++ X.drop (q + m))) :
    (L.take q ++ (C ++ L.drop (q + m))).toArray.toList.take (n * 1) = R := by
  subst hX
  subst hR
  subst hC
  have h1 : (L.take q).length = q := by simp; omega
  have h2 : (L.take q ++ (C ++ L.drop (q + C.length))).take n = L.take q ++ (C ++ (L.drop (q + C.length)).take (n - q - C.length)) := by
    rw [List.take_append, h1, List.take_of_length_le (l := L.take q) (by omega), List.take_append, List.take_of_length_le (l := C) (by omega)]
  rw [Nat.mul_one, show (L.take q ++ (C ++ L.drop (q + C.length))).toArray.toList = L.take q ++ (C ++ L.drop (q + C.length)) from rfl, h2, List.take_take, Nat.min_eq_left (by omega), List.drop_take]
  congr 3
  omega

/-- 'copy(own[o:..], src)': the words go over. -/
theorem wp_copy_row {w : World} {o : Oper} {a : Act} {K : Act → World → Prop} {Q : Exit → Act → World → Prop} (d s : Operand) (dT sT : TypeId)
    (ho : o.op = .call { callee := .builtin .copy, args := #[d, s], argTypes := #[dT, sT] }) (hu : Tryz.prog.underlying dT = some (.slice 225))
    (dp : Option Addr) (dLen dCap : Nat) (hd : a.eval d = .slice dp dLen dCap) (vs : Value) (hs : a.eval s = vs) (B g n c : Nat) (xs : List Nat) (hown : OwnW B w g n c xs) (B' : Nat) (ys : List Nat) (hrow : Row B' .u64 w vs ys)
    (q : Nat) (hdp : 0 < ys.length → dp = some ⟨g, q, none⟩) (hlen : ys.length = dLen) (hfit : q + ys.length ≤ n)
    (h : ∀ w', OwnW B w' g n c (xs.take q ++ (ys ++ xs.drop (q + ys.length))) → w.grownBy w' (some g) → K (a.put o.dst (goInt ys.length)) w') : o.wp Tryz.prog a w K Q := by
  obtain ⟨i0, hi, hz0, hz1, hz2⟩ := info_parts info225
  have hsz : (Tryz.prog.info? 225).map (·.size) = some 1 := by rw [hi]; simp [hz1]
  rcases hrow with ⟨rfl, hv⟩ | ⟨h0, g', off, c', rfl, hc, _, hg, hcell⟩
  · have hn0 : ∃ sp sl sc, vs = .slice sp sl sc ∧ Nat.min sl dLen = 0 := by
      rcases hv with rfl | ⟨x, c, rfl⟩
      · exact ⟨none, 0, 0, rfl, by simp⟩
      · exact ⟨some x, 0, c, rfl, by simp⟩
    obtain ⟨sp, sl, sc, rfl, hmin⟩ := hn0
    have hrun := run_copy_none (P := Tryz.prog) w dT sT o.type 225 dp sp dLen dCap sl sc hu hsz hmin
    unfold Oper.wp
    simp [execOp, ho, resolve, invoke, builtin, hd, hs, hrun, Result.andThen]
    exact h w (by simpa using hown) (World.grownBy.refl _ _)
  · obtain rfl := hdp h0
    subst hlen
    rcases hown.2 with ⟨h', _⟩ | ⟨g2, c2, cur, h', hB, hgg, hnc, hcm, hcs, ht⟩
    · cases h'
    · cases h'
      have hxs := hown.1
      have hrun := run_copy_row (P := Tryz.prog) w dT sT o.type 225 g q ys.length dCap ⟨g', off, none⟩ ys.length c' cur 225 (ys.map fun x => Value.int .u64 (x : Nat)) hu hsz hgg (by simp)
        (by
          intro j u hu
          have hj : j < ys.length := by have := List.getElem?_eq_some_iff.1 hu; simpa using this.1
          have := hcell j hj
          rw [show (⟨g', off, none⟩ : Addr).add j = ⟨g', off + j, none⟩ from by unfold Addr.add; split <;> simp_all, this]
          simp [hj] at hu ⊢
          exact hu) (by simp; omega) (by intro u hu; obtain ⟨y, _, rfl⟩ := List.mem_map.1 hu; rfl)
      unfold Oper.wp
      simp [execOp, ho, resolve, invoke, builtin, hd, hs, hrun, Result.andThen]
      refine h _ ?_ ?_
      · refine ⟨?_, .inr ⟨g, c, _, rfl, hB, setRow_heap w g _ _ 225 _ hgg, hnc, hcm, ?_, ?_⟩⟩
        · have := hown.len; simp; omega
        · have : cur.toList.length = c := by simpa using hcs
          simp; omega
        · have hcl : cur.toList.length = c := by simpa using hcs
          exact splice_take cur.toList (xs.map fun x => Value.int .u64 (x : Nat)) (ys.map fun x => Value.int .u64 (x : Nat)) n q ys.length (by simp) (by omega) (by omega) (by simpa using ht) _ (by simp)
      · exact ⟨rfl, rfl, rfl, by simp [World.setRow], fun k _ hk => setRow_other w g k _ (fun e => hk (by rw [e]))⟩

theorem wpList_copy_row {w : World} {ops : Array Oper} {rest : List Oper} {o : Oper} {a : Act} {Q : Exit → Act → World → Prop} (hgd : o.guard = none) (d s : Operand) (dT sT : TypeId)
    (ho : o.op = .call { callee := .builtin .copy, args := #[d, s], argTypes := #[dT, sT] }) (hu : Tryz.prog.underlying dT = some (.slice 225))
    (dp : Option Addr) (dLen dCap : Nat) (hd : a.eval d = .slice dp dLen dCap) (vs : Value) (hs : a.eval s = vs) (B g n c : Nat) (xs : List Nat) (hown : OwnW B w g n c xs) (B' : Nat) (ys : List Nat) (hrow : Row B' .u64 w vs ys)
    (q : Nat) (hdp : 0 < ys.length → dp = some ⟨g, q, none⟩) (hlen : ys.length = dLen) (hfit : q + ys.length ≤ n)
    (h : ∀ w', OwnW B w' g n c (xs.take q ++ (ys ++ xs.drop (q + ys.length))) → w.grownBy w' (some g) → wpList Tryz.prog ops Q rest (a.put o.dst (goInt ys.length)) w') : wpList Tryz.prog ops Q (o :: rest) a w :=
  wpList_plain hgd fun _ hK => wp_copy_row d s dT sT ho hu dp dLen dCap hd vs hs B g n c xs hown B' ys hrow q hdp hlen hfit fun w' h1 h2 => hK _ _ (h w' h1 h2)

theorem size93 : (Tryz.prog.info? 225).map (·.size) = some 1 := by kernel_rfl

/-- A row of words in memory, fresh. -/
def MakesWords (xs : List Nat) (w : World) (e : Ending) (w' : World) : Prop := ∃ v, e = .returned v ∧ Row w.heap.size .u64 w' v xs ∧ Below w.heap.size w w'

set_option maxRecDepth 100000 in
set_option maxHeartbeats 1000000 in
theorem f124_any (B : Nat) (v : Value) (xs : List Nat) (hn : xs.length ≤ 1000) (w : World) (hr : Row B .u64 w v xs) : Calls Tryz.prog 124 #[.slice none 0 0, v] w (MakesWords xs w) := by
  by_cases h0 : xs.length = 0
  · obtain rfl : xs = [] := List.eq_nil_of_length_eq_zero h0
    rcases hr with ⟨_, rfl | ⟨a, c, rfl⟩⟩ | ⟨h, _⟩
    · go_enter Tryz.func124, Tryz.ntmps124
      go_wp2_with (first | (go_at_call 121; refine (f121_zero _).mono ?_; rintro e w' ⟨rfl, rfl⟩) | (refine wpList_copy_nothing rfl (.tmp 9) (.tmp 10) 194 194 rfl 225 Tryz.underlying194 size93 _ _ _ _ _ _ rfl rfl rfl ?_))
      go_ret
      exact ⟨_, rfl, .inl ⟨rfl, .inl rfl⟩, Below.refl _ _⟩
    · go_enter Tryz.func124, Tryz.ntmps124
      go_wp2_with (first | (go_at_call 121; refine (f121_zero _).mono ?_; rintro e w' ⟨rfl, rfl⟩) | (refine wpList_copy_nothing rfl (.tmp 9) (.tmp 10) 194 194 rfl 225 Tryz.underlying194 size93 _ _ _ _ _ _ rfl rfl rfl ?_))
      go_ret
      exact ⟨_, rfl, .inl ⟨rfl, .inl rfl⟩, Below.refl _ _⟩
    · simp at h
  · obtain ⟨a, c, rfl⟩ := hr.len
    have HR := Lib.hid hr
    clear hr
    go_enter Tryz.func124, Tryz.ntmps124
    go_wp2_with fail
    refine (f121_any xs.length (by omega) (by omega) _).mono ?_
    rintro e w1 ⟨g, c1, rfl, ho, hb⟩
    have hlow := ho.low
    have HR1 := Lib.hid (HR.out.below hb (Nat.le_refl _))
    have HO := Lib.hid ho
    have HB := Lib.hid hb
    have HZ : Hid (xs ++ (List.replicate xs.length 0).drop xs.length = xs) := by show _ = _; simp
    clear hb ho
    generalize List.replicate xs.length 0 = Z at *
    have K1 : Hid (0 + xs.length ≤ xs.length) := by show _ ≤ _; omega
    go_wp2_with (refine wpList_copy_row rfl (.tmp 9) (.tmp 10) 194 194 rfl Tryz.underlying194 (some ⟨g, 0, none⟩) xs.length c1 rfl _ rfl w.heap.size g xs.length c1 Z HO.out B xs HR1.out 0 (fun _ => rfl) rfl K1.out ?_)
    intro w2 ho2 hg2
    rw [HZ.out] at ho2
    have HR2 := Lib.hid ho2.row
    have HB2 : Hid (Below w.heap.size w w2) := HB.out.grown hg2 (by omega) (by intro k hk; cases hk; exact hlow.1)
    clear ho2 hg2
    go_wp2_with fail
    go_ret
    exact ⟨_, rfl, HR2.out, HB2.out⟩
end Go.Proofs.YtgcofpmhojplhaaGreatDoor.Z

/- Written by wip/tools/port2.py out of the text Big7 of seat Ytidkdjnfpepnfaa. -/
/- Walks of the package's great numbers: Set, Neg, SetBytes of Int. -/
namespace Go.Proofs.YtgcofpmhojplhaaGreatDoor.Z
open Go.RowKit

section
variable {P : Program} (w : World)
theorem run_neq_ptr_same {tp te : TypeId} {j : TypeInfo} (a : Addr) (hp : P.underlying tp = some (.pointer te)) (hte : P.info? te = some j) :
    (binOp .neq tp (.pointer (some a)) (.pointer (some a))).run P w = .ok (.bool false) w := by
  have h : ∀ d : Nat, (Op.equalIn (d + 1) tp (.pointer (some a)) (.pointer (some a))).run P w = .ok true w := fun d => by
    simp [Op.equalIn, run_underlying hp, sizeOf, typeInfo, hte, run_sameAddr_same]
  simp only [binOp]
  simp [Op.equal, Op.maxDepth, h 9999]
theorem run_neq_ptr_other {tp te : TypeId} {j : TypeInfo} {a b : Addr} {ca cb : Array Value} {ta tb : TypeId} (hp : P.underlying tp = some (.pointer te)) (hte : P.info? te = some j) (hsz : j.size ≠ 0)
    (hne : a ≠ b) (ha : w.heap[a.block]? = some (.cells ca ta (0, 0))) (hb : w.heap[b.block]? = some (.cells cb tb (0, 0))) :
    (binOp .neq tp (.pointer (some a)) (.pointer (some b))).run P w = .ok (.bool true) w := by
  have h : ∀ d : Nat, (Op.equalIn (d + 1) tp (.pointer (some a)) (.pointer (some b))).run P w = .ok false w := fun d => by
    simp [Op.equalIn, run_underlying hp, sizeOf, typeInfo, hte, hsz, run_sameAddr_other w hne ha hb]
  simp only [binOp]
  simp [Op.equal, Op.maxDepth, h 9999]
end
theorem info196 : (Tryz.prog.info? 196).map (·.size) = some 2 := by kernel_rfl
theorem ptr_other {w : World} {g g' : Nat} {ca cb : Array Value} {ta tb : TypeId} (hne : g ≠ g') (ha : w.heap[g]? = some (.cells ca ta (0, 0))) (hb : w.heap[g']? = some (.cells cb tb (0, 0))) :
    (binOp .neq 146 (.pointer (some ⟨g, 0, none⟩)) (.pointer (some ⟨g', 0, none⟩))).run Tryz.prog w = .ok (.bool true) w := by
  obtain ⟨j, hj, hs⟩ := Option.map_eq_some_iff.1 info196
  exact run_neq_ptr_other w Tryz.underlying146 hj (by rw [hs]; decide) (by intro h; exact hne (by injection h)) ha hb
theorem ptr_same {w : World} {g : Nat} : (binOp .neq 146 (.pointer (some ⟨g, 0, none⟩)) (.pointer (some ⟨g, 0, none⟩))).run Tryz.prog w = .ok (.bool false) w := by
  obtain ⟨j, hj, hs⟩ := Option.map_eq_some_iff.1 info196
  exact run_neq_ptr_same w _ Tryz.underlying146 hj

theorem Row.drew {B : Nat} {k : IntKind} {w : World} {v : Value} {l : List Nat} (h : Row B k w v l) : Row B k w.drew v l := h

theorem below_grownBy {w w' : World} (h : Below w.heap.size w w') (g : Nat) : w.grownBy w' (some g) := ⟨h.os, h.tape, h.output, h.size, fun k hk _ => h.block k hk⟩
theorem _root_.Go.World.grownBy.setCell {w w' : World} {g : Nat} (h : w.grownBy w' (some g)) (g' j : Nat) (u : Value) (hg : g' = g := by rfl) : w.grownBy (w'.setCell ⟨g', j, none⟩ u) (some g) := by
  subst hg
  exact ⟨h.os, h.tape, h.output, by simpa [World.setCell] using h.size, fun k hk hne => (Below.heap_setCell w' ⟨g', j, none⟩ u k (fun e => hne (by rw [e]))).trans (h.block k hk hne)⟩
/-- A new Int. -/
def New (w : World) (g : Nat) : Prop := w.heap[g]? = some (.cells #[.bool false, .slice none 0 0] 196 (0, 0))

/-- The integer z has come into block g. -/
def SetPost (g : Nat) (z : Int) (w : World) (e : Ending) (w' : World) : Prop :=
  e = .returned (.pointer (some ⟨g, 0, none⟩)) ∧ w.grownBy w' (some g) ∧ ∃ sl xs, BInt w.heap.size w' g z sl xs

set_option maxRecDepth 100000 in
set_option maxHeartbeats 1000000 in
theorem f111_any (g gx : Nat) (z : Int) (B : Nat) (sl : Value) (xs : List Nat) (w : World) (hn : New w g) (hx : BInt B w gx z sl xs) (hne : g ≠ gx) :
    Calls Tryz.prog 111 #[.pointer (some ⟨g, 0, none⟩), .pointer (some ⟨gx, 0, none⟩)] w (SetPost g z w) := by
  have hp := ptr_other hne hn hx.blk
  have zl : g < w.heap.size := (Array.getElem?_eq_some_iff.1 hn).1
  have xl := hx.lt
  have z1 : w.cell? ⟨g, 1, none⟩ = some (.slice none 0 0) := by simp [World.cell?, show w.heap[g]? = _ from hn]
  have x1 := hx.abs
  have HX := Lib.hid hx
  have HN := Lib.hid (show w.heap[g]? = _ from hn)
  clear hx hn
  have hne' : gx ≠ g := Ne.symm hne
  go_enter Tryz.func111, Tryz.ntmps111
  go_wp2_with fail
  go_region_with
    ((go_at_call 124; refine (f124_any B sl xs HX.out.len w.drew (Row.drew HX.out.row)).mono ?_; rintro e w2 ⟨v2, rfl, hrow, hb⟩; obtain ⟨a2, k2, rfl⟩ := hrow.len; have HB2 : Hid (Below w.heap.size w w2) := ⟨hb.os, hb.tape, hb.output, hb.size, hb.block⟩; have HBK := Lib.hid ((hb.block g zl).trans HN.out); have f2 := fun i => Joins.unfrozen_of_block HBK.out i; have c2 := fun i => Joins.cell_of_block HBK.out i; have c2x : w2.cell? ⟨gx, 0, none⟩ = some (.bool (decide (z < 0))) := (hb.cell (p := ⟨gx, 0, none⟩) xl).trans HX.out.neg))
  all_goals
    go_wp2
    go_ret
    refine ⟨rfl, ?_, .slice a2 xs.length k2, xs, ?_, ?_, HX.out.num, HX.out.len⟩
    · exact ((below_grownBy HB2.out _).setCell g 1 _).setCell g 0 _
    · exact Joins.block_setCell (Joins.block_setCell HBK.out (i := 1) _) (i := 0) _
    · exact Row.setOld (Row.setOld hrow zl _) zl _
end Go.Proofs.YtgcofpmhojplhaaGreatDoor.Z

/- Written by wip/tools/port2.py out of the text Big8 of seat Ytidkdjnfpepnfaa. -/
/- Walks of the package's great numbers: SetBytes, Neg, and the whole number of a value of the thin package. -/
namespace Go.Proofs.YtgcofpmhojplhaaGreatDoor.Z
open Go.RowKit

theorem f110_row (B : Nat) (v : Value) (l : List Nat) (hl : l.length ≤ 4000) (hd : ∀ d ∈ l, d < 256) (w : World) (hr : Row B .u8 w v l) : Calls Tryz.prog 110 #[.slice none 0 0, v] w (MakesNat (bv l) w) := by
  rcases hr with ⟨rfl, hv⟩ | ⟨h0, g, off, c, rfl, hc, _, hg, hcell⟩
  · exact f110_nil w v hv
  · exact f110_any g off c l h0 hl hc hd w hg hcell

theorem pow_words (n k : Nat) (h : n ≤ 8 * k) : 256 ^ n ≤ W ^ k := by
  have h2 : (256 : Nat) ^ n ≤ 256 ^ (8 * k) := Nat.pow_le_pow_right (by decide) h
  rw [Nat.pow_mul] at h2
  have h3 : (256 : Nat) ^ 8 = W := by decide
  rwa [h3] at h2

theorem IsW.len_of_bv {l xs : List Nat} (h : IsW (bv l) xs) (hd : ∀ d ∈ l, d < 256) (k : Nat) (hl : l.length ≤ 8 * k) : xs.length ≤ k :=
  h.len_le (Nat.lt_of_lt_of_le (bv_lt l hd) (pow_words _ k hl))

theorem natAbs_nat (n : Nat) : decide ((n : Int) < 0) = false := by simp

set_option maxRecDepth 100000 in
set_option maxHeartbeats 1000000 in
theorem f102_any (g : Nat) (B : Nat) (v : Value) (l : List Nat) (hl : l.length ≤ 4000) (hd : ∀ d ∈ l, d < 256) (w : World) (hn : New w g) (hr : Row B .u8 w v l) :
    Calls Tryz.prog 102 #[.pointer (some ⟨g, 0, none⟩), v] w (SetPost g (bv l) w) := by
  have HF := Lib.hid (f110_row B v l hl hd w hr)
  have HD := Lib.hid hd
  have zl : g < w.heap.size := (Array.getElem?_eq_some_iff.1 hn).1
  have z1 : w.cell? ⟨g, 1, none⟩ = some (.slice none 0 0) := by simp [World.cell?, show w.heap[g]? = _ from hn]
  have HN := Lib.hid (show w.heap[g]? = _ from hn)
  clear hn hr hd
  go_enter Tryz.func102, Tryz.ntmps102
  go_wp2_with fail
  refine HF.out.mono ?_
  rintro e w2 ⟨v2, xs, rfl, hrow, hnum, hb⟩
  obtain ⟨a2, k2, rfl⟩ := hrow.len
  have HR := Lib.hid hrow
  have HM := Lib.hid hnum
  have HB := Lib.hid hb
  have HBK := Lib.hid ((hb.block g zl).trans HN.out)
  have f2 := fun i => Joins.unfrozen_of_block HBK.out i
  have c2 := fun i => Joins.cell_of_block HBK.out i
  clear hrow hnum hb
  go_wp2_with fail
  go_ret
  refine ⟨rfl, ?_, .slice a2 xs.length k2, xs, ?_, ?_, by simpa using HM.out, HM.out.len_of_bv HD.out 1000 (by omega)⟩
  · exact ((below_grownBy HB.out _).setCell g 1 _).setCell g 0 _
  · rw [natAbs_nat]
    exact Joins.block_setCell (Joins.block_setCell HBK.out (i := 1) _) (i := 0) _
  · exact Row.setOld (Row.setOld HR.out zl _) zl _

set_option maxRecDepth 100000 in
theorem f111_self (g : Nat) (w : World) : Calls Tryz.prog 111 #[.pointer (some ⟨g, 0, none⟩), .pointer (some ⟨g, 0, none⟩)] w fun e w' => e = .returned (.pointer (some ⟨g, 0, none⟩)) ∧ w = w' := by
  have hp := ptr_same (w := w) (g := g)
  go_enter Tryz.func111, Tryz.ntmps111
  go_wp2_with fail
  go_ret
  exact ⟨rfl, rfl⟩

/-- z.Neg(z). -/
theorem neg_flag (z : Int) (xs : List Nat) (h : IsW z.natAbs xs) : decide (-z < 0) = (decide (0 < xs.length) && !decide (z < 0)) := by
  have := h.zero
  by_cases h0 : z = 0
  · subst h0
    have : xs = [] := this.1 rfl
    subst this; simp
  · have : xs ≠ [] := fun e => by have := this.2 e; omega
    have : 0 < xs.length := List.length_pos_iff.2 this
    rw [Bool.eq_iff_iff]; simp; omega

set_option maxRecDepth 100000 in
set_option maxHeartbeats 1000000 in
theorem f103_any (g : Nat) (z : Int) (B : Nat) (sl : Value) (xs : List Nat) (w : World) (hg : g < B) (hx : BInt B w g z sl xs) :
    Calls Tryz.prog 103 #[.pointer (some ⟨g, 0, none⟩), .pointer (some ⟨g, 0, none⟩)] w fun e w' => e = .returned (.pointer (some ⟨g, 0, none⟩)) ∧ BInt B w' g (-z) sl xs ∧ w.grownBy w' (some g) := by
  have x0 := hx.neg
  have x1 := hx.abs
  have f0 := hx.free
  obtain ⟨a, k, rfl⟩ := hx.row.len
  have HX := Lib.hid hx
  have HF := Lib.hid (neg_flag z xs hx.num)
  clear hx
  generalize hd : decide (z < 0) = d at *
  have HD := Lib.hid hd
  clear hd
  by_cases h0 : xs.length = 0
  · have e0 : Hid (decide (-z < 0) = false) := by show _ = _; rw [HF.out]; simp [h0]
    rw [h0] at x1
    go_enter Tryz.func103, Tryz.ntmps103
    go_wp2_with (go_at_call 111; refine (f111_self g _).mono ?_; rintro e w' ⟨rfl, rfl⟩)
    go_ret
    refine ⟨rfl, ⟨?_, Row.setOld HX.out.row hg _, by simpa using HX.out.num, HX.out.len⟩, ?_⟩
    · rw [e0.out]
      exact Joins.block_setCell HX.out.blk (i := 0) _
    · exact (World.grownBy.refl w _).setCell g 0 _
  · have e0 : Hid (decide (-z < 0) = !d) := by show _ = _; rw [HF.out]; simp; omega
    have hpos : (0 : Int) < xs.length := by omega
    go_enter Tryz.func103, Tryz.ntmps103
    go_wp2_with (go_at_call 111; refine (f111_self g _).mono ?_; rintro e w' ⟨rfl, rfl⟩)
    go_ret
    refine ⟨rfl, ⟨?_, Row.setOld HX.out.row hg _, by simpa using HX.out.num, HX.out.len⟩, ?_⟩
    · rw [e0.out]
      exact Joins.block_setCell HX.out.blk (i := 0) _
    · exact (World.grownBy.refl w _).setCell g 0 _
end Go.Proofs.YtgcofpmhojplhaaGreatDoor.Z

/- Written by wip/tools/port2.py out of the text Big9 of seat Ytidkdjnfpepnfaa. -/
/- Walks of the package's ints: making one of a great number. -/
namespace Go.Proofs.YtgcofpmhojplhaaGreatDoor.Z
open Go.RowKit

/-- The integer z as an int of the package. -/
def KInt (B : Nat) (w : World) (v : Value) (z : Int) : Prop :=
  (smallB z = true ∧ v = .agg #[.int .i64 z, .pointer none]) ∨
  (smallB z = false ∧ ∃ g sl xs, v = .agg #[.int .i64 0, .pointer (some ⟨g, 0, none⟩)] ∧ B ≤ g ∧ BInt B w g z sl xs)
theorem KInt.below {B' : Nat} {w w' : World} {v : Value} {z : Int} {B : Nat} (h : KInt B' w v z) (hb : Below B w w') (hB : w.heap.size ≤ B) : KInt B' w' v z := by
  rcases h with h | ⟨h, g, sl, xs, h1, h2, h3⟩
  · exact .inl h
  · exact .inr ⟨h, g, sl, xs, h1, h2, h3.below hb hB⟩
theorem KInt.le {B' : Nat} {w : World} {v : Value} {z : Int} {B : Nat} (h : KInt B w v z) (hB : B' ≤ B) : KInt B' w v z := by
  rcases h with h | ⟨h, g, sl, xs, h1, h2, h3⟩
  · exact .inl h
  · exact .inr ⟨h, g, sl, xs, h1, by omega, h3.le hB⟩
theorem BInt.setOld {B : Nat} {w : World} {g : Nat} {z : Int} {sl : Value} {xs : List Nat} (h : BInt B w g z sl xs) (hg : B ≤ g) {a : Addr} (ha : a.block < B) (u : Value) : BInt B (w.setCell a u) g z sl xs :=
  ⟨(Below.heap_setCell w a u g (by omega)).trans h.blk, h.row.setOld ha u, h.num, h.len⟩
theorem KInt.setOld {B : Nat} {w : World} {v : Value} {z : Int} (h : KInt B w v z) {a : Addr} (ha : a.block < B) (u : Value) : KInt B (w.setCell a u) v z := by
  rcases h with h | ⟨h, g, sl, xs, h1, h2, h3⟩
  · exact .inl h
  · exact .inr ⟨h, g, sl, xs, h1, h2, h3.setOld h2 ha u⟩
theorem KInt.shape {B : Nat} {w : World} {v : Value} {z : Int} (h : KInt B w v z) : ∃ a p, v = .agg #[.int .i64 a, .pointer p] := by
  rcases h with ⟨_, rfl⟩ | ⟨_, g, sl, xs, rfl, _⟩ <;> exact ⟨_, _, rfl⟩
def MakesK (z : Int) (w : World) (e : Ending) (w' : World) : Prop := ∃ v, e = .returned v ∧ KInt w.heap.size w' v z ∧ Below w.heap.size w w'

set_option maxRecDepth 100000 in
theorem f113_any (z : Int) (w : World) : Calls Tryz.prog 113 #[.int .i64 z] w fun e w' => e = .returned (.agg #[.int .i64 z, .pointer none]) ∧ Below w.heap.size w w' := by
  go_enter Tryz.func113, Tryz.ntmps113
  go_wp2
  refine bodyPost_ret (v := .agg #[.int .i64 z, .pointer none]) (by simp [results, Tryz.results113, go_sem]) rfl ?_
  refine ⟨rfl, ?_⟩
  exact (Below.refl _ _).alloc (Nat.le_refl _) _

set_option maxRecDepth 100000 in
theorem f115_any (g : Nat) (w : World) : Calls Tryz.prog 115 #[.pointer (some ⟨g, 0, none⟩)] w fun e w' => e = .returned (.agg #[.int .i64 0, .pointer (some ⟨g, 0, none⟩)]) ∧ Below w.heap.size w w' := by
  go_enter Tryz.func115, Tryz.ntmps115
  go_wp2
  refine bodyPost_ret (v := .agg #[.int .i64 0, .pointer (some ⟨g, 0, none⟩)]) (by simp [results, Tryz.results115, go_sem]) rfl ?_
  refine ⟨rfl, ?_⟩
  exact (Below.refl _ _).alloc (Nat.le_refl _) _

theorem smallB_lt {z : Int} (h : smallB z = true) : -9223372036854775808 < z ∧ z < 9223372036854775808 := by
  unfold smallB at h; simp at h; omega

theorem New.made (w : World) : New (w.alloc (.cells #[.bool false, .slice none 0 0] 196)) w.heap.size := heap_alloc_new w _

/-- A result cell in memory, filled: what the walk needs of a later world. -/
theorem later {w w1 : World} {o : Array Value} {t : TypeId} {B : Nat} (hb : Below B (w.alloc (.cells o t)) w1) (hB : w.heap.size + 1 ≤ B) :
    (∀ j, w1.cell? ⟨w.heap.size, j, none⟩ = o[j]?) ∧ (∀ j, w1.frozen? ⟨w.heap.size, j, none⟩ = false) :=
  ⟨fun j => (hb.cell (p := ⟨w.heap.size, j, none⟩) (by simp; omega)).trans (by simp [go_sem]), fun j => (hb.frozen (p := ⟨w.heap.size, j, none⟩) (by simp; omega)).trans (by simp [go_sem])⟩

theorem later2 {w w1 : World} {o o' : Array Value} {t t' : TypeId} {B : Nat} (hb : Below B ((w.alloc (.cells o t)).alloc (.cells o' t')) w1) (hB : w.heap.size + 2 ≤ B) :
    (∀ j, w1.cell? ⟨w.heap.size, j, none⟩ = o[j]?) ∧ (∀ j, w1.frozen? ⟨w.heap.size, j, none⟩ = false) ∧ (∀ j, w1.cell? ⟨w.heap.size + 1, j, none⟩ = o'[j]?) ∧ (∀ j, w1.frozen? ⟨w.heap.size + 1, j, none⟩ = false) :=
  ⟨fun j => (hb.cell (p := ⟨w.heap.size, j, none⟩) (by simp; omega)).trans (by simp [go_sem]), fun j => (hb.frozen (p := ⟨w.heap.size, j, none⟩) (by simp; omega)).trans (by simp [go_sem]),
   fun j => (hb.cell (p := ⟨w.heap.size + 1, j, none⟩) (by simp; omega)).trans (by simp [go_sem]), fun j => (hb.frozen (p := ⟨w.heap.size + 1, j, none⟩) (by simp; omega)).trans (by simp [go_sem])⟩

set_option maxRecDepth 100000 in
set_option maxHeartbeats 1000000 in
theorem f104_any (B g : Nat) (z : Int) (sl : Value) (xs : List Nat) (w : World) (hx : BInt B w g z sl xs) :
    Calls Tryz.prog 104 #[.pointer (some ⟨g, 0, none⟩)] w (MakesK z w) := by
  have HX1 := Lib.hid (BInt.below hx ((Below.refl w.heap.size w).alloc (Nat.le_refl _) (.cells #[.int .i64 0, .pointer none] 150)) (Nat.le_refl _))
  have gl := hx.lt
  clear hx
  by_cases hs : smallB z = true
  · have HS := Lib.hid hs
    have h1 := (smallB_lt hs).1
    have h2 := (smallB_lt hs).2
    go_enter Tryz.func104, Tryz.ntmps104
    go_wp2_with (first
      | (go_at_call 112; refine (f112_any B g z sl xs _ HX1.out).mono ?_; rintro e w' ⟨rfl, rfl⟩)
      | (go_at_call 114; refine (f114_any B g z sl xs _ HX1.out h1 h2).mono ?_; rintro e w' ⟨rfl, rfl⟩))
    refine (f113_any z _).mono ?_
    rintro e w1 ⟨rfl, hb⟩
    obtain ⟨c, f⟩ := later hb (by simp)
    have HB : Hid (Below w.heap.size w w1) := ((Below.refl _ _).alloc (Nat.le_refl _) _).trans (hb.mono (by simp))
    clear hb HX1 hs
    go_wp2_with fail
    refine bodyPost_ret (v := .agg #[.int .i64 z, .pointer none]) (by simp [results, Tryz.results104, go_sem, c]) rfl ?_
    refine ⟨_, rfl, .inl ⟨HS.out, rfl⟩, ?_⟩
    iterate 2 (refine Below.setCell ?_ (show w.heap.size ≤ w.heap.size by omega) _)
    exact HB.out
  · have hs : smallB z = false := by simpa using hs
    have HS := Lib.hid hs
    have hgn : w.heap.size + 1 ≠ g := by omega
    have HX2 := Lib.hid (BInt.below HX1.out ((Below.refl (w.heap.size + 1) _).alloc (by simp) (.cells #[.bool false, .slice none 0 0] 196)) (by simp))
    have HN : Hid (New ((w.alloc (.cells #[.int .i64 0, .pointer none] 150)).alloc (.cells #[.bool false, .slice none 0 0] 196)) (w.heap.size + 1)) := by
      show New _ _
      have := New.made (w.alloc (.cells #[.int .i64 0, .pointer none] 150))
      simpa using this
    go_enter Tryz.func104, Tryz.ntmps104
    go_wp2_with (first
      | (go_at_call 112; refine (f112_any B g z sl xs _ HX1.out).mono ?_; rintro e w' ⟨rfl, rfl⟩))
    refine (f111_any _ g z B sl xs _ HN.out HX2.out hgn).mono ?_
    rintro e w1 ⟨rfl, hgr, sl2, xs2, hx2⟩
    obtain ⟨a2, k2, rfl⟩ := hx2.row.len
    have HX3 : Hid (BInt (w.heap.size + 1) w1 (w.heap.size + 1) z (.slice a2 xs2.length k2) xs2) := hx2.le (by simp)
    have hb : Below (w.heap.size + 1) (w.alloc (.cells #[.int .i64 0, .pointer none] 150)) w1 := ((Below.refl _ _).alloc (by simp) _).grown hgr (by simp) (by intro q hq; cases hq; simp)
    have hz : w.heap.size + 2 ≤ w1.heap.size := by have := hgr.size; simpa using this
    have HB := Lib.hid hb
    clear hb hgr hx2 HX2 HX1 HN hgn hs
    go_wp2_with fail
    refine (f115_any (w.heap.size + 1) _).mono ?_
    rintro e w2 ⟨rfl, hb2⟩
    have HX4 := Lib.hid (HX3.out.below hb2 (Nat.le_refl _))
    have HB2 : Hid (Below (w.heap.size + 1) (w.alloc (.cells #[.int .i64 0, .pointer none] 150)) w2) := HB.out.trans (hb2.mono (by omega))
    obtain ⟨c, f⟩ := later HB2.out (by simp)
    clear hb2 HX3
    go_wp2_with fail
    refine bodyPost_ret (v := .agg #[.int .i64 0, .pointer (some ⟨w.heap.size + 1, 0, none⟩)]) (by simp [results, Tryz.results104, go_sem, c]) rfl ?_
    refine ⟨_, rfl, .inr ⟨HS.out, w.heap.size + 1, .slice a2 xs2.length k2, xs2, rfl, by omega, ?_⟩, ?_⟩
    · refine BInt.le (B := w.heap.size + 1) ?_ (by omega)
      iterate 2 (refine BInt.setOld ?_ (by omega) (show w.heap.size < w.heap.size + 1 by omega) _)
      exact HX4.out
    · iterate 2 (refine Below.setCell ?_ (show w.heap.size ≤ w.heap.size by omega) _)
      exact ((Below.refl _ _).alloc (Nat.le_refl _) _).trans (HB2.out.mono (by omega))
set_option maxRecDepth 100000 in
set_option maxHeartbeats 1000000 in
theorem f91_any (n : Nat) (hn : n ≤ 4000) (v : Value) (z : Int) (B : Nat) (w : World) (hv : VInt B n w v z) : Calls Tryz.prog 91 #[v] w (MakesK z w) := by
  obtain ⟨sl, l, rfl, hr, hb, hl⟩ := hv
  obtain ⟨a, c, rfl⟩ := hr.len
  have HR := Lib.hid (((hr.alloc (.cells #[.int .i64 2, .bool (decide (z < 0)), .slice a l.length c, .int .u64 0, .string ⟨#[]⟩, .slice none 0 0] 28)).alloc (.cells #[.int .i64 0, .pointer none] 150)).alloc (.cells #[.bool false, .slice none 0 0] 196))
  have HB := Lib.hid hb
  have hl' : l.length ≤ 4000 := by omega
  clear hr hl hb
  have HN : Hid (New (((w.alloc (.cells #[.int .i64 2, .bool (decide (z < 0)), .slice a l.length c, .int .u64 0, .string ⟨#[]⟩, .slice none 0 0] 28)).alloc (.cells #[.int .i64 0, .pointer none] 150)).alloc (.cells #[.bool false, .slice none 0 0] 196)) (w.heap.size + 2)) := by
    show New _ _
    have := New.made ((w.alloc (.cells #[.int .i64 2, .bool (decide (z < 0)), .slice a l.length c, .int .u64 0, .string ⟨#[]⟩, .slice none 0 0] 28)).alloc (.cells #[.int .i64 0, .pointer none] 150))
    simpa using this
  have hz : Hid (z = signed (decide (z < 0)) (bv l)) := by
    show _ = _
    rw [HB.out.val]; unfold signed; split <;> simp_all <;> omega
  generalize hd : decide (z < 0) = d at *
  have HD := Lib.hid hd
  clear hd
  go_enter Tryz.func91, Tryz.ntmps91
  go_wp2_with fail
  refine (f102_any (w.heap.size + 2) B _ l hl' HB.out.low _ HN.out HR.out).mono ?_
  rintro e w1 ⟨rfl, hgr, sl2, xs2, hx2⟩
  obtain ⟨a2, k2, rfl⟩ := hx2.row.len
  have HX3 : Hid (BInt (w.heap.size + 3) w1 (w.heap.size + 2) (bv l) (.slice a2 xs2.length k2) xs2) := hx2.le (by simp)
  have hb1 : Below (w.heap.size + 2) ((w.alloc (.cells #[.int .i64 2, .bool d, .slice a l.length c, .int .u64 0, .string ⟨#[]⟩, .slice none 0 0] 28)).alloc (.cells #[.int .i64 0, .pointer none] 150)) w1 := ((Below.refl _ _).alloc (by simp) _).grown hgr (by simp) (by intro q hq; cases hq; simp)
  have hz1 : w.heap.size + 3 ≤ w1.heap.size := by have := hgr.size; simpa using this
  have HB1 := Lib.hid hb1
  obtain ⟨c0, f0, c1, f1⟩ := later2 hb1 (Nat.le_refl _)
  clear hb1 hgr hx2 HN HR
  cases d with
  | false =>
    have e0 : Hid ((bv l : Int) = z) := by show _ = _; rw [hz.out]; rfl
    go_wp2_with fail
    refine (f104_any _ _ _ _ _ _ HX3.out).mono ?_
    rintro e w2 ⟨v, rfl, hk, hb2⟩
    rw [e0.out] at hk
    obtain ⟨ka, kp, rfl⟩ := hk.shape
    have HK := Lib.hid (hk.le hz1)
    have HB2 := Lib.hid (HB1.out.trans (hb2.mono (by omega)))
    obtain ⟨c0, f0, c1, f1⟩ := later2 HB2.out (Nat.le_refl _)
    clear hk hb2
    go_wp2_with fail
    refine bodyPost_ret (v := .agg #[.int .i64 ka, .pointer kp]) (by simp [results, Tryz.results91, go_sem, c1]) rfl ?_
    refine ⟨_, rfl, ?_, ?_⟩
    · refine KInt.le (B := w.heap.size + 3) ?_ (by omega)
      iterate 2 (refine KInt.setOld ?_ (show w.heap.size + 1 < w.heap.size + 3 by omega) _)
      exact HK.out
    · iterate 2 (refine Below.setCell ?_ (show w.heap.size ≤ w.heap.size + 1 by omega) _)
      exact (((Below.refl _ _).alloc (Nat.le_refl _) _).alloc (by simp) _).trans (HB2.out.mono (by omega))
  | true =>
    have e0 : Hid (-(bv l : Int) = z) := by show _ = _; rw [hz.out]; rfl
    go_wp2_with fail
    refine (f103_any (w.heap.size + 2) (bv l) (w.heap.size + 3) _ xs2 w1 (by omega) HX3.out).mono ?_
    rintro e w2 ⟨rfl, hx4, hgr⟩
    rw [e0.out] at hx4
    have HX4 := Lib.hid hx4
    have hz2 : w.heap.size + 3 ≤ w2.heap.size := by have := hgr.size; omega
    have HB2 := Lib.hid (HB1.out.grown hgr (by omega) (by intro q hq; cases hq; simp))
    obtain ⟨c0, f0, c1, f1⟩ := later2 HB2.out (Nat.le_refl _)
    clear hx4 hgr
    go_wp2_with fail
    refine (f104_any _ _ _ _ _ _ HX4.out).mono ?_
    rintro e w3 ⟨v, rfl, hk, hb2⟩
    obtain ⟨ka, kp, rfl⟩ := hk.shape
    have HK := Lib.hid (hk.le hz2)
    have HB2 := Lib.hid (HB2.out.trans (hb2.mono (by omega)))
    obtain ⟨c0, f0, c1, f1⟩ := later2 HB2.out (Nat.le_refl _)
    clear hk hb2
    go_wp2_with fail
    refine bodyPost_ret (v := .agg #[.int .i64 ka, .pointer kp]) (by simp [results, Tryz.results91, go_sem, c1]) rfl ?_
    refine ⟨_, rfl, ?_, ?_⟩
    · refine KInt.le (B := w.heap.size + 3) ?_ (by omega)
      iterate 2 (refine KInt.setOld ?_ (show w.heap.size + 1 < w.heap.size + 3 by omega) _)
      exact HK.out
    · iterate 2 (refine Below.setCell ?_ (show w.heap.size ≤ w.heap.size + 1 by omega) _)
      exact (((Below.refl _ _).alloc (Nat.le_refl _) _).alloc (by simp) _).trans (HB2.out.mono (by omega))
end Go.Proofs.YtgcofpmhojplhaaGreatDoor.Z

/- Written by wip/tools/port2.py out of the text Big10 of seat Ytidkdjnfpepnfaa. -/
/- Walks of the package's great numbers: the bytes of one. -/
namespace Go.Proofs.YtgcofpmhojplhaaGreatDoor.Z
open Go.RowKit

/-- A row of bytes of the call's own: from its block's head on. -/
def OwnB (B : Nat) (w : World) (g n c : Nat) (xs : List Nat) : Prop := w.ownsRow B 5 1 (.slice (some ⟨g, 0, none⟩) n c) n (xs.map fun x => Value.int .u8 (x : Nat))
theorem OwnB.len {B : Nat} {w : World} {g n c : Nat} {xs : List Nat} (h : OwnB B w g n c xs) : xs.length = n := by simpa using h.1
theorem OwnB.cell {B : Nat} {w : World} {g n c : Nat} {xs : List Nat} (h : OwnB B w g n c xs) (j : Nat) (hj : j < n) : w.cell? ⟨g, j, none⟩ = some (.int .u8 ((xs.getD j 0 : Nat) : Int)) := by
  have := World.ownsRow.cellAt h j (by omega)
  rw [this]
  have := h.len
  simp [show j < xs.length by omega]
theorem OwnB.free {B : Nat} {w : World} {g n c : Nat} {xs : List Nat} (h : OwnB B w g n c xs) (j : Nat) : w.frozen? ⟨g, j, none⟩ = false := World.ownsRow.frozenAt h j
theorem OwnB.low {B : Nat} {w : World} {g n c : Nat} {xs : List Nat} (h : OwnB B w g n c xs) : B ≤ g ∧ g < w.heap.size := World.ownsRow.lt h g rfl
theorem OwnB.row {B : Nat} {w : World} {g n c : Nat} {xs : List Nat} (h : OwnB B w g n c xs) : Row B .u8 w (.slice (some ⟨g, 0, none⟩) n c) xs := Row.ofOwn h
theorem OwnB.stored {B : Nat} {w : World} {g n c : Nat} {xs : List Nat} (h : OwnB B w g n c xs) (j y : Nat) : OwnB B (w.setCell ⟨g, j, none⟩ (.int .u8 (y : Int))) g n c (xs.set j y) := by
  have := (World.ownsRow.stored h j (.int .u8 (y : Int))).1
  unfold OwnB
  rw [List.map_set]
  exact this
theorem ownB_made (w : World) (n c : Nat) (hn : n ≤ c) (hc : c ≤ maxLen) : OwnB w.heap.size (w.alloc (.cells (madeCells #[.int .u8 0] c) 5)) w.heap.size n c (List.replicate n 0) := by
  refine ⟨by simp, .inr ⟨w.heap.size, c, _, rfl, Nat.le_refl _, heap_alloc_new w _, hn, hc, by simp [size_madeCells], ?_⟩⟩
  rw [toList_madeCells_one]
  simp [List.take_replicate]
  omega

/-- The last p of n bytes have been laid: they are the number v. -/
structure Put (n p v : Nat) (ys : List Nat) : Prop where
  len : ys.length = n
  low : ∀ d ∈ ys, d < 256
  sum : bv (ys.drop (n - p)) = v
theorem Put.start (n : Nat) : Put n 0 0 (List.replicate n 0) :=
  ⟨by simp, fun d hd => by have := (List.mem_replicate.1 hd).2; omega, by simp [bv]⟩
theorem Put.step {n p v : Nat} {ys : List Nat} (h : Put n p v ys) (b : Nat) (hb : b < 256) (i : Nat) (hi : i + p + 1 = n) : Put n (p + 1) (v + b * 256 ^ p) (ys.set i b) := by
  have hl := h.len
  refine ⟨by simpa using hl, fun d hm => ?_, ?_⟩
  · rcases List.mem_or_eq_of_mem_set hm with h1 | h1
    · exact h.low d h1
    · rw [h1]; exact hb
  · have hi' : i < (ys.set i b).length := by simp; omega
    have := h.sum
    rw [show n - p = i + 1 from by omega] at this
    rw [show n - (p + 1) = i from by omega, List.drop_eq_getElem_cons hi', bv, List.drop_set_of_lt (by omega), this]
    simp
    rw [show ys.length - (i + 1) = p from by omega]; omega
theorem word_step (V x k j : Nat) : V + W ^ k * (x % 256 ^ j) + x / 256 ^ j % 256 * 256 ^ (8 * k + j) = V + W ^ k * (x % 256 ^ (j + 1)) := by
  have h3 : (256 : Nat) ^ 8 = W := by decide
  rw [Nat.pow_succ 256 j, Nat.mod_mul, Nat.pow_add, Nat.pow_mul, h3, Nat.mul_add, ← Nat.add_assoc]
  congr 1
  rw [Nat.mul_comm, Nat.mul_assoc]
theorem word_done (xs : List Nat) (k : Nat) (hk : k < xs.length) (hx : xs.getD k 0 < W) : wv (xs.take k) + W ^ k * (xs.getD k 0 % 256 ^ 8) = wv (xs.take (k + 1)) := by
  have h3 : (256 : Nat) ^ 8 = W := by decide
  rw [h3, Nat.mod_eq_of_lt hx, List.take_succ_eq_append_getElem hk, wv_append]
  simp [wv, hk, List.length_take, Nat.min_eq_left (Nat.le_of_lt hk)]
theorem word_div (x j : Nat) : x / 256 ^ j / 256 = x / 256 ^ (j + 1) := by rw [Nat.div_div_eq_div_mul, Nat.pow_succ]

/-- What nat.bytes leaves. -/
def BytesPost (B g n c v : Nat) (w : World) (e : Ending) (w' : World) : Prop :=
  ∃ i ys, e = .returned (.int .i64 ((i : Nat) : Int)) ∧ i ≤ n ∧ OwnB B w' g n c ys ∧ (∀ d ∈ ys, d < 256) ∧ bv ys = v ∧ strip ys = ys.drop i ∧ w.grownBy w' (some g)

/-- What Int.Bytes leaves. -/
def MakesBytes (z : Int) (w : World) (e : Ending) (w' : World) : Prop :=
  ∃ v l, e = .returned v ∧ Row w.heap.size .u8 w' v l ∧ IsB z.natAbs l ∧ l.length ≤ 8000 ∧ Below w.heap.size w w'

/-- The last numbers of a row. -/
theorem Row.drop {B : Nat} {k : IntKind} {w : World} {g off n c : Nat} {l : List Nat} (m : Nat) (hm : m < n) (h : Row B k w (.slice (some ⟨g, off, none⟩) n c) l) : Row B k w (.slice (some ⟨g, off + m, none⟩) (n - m) (c - m)) (l.drop m) := by
  rcases h with ⟨rfl, h | ⟨a, c', h⟩⟩ | ⟨h0, g', off', c', h, hc, hB, hg, hcell⟩
  · cases h
  · simp only [Value.slice.injEq, Option.some.injEq] at h
    omega
  · simp only [Value.slice.injEq, Option.some.injEq, Addr.mk.injEq, and_true] at h
    obtain ⟨⟨rfl, rfl⟩, rfl, rfl⟩ := h
    refine .inr ⟨by simp; omega, g, off + m, c - m, by simp, by simp; omega, hB, hg, fun i hi => ?_⟩
    simp at hi
    rw [Nat.add_assoc, hcell (m + i) (by omega)]
    simp

end Go.Proofs.YtgcofpmhojplhaaGreatDoor.Z

/- Written by wip/tools/port2.py out of the text Big11 of seat Ytidkdjnfpepnfaa. -/
/- Walks of the package's ints: get, NewInt, BigInt, Sign, number, IntBack. -/
namespace Go.Proofs.YtgcofpmhojplhaaGreatDoor.Z
open Go.RowKit

set_option maxRecDepth 100000 in
theorem f118_any (a : Int) (p : Option Addr) (w : World) : Calls Tryz.prog 118 #[.agg #[.int .i64 a, .pointer p]] w fun e w' => e = .returned (.tuple #[.int .i64 a, .pointer p]) ∧ Below w.heap.size w w' := by
  go_enter Tryz.func118, Tryz.ntmps118
  go_wp2_with fail
  go_quiet (fail)
  go_wp2
  refine bodyPost_ret (v := .tuple #[.int .i64 a, .pointer p]) (by simp [results, Tryz.results118, go_sem]) rfl ?_
  exact ⟨rfl, below_drewN ((Below.refl _ _).alloc (Nat.le_refl _) _) _⟩

def MakesB (z : Int) (w : World) (e : Ending) (w' : World) : Prop :=
  ∃ g sl xs, e = .returned (.pointer (some ⟨g, 0, none⟩)) ∧ w.heap.size ≤ g ∧ BInt w.heap.size w' g z sl xs ∧ Below w.heap.size w w'

/-- The sign of an integer. -/
def sgn (z : Int) : Int := if z = 0 then 0 else if z < 0 then -1 else 1

set_option maxRecDepth 100000 in
theorem f127_any (B g : Nat) (z : Int) (sl : Value) (xs : List Nat) (w : World) (hx : BInt B w g z sl xs) :
    Calls Tryz.prog 127 #[.pointer (some ⟨g, 0, none⟩)] w fun e w' => e = .returned (.int .i64 (sgn z)) ∧ w = w' := by
  have x0 := hx.neg
  have x1 := hx.abs
  obtain ⟨a, k, rfl⟩ := hx.row.len
  have HZ := Lib.hid hx.num.zero
  clear hx
  by_cases h0 : xs.length = 0
  · have e0 : Hid (sgn z = 0) := by
      have : z.natAbs = 0 := HZ.out.2 (List.eq_nil_of_length_eq_zero h0)
      show _ = _
      unfold sgn; simp; omega
    rw [h0] at x1
    go_enter Tryz.func127, Tryz.ntmps127
    go_wp2
    go_ret
    exact ⟨ret_int e0.out.symm, rfl⟩
  · have hz : z ≠ 0 := by
      rintro rfl
      have := HZ.out.1 rfl
      simp [this] at h0
    have hpos : (0 : Int) < xs.length := by omega
    have hne : ((xs.length : Int) == 0) = false := by rw [beq_eq_false_iff_ne]; omega
    by_cases hn : z < 0
    · have e0 : Hid (sgn z = -1) := by show _ = _; unfold sgn; simp [hz, hn]
      have hd : decide (z < 0) = true := by simpa using hn
      rw [hd] at x0
      clear hd hn hz h0
      go_enter Tryz.func127, Tryz.ntmps127
      go_wp2
      go_ret
      exact ⟨ret_int e0.out.symm, rfl⟩
    · have e0 : Hid (sgn z = 1) := by show _ = _; unfold sgn; simp [hz, hn]
      have hd : decide (z < 0) = false := by simpa using hn
      rw [hd] at x0
      clear hd hn hz h0
      go_enter Tryz.func127, Tryz.ntmps127
      go_wp2
      go_ret
      exact ⟨ret_int e0.out.symm, rfl⟩

theorem made_one (w : World) (z : Int) (m : Nat) (b : Bool) (hm : m = z.natAbs) (hz : z ≠ 0) (hb : decide (z < 0) = b) (hW : m < W) :
    BInt w.heap.size ((w.alloc (.cells #[.int .u64 (m : Int)] 225)).alloc (.cells #[.bool b, .slice (some ⟨w.heap.size, 0, none⟩) 1 1] 196)) (w.heap.size + 1) z (.slice (some ⟨w.heap.size, 0, none⟩) 1 1) [m] := by
  subst hm hb
  refine ⟨by simpa using heap_alloc_new (w.alloc (.cells #[.int .u64 (z.natAbs : Int)] 225)) _, ?_, isW_one _ (by omega) hW, by simp⟩
  refine Row.alloc (.inr ⟨by simp, w.heap.size, 0, 1, by simp, by simp, Nat.le_refl _, by simp, fun i hi => ?_⟩) _
  simp at hi
  subst hi
  simp [go_sem]

theorem sgn_lt (z : Int) : decide (sgn z < 0) = decide (z < 0) := by
  unfold sgn; rw [Bool.eq_iff_iff]; simp; split <;> (try split) <;> omega

theorem VInt.shape {B n : Nat} {w : World} {v : Value} {z : Int} (h : VInt B n w v z) : ∃ d a k c, v = .agg #[.int .i64 2, .bool d, .slice a k c, .int .u64 0, .string ⟨#[]⟩, .slice none 0 0] := by
  obtain ⟨sl, l, rfl, hr, _⟩ := h
  obtain ⟨a, c, rfl⟩ := hr.len
  exact ⟨_, _, _, _, rfl⟩

end Go.Proofs.YtgcofpmhojplhaaGreatDoor.Z

/- Written by wip/tools/port2.py out of the text IbWalk of seat Ytidkdjnfpepnfaa. -/
/- The walk of laws.FnIntBack; what the laws are told of their bytes. -/
namespace Go.Proofs.YtgcofpmhojplhaaGreatDoor.Z
open Go.RowKit

/-- A slice of bytes that came in, as a list of numbers. -/
theorem IsRow.toRow {w : World} {a : Option Addr} {len cap : Nat} {zs : List Int} (h : IsRow .u8 w a len cap zs) :
    ∃ l : List Nat, l.length = len ∧ (∀ d ∈ l, d < 256) ∧ Row 0 .u8 w (.slice a len cap) l := by
  rcases h with ⟨rfl, rfl, rfl, rfl⟩ | ⟨x, rfl, h1, h2, h3, h4, h5⟩
  · exact ⟨[], rfl, by simp, .inl ⟨rfl, .inl rfl⟩⟩
  · by_cases h0 : len = 0
    · subst h0
      exact ⟨[], rfl, by simp, .inl ⟨rfl, .inr ⟨_, _, rfl⟩⟩⟩
    · have hwf : ∀ i, i < zs.length → 0 ≤ zs.getD i 0 ∧ zs.getD i 0 < 256 := fun i hi => by
        have := h5 (zs.getD i 0) (by simp [hi])
        generalize zs.getD i 0 = y at *
        simp [Lit.wf, show IntKind.u8.min = 0 from by decide, show IntKind.u8.max = 255 from by decide] at this
        omega
      have hx : x.spot = none := by
        have := h4 0 (by omega)
        have hx0 : x.add 0 = x := by simp [Addr.add]
        rw [hx0] at this
        unfold World.cell? at this
        split at this
        · cases hsp : x.spot with
          | none => rfl
          | some s => simp [hsp] at this
        · cases this
      obtain ⟨g, off, sp⟩ := x
      simp only at hx
      subst hx
      have hadd : ∀ i, (⟨g, off, none⟩ : Addr).add i = ⟨g, off + i, none⟩ := fun i => by unfold Addr.add; split <;> simp_all
      refine ⟨(zs.take len).map Int.toNat, by simp; omega, fun d hd => ?_, .inr ⟨by simp; omega, g, off, cap, ?_, by simp; omega, Nat.zero_le _, ?_, fun i hi => ?_⟩⟩
      · obtain ⟨y, hy, rfl⟩ := List.mem_map.1 hd
        obtain ⟨i, hi, rfl⟩ := List.getElem_of_mem (List.mem_of_mem_take hy)
        have := hwf i hi
        simp [hi] at this
        omega
      · simp [Nat.min_eq_left (show len ≤ zs.length by omega)]
      · have := h4 0 (by omega)
        rw [hadd] at this
        exact World.block_lt_of_cell? w ⟨g, off + 0, none⟩ this
      · simp at hi
        have h6 := h4 i (by omega)
        have h7 := hwf i (by omega)
        rw [hadd] at h6
        rw [h6]
        have h8 : i < zs.length := by omega
        have h9 : i < len := by omega
        simp [h8] at h7
        simp [h8, h9]
        omega

theorem SInt.shape {B n : Nat} {w : World} {v : Value} {z : Int} (h : SInt B n w v z) : ∃ d a k c, v = .agg #[.bool d, .slice a k c] := by
  obtain ⟨sl, l, rfl, hr, _⟩ := h
  obtain ⟨a, c, rfl⟩ := hr.len
  exact ⟨_, _, _, _, rfl⟩
theorem VInt.drew {B n : Nat} {w : World} {v : Value} {z : Int} (h : VInt B n w v z) : VInt B n w.drew v z := h
theorem SInt.drew {B n : Nat} {w : World} {v : Value} {z : Int} (h : SInt B n w v z) : SInt B n w.drew v z := h

end Go.Proofs.YtgcofpmhojplhaaGreatDoor.Z

/- Written by wip/tools/port2.py out of the text Sp4 of seat Ytidkdjnfpepnfaa. -/
/- Walks of the reference's magnitudes: digit, sum; the plain laws behind them. -/
namespace Go.Proofs.YtgcofpmhojplhaaGreatDoor.Z
open Go.RowKit

/-- The digit at a place, the lowest place first. -/
def dg (l : List Nat) (i : Nat) : Nat := if i < l.length then l.getD (l.length - 1 - i) 0 else 0
/-- The number of the lowest p digits. -/
def lo (l : List Nat) (p : Nat) : Nat := bv (l.drop (l.length - p))
theorem lo_zero (l : List Nat) : lo l 0 = 0 := by simp [lo, bv]
theorem lo_all (l : List Nat) (p : Nat) (h : l.length ≤ p) : lo l p = bv l := by simp [lo, show l.length - p = 0 from by omega]
theorem lo_succ (l : List Nat) (p : Nat) : lo l (p + 1) = lo l p + dg l p * 256 ^ p := by
  by_cases h : p < l.length
  · have h1 : l.length - (p + 1) < l.length := by omega
    have h2 : l.length - (p + 1) = l.length - 1 - p := by omega
    have h3 : l.length - 1 - p < l.length := by omega
    have h4 : l.length - 1 - p + 1 = l.length - p := by omega
    simp only [lo, dg, h, if_true]
    rw [h2, List.drop_eq_getElem_cons h3, bv, h4]
    simp [h3]
    rw [show l.length - (l.length - p) = p from by omega]; omega
  · rw [lo_all l (p + 1) (by omega), lo_all l p (by omega)]
    simp [dg, h]
theorem dg_lt (l : List Nat) (hd : ∀ d ∈ l, d < 256) (i : Nat) : dg l i < 256 := by
  unfold dg
  split
  · have h3 : l.length - 1 - i < l.length := by omega
    simp [h3]; exact hd _ (List.getElem_mem h3)
  · omega

set_option maxRecDepth 100000 in
theorem f107_any (v : Value) (l : List Nat) (hl : l.length ≤ 2147483647) (hd : ∀ d ∈ l, d < 256) (B i : Nat) (w : World) (hr : Row B .u8 w v l) :
    Calls Tryz.prog 107 #[v, .int .i64 i] w fun e w' => e = .returned (.int .i64 (dg l i : Nat)) ∧ w = w' := by
  by_cases hi : i < l.length
  · rcases hr with ⟨rfl, _⟩ | ⟨h0, g, off, c, rfl, hc, hB, hg, hcell⟩
    · simp at hi
    · have e1 := hcell (l.length - 1 - i) (by omega)
      have e2 : Hid (dg l i = l.getD (l.length - 1 - i) 0) := by show _ = _; simp [dg, hi]
      have e3 : ((l.length : Int) - 1 - i) = ((l.length - 1 - i : Nat) : Int) := by omega
      have e4 : l.length - 1 - i < l.length := by omega
      have hi' : (i : Int) < l.length := by omega
      have hx : l.getD (l.length - 1 - i) 0 < 256 := by simp [e4]; exact hd _ (List.getElem_mem e4)
      clear hcell hd
      generalize l.getD (l.length - 1 - i) 0 = x at *
      generalize l.length - 1 - i = q at *
      go_enter Tryz.func107, Tryz.ntmps107
      go_wp2
      go_ret
      exact ⟨by rw [e2.out]; rfl, rfl⟩
  · have e2 : Hid (dg l i = 0) := by show _ = _; simp [dg, hi]
    obtain ⟨a, c, rfl⟩ := hr.len
    have hi' : ¬ (i : Int) < l.length := by omega
    clear hr
    go_enter Tryz.func107, Tryz.ntmps107
    go_wp2
    go_ret
    exact ⟨by rw [e2.out]; rfl, rfl⟩


/-- What makes a magnitude leaves. -/
def MakesMag (n : Nat) (w : World) (e : Ending) (w' : World) : Prop :=
  ∃ v l, e = .returned v ∧ Row w.heap.size .u8 w' v l ∧ IsB n l ∧ Below w.heap.size w w'

theorem sum_step (v c p x y : Nat) (A B : Nat) (h : v + c * 256 ^ p = A + B) : v + (x + y + c) % 256 * 256 ^ p + (x + y + c) / 256 * 256 ^ (p + 1) = A + x * 256 ^ p + (B + y * 256 ^ p) := by
  have h1 : (x + y + c) % 256 * 256 ^ p + (x + y + c) / 256 * 256 ^ (p + 1) = (x + y + c) * 256 ^ p := by
    have := Nat.mod_add_div (x + y + c) 256
    rw [Nat.pow_succ, Nat.mul_comm (256 ^ p) 256, ← Nat.mul_assoc, ← Nat.add_mul]
    congr 1; omega
  have h2 : (x + y + c) * 256 ^ p = x * 256 ^ p + y * 256 ^ p + c * 256 ^ p := by rw [Nat.add_mul, Nat.add_mul]
  omega
theorem Put.lt {n p v : Nat} {ys : List Nat} (h : Put n p v ys) (hp : p ≤ n) : v < 256 ^ p := by
  have := bv_lt (ys.drop (n - p)) (fun d hd => h.low d (List.mem_of_mem_drop hd))
  rw [h.sum, List.length_drop, h.len, show n - (n - p) = p from by omega] at this
  exact this

end Go.Proofs.YtgcofpmhojplhaaGreatDoor.Z

/- Written by wip/tools/port2.py out of the text Sp5 of seat Ytidkdjnfpepnfaa. -/
/- Walks of the reference's magnitudes: order, less. -/
namespace Go.Proofs.YtgcofpmhojplhaaGreatDoor.Z
open Go.RowKit

/-- How two numbers stand. -/
def ord3 (a b : Nat) : Int := if a < b then -1 else if a = b then 0 else 1
theorem ord3_lt {a b : Nat} (h : a < b) : ord3 a b = -1 := by simp [ord3, h]
theorem ord3_gt {a b : Nat} (h : b < a) : ord3 a b = 1 := by simp [ord3, show ¬ a < b by omega, show a ≠ b by omega]
theorem ord3_eq (a : Nat) : ord3 a a = 0 := by simp [ord3]
theorem IsB.lt_of_len {n m : Nat} {l k : List Nat} (h1 : IsB n l) (h2 : IsB m k) (h : l.length < k.length) : n < m := by
  cases k with
  | nil => simp at h
  | cons a r =>
    have h3 := h1.lt
    have h4 := h2.ge
    have h5 : 256 ^ l.length ≤ 256 ^ r.length := Nat.pow_le_pow_right (by decide) (by simp at h; omega)
    omega
theorem bv_lt_at (l k : List Nat) (hl : l.length = k.length) (hd1 : ∀ d ∈ l, d < 256) (q : Nat) (hq : q < l.length) (h : ∀ i, i < q → l.getD i 0 = k.getD i 0) (hx : l.getD q 0 < k.getD q 0) : bv l < bv k := by
  have h1 : l.take q = k.take q := by
    apply List.ext_getElem
    · simp; omega
    · intro i a b
      simp at a b
      have := h i (by omega)
      simp [show i < l.length by omega, show i < k.length by omega] at this
      simpa using this
  have e1 : l = l.take q ++ (l.getD q 0 :: l.drop (q + 1)) := by
    have : l.drop q = l.getD q 0 :: l.drop (q + 1) := by rw [List.drop_eq_getElem_cons hq]; simp [hq]
    rw [← this, List.take_append_drop]
  have hk : q < k.length := by omega
  have e2 : k = k.take q ++ (k.getD q 0 :: k.drop (q + 1)) := by
    have : k.drop q = k.getD q 0 :: k.drop (q + 1) := by rw [List.drop_eq_getElem_cons hk]; simp [hk]
    rw [← this, List.take_append_drop]
  have h5 := bv_lt (l.drop (q + 1)) (fun d hd => hd1 d (List.mem_of_mem_drop hd))
  generalize l.getD q 0 = x at *
  generalize k.getD q 0 = y at *
  rw [e1, e2, h1, bv_append, bv_append]
  have h3 : (x :: l.drop (q + 1)).length = (y :: k.drop (q + 1)).length := by simp; omega
  rw [h3]
  have h4 : (l.drop (q + 1)).length = (k.drop (q + 1)).length := by simp; omega
  simp only [bv]
  rw [h4] at h5 ⊢
  have h6 : (x + 1) * 256 ^ (k.drop (q + 1)).length ≤ y * 256 ^ (k.drop (q + 1)).length := Nat.mul_le_mul_right _ hx
  rw [Nat.add_mul] at h6
  omega
theorem eq_of_all (l k : List Nat) (hl : l.length = k.length) (h : ∀ i, i < l.length → l.getD i 0 = k.getD i 0) : l = k := by
  apply List.ext_getElem hl
  intro i a b
  have := h i a
  simpa [a, b] using this

set_option maxRecDepth 100000 in
set_option maxHeartbeats 1000000 in
theorem f68_any (v1 v2 : Value) (l1 l2 : List Nat) (n1 n2 : Nat) (h1 : IsB n1 l1) (h2 : IsB n2 l2) (hl1 : l1.length ≤ 100000) (hl2 : l2.length ≤ 100000) (B : Nat) (w : World) (hr1 : Row B .u8 w v1 l1) (hr2 : Row B .u8 w v2 l2) :
    Calls Tryz.prog 68 #[v1, v2] w fun e w' => e = .returned (.int .i64 (ord3 n1 n2)) ∧ ∃ m, w' = w.drewN m := by
  by_cases hne : l1.length = l2.length
  · by_cases h0 : l1.length = 0
    · have e1 : l1 = [] := List.eq_nil_of_length_eq_zero h0
      have e2 : l2 = [] := List.eq_nil_of_length_eq_zero (by omega)
      have F : Hid (ord3 n1 n2 = 0) := by
        show _ = _
        rw [h1.zero.2 e1, h2.zero.2 e2]; exact ord3_eq 0
      subst e1 e2
      obtain ⟨a1, c1, rfl⟩ := hr1.len
      obtain ⟨a2, c2, rfl⟩ := hr2.len
      clear hr1 hr2 h1 h2 h0 hne
      go_enter Tryz.func68, Tryz.ntmps68
      go_wp2
      go_loopw [5] (fun i wr => i = .int .i64 0 ∧ wr = w) (fun _ _ => 0)
      case atStart => exact ⟨rfl, rfl⟩
      case round =>
        obtain ⟨rfl, rfl⟩ := hrel
        go_wp2
        go_ret
        exact ⟨ret_int F.out.symm, 0, rfl⟩
    · rcases hr1 with ⟨rfl, _⟩ | ⟨_, g1, o1, c1, rfl, _, _, _, hc1⟩
      · simp at h0
      rcases hr2 with ⟨rfl, _⟩ | ⟨_, g2, o2, c2, rfl, _, _, _, hc2⟩
      · exact absurd hne h0
      have H1 := Lib.hid h1
      have H2 := Lib.hid h2
      have HC1 := Lib.hid hc1
      have HC2 := Lib.hid hc2
      have HE := Lib.hid hne
      rw [← hne]
      clear h1 h2 hc1 hc2 hne
      go_enter Tryz.func68, Tryz.ntmps68
      go_wp2
      go_loopw [5] (fun i wr => ∃ k : Nat, i = .int .i64 k ∧ k ≤ l1.length ∧ Hid (∀ j, j < k → l1.getD j 0 = l2.getD j 0) ∧ ∃ m, wr = w.drewN m) (fun i _ => l1.length - (intOf i).toNat)
      case atStart => exact ⟨0, rfl, Nat.zero_le _, fun j hj => by omega, 0, rfl⟩
      case round =>
        obtain ⟨k, rfl, hk, HZ, m, rfl⟩ := hrel
        by_cases hlt : k < l1.length
        · have e1 := HC1.out k hlt
          have e2 := HC2.out k (by rw [← HE.out]; exact hlt)
          by_cases hxy : l1.getD k 0 = l2.getD k 0
          · have HZ' : Hid (∀ j, j < k + 1 → l1.getD j 0 = l2.getD j 0) := fun j hj => by
              by_cases h : j = k
              · subst h; exact hxy
              · exact HZ.out j (by omega)
            rw [hxy] at e1
            clear hxy
            generalize l2.getD k 0 = x at *
            go_wp2
            go_quiet (fail)
            go_wp2
            go_roundw
            case rel => exact ⟨k + 1, by go_num, by omega, HZ', by first | exact ⟨_, rfl⟩ | (simp only [World.drewN_drewN]; exact ⟨_, rfl⟩)⟩
            case measure => simp [intOf]; omega
          · have hne1 : (((l1.getD k 0 : Nat) : Int) == ((l2.getD k 0 : Nat) : Int)) = false := by rw [beq_eq_false_iff_ne]; omega
            by_cases hlt2 : l1.getD k 0 < l2.getD k 0
            · have F : Hid (ord3 n1 n2 = -1) := by
                show _ = _
                refine ord3_lt ?_
                rw [← H1.out.val, ← H2.out.val]
                exact bv_lt_at l1 l2 HE.out H1.out.low k hlt HZ.out hlt2
              have hlt3 : ((l1.getD k 0 : Nat) : Int) < ((l2.getD k 0 : Nat) : Int) := by omega
              generalize l1.getD k 0 = x at *
              generalize l2.getD k 0 = y at *
              clear hxy hlt2
              go_wp2
              go_quiet (fail)
              go_wp2
              go_quiet (fail)
              go_wp2
              go_ret
              exact ⟨ret_int F.out.symm, by first | exact ⟨_, rfl⟩ | (simp only [World.drewN_drewN]; exact ⟨_, rfl⟩)⟩
            · have F : Hid (ord3 n1 n2 = 1) := by
                show _ = _
                refine ord3_gt ?_
                rw [← H1.out.val, ← H2.out.val]
                exact bv_lt_at l2 l1 HE.out.symm H2.out.low k (by rw [← HE.out]; exact hlt) (fun i hi => (HZ.out i hi).symm) (by omega)
              have hlt3 : ¬ ((l1.getD k 0 : Nat) : Int) < ((l2.getD k 0 : Nat) : Int) := by omega
              generalize l1.getD k 0 = x at *
              generalize l2.getD k 0 = y at *
              clear hxy hlt2
              go_wp2
              go_quiet (fail)
              go_wp2
              go_quiet (fail)
              go_wp2
              go_ret
              exact ⟨ret_int F.out.symm, by first | exact ⟨_, rfl⟩ | (simp only [World.drewN_drewN]; exact ⟨_, rfl⟩)⟩
        · obtain rfl : k = l1.length := by omega
          have F : Hid (ord3 n1 n2 = 0) := by
            show _ = _
            rw [← H1.out.val, ← H2.out.val, eq_of_all l1 l2 HE.out HZ.out]; exact ord3_eq _
          go_wp2
          go_ret
          exact ⟨ret_int F.out.symm, m, rfl⟩
  · obtain ⟨a1, c1, rfl⟩ := hr1.len
    obtain ⟨a2, c2, rfl⟩ := hr2.len
    clear hr1 hr2
    have hb : ((l1.length : Int) == (l2.length : Int)) = false := by rw [beq_eq_false_iff_ne]; omega
    by_cases hlt : l1.length < l2.length
    · have F : Hid (ord3 n1 n2 = -1) := ord3_lt (h1.lt_of_len h2 hlt)
      have hlt3 : (l1.length : Int) < l2.length := by omega
      clear h1 h2 hne
      go_enter Tryz.func68, Tryz.ntmps68
      go_wp2
      go_ret
      exact ⟨ret_int F.out.symm, 0, rfl⟩
    · have F : Hid (ord3 n1 n2 = 1) := ord3_gt (h2.lt_of_len h1 (by omega))
      have hlt3 : ¬ (l1.length : Int) < l2.length := by omega
      clear h1 h2 hne
      go_enter Tryz.func68, Tryz.ntmps68
      go_wp2
      go_ret
      exact ⟨ret_int F.out.symm, 0, rfl⟩

theorem less_step (v b p x y d b' : Nat) (A B : Nat) (h : v + B = A + b * 256 ^ p) (hd : d + y + b = x + 256 * b') : v + d * 256 ^ p + (B + y * 256 ^ p) = A + x * 256 ^ p + b' * 256 ^ (p + 1) := by
  have h1 : d * 256 ^ p + y * 256 ^ p + b * 256 ^ p = x * 256 ^ p + b' * 256 ^ (p + 1) := by
    rw [Nat.pow_succ, Nat.mul_comm (256 ^ p) 256, ← Nat.mul_assoc, ← Nat.add_mul, ← Nat.add_mul, ← Nat.add_mul, hd, Nat.mul_comm 256 b']
  omega

end Go.Proofs.YtgcofpmhojplhaaGreatDoor.Z

/- Written by wip/tools/port2.py out of the text OuWalk of seat Ytidkdjnfpepnfaa. -/
/- The walk of laws.FnIntOfU64: the reference's small integers, the package's MakeUint64. -/
namespace Go.Proofs.YtgcofpmhojplhaaGreatDoor.Z
open Go.RowKit

theorem byte_step (u p : Nat) : u % 256 ^ p + u / 256 ^ p % 256 * 256 ^ p = u % 256 ^ (p + 1) := by
  rw [Nat.pow_succ 256 p, Nat.mod_mul, Nat.mul_comm (256 ^ p)]

set_option maxRecDepth 100000 in
set_option maxHeartbeats 1000000 in
theorem f19_any (u : Nat) (hu : u < 18446744073709551616) (w : World) :
    Calls Tryz.prog 19 #[.int .u64 u] w fun e w' => ∃ v ys, e = .returned v ∧ Row w.heap.size .u8 w' v ys ∧ ys.length = 8 ∧ (∀ d ∈ ys, d < 256) ∧ bv ys = u ∧ Below w.heap.size w w' := by
  obtain ⟨i0, hi, hz0, hz1, hz2⟩ := info_parts info5
  have hmk := fun w : World => run_make (P := Tryz.prog) w 25 5 i0 (.int .u8 0) Tryz.underlying25 hi hz0 .i64 .i64 8 8 (by omega) (by omega) (by rw [hz2]; omega) (by omega)
  simp only [hz1, show (8 : Int).toNat = 8 from rfl, Nat.mul_one] at hmk
  have HO := Lib.hid (ownB_made w 8 8 (Nat.le_refl _) (by simp [maxLen]))
  go_enter Tryz.func19, Tryz.ntmps19
  go_wp2_with fail
  go_loopw [0, 4] (fun vu vi wr => ∃ p d : Nat, vu = .int .u64 d ∧ vi = .int .i64 (7 - (p : Int)) ∧ p ≤ 8 ∧ Hid (d = u / 256 ^ p) ∧ ∃ ys, Hid (Put 8 p (u % 256 ^ p) ys) ∧ Hid (OwnB w.heap.size wr w.heap.size 8 8 ys) ∧ Hid (Below w.heap.size w wr)) (fun _ vi _ => (1 + intOf vi).toNat)
  case atStart => exact ⟨0, u, rfl, rfl, by omega, by show _ = _; simp, _, by show Put _ _ _ _; simpa [Nat.mod_one] using Put.start 8, HO.out, (Below.refl _ _).alloc (Nat.le_refl _) _⟩
  case round =>
    obtain ⟨p, d, rfl, rfl, hp, HD, ys, HP, HOr, HB⟩ := hrel
    by_cases hp8 : p < 8
    · have hq : 7 - p < 8 := by omega
      have eq : (7 - (p : Int)) = ((7 - p : Nat) : Int) := by omega
      have HI : Hid (7 - p + p + 1 = 8) := by show _ = _; omega
      generalize 7 - p = q at *
      have zc := HOr.out.cell q hq
      have zf := HOr.out.free q
      have HO' := Lib.hid (HOr.out.stored q (d % 256))
      have HP' : Hid (Put 8 (p + 1) (u % 256 ^ (p + 1)) (ys.set q (d % 256))) := by
        have := HP.out.step (d % 256) (by omega) q HI.out
        rw [HD.out, byte_step] at this
        show Put _ _ _ _
        rw [HD.out]; exact this
      have HD' : Hid (d / 256 = u / 256 ^ (p + 1)) := by show _ = _; rw [HD.out, word_div]
      generalize ys.getD q 0 = y0 at *
      have hge : (0 : Int) ≤ 7 - (p : Int) := by omega
      clear HD HP
      go_wp2
      exact ⟨⟨p + 1, d / 256, by go_num, congrArg (Value.int .i64) (by omega), by omega, HD', _, HP', by show OwnB _ _ _ _ _ _; simpa using HO'.out, HB.out.setCell (p := ⟨w.heap.size, q, none⟩) (Nat.le_refl _) _⟩, by simp [intOf]; omega⟩
    · obtain rfl : p = 8 := by omega
      have HV : Hid (bv ys = u) := by
        have := HP.out.sum
        rw [Nat.sub_self] at this
        show bv ys = u
        rw [show bv ys = bv (ys.drop 0) from rfl, this]
        exact Nat.mod_eq_of_lt hu
      go_wp2
      go_ret
      exact ⟨_, ys, rfl, HOr.out.row, HOr.out.len, HP.out.low, HV.out, HB.out⟩

set_option maxRecDepth 100000 in
set_option maxHeartbeats 1000000 in
theorem f10_any (u : Nat) (hu : u < 9223372036854775808) (w : World) : Calls Tryz.prog 10 #[.int .i64 u] w (MakesS 8 u w) := by
  go_enter Tryz.func10, Tryz.ntmps10
  go_wp2_with fail
  refine (f19_any u (by omega) _).mono ?_
  rintro e w1 ⟨v, ys, rfl, hr, hl, hd, hv, hb⟩
  have HR := Lib.hid hr
  have HD := Lib.hid hd
  have HV := Lib.hid hv
  have HL := Lib.hid hl
  have HB : Hid (Below (w.heap.size + 1) _ w1) := hb.mono (by simp)
  have hz1 : w.heap.size + 1 ≤ w1.heap.size := by have := hb.size; simpa using this
  clear hr hd hv hl hb
  go_wp2_with fail
  refine (f18_any false v ys (by rw [HL.out]; omega) HD.out _ _ HR.out).mono ?_
  rintro e w2 ⟨v2, rfl, hs, hb⟩
  obtain ⟨d2, a2, k2, c2, rfl⟩ := hs.shape
  have HS := Lib.hid (hs.le (B' := w.heap.size + 1) (m := 8) hz1 (by have := strip_len ys; have := HL.out; omega))
  have HB2 := Lib.hid (HB.out.trans (hb.mono hz1))
  obtain ⟨c0, f0⟩ := later HB2.out (by omega)
  have HQ : Hid (signed false (bv ys) = (u : Int)) := by show _ = _; rw [HV.out]; rfl
  clear hs hb HR HB
  go_wp2_with fail
  refine bodyPost_ret (v := .agg #[.bool d2, .slice a2 k2 c2]) (by simp [results, Tryz.results10, go_sem, c0]) rfl ?_
  refine ⟨_, rfl, ?_, ?_⟩
  · rw [← HQ.out]
    refine SInt.le (B := w.heap.size + 1) (n := 8) ?_ (by omega) (Nat.le_refl _)
    iterate 2 (refine SInt.setOld ?_ (show w.heap.size < w.heap.size + 1 by omega) _)
    exact HS.out
  · iterate 2 (refine Below.setCell ?_ (show w.heap.size ≤ w.heap.size by omega) _)
    exact ((Below.refl _ _).alloc (Nat.le_refl _) _).trans (HB2.out.mono (by omega))

set_option maxRecDepth 100000 in
set_option maxHeartbeats 1000000 in
theorem f141_any (x : Nat) (hx : x < W) (w : World) : Calls Tryz.prog 141 #[.slice none 0 0, .int .u64 x] w (MakesNat x w) := by
  by_cases h0 : x = 0
  · subst h0
    go_enter Tryz.func141, Tryz.ntmps141
    go_wp2
    go_ret
    exact ⟨_, [], rfl, .inl ⟨rfl, .inl rfl⟩, isW_nil, Below.refl _ _⟩
  · have hne : ((x : Int) == 0) = false := by rw [beq_eq_false_iff_ne]; omega
    have HW := Lib.hid (isW_one x h0 hx)
    clear h0 hx
    go_enter Tryz.func141, Tryz.ntmps141
    go_wp2_with fail
    refine (f121_any 1 (by omega) (by omega) _).mono ?_
    rintro e w1 ⟨g, c, rfl, ho, hb⟩
    have hlow := ho.low
    have hcap := ho.cap
    have zc := ho.cell 0 (by omega)
    have zf := ho.free 0
    have HO' := Lib.hid (ho.stored 0 x)
    have HB := Lib.hid hb
    have HE : Hid ((List.replicate 1 0).set 0 x = [x]) := rfl
    simp only [List.replicate, List.getD_cons_zero] at zc
    clear ho hb
    go_wp2_with fail
    go_ret
    refine ⟨_, [x], rfl, ?_, HW.out, HB.out.setCell (p := ⟨g, 0, none⟩) hlow.1 _⟩
    rw [← HE.out]
    exact HO'.out.row

set_option maxRecDepth 100000 in
theorem f138_any (x : Nat) (hx : x < W) (w : World) : Calls Tryz.prog 138 #[.slice none 0 0, .int .u64 x] w (MakesNat x w) := by
  have HF := Lib.hid (f141_any x hx w)
  clear hx
  go_enter Tryz.func138, Tryz.ntmps138
  go_wp2_with fail
  refine HF.out.mono ?_
  rintro e w1 ⟨v, xs, rfl, hr, hw, hb⟩
  have HR := Lib.hid hr
  have HW := Lib.hid hw
  have HB := Lib.hid hb
  clear hr hw hb
  go_wp2_with fail
  go_ret
  exact ⟨v, xs, rfl, HR.out, HW.out, HB.out⟩

end Go.Proofs.YtgcofpmhojplhaaGreatDoor.Z

/- The walk of the reference: a small integer of either sign. -/

namespace Go.Proofs.YtgcofpmhojplhaaGreatDoor.Z
open Go.RowKit
theorem wrap_back (m : Nat) (hu : m ≤ 9223372036854775808) : IntKind.u64.wrap (-IntKind.u64.wrap (-(m : Int))) = (m : Int) := by
  simp [IntKind.wrap, IntKind.bits, IntKind.signed]
  omega
set_option maxRecDepth 100000 in
set_option maxHeartbeats 1000000 in
theorem f10_neg (m : Nat) (h0 : 0 < m) (hu : m ≤ 9223372036854775808) (w : World) : Calls Tryz.prog 10 #[.int .i64 (-(m : Int))] w (MakesS 8 (-(m : Int)) w) := by
  have hneg : (-(m : Int)) < 0 := by omega
  go_enter Tryz.func10, Tryz.ntmps10
  go_wp2_with fail
  rw [wrap_back m hu]
  refine (f19_any m (by omega) _).mono ?_
  rintro e w1 ⟨v, ys, rfl, hr, hl, hd, hv, hb⟩
  have HR := Lib.hid hr
  have HD := Lib.hid hd
  have HV := Lib.hid hv
  have HL := Lib.hid hl
  have HB : Hid (Below (w.heap.size + 1) _ w1) := hb.mono (by simp)
  have hz1 : w.heap.size + 1 ≤ w1.heap.size := by have := hb.size; simpa using this
  clear hr hd hv hl hb
  go_wp2_with fail
  refine (f18_any true v ys (by rw [HL.out]; omega) HD.out _ _ HR.out).mono ?_
  rintro e w2 ⟨v2, rfl, hs, hb⟩
  obtain ⟨d2, a2, k2, c2, rfl⟩ := hs.shape
  have HS := Lib.hid (hs.le (B' := w.heap.size + 1) (m := 8) hz1 (by have := strip_len ys; have := HL.out; omega))
  have HB2 := Lib.hid (HB.out.trans (hb.mono hz1))
  obtain ⟨c0, f0⟩ := later HB2.out (by omega)
  have HQ : Hid (signed true (bv ys) = -(m : Int)) := by show _ = _; rw [HV.out]; rfl
  clear hs hb HR HB
  go_wp2_with fail
  refine bodyPost_ret (v := .agg #[.bool d2, .slice a2 k2 c2]) (by simp [results, Tryz.results10, go_sem, c0]) rfl ?_
  refine ⟨_, rfl, ?_, ?_⟩
  · rw [← HQ.out]
    refine SInt.le (B := w.heap.size + 1) (n := 8) ?_ (by omega) (Nat.le_refl _)
    iterate 2 (refine SInt.setOld ?_ (show w.heap.size < w.heap.size + 1 by omega) _)
    exact HS.out
  · iterate 2 (refine Below.setCell ?_ (show w.heap.size ≤ w.heap.size by omega) _)
    exact ((Below.refl _ _).alloc (Nat.le_refl _) _).trans (HB2.out.mono (by omega))
/-- A small integer, whatever its sign. -/
theorem f10_int (z : Int) (h0 : -9223372036854775808 ≤ z) (h1 : z < 9223372036854775808) (w : World) : Calls Tryz.prog 10 #[.int .i64 z] w (MakesS 8 z w) := by
  rcases Int.lt_or_le z 0 with h | h
  · have := f10_neg z.natAbs (by omega) (by omega) w
    rw [show -((z.natAbs : Nat) : Int) = z by omega] at this
    exact this
  · have := f10_any z.natAbs (by omega) w
    rw [show ((z.natAbs : Nat) : Int) = z by omega] at this
    exact this
end Go.Proofs.YtgcofpmhojplhaaGreatDoor.Z

/- Written by wip/tools/port2.py out of the text Sp7 of seat Ytidkdjnfpepnfaa. -/
/- Walks of the reference's Power, Zero. -/
namespace Go.Proofs.YtgcofpmhojplhaaGreatDoor.Z
open Go.RowKit

theorem bv_zeros (k : Nat) : bv (List.replicate k 0) = 0 := by
  induction k with
  | zero => rfl
  | succ k ih => simp [List.replicate_succ, bv, ih]

set_option maxRecDepth 100000 in
theorem f80_any (v : Value) (z : Int) (B k : Nat) (w : World) (hx : SInt B k w v z) : Calls Tryz.prog 80 #[v] w fun e w' => e = .returned (.bool (decide (z = 0))) ∧ Below w.heap.size w w' := by
  obtain ⟨s1, l1, rfl, r1, b1, hl1⟩ := hx
  obtain ⟨a1, c1, rfl⟩ := r1.len
  have F : Hid (decide (z = 0) = ((l1.length : Int) == 0)) := by
    show _ = _
    have := b1.zero
    rw [Bool.eq_iff_iff]; simp
    constructor
    · rintro rfl; exact b1.zero.1 rfl
    · intro h; have := b1.zero.2 h; omega
  clear r1 b1
  generalize decide (z < 0) = d at *
  go_enter Tryz.func80, Tryz.ntmps80
  go_wp2
  go_ret
  exact ⟨ret_bool F.out.symm, (Below.refl _ _).alloc (Nat.le_refl _) _⟩
end Go.Proofs.YtgcofpmhojplhaaGreatDoor.Z

/- Walks of the reference's comparison of integers. (Printed by mkv2.py.) -/
namespace Go.Proofs.YtgcofpmhojplhaaGreatDoor.Z
open Go.RowKit

theorem bel_via {B : Nat} {a b c d : World} (h : Below B a b) (hb : Below c.heap.size c d) (s : c.heap = b.heap ∧ c.os = b.os ∧ c.tape = b.tape ∧ c.output = b.output) (hB : B ≤ b.heap.size) : Below B a d := by
  have hbc : Below B a c := ⟨s.2.1.trans h.os, s.2.2.1.trans h.tape, s.2.2.2.trans h.output, by rw [s.1]; exact h.size, fun k hk => by rw [s.1]; exact h.block k hk⟩
  exact hbc.trans (hb.mono (by rw [s.1]; exact hB))
theorem cel_via {b c d : World} {p : Addr} {v : Value} (h : b.cell? p = some v) (hb : Below c.heap.size c d) (s : c.heap = b.heap) : d.cell? p = some v := by
  have hc : c.cell? p = some v := by rw [← h]; exact World.cell?_of_block (by rw [s])
  exact (hb.cell (World.block_lt_of_cell? c _ hc)).trans hc
/-- The sign, off a length and a mark. -/
def sgr (d : Bool) (n : Nat) : Int := if n = 0 then 0 else if d then -1 else 1
set_option maxRecDepth 100000 in
theorem f80_raw (d : Bool) (a : Option Addr) (n c : Nat) (w : World) : Calls Tryz.prog 80 #[.agg #[.bool d, .slice a n c]] w fun e w' => e = .returned (.bool ((n : Int) == 0)) ∧ Below w.heap.size w w' := by
  go_enter Tryz.func80, Tryz.ntmps80
  go_wp2
  go_ret
  exact ⟨rfl, (Below.refl _ _).alloc (Nat.le_refl _) _⟩
set_option maxRecDepth 100000 in
theorem f67_raw (d : Bool) (a : Option Addr) (n c : Nat) (w : World) : Calls Tryz.prog 67 #[.agg #[.bool d, .slice a n c]] w fun e w' => e = .returned (.int .i64 (sgr d n)) ∧ Below w.heap.size w w' := by
  have HA : Hid (Below w.heap.size w (w.alloc (.cells #[.bool d, .slice a n c] 38))) := (Below.refl _ _).alloc (Nat.le_refl _) _
  have hc0 : (w.alloc (.cells #[.bool d, .slice a n c] 38)).cell? ⟨w.heap.size, 0, none⟩ = some (.bool d) := by simp
  by_cases h0 : n = 0
  · have t0 : ((n : Int) == 0) = true := by rw [h0]; rfl
    have HS : Hid (sgr d n = 0) := by show _ = _; simp [sgr, h0]
    clear h0
    go_enter Tryz.func67, Tryz.ntmps67
    go_wp2_with fail
    go_at_call 80
    refine (f80_raw d a n c _).mono ?_
    rintro e w1 ⟨rfl, hb1⟩
    have HB1 := Lib.hid (HA.out.trans (hb1.mono HA.out.size))
    clear hb1
    go_wp2
    go_ret
    exact ⟨by rw [HS.out]; rfl, HB1.out⟩
  · have t0 : ((n : Int) == 0) = false := by rw [beq_eq_false_iff_ne]; omega
    cases d
    · have HS : Hid (sgr false n = 1) := by show _ = _; simp [sgr, h0]
      clear h0
      go_enter Tryz.func67, Tryz.ntmps67
      go_wp2_with fail
      go_at_call 80
      refine (f80_raw false a n c _).mono ?_
      rintro e w1 ⟨rfl, hb1⟩
      have HB1 := Lib.hid (HA.out.trans (hb1.mono HA.out.size))
      have hc1 := cel_via hc0 hb1 rfl
      clear hb1
      go_wp2
      go_ret
      exact ⟨by rw [HS.out]; rfl, HB1.out⟩
    · have HS : Hid (sgr true n = -1) := by show _ = _; simp [sgr, h0]
      clear h0
      go_enter Tryz.func67, Tryz.ntmps67
      go_wp2_with fail
      go_at_call 80
      refine (f80_raw true a n c _).mono ?_
      rintro e w1 ⟨rfl, hb1⟩
      have HB1 := Lib.hid (HA.out.trans (hb1.mono HA.out.size))
      have hc1 := cel_via hc0 hb1 rfl
      clear hb1
      go_wp2
      go_ret
      exact ⟨by rw [HS.out]; rfl, HB1.out⟩
def CmpIs (z : Int) (w : World) (e : Ending) (w' : World) : Prop := e = .returned (.int .i64 z) ∧ Below w.heap.size w w'
set_option maxRecDepth 100000 in
set_option maxHeartbeats 2000000 in
theorem f38_ne (d1 d2 : Bool) (a1 a2 : Option Addr) (n1 c1 n2 c2 : Nat) (h : ¬ sgr d1 n1 = sgr d2 n2) (w : World) :
    Calls Tryz.prog 38 #[.agg #[.bool d1, .slice a1 n1 c1], .agg #[.bool d2, .slice a2 n2 c2]] w (CmpIs (if sgr d1 n1 < sgr d2 n2 then -1 else 1) w) := by
  have t0 : (sgr d1 n1 == sgr d2 n2) = false := by simpa using h
  have t1 : (sgr d1 n1 != sgr d2 n2) = true := by simpa using h
  obtain ⟨x, hx⟩ : ∃ x, x = sgr d1 n1 := ⟨_, rfl⟩
  obtain ⟨y, hy⟩ : ∃ y, y = sgr d2 n2 := ⟨_, rfl⟩
  have H1 := Lib.hid (fun w => f67_raw d1 a1 n1 c1 w)
  have H2 := Lib.hid (fun w => f67_raw d2 a2 n2 c2 w)
  rw [← hx] at H1 t0 t1 ⊢
  rw [← hy] at H2 t0 t1 ⊢
  clear hx hy h
  have HBx : Hid (Below w.heap.size w ((w.alloc (.cells #[.bool d1, .slice a1 n1 c1] 38)).alloc (.cells #[.bool d2, .slice a2 n2 c2] 38))) := ((Below.refl _ _).alloc (Nat.le_refl _) _).alloc (by simp) _
  have x0 : ((w.alloc (.cells #[.bool d1, .slice a1 n1 c1] 38)).alloc (.cells #[.bool d2, .slice a2 n2 c2] 38)).cell? ⟨w.heap.size, 0, none⟩ = some (.bool d1) := by simp [go_sem]
  have x1 : ((w.alloc (.cells #[.bool d1, .slice a1 n1 c1] 38)).alloc (.cells #[.bool d2, .slice a2 n2 c2] 38)).cell? ⟨w.heap.size, 1, none⟩ = some (.slice a1 n1 c1) := by simp [go_sem]
  have x2 : ((w.alloc (.cells #[.bool d1, .slice a1 n1 c1] 38)).alloc (.cells #[.bool d2, .slice a2 n2 c2] 38)).cell? ⟨w.heap.size + 1, 0, none⟩ = some (.bool d2) := by simp [go_sem]
  have x3 : ((w.alloc (.cells #[.bool d1, .slice a1 n1 c1] 38)).alloc (.cells #[.bool d2, .slice a2 n2 c2] 38)).cell? ⟨w.heap.size + 1, 1, none⟩ = some (.slice a2 n2 c2) := by simp [go_sem]
  by_cases hlt : x < y
  · have HR : Hid ((if x < y then (-1 : Int) else 1) = -1) := by show _ = _; rw [if_pos hlt]
    rw [HR.out]
    go_enter Tryz.func38, Tryz.ntmps38
    go_wp2_with fail
    generalize (w.alloc (.cells #[.bool d1, .slice a1 n1 c1] 38)).alloc (.cells #[.bool d2, .slice a2 n2 c2] 38) = W0 at *
    go_region_held3 (fun w' => w'.cell? ⟨w.heap.size, 0, none⟩ = some (.bool d1) ∧ w'.cell? ⟨w.heap.size, 1, none⟩ = some (.slice a1 n1 c1) ∧ w'.cell? ⟨w.heap.size + 1, 0, none⟩ = some (.bool d2) ∧ w'.cell? ⟨w.heap.size + 1, 1, none⟩ = some (.slice a2 n2 c2))
      (first | with_reducible exact ⟨x0, x1, x2, x3⟩ | go_keep)
      (first
        | (go_at_call 67; refine (H1.out _).mono ?_; rintro e wb ⟨rfl, hb⟩; have y0 := cel_via x0 hb rfl; have y1 := cel_via x1 hb rfl; have y2 := cel_via x2 hb rfl; have y3 := cel_via x3 hb rfl; have HBy := Lib.hid (bel_via HBx.out hb ⟨rfl, rfl, rfl, rfl⟩ HBx.out.size); clear hb x0 x1 x2 x3 HBx; have x0 := y0; have x1 := y1; have x2 := y2; have x3 := y3; have HBx := HBy; clear y0 y1 y2 y3 HBy)
        | (go_at_call 67; refine (H2.out _).mono ?_; rintro e wb ⟨rfl, hb⟩; have y0 := cel_via x0 hb rfl; have y1 := cel_via x1 hb rfl; have y2 := cel_via x2 hb rfl; have y3 := cel_via x3 hb rfl; have HBy := Lib.hid (bel_via HBx.out hb ⟨rfl, rfl, rfl, rfl⟩ HBx.out.size); clear hb x0 x1 x2 x3 HBx; have x0 := y0; have x1 := y1; have x2 := y2; have x3 := y3; have HBx := HBy; clear y0 y1 y2 y3 HBy))
    go_wp2
    go_region_held3 (fun w' => w'.cell? ⟨w.heap.size, 0, none⟩ = some (.bool d1) ∧ w'.cell? ⟨w.heap.size, 1, none⟩ = some (.slice a1 n1 c1) ∧ w'.cell? ⟨w.heap.size + 1, 0, none⟩ = some (.bool d2) ∧ w'.cell? ⟨w.heap.size + 1, 1, none⟩ = some (.slice a2 n2 c2))
      (first | with_reducible exact ⟨x0, x1, x2, x3⟩ | go_keep)
      (first
        | (go_at_call 67; refine (H1.out _).mono ?_; rintro e wb ⟨rfl, hb⟩; have y0 := cel_via x0 hb rfl; have y1 := cel_via x1 hb rfl; have y2 := cel_via x2 hb rfl; have y3 := cel_via x3 hb rfl; have HBy := Lib.hid (bel_via HBx.out hb ⟨rfl, rfl, rfl, rfl⟩ HBx.out.size); clear hb x0 x1 x2 x3 HBx; have x0 := y0; have x1 := y1; have x2 := y2; have x3 := y3; have HBx := HBy; clear y0 y1 y2 y3 HBy)
        | (go_at_call 67; refine (H2.out _).mono ?_; rintro e wb ⟨rfl, hb⟩; have y0 := cel_via x0 hb rfl; have y1 := cel_via x1 hb rfl; have y2 := cel_via x2 hb rfl; have y3 := cel_via x3 hb rfl; have HBy := Lib.hid (bel_via HBx.out hb ⟨rfl, rfl, rfl, rfl⟩ HBx.out.size); clear hb x0 x1 x2 x3 HBx; have x0 := y0; have x1 := y1; have x2 := y2; have x3 := y3; have HBx := HBy; clear y0 y1 y2 y3 HBy))
    go_wp2
    go_ret
    exact ⟨rfl, HBx.out⟩
  · have HR : Hid ((if x < y then (-1 : Int) else 1) = 1) := by show _ = _; rw [if_neg hlt]
    rw [HR.out]
    go_enter Tryz.func38, Tryz.ntmps38
    go_wp2_with fail
    generalize (w.alloc (.cells #[.bool d1, .slice a1 n1 c1] 38)).alloc (.cells #[.bool d2, .slice a2 n2 c2] 38) = W0 at *
    go_region_held3 (fun w' => w'.cell? ⟨w.heap.size, 0, none⟩ = some (.bool d1) ∧ w'.cell? ⟨w.heap.size, 1, none⟩ = some (.slice a1 n1 c1) ∧ w'.cell? ⟨w.heap.size + 1, 0, none⟩ = some (.bool d2) ∧ w'.cell? ⟨w.heap.size + 1, 1, none⟩ = some (.slice a2 n2 c2))
      (first | with_reducible exact ⟨x0, x1, x2, x3⟩ | go_keep)
      (first
        | (go_at_call 67; refine (H1.out _).mono ?_; rintro e wb ⟨rfl, hb⟩; have y0 := cel_via x0 hb rfl; have y1 := cel_via x1 hb rfl; have y2 := cel_via x2 hb rfl; have y3 := cel_via x3 hb rfl; have HBy := Lib.hid (bel_via HBx.out hb ⟨rfl, rfl, rfl, rfl⟩ HBx.out.size); clear hb x0 x1 x2 x3 HBx; have x0 := y0; have x1 := y1; have x2 := y2; have x3 := y3; have HBx := HBy; clear y0 y1 y2 y3 HBy)
        | (go_at_call 67; refine (H2.out _).mono ?_; rintro e wb ⟨rfl, hb⟩; have y0 := cel_via x0 hb rfl; have y1 := cel_via x1 hb rfl; have y2 := cel_via x2 hb rfl; have y3 := cel_via x3 hb rfl; have HBy := Lib.hid (bel_via HBx.out hb ⟨rfl, rfl, rfl, rfl⟩ HBx.out.size); clear hb x0 x1 x2 x3 HBx; have x0 := y0; have x1 := y1; have x2 := y2; have x3 := y3; have HBx := HBy; clear y0 y1 y2 y3 HBy))
    go_wp2
    go_region_held3 (fun w' => w'.cell? ⟨w.heap.size, 0, none⟩ = some (.bool d1) ∧ w'.cell? ⟨w.heap.size, 1, none⟩ = some (.slice a1 n1 c1) ∧ w'.cell? ⟨w.heap.size + 1, 0, none⟩ = some (.bool d2) ∧ w'.cell? ⟨w.heap.size + 1, 1, none⟩ = some (.slice a2 n2 c2))
      (first | with_reducible exact ⟨x0, x1, x2, x3⟩ | go_keep)
      (first
        | (go_at_call 67; refine (H1.out _).mono ?_; rintro e wb ⟨rfl, hb⟩; have y0 := cel_via x0 hb rfl; have y1 := cel_via x1 hb rfl; have y2 := cel_via x2 hb rfl; have y3 := cel_via x3 hb rfl; have HBy := Lib.hid (bel_via HBx.out hb ⟨rfl, rfl, rfl, rfl⟩ HBx.out.size); clear hb x0 x1 x2 x3 HBx; have x0 := y0; have x1 := y1; have x2 := y2; have x3 := y3; have HBx := HBy; clear y0 y1 y2 y3 HBy)
        | (go_at_call 67; refine (H2.out _).mono ?_; rintro e wb ⟨rfl, hb⟩; have y0 := cel_via x0 hb rfl; have y1 := cel_via x1 hb rfl; have y2 := cel_via x2 hb rfl; have y3 := cel_via x3 hb rfl; have HBy := Lib.hid (bel_via HBx.out hb ⟨rfl, rfl, rfl, rfl⟩ HBx.out.size); clear hb x0 x1 x2 x3 HBx; have x0 := y0; have x1 := y1; have x2 := y2; have x3 := y3; have HBx := HBy; clear y0 y1 y2 y3 HBy))
    go_wp2
    go_ret
    exact ⟨rfl, HBx.out⟩
set_option maxRecDepth 100000 in
set_option maxHeartbeats 2000000 in
theorem f38_eq (d1 d2 : Bool) (a1 a2 : Option Addr) (n1 c1 n2 c2 : Nat) (h : sgr d1 n1 = sgr d2 n2) (m1 m2 : Nat) (l1 l2 : List Nat) (h1 : IsB m1 l1) (h2 : IsB m2 l2) (hl1 : l1.length ≤ 100000) (hl2 : l2.length ≤ 100000) (B : Nat) (w : World)
    (hr1 : Row B .u8 w (.slice a1 n1 c1) l1) (hr2 : Row B .u8 w (.slice a2 n2 c2) l2) :
    Calls Tryz.prog 38 #[.agg #[.bool d1, .slice a1 n1 c1], .agg #[.bool d2, .slice a2 n2 c2]] w (CmpIs (if d1 then ord3 m2 m1 else ord3 m1 m2) w) := by
  have H1 := Lib.hid (fun w => f67_raw d1 a1 n1 c1 w)
  have H2 := Lib.hid (fun w => f67_raw d2 a2 n2 c2 w)
  rw [h] at H1
  generalize sgr d2 n2 = y at *
  have HR1 := Lib.hid hr1
  have HR2 := Lib.hid hr2
  have HM := Lib.hid (And.intro h1 h2)
  clear h hr1 hr2 h1 h2
  have HBx : Hid (Below w.heap.size w ((w.alloc (.cells #[.bool d1, .slice a1 n1 c1] 38)).alloc (.cells #[.bool d2, .slice a2 n2 c2] 38))) := ((Below.refl _ _).alloc (Nat.le_refl _) _).alloc (by simp) _
  have x0 : ((w.alloc (.cells #[.bool d1, .slice a1 n1 c1] 38)).alloc (.cells #[.bool d2, .slice a2 n2 c2] 38)).cell? ⟨w.heap.size, 0, none⟩ = some (.bool d1) := by simp [go_sem]
  have x1 : ((w.alloc (.cells #[.bool d1, .slice a1 n1 c1] 38)).alloc (.cells #[.bool d2, .slice a2 n2 c2] 38)).cell? ⟨w.heap.size, 1, none⟩ = some (.slice a1 n1 c1) := by simp [go_sem]
  have x2 : ((w.alloc (.cells #[.bool d1, .slice a1 n1 c1] 38)).alloc (.cells #[.bool d2, .slice a2 n2 c2] 38)).cell? ⟨w.heap.size + 1, 0, none⟩ = some (.bool d2) := by simp [go_sem]
  have x3 : ((w.alloc (.cells #[.bool d1, .slice a1 n1 c1] 38)).alloc (.cells #[.bool d2, .slice a2 n2 c2] 38)).cell? ⟨w.heap.size + 1, 1, none⟩ = some (.slice a2 n2 c2) := by simp [go_sem]
  cases hd : d1
  · subst hd
    go_enter Tryz.func38, Tryz.ntmps38
    go_wp2_with fail
    generalize (w.alloc (.cells #[.bool false, .slice a1 n1 c1] 38)).alloc (.cells #[.bool d2, .slice a2 n2 c2] 38) = W0 at *
    go_region_held3 (fun w' => w'.cell? ⟨w.heap.size, 0, none⟩ = some (.bool false) ∧ w'.cell? ⟨w.heap.size, 1, none⟩ = some (.slice a1 n1 c1) ∧ w'.cell? ⟨w.heap.size + 1, 0, none⟩ = some (.bool d2) ∧ w'.cell? ⟨w.heap.size + 1, 1, none⟩ = some (.slice a2 n2 c2))
      (first | with_reducible exact ⟨x0, x1, x2, x3⟩ | go_keep)
      (first
        | (go_at_call 67; refine (H1.out _).mono ?_; rintro e wb ⟨rfl, hb⟩; have y0 := cel_via x0 hb rfl; have y1 := cel_via x1 hb rfl; have y2 := cel_via x2 hb rfl; have y3 := cel_via x3 hb rfl; have HBy := Lib.hid (bel_via HBx.out hb ⟨rfl, rfl, rfl, rfl⟩ HBx.out.size); clear hb x0 x1 x2 x3 HBx; have x0 := y0; have x1 := y1; have x2 := y2; have x3 := y3; have HBx := HBy; clear y0 y1 y2 y3 HBy)
        | (go_at_call 67; refine (H2.out _).mono ?_; rintro e wb ⟨rfl, hb⟩; have y0 := cel_via x0 hb rfl; have y1 := cel_via x1 hb rfl; have y2 := cel_via x2 hb rfl; have y3 := cel_via x3 hb rfl; have HBy := Lib.hid (bel_via HBx.out hb ⟨rfl, rfl, rfl, rfl⟩ HBx.out.size); clear hb x0 x1 x2 x3 HBx; have x0 := y0; have x1 := y1; have x2 := y2; have x3 := y3; have HBx := HBy; clear y0 y1 y2 y3 HBy))
    go_wp2_with fail
    go_at_call 68
    refine (f68_any _ _ l1 l2 m1 m2 HM.out.1 HM.out.2 hl1 hl2 B _ (HR1.out.below HBx.out (Nat.le_refl _)) (HR2.out.below HBx.out (Nat.le_refl _))).mono ?_
    rintro e w9 ⟨rfl, m9, hw9⟩
    have HB9 : Hid (Below w.heap.size w w9) := by show Below _ _ _; rw [hw9]; exact below_drewN HBx.out m9
    clear hw9
    go_wp2
    go_ret
    exact ⟨rfl, HB9.out⟩
  · subst hd
    go_enter Tryz.func38, Tryz.ntmps38
    go_wp2_with fail
    generalize (w.alloc (.cells #[.bool true, .slice a1 n1 c1] 38)).alloc (.cells #[.bool d2, .slice a2 n2 c2] 38) = W0 at *
    go_region_held3 (fun w' => w'.cell? ⟨w.heap.size, 0, none⟩ = some (.bool true) ∧ w'.cell? ⟨w.heap.size, 1, none⟩ = some (.slice a1 n1 c1) ∧ w'.cell? ⟨w.heap.size + 1, 0, none⟩ = some (.bool d2) ∧ w'.cell? ⟨w.heap.size + 1, 1, none⟩ = some (.slice a2 n2 c2))
      (first | with_reducible exact ⟨x0, x1, x2, x3⟩ | go_keep)
      (first
        | (go_at_call 67; refine (H1.out _).mono ?_; rintro e wb ⟨rfl, hb⟩; have y0 := cel_via x0 hb rfl; have y1 := cel_via x1 hb rfl; have y2 := cel_via x2 hb rfl; have y3 := cel_via x3 hb rfl; have HBy := Lib.hid (bel_via HBx.out hb ⟨rfl, rfl, rfl, rfl⟩ HBx.out.size); clear hb x0 x1 x2 x3 HBx; have x0 := y0; have x1 := y1; have x2 := y2; have x3 := y3; have HBx := HBy; clear y0 y1 y2 y3 HBy)
        | (go_at_call 67; refine (H2.out _).mono ?_; rintro e wb ⟨rfl, hb⟩; have y0 := cel_via x0 hb rfl; have y1 := cel_via x1 hb rfl; have y2 := cel_via x2 hb rfl; have y3 := cel_via x3 hb rfl; have HBy := Lib.hid (bel_via HBx.out hb ⟨rfl, rfl, rfl, rfl⟩ HBx.out.size); clear hb x0 x1 x2 x3 HBx; have x0 := y0; have x1 := y1; have x2 := y2; have x3 := y3; have HBx := HBy; clear y0 y1 y2 y3 HBy))
    go_wp2_with fail
    go_at_call 68
    refine (f68_any _ _ l2 l1 m2 m1 HM.out.2 HM.out.1 hl2 hl1 B _ (HR2.out.below HBx.out (Nat.le_refl _)) (HR1.out.below HBx.out (Nat.le_refl _))).mono ?_
    rintro e w9 ⟨rfl, m9, hw9⟩
    have HB9 : Hid (Below w.heap.size w w9) := by show Below _ _ _; rw [hw9]; exact below_drewN HBx.out m9
    clear hw9
    go_wp2
    go_ret
    exact ⟨rfl, HB9.out⟩
/-- Which of two integers is the greater. -/
def cmpZ (x y : Int) : Int := if x < y then -1 else if x = y then 0 else 1
theorem sgr_sign {z : Int} {l : List Nat} (h : IsB z.natAbs l) : sgr (decide (z < 0)) l.length = z.sign := by
  have hz := h.zero
  unfold sgr
  by_cases h0 : z = 0
  · have : l = [] := hz.1 (by omega)
    simp [this, h0]
  · have hl : l ≠ [] := fun e => by have := hz.2 e; omega
    have hl2 : l.length ≠ 0 := fun e => hl (List.length_eq_zero_iff.1 e)
    rw [if_neg hl2]
    by_cases hn : z < 0
    · simp [hn, Int.sign_eq_neg_one_of_neg hn]
    · simp [hn, Int.sign_eq_one_of_pos (show 0 < z by omega)]
theorem f38_any (k : Nat) (hk : k ≤ 100000) (v1 v2 : Value) (z1 z2 : Int) (B : Nat) (w : World) (hx : SInt B k w v1 z1) (hy : SInt B k w v2 z2) : Calls Tryz.prog 38 #[v1, v2] w (CmpIs (cmpZ z1 z2) w) := by
  obtain ⟨s1, l1, rfl, r1, b1, hl1⟩ := hx
  obtain ⟨s2, l2, rfl, r2, b2, hl2⟩ := hy
  obtain ⟨a1, c1, rfl⟩ := r1.len
  obtain ⟨a2, c2, rfl⟩ := r2.len
  have g1 := sgr_sign b1
  have g2 := sgr_sign b2
  by_cases he : sgr (decide (z1 < 0)) l1.length = sgr (decide (z2 < 0)) l2.length
  · have := f38_eq (decide (z1 < 0)) (decide (z2 < 0)) a1 a2 l1.length c1 l2.length c2 he z1.natAbs z2.natAbs l1 l2 b1 b2 (by omega) (by omega) B w r1 r2
    have e : (if decide (z1 < 0) = true then ord3 z2.natAbs z1.natAbs else ord3 z1.natAbs z2.natAbs) = cmpZ z1 z2 := by
      rw [g1, g2] at he
      have hs : (z1 < 0 ↔ z2 < 0) ∧ (z1 = 0 ↔ z2 = 0) := by
        constructor
        · rw [← Int.sign_eq_neg_one_iff_neg, ← Int.sign_eq_neg_one_iff_neg, he]
        · exact ⟨fun h => Int.sign_eq_zero_iff_zero.1 (he.symm.trans (Int.sign_eq_zero_iff_zero.2 h)), fun h => Int.sign_eq_zero_iff_zero.1 (he.trans (Int.sign_eq_zero_iff_zero.2 h))⟩
      unfold ord3 cmpZ
      by_cases hn : z1 < 0
      · simp only [hn, decide_true, if_true]
        have := hs.1.1 hn
        by_cases h3 : z1 < z2
        · rw [if_pos h3, if_pos (by omega)]
        · rw [if_neg h3, if_neg (by omega)]
          by_cases h4 : z1 = z2
          · rw [if_pos h4, if_pos (by omega)]
          · rw [if_neg h4, if_neg (by omega)]
      · simp only [hn, decide_false, Bool.false_eq_true, if_false]
        have : ¬ z2 < 0 := fun h => hn (hs.1.2 h)
        by_cases h3 : z1 < z2
        · rw [if_pos h3, if_pos (by omega)]
        · rw [if_neg h3, if_neg (by omega)]
          by_cases h4 : z1 = z2
          · rw [if_pos h4, if_pos (by omega)]
          · rw [if_neg h4, if_neg (by omega)]
    rw [e] at this
    exact this
  · have := f38_ne (decide (z1 < 0)) (decide (z2 < 0)) a1 a2 l1.length c1 l2.length c2 he w
    have e : (if sgr (decide (z1 < 0)) l1.length < sgr (decide (z2 < 0)) l2.length then (-1 : Int) else 1) = cmpZ z1 z2 := by
      rw [g1, g2] at he ⊢
      unfold cmpZ
      rcases Int.lt_trichotomy z1 0 with h1 | h1 | h1 <;> rcases Int.lt_trichotomy z2 0 with h2 | h2 | h2
      all_goals first
        | (exfalso; rw [Int.sign_eq_neg_one_of_neg h1, Int.sign_eq_neg_one_of_neg h2] at he; exact he rfl)
        | (exfalso; rw [Int.sign_eq_one_of_pos h1, Int.sign_eq_one_of_pos h2] at he; exact he rfl)
        | (exfalso; rw [h1, h2] at he; exact he rfl)
        | (first
            | rw [Int.sign_eq_neg_one_of_neg h1]
            | rw [Int.sign_eq_one_of_pos h1]
            | (rw [h1]; rw [Int.sign_zero])
           first
            | rw [Int.sign_eq_neg_one_of_neg h2]
            | rw [Int.sign_eq_one_of_pos h2]
            | (rw [h2]; rw [Int.sign_zero])
           first
            | (rw [if_pos (by decide), if_pos (by omega)])
            | (rw [if_neg (by decide), if_neg (by omega), if_neg (by omega)]))
    rw [e] at this
    exact this
end Go.Proofs.YtgcofpmhojplhaaGreatDoor.Z

/- Walks of the reference's small integers, read back. -/
namespace Go.Proofs.YtgcofpmhojplhaaGreatDoor.Z
open Go.RowKit

set_option maxRecDepth 100000 in
set_option maxHeartbeats 1000000 in
theorem f37_any (n : Nat) (hn : n ≤ 2147483647) (v : Value) (z : Int) (B : Nat) (w : World) (hv : VInt B n w v z) : Calls Tryz.prog 37 #[v] w (MakesS n z w) := by
  obtain ⟨sl, l, rfl, hr, hb, hl⟩ := hv
  obtain ⟨a, c, rfl⟩ := hr.len
  obtain ⟨W1, hW1⟩ : ∃ W1, W1 = (w.alloc (.cells #[.int .i64 2, .bool (decide (z < 0)), .slice a l.length c, .int .u64 0, .string ⟨#[]⟩, .slice none 0 0] 28)).alloc (.cells #[.bool false, .slice none 0 0] 38) := ⟨_, rfl⟩
  have HW1 : Hid (Below (w.heap.size + 1) W1 W1) := Below.refl _ _
  have HB1 : Hid (Below w.heap.size w W1) := by show Below _ _ _; subst hW1; exact ((Below.refl _ _).alloc (Nat.le_refl _) _).alloc (by simp) _
  have hz2 : W1.heap.size = w.heap.size + 2 := by subst hW1; simp
  have x0 : W1.cell? ⟨w.heap.size + 1, 0, none⟩ = some (.bool false) := by subst hW1; simp [go_sem]
  have x1 : W1.cell? ⟨w.heap.size + 1, 1, none⟩ = some (.slice none 0 0) := by subst hW1; simp [go_sem]
  have y0 : W1.frozen? ⟨w.heap.size + 1, 0, none⟩ = false := by subst hW1; simp [go_sem]
  have y1 : W1.frozen? ⟨w.heap.size + 1, 1, none⟩ = false := by subst hW1; simp [go_sem]
  have H18 := Lib.hid (f18_any (decide (z < 0)) _ l (by omega) hb.low W1 B (hr.below HB1.out (Nat.le_refl _)))
  have HQ : Hid (signed (decide (z < 0)) (bv l) = z ∧ strip l = l) := by
    refine ⟨?_, hb.top⟩
    rw [hb.val]
    unfold signed
    by_cases h : z < 0
    · simp [h]; omega
    · simp [h]; omega
  have HL := Lib.hid hl
  rw [hW1] at H18
  clear hr hb hl
  go_enter Tryz.func37, Tryz.ntmps37
  go_wp2_with fail
  go_at_call 18
  refine H18.out.mono ?_
  rintro e w2 ⟨v2, rfl, hs, hb2⟩
  rw [← hW1] at hs hb2
  obtain ⟨d2, a2, k2, c2, rfl⟩ := hs.shape
  have c0 : w2.cell? ⟨w.heap.size + 1, 0, none⟩ = some (.bool false) := cel_via x0 hb2 rfl
  have c1 : w2.cell? ⟨w.heap.size + 1, 1, none⟩ = some (.slice none 0 0) := cel_via x1 hb2 rfl
  have f0 : w2.frozen? ⟨w.heap.size + 1, 0, none⟩ = false := (hb2.frozen (p := ⟨w.heap.size + 1, 0, none⟩) (by rw [hz2]; simp)).trans y0
  have f1 : w2.frozen? ⟨w.heap.size + 1, 1, none⟩ = false := (hb2.frozen (p := ⟨w.heap.size + 1, 1, none⟩) (by rw [hz2]; simp)).trans y1
  have HS := Lib.hid hs
  have HB2 := Lib.hid (HB1.out.trans (hb2.mono HB1.out.size))
  have HZ := Lib.hid hz2
  clear hs hb2 hW1 hz2
  go_wp2
  refine bodyPost_ret (v := .agg #[.bool d2, .slice a2 k2 c2]) (by simp [results, Tryz.results37, go_sem, c0, c1]) rfl ?_
  refine ⟨_, rfl, ?_, ?_⟩
  · have h := HS.out
    rw [HQ.out.1, HQ.out.2, HZ.out] at h
    refine SInt.le (B := w.heap.size + 2) (n := l.length) ?_ (by omega) HL.out
    iterate 2 (refine SInt.setOld ?_ (show w.heap.size + 1 < w.heap.size + 2 by omega) _)
    exact h
  · iterate 2 (refine Below.setCell ?_ (show w.heap.size ≤ w.heap.size + 1 by omega) _)
    exact HB2.out
/-- Of one digit at most: the digits. -/
theorem dg_small (l : List Nat) (hl : l.length ≤ 1) (i : Nat) : dg l i = if i = 0 then bv l else 0 := by
  unfold dg
  match l, hl with
  | [], _ => simp [bv]
  | [a], _ =>
    by_cases h : i = 0
    · subst h; simp [bv]
    · simp [h]
set_option maxRecDepth 100000 in
set_option maxHeartbeats 1000000 in
theorem f97_small (v : Value) (z : Int) (B : Nat) (w : World) (hx : SInt B 1 w v z) : Calls Tryz.prog 97 #[v] w fun e w' => e = .returned (.int .u64 (z.natAbs : Nat)) ∧ Below w.heap.size w w' := by
  obtain ⟨sl, l, rfl, hr, hb, hl⟩ := hx
  obtain ⟨a, c, rfl⟩ := hr.len
  have HA : Hid (Below w.heap.size w (w.alloc (.cells #[.bool (decide (z < 0)), .slice a l.length c] 38))) := (Below.refl _ _).alloc (Nat.le_refl _) _
  have hc1 : (w.alloc (.cells #[.bool (decide (z < 0)), .slice a l.length c] 38)).cell? ⟨w.heap.size, 1, none⟩ = some (.slice a l.length c) := by simp
  have HD := Lib.hid (dg_small l hl)
  have H107 := Lib.hid (fun i => f107_any _ l (by omega) hb.low B i _ (hr.below HA.out (Nat.le_refl _)))
  have HV : Hid (bv l = z.natAbs ∧ z.natAbs < 256) := ⟨hb.val, by have h1 := hb.lt; have h2 : 256 ^ l.length ≤ 256 ^ 1 := Nat.pow_le_pow_right (by omega) hl; omega⟩
  generalize decide (z < 0) = d at *
  clear hr hb
  go_enter Tryz.func97, Tryz.ntmps97
  go_wp2
  generalize w.alloc (.cells #[.bool d, .slice a l.length c] 38) = w1 at *
  go_loop [3, 4] (fun u i => ∃ p : Nat, p ≤ 8 ∧ i = .int .i64 ((p : Int) - 1) ∧ u = .int .u64 ((if p = 0 then bv l else 0 : Nat) : Int)) (fun _ i => ((RowKit.intOf i) + 1).toNat)
  case atStart => exact ⟨8, Nat.le_refl _, rfl, rfl⟩
  case round =>
    obtain ⟨p, hp, rfl, rfl⟩ := hrel
    by_cases h0 : p = 0
    · subst h0
      go_wp2
      go_ret
      exact ⟨by rw [← HV.out.1]; rfl, HA.out⟩
    · obtain ⟨q, rfl⟩ : ∃ q, p = q + 1 := ⟨p - 1, by omega⟩
      have e1 : (((q + 1 : Nat) : Int) - 1) = (q : Int) := by omega
      have e2 : (if q + 1 = 0 then bv l else 0) = 0 := by simp
      rw [e1, e2]
      have hd := HD.out q
      have H := H107.out q
      rw [hd] at H
      have H := Lib.hid H
      have HQ : (if q = 0 then bv l else 0) < 256 := by have := HV.out; split <;> omega
      obtain ⟨y, hy⟩ : ∃ y, y = (if q = 0 then bv l else 0) := ⟨_, rfl⟩
      rw [← hy] at H HQ
      have HY := Lib.hid hy
      have HOR : bits BinOp.or IntKind.u64 0 (y : Int) = (y : Int) := by
        have := or_step 0 1 (by omega) (by decide) 0 y (by decide) HQ (y : Int) (by simp)
        simpa using this
      clear e1 e2 hd hy h0 H107
      go_wp2_with fail
      go_at_call 107
      refine H.out.mono ?_
      rintro e w' ⟨rfl, rfl⟩
      go_wp2
      go_round
      case rel => exact ⟨q, by omega, by go_num, by rw [← HY.out]⟩
      case measure => (simp [RowKit.intOf]; try omega)
theorem SInt.heap {B n : Nat} {w w' : World} {v : Value} {z : Int} (h : SInt B n w v z) (e : w'.heap = w.heap) : SInt B n w' v z := by
  obtain ⟨sl, l, h1, h2, h3⟩ := h
  refine ⟨sl, l, h1, ?_, h3⟩
  rcases h2 with h2 | ⟨h0, g, off, c, hv, hc, hB', hg, hcell⟩
  · exact .inl h2
  · exact .inr ⟨h0, g, off, c, hv, hc, hB', by rw [e]; exact hg, fun i hi => (World.cell?_of_block (w := w) (by rw [e])).trans (hcell i hi)⟩
set_option maxRecDepth 100000 in
set_option maxHeartbeats 2000000 in
theorem f79_small (v : Value) (z : Int) (h0 : -256 < z) (h1 : z < 256) (B : Nat) (w : World) (hx : SInt B 1 w v z) : Calls Tryz.prog 79 #[v] w fun e w' => e = .returned (.tuple #[.int .i64 z, .bool true]) ∧ Below w.heap.size w w' := by
  have HX := Lib.hid (hx.le (B' := 0) (m := 1) (Nat.zero_le _) (Nat.le_refl _))
  obtain ⟨sl, l, rfl, hr, hb, hl⟩ := hx
  obtain ⟨a, c, rfl⟩ := hr.len
  have HMIN := Lib.hid (fun w => f10_int (-9223372036854775808) (by omega) (by omega) w)
  have HMAX := Lib.hid (fun w => f10_int 9223372036854775807 (by omega) (by omega) w)
  have HK : Hid (1 ≤ 100) := by show _ ≤ _; omega
  have HC1 : Hid (cmpZ z (-9223372036854775808) = 1) := by show _ = _; unfold cmpZ; rw [if_neg (by omega), if_neg (by omega)]
  have HC2 : Hid (cmpZ z 9223372036854775807 = -1) := by show _ = _; unfold cmpZ; rw [if_pos (by omega)]
  have H97 := Lib.hid (fun w' (hb : Below w.heap.size w w') => f97_small _ z 0 w' (HX.out.below hb (Nat.le_refl _)))
  have HBx : Hid (Below w.heap.size w (w.alloc (.cells #[.bool (decide (z < 0)), .slice a l.length c] 38))) := (Below.refl _ _).alloc (Nat.le_refl _) _
  have x0 : (w.alloc (.cells #[.bool (decide (z < 0)), .slice a l.length c] 38)).cell? ⟨w.heap.size, 0, none⟩ = some (.bool (decide (z < 0))) := by simp
  have x1 : (w.alloc (.cells #[.bool (decide (z < 0)), .slice a l.length c] 38)).cell? ⟨w.heap.size, 1, none⟩ = some (.slice a l.length c) := by simp
  clear hr hb hl
  generalize l.length = n at *
  obtain ⟨d, hd⟩ : ∃ d, d = decide (z < 0) := ⟨_, rfl⟩
  by_cases hneg : z < 0
  · have hw : Hid (wrap64 (IntKind.u64.wrap (-((z.natAbs : Nat) : Int))) = z) := by
      show wrap64 _ = _
      rw [IntKind.wrap_u64]
      unfold wrap64
      omega
    have hdt : d = true := by rw [hd]; simpa using hneg
    rw [← hd] at HX H97 HBx x0 x1 ⊢
    clear hd
    subst hdt
    go_enter Tryz.func79, Tryz.ntmps79
    go_wp2_with fail
    generalize w.alloc (.cells #[.bool true, .slice a n c] 38) = W0 at *
    go_region_held3 (fun w' => w'.cell? ⟨w.heap.size, 0, none⟩ = some (.bool true) ∧ w'.cell? ⟨w.heap.size, 1, none⟩ = some (.slice a n c))
      (first | with_reducible exact ⟨x0, x1⟩ | go_keep)
      (first
        | (go_at_call 10; (with_reducible refine (HMIN.out _).mono ?_); rintro e wb ⟨v1, rfl, hs1, hb⟩; obtain ⟨d1, a1, k1, c1, rfl⟩ := hs1.shape; have y0 := cel_via x0 hb rfl; have y1 := cel_via x1 hb rfl; have HBy := Lib.hid (bel_via HBx.out hb ⟨rfl, rfl, rfl, rfl⟩ HBx.out.size); clear x0 x1 HBx; have x0 := y0; have x1 := y1; have HBx := HBy; clear y0 y1 HBy; have H381 := Lib.hid (fun W (hW : W.heap = wb.heap) => HC1.out ▸ f38_any 100 (by omega) _ _ z (-9223372036854775808) 0 W (((HX.out.below HBx.out (Nat.le_refl _)).le (Nat.zero_le _) HK.out).heap hW) ((hs1.le (Nat.zero_le _) (by omega)).heap hW)); clear hb hs1)
        | (go_at_call 10; (with_reducible refine (HMAX.out _).mono ?_); rintro e wb ⟨v2, rfl, hs2, hb⟩; obtain ⟨d2, a2, k2, c2, rfl⟩ := hs2.shape; have y0 := cel_via x0 hb rfl; have y1 := cel_via x1 hb rfl; have HBy := Lib.hid (bel_via HBx.out hb ⟨rfl, rfl, rfl, rfl⟩ HBx.out.size); clear x0 x1 HBx; have x0 := y0; have x1 := y1; have HBx := HBy; clear y0 y1 HBy; have H382 := Lib.hid (fun W (hW : W.heap = wb.heap) => HC2.out ▸ f38_any 100 (by omega) _ _ z (9223372036854775807) 0 W (((HX.out.below HBx.out (Nat.le_refl _)).le (Nat.zero_le _) HK.out).heap hW) ((hs2.le (Nat.zero_le _) (by omega)).heap hW)); clear hb hs2)
        | (go_at_call 38; (with_reducible refine Calls.mono (H381.out _ ?_) ?_); (focus rfl); rintro e wb ⟨rfl, hb⟩; have y0 := cel_via x0 hb rfl; have y1 := cel_via x1 hb rfl; have HBy := Lib.hid (bel_via HBx.out hb ⟨rfl, rfl, rfl, rfl⟩ HBx.out.size); clear x0 x1 HBx; have x0 := y0; have x1 := y1; have HBx := HBy; clear y0 y1 HBy; clear hb)
        | (go_at_call 38; (with_reducible refine Calls.mono (H382.out _ ?_) ?_); (focus rfl); rintro e wb ⟨rfl, hb⟩; have y0 := cel_via x0 hb rfl; have y1 := cel_via x1 hb rfl; have HBy := Lib.hid (bel_via HBx.out hb ⟨rfl, rfl, rfl, rfl⟩ HBx.out.size); clear x0 x1 HBx; have x0 := y0; have x1 := y1; have HBx := HBy; clear y0 y1 HBy; clear hb))
    go_wp2_with fail
    go_at_call 97
    refine (H97.out _ HBx.out).mono ?_
    rintro e w9 ⟨rfl, hb9⟩
    have x9 := cel_via x0 hb9 rfl
    have HB9 := Lib.hid (HBx.out.trans (hb9.mono HBx.out.size))
    clear hb9
    go_wp2
    go_ret2
    exact ⟨congrArg (fun q => Ending.returned (.tuple #[.int .i64 q, .bool true])) hw.out, HB9.out⟩
  · have hw : Hid (((z.natAbs : Nat) : Int) = z) := by show _ = _; omega
    have hdt : d = false := by rw [hd]; simpa using hneg
    rw [← hd] at HX H97 HBx x0 x1 ⊢
    clear hd
    subst hdt
    go_enter Tryz.func79, Tryz.ntmps79
    go_wp2_with fail
    generalize w.alloc (.cells #[.bool false, .slice a n c] 38) = W0 at *
    go_region_held3 (fun w' => w'.cell? ⟨w.heap.size, 0, none⟩ = some (.bool false) ∧ w'.cell? ⟨w.heap.size, 1, none⟩ = some (.slice a n c))
      (first | with_reducible exact ⟨x0, x1⟩ | go_keep)
      (first
        | (go_at_call 10; (with_reducible refine (HMIN.out _).mono ?_); rintro e wb ⟨v1, rfl, hs1, hb⟩; obtain ⟨d1, a1, k1, c1, rfl⟩ := hs1.shape; have y0 := cel_via x0 hb rfl; have y1 := cel_via x1 hb rfl; have HBy := Lib.hid (bel_via HBx.out hb ⟨rfl, rfl, rfl, rfl⟩ HBx.out.size); clear x0 x1 HBx; have x0 := y0; have x1 := y1; have HBx := HBy; clear y0 y1 HBy; have H381 := Lib.hid (fun W (hW : W.heap = wb.heap) => HC1.out ▸ f38_any 100 (by omega) _ _ z (-9223372036854775808) 0 W (((HX.out.below HBx.out (Nat.le_refl _)).le (Nat.zero_le _) HK.out).heap hW) ((hs1.le (Nat.zero_le _) (by omega)).heap hW)); clear hb hs1)
        | (go_at_call 10; (with_reducible refine (HMAX.out _).mono ?_); rintro e wb ⟨v2, rfl, hs2, hb⟩; obtain ⟨d2, a2, k2, c2, rfl⟩ := hs2.shape; have y0 := cel_via x0 hb rfl; have y1 := cel_via x1 hb rfl; have HBy := Lib.hid (bel_via HBx.out hb ⟨rfl, rfl, rfl, rfl⟩ HBx.out.size); clear x0 x1 HBx; have x0 := y0; have x1 := y1; have HBx := HBy; clear y0 y1 HBy; have H382 := Lib.hid (fun W (hW : W.heap = wb.heap) => HC2.out ▸ f38_any 100 (by omega) _ _ z (9223372036854775807) 0 W (((HX.out.below HBx.out (Nat.le_refl _)).le (Nat.zero_le _) HK.out).heap hW) ((hs2.le (Nat.zero_le _) (by omega)).heap hW)); clear hb hs2)
        | (go_at_call 38; (with_reducible refine Calls.mono (H381.out _ ?_) ?_); (focus rfl); rintro e wb ⟨rfl, hb⟩; have y0 := cel_via x0 hb rfl; have y1 := cel_via x1 hb rfl; have HBy := Lib.hid (bel_via HBx.out hb ⟨rfl, rfl, rfl, rfl⟩ HBx.out.size); clear x0 x1 HBx; have x0 := y0; have x1 := y1; have HBx := HBy; clear y0 y1 HBy; clear hb)
        | (go_at_call 38; (with_reducible refine Calls.mono (H382.out _ ?_) ?_); (focus rfl); rintro e wb ⟨rfl, hb⟩; have y0 := cel_via x0 hb rfl; have y1 := cel_via x1 hb rfl; have HBy := Lib.hid (bel_via HBx.out hb ⟨rfl, rfl, rfl, rfl⟩ HBx.out.size); clear x0 x1 HBx; have x0 := y0; have x1 := y1; have HBx := HBy; clear y0 y1 HBy; clear hb))
    go_wp2_with fail
    go_at_call 97
    refine (H97.out _ HBx.out).mono ?_
    rintro e w9 ⟨rfl, hb9⟩
    have x9 := cel_via x0 hb9 rfl
    have HB9 := Lib.hid (HBx.out.trans (hb9.mono HBx.out.size))
    clear hb9
    go_wp2
    go_ret2
    exact ⟨congrArg (fun q => Ending.returned (.tuple #[.int .i64 q, .bool true])) hw.out, HB9.out⟩
end Go.Proofs.YtgcofpmhojplhaaGreatDoor.Z
