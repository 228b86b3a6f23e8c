import Derived.Laws.FloatArith
import Derived.Test.YtabeokminikfdaaGreatQD1
set_option linter.all false
set_option maxRecDepth 100000
namespace Go.Proofs.YtabeokminikfdaaGreat
def fw (s : Bool) (r : Nat) : Nat := if s then 2 ^ 63 + r else r
theorem sw : Ieee.double.signWeight = 2 ^ 63 := by decide
theorem bin : Ieee.double.binade = 2 ^ 52 := by decide
theorem inf : Ieee.double.infRung = 2047 * 2 ^ 52 := by decide
theorem least : Ieee.double.leastPlace = -1074 := by decide
theorem fbits : Ieee.double.fractionBits = 52 := by decide
theorem word_fw (s : Bool) (r : Nat) : Ieee.double.word s r = fw s r := by unfold Ieee.Format.word fw; rw [sw]
theorem fw_sign (s : Bool) (r : Nat) (h : r < 2 ^ 63) : (fw s r / 2 ^ 63 % 2 == 1) = s := by
 cases s
 ·simp only [fw, Bool.false_eq_true, if_false]; rw [Nat.div_eq_of_lt h]; rfl
 ·simp only [fw, if_true]; rw [Nat.add_div_left _ (by decide), Nat.div_eq_of_lt h]; rfl
theorem fw_rung (s : Bool) (r : Nat) (h : r < 2 ^ 63) : fw s r % 2 ^ 63 = r := by
 cases s
 ·simp only [fw, Bool.false_eq_true, if_false]; exact Nat.mod_eq_of_lt h
 ·simp only [fw, if_true]; rw [Nat.add_mod_left]; exact Nat.mod_eq_of_lt h
theorem read_fw (s : Bool) (r : Nat) (h : r < 2047 * 2 ^ 52) : Ieee.double.read (fw s r) = if r < 2 ^ 52 then .number s r (-1074) else .number s (2 ^ 52 + r % 2 ^ 52) (-1074 + ((r / 2 ^ 52 - 1 : Nat) : Int)) := by
 have h63 : r < 2 ^ 63 := Nat.lt_trans h (by decide)
 unfold Ieee.Format.read
 simp only [sw, bin, inf, least, fw_sign s r h63, fw_rung s r h63]
 rw [if_pos h]
theorem log_of {m k : Nat} (h1 : 2 ^ k ≤ m) (h2 : m < 2 ^ (k + 1)) : m.log2 = k := by
 have h0 : m ≠ 0 := by have := Nat.two_pow_pos k; omega
 have a := (Nat.le_log2 h0).2 h1
 have b := (Nat.log2_lt h0).2 h2
 omega
theorem write_norm (s : Bool) (m d : Nat) (p : Int) (hm : 2 ^ 52 ≤ m) (hm2 : m < 2 ^ 53) (hp : -1074 ≤ p) (hp2 : p ≤ 971) : Ieee.double.nearest s (m * 2 ^ d) (p - d) = fw s ((p + 1074).toNat * 2 ^ 52 + m) := by
 have hd := Nat.two_pow_pos d
 have h0 : m * 2 ^ d ≠ 0 := Nat.mul_ne_zero (by omega) (by omega)
 have hl : (m * 2 ^ d).log2 = 52 + d := log_of (by rw [Nat.pow_add]; exact Nat.mul_le_mul_right _ hm) (by rw [show 52 + d + 1 = 53 + d by omega, Nat.pow_add]; exact Nat.mul_lt_mul_of_pos_right hm2 hd)
 unfold Ieee.Format.nearest
 rw [if_neg h0]
 simp only [hl, fbits, least, bin, inf, word_fw]
 have e1 : max (p - (d : Int) + ((52 + d : Nat) : Int) - ((52 : Nat) : Int)) (-1074) = p := by omega
 rw [e1]
 have e2 : (p - (d : Int) - p).toNat = 0 := by omega
 have e3 : (p - (p - (d : Int))).toNat = d := by omega
 rw [e2, e3, Nat.shiftLeft_zero]
 have e4 : Ieee.Toward.even.cut s (m * 2 ^ d) d = m := by
  unfold Ieee.Toward.cut
  simp only [hl, Nat.min_eq_left (show d ≤ 52 + d + 2 by omega), Nat.one_shiftLeft, Nat.mul_div_cancel _ hd, Nat.mul_mod_left]
  have : ¬ (2 ^ d < 2 * 0) := by omega
  have h3 : (2 ^ d == 2 * 0) = false := by simp
  simp [h3]
 rw [e4, show p - -1074 = p + 1074 by omega]
 congr 1
 refine Nat.min_eq_left ?_
 have : (p + 1074).toNat ≤ 2045 := by omega
 exact Nat.le_trans (Nat.add_le_add (Nat.mul_le_mul_right (2 ^ 52) this) (Nat.le_of_lt hm2)) (by decide)
theorem fw_lt (s : Bool) (r : Nat) (h : r < 2047 * 2 ^ 52) : fw s r < 18446744073709551616 := by
 unfold fw; cases s <;> simp <;> omega
theorem cut0 (s : Bool) (n : Nat) : Ieee.Toward.even.cut s n 0 = n := by
 unfold Ieee.Toward.cut
 simp [Nat.mod_one]
theorem cut_up (s : Bool) (n d : Nat) (h : d ≤ n.log2) : n / 2 ^ d ≤ Ieee.Toward.even.cut s n d ∧ Ieee.Toward.even.cut s n d ≤ n / 2 ^ d + 1 := by
 unfold Ieee.Toward.cut
 rw [Nat.min_eq_left (show d ≤ n.log2 + 2 by omega), Nat.one_shiftLeft]
 refine ⟨Nat.le_add_right _ _, Nat.add_le_add_left ?_ _⟩
 exact Bool.toNat_le _
theorem of_nat (n : Nat) (h0 : n ≠ 0) (h : n < 2 ^ 64) : ∃ r, floatOfInt .f64 (n : Int) = fw false r ∧ 2 ^ 52 ≤ r ∧ r ≤ 1087 * 2 ^ 52 := by
 have hl : n.log2 < 64 := (Nat.log2_lt h0).2 h
 have hlo : 2 ^ n.log2 ≤ n := (Nat.le_log2 h0).1 (Nat.le_refl _)
 have hhi : n < 2 ^ (n.log2 + 1) := (Nat.log2_lt h0).1 (Nat.lt_succ_self _)
 have hneg : decide ((n : Int) < 0) = false := by simp
 have e0 : floatOfInt .f64 (n : Int) = Ieee.double.nearest false n 0 := by
  show Ieee.double.write (.number (decide ((n : Int) < 0)) (n : Int).natAbs 0) = _
  rw [hneg]; rfl
 rw [e0]
 unfold Ieee.Format.nearest
 rw [if_neg h0]
 simp only [fbits, least, bin, inf, word_fw]
 have e1 : max ((0 : Int) + (n.log2 : Int) - ((52 : Nat) : Int)) (-1074) = (n.log2 : Int) - 52 := by omega
 rw [e1]
 have key : ∀ kept, 2 ^ 52 ≤ kept → kept ≤ 2 ^ 53 → ∃ r, fw false (min (((n.log2 : Int) - 52 - -1074).toNat * 2 ^ 52 + kept) (2047 * 2 ^ 52)) = fw false r ∧ 2 ^ 52 ≤ r ∧ r ≤ 1087 * 2 ^ 52 := by
  intro kept k1 k2
  refine ⟨_, rfl, ?_, ?_⟩ <;> omega
 by_cases hd : n.log2 ≤ 52
 ·have e2 : (0 - ((n.log2 : Int) - 52)).toNat = 52 - n.log2 := by omega
  have e3 : ((n.log2 : Int) - 52 - 0).toNat = 0 := by omega
  rw [e2, e3, cut0, Nat.shiftLeft_eq]
  have h1 : 2 ^ 52 ≤ n * 2 ^ (52 - n.log2) := by
   calc 2 ^ 52 = 2 ^ n.log2 * 2 ^ (52 - n.log2) := by rw [← Nat.pow_add]; congr 1; omega
    _ ≤ n * 2 ^ (52 - n.log2) := Nat.mul_le_mul_right _ hlo
  have h2 : n * 2 ^ (52 - n.log2) < 2 ^ 53 := by
   calc n * 2 ^ (52 - n.log2) < 2 ^ (n.log2 + 1) * 2 ^ (52 - n.log2) := Nat.mul_lt_mul_of_pos_right hhi (Nat.two_pow_pos _)
    _ = 2 ^ 53 := by rw [← Nat.pow_add]; congr 1; omega
  exact key _ h1 (by omega)
 ·have e2 : (0 - ((n.log2 : Int) - 52)).toNat = 0 := by omega
  have e3 : ((n.log2 : Int) - 52 - 0).toNat = n.log2 - 52 := by omega
  rw [e2, e3, Nat.shiftLeft_zero]
  obtain ⟨c1, c2⟩ := cut_up false n (n.log2 - 52) (by omega)
  have h1 : n / 2 ^ (n.log2 - 52) < 2 ^ 53 := by
   rw [Nat.div_lt_iff_lt_mul (Nat.two_pow_pos _), ← Nat.pow_add, show 53 + (n.log2 - 52) = n.log2 + 1 by omega]
   exact hhi
  have h2 : 2 ^ 52 ≤ n / 2 ^ (n.log2 - 52) := by
   rw [Nat.le_div_iff_mul_le (Nat.two_pow_pos _), ← Nat.pow_add, show 52 + (n.log2 - 52) = n.log2 by omega]
   exact hlo
  exact key _ (by omega) (by omega)
theorem of_zero : floatOfInt .f64 ((0 : Nat) : Int) = fw false 0 := by decide
def Okr (r : Nat) : Prop := r = 0 ∨ 2 ^ 52 ≤ r
def up (r : Nat) : Nat := if r = 0 then 0 else r + 2 ^ 52
theorem two : (4611686018427387904 : Nat) = fw false (1024 * 2 ^ 52) := by decide
theorem twice (s : Bool) (r : Nat) (ho : Okr r) (h : r + 2 ^ 52 < 2047 * 2 ^ 52) : floatBits .mul .f64 (fw s r) 4611686018427387904 = some (fw s (up r)) := by
 show Ieee.double.mul (fw s r) 4611686018427387904 = _
 unfold Ieee.Format.mul
 rw [two, read_fw s r (by omega), read_fw false (1024 * 2 ^ 52) (by decide)]
 rw [if_neg (show ¬ 1024 * 2 ^ 52 < 2 ^ 52 by decide)]
 rcases ho with rfl | hr
 ·rw [if_pos (by decide)]
  simp only [Ieee.Datum.product, Option.map_some, Ieee.Format.write, Nat.zero_mul, Bool.xor_false]
  unfold Ieee.Format.nearest
  simp [word_fw, up]
 ·rw [if_neg (by omega)]
  simp only [Ieee.Datum.product, Option.map_some, Ieee.Format.write, Bool.xor_false]
  rw [show (2 : Nat) ^ 52 + 1024 * 2 ^ 52 % 2 ^ 52 = 2 ^ 52 by decide]
  have hq : 1 ≤ r / 2 ^ 52 := by omega
  have hq2 : r / 2 ^ 52 < 2046 := by omega
  have e : (-1074 : Int) + ((r / 2 ^ 52 - 1 : Nat) : Int) + (-1074 + ((1024 * 2 ^ 52 / 2 ^ 52 - 1 : Nat) : Int)) = ((r / 2 ^ 52 : Nat) : Int) - 1074 - ((52 : Nat) : Int) := by
   rw [show (1024 * 2 ^ 52 / 2 ^ 52 - 1 : Nat) = 1023 by decide]; omega
  rw [e, write_norm s (2 ^ 52 + r % 2 ^ 52) 52 _ (by omega) (by omega) (by omega) (by omega)]
  have e2 : (((r / 2 ^ 52 : Nat) : Int) - 1074 + 1074).toNat = r / 2 ^ 52 := by omega
  rw [e2]
  unfold up
  rw [if_neg (by omega)]
  congr 2
  omega
end Go.Proofs.YtabeokminikfdaaGreat
namespace Go.Proofs.YtabeokminikfdaaGreat
def V (r : Nat) : Nat := if r < 2 ^ 52 then r else (2 ^ 52 + r % 2 ^ 52) * 2 ^ (r / 2 ^ 52 - 1)
theorem V_succ (r : Nat) : V r < V (r + 1) := by
 unfold V
 by_cases h1 : r + 1 < 2 ^ 52
 ·rw [if_pos (by omega), if_pos h1]; omega
 ·by_cases h2 : r < 2 ^ 52
  ·obtain rfl : r = 2 ^ 52 - 1 := by omega
   rw [if_pos (by decide), if_neg (by decide)]; decide
  ·rw [if_neg h2, if_neg h1]
   by_cases h3 : r % 2 ^ 52 + 1 < 2 ^ 52
   ·have e1 : (r + 1) / 2 ^ 52 = r / 2 ^ 52 := by omega
    have e2 : (r + 1) % 2 ^ 52 = r % 2 ^ 52 + 1 := by omega
    rw [e1, e2]
    exact Nat.mul_lt_mul_of_pos_right (by omega) (Nat.two_pow_pos _)
   ·have e1 : (r + 1) / 2 ^ 52 = r / 2 ^ 52 + 1 := by omega
    have e2 : (r + 1) % 2 ^ 52 = 0 := by omega
    rw [e1, e2]
    have hq : r / 2 ^ 52 + 1 - 1 = (r / 2 ^ 52 - 1) + 1 := by omega
    have hp : 2 ^ (r / 2 ^ 52 - 1 + 1) = 2 * 2 ^ (r / 2 ^ 52 - 1) := by rw [Nat.pow_succ, Nat.mul_comm]
    rw [hq, hp, ← Nat.mul_assoc]
    exact Nat.mul_lt_mul_of_pos_right (by omega) (Nat.two_pow_pos _)
theorem V_lt {a b : Nat} (h : a < b) : V a < V b := by
 induction b with
 | zero => omega
 | succ b ih =>
  by_cases hb : a < b
  ·exact Nat.lt_trans (ih hb) (V_succ b)
  ·obtain rfl : a = b := by omega
   exact V_succ a
theorem V_le {a b : Nat} (h : a ≤ b) : V a ≤ V b := by
 rcases Nat.lt_or_eq_of_le h with h | rfl
 ·exact Nat.le_of_lt (V_lt h)
 ·exact Nat.le_refl _
def pl (r : Nat) : Nat := if r < 2 ^ 52 then 0 else r / 2 ^ 52 - 1
def mg (r : Nat) : Nat := if r < 2 ^ 52 then r else 2 ^ 52 + r % 2 ^ 52
theorem V_eq (r : Nat) : V r = mg r * 2 ^ pl r := by unfold V mg pl; split <;> simp
theorem read_mg (s : Bool) (r : Nat) (h : r < 2047 * 2 ^ 52) : Ieee.double.read (fw s r) = .number s (mg r) (-1074 + ((pl r : Nat) : Int)) := by
 rw [read_fw s r h]; unfold mg pl; split <;> simp
def sg (s : Bool) (n : Nat) : Int := if s then -(n : Int) else n
theorem signed_sg (s : Bool) (m u : Nat) : Ieee.signed s m u = sg s (m * 2 ^ u) := by unfold Ieee.signed sg; simp [Nat.shiftLeft_eq]
theorem sg_mul (s : Bool) (n k : Nat) : sg s (n * k) = sg s n * (k : Int) := by unfold sg; cases s <;> simp [Int.neg_mul]
theorem compare_mul (a b : Int) (k : Nat) (hk : 0 < k) : compare (a * (k : Int)) (b * (k : Int)) = compare a b := by
 have hk' : (0 : Int) < k := by omega
 rcases Int.lt_trichotomy a b with h | rfl | h
 ·rw [(Std.compare_eq_lt (α := Int)).2 h, (Std.compare_eq_lt (α := Int)).2 (Int.mul_lt_mul_of_pos_right h hk')]
 ·simp
 ·rw [(Std.compare_eq_gt (α := Int)).2 h, (Std.compare_eq_gt (α := Int)).2 (Int.mul_lt_mul_of_pos_right h hk')]
theorem order_fw (s t : Bool) (a b : Nat) (ha : a < 2047 * 2 ^ 52) (hb : b < 2047 * 2 ^ 52) : Ieee.double.order (fw s a) (fw t b) = some (compare (sg s (V a)) (sg t (V b))) := by
 unfold Ieee.Format.order
 rw [read_mg s a ha, read_mg t b hb]
 simp only [Ieee.Datum.order, signed_sg]
 congr 1
 obtain ⟨c, hc⟩ : ∃ c, c = min (pl a) (pl b) := ⟨_, rfl⟩
 have e1 : (-1074 + ((pl a : Nat) : Int) - min (-1074 + ((pl a : Nat) : Int)) (-1074 + ((pl b : Nat) : Int))).toNat = pl a - c := by omega
 have e2 : (-1074 + ((pl b : Nat) : Int) - min (-1074 + ((pl a : Nat) : Int)) (-1074 + ((pl b : Nat) : Int))).toNat = pl b - c := by omega
 rw [e1, e2, ← compare_mul _ _ (2 ^ c) (Nat.two_pow_pos _), ← sg_mul, ← sg_mul, V_eq, V_eq, Nat.mul_assoc, Nat.mul_assoc, ← Nat.pow_add, ← Nat.pow_add]
 congr 4 <;> omega
def LP : Nat := 1074
def tr (r : Nat) : Nat := V r / 2 ^ LP
theorem cut_zero (s : Bool) (n d : Nat) : Ieee.Toward.zero.cut s n d = n / 2 ^ d := by
 unfold Ieee.Toward.cut
 simp only [Bool.toNat_false, Nat.add_zero, Nat.one_shiftLeft]
 by_cases h : d ≤ n.log2 + 2
 ·rw [Nat.min_eq_left h]
 ·rw [Nat.min_eq_right (by omega)]
  have hn : n < 2 ^ (n.log2 + 1) := Nat.lt_log2_self
  rw [Nat.div_eq_of_lt (Nat.lt_trans hn (Nat.pow_lt_pow_right (by decide) (by omega))), Nat.div_eq_of_lt (Nat.lt_trans hn (Nat.pow_lt_pow_right (by decide) (by omega)))]
theorem toInt_fw (s : Bool) (r : Nat) (h : r < 2047 * 2 ^ 52) : (FloatKind.f64.decode (fw s r)).toInt .zero = some (sg s (tr r)) := by
 show (Ieee.double.read (fw s r)).toInt .zero = _
 rw [read_mg s r h]
 simp only [Ieee.Datum.toInt, Ieee.Datum.integral, signed_sg, cut_zero, Nat.shiftLeft_eq, Nat.pow_zero, Nat.mul_one]
 congr 2
 unfold tr
 rw [V_eq]
 have hLP : LP = 1074 := rfl
 by_cases hp : LP ≤ pl r
 ·have e1 : (-1074 + ((pl r : Nat) : Int)).toNat = pl r - LP := by omega
  have e2 : (-(-1074 + ((pl r : Nat) : Int))).toNat = 0 := by omega
  have e3 : mg r * 2 ^ pl r = mg r * 2 ^ (pl r - LP) * 2 ^ LP := by rw [Nat.mul_assoc, ← Nat.pow_add, show pl r - LP + LP = pl r by omega]
  rw [e1, e2, Nat.pow_zero, Nat.div_one, e3, Nat.mul_div_cancel _ (Nat.two_pow_pos _)]
 ·have e1 : (-1074 + ((pl r : Nat) : Int)).toNat = 0 := by omega
  have e2 : (-(-1074 + ((pl r : Nat) : Int))).toNat = LP - pl r := by omega
  rw [e1, e2, Nat.pow_zero, Nat.mul_one]
  have e3 : 2 ^ LP = 2 ^ (LP - pl r) * 2 ^ pl r := by rw [← Nat.pow_add, show LP - pl r + pl r = LP by omega]
  rw [e3, Nat.mul_div_mul_right _ _ (Nat.two_pow_pos _)]
end Go.Proofs.YtabeokminikfdaaGreat
namespace Go.Proofs.YtabeokminikfdaaGreat
open Go.RowKit
theorem fin_word (r : Nat) (h : r < 2047 * 2 ^ 52) : (FloatKind.f64.format.order r 9218868437227405311 == some Ordering.lt || FloatKind.f64.format.order r 9218868437227405311 == some Ordering.eq) = true := by
 have ho := order_fw false false r (2047 * 2 ^ 52 - 1) h (by omega)
 have hv := V_le (show r ≤ 2047 * 2 ^ 52 - 1 by omega)
 rw [show fw false (2047 * 2 ^ 52 - 1) = 9218868437227405311 by decide] at ho
 generalize hV : V (2047 * 2 ^ 52 - 1) = M at ho hv
 have hc : compare (sg false (V r)) (sg false M) ≠ .gt := by
  unfold sg
  rw [Ne, Int.compare_eq_gt]
  simp
  omega
 show (Ieee.double.order (fw false r) 9218868437227405311 == some Ordering.lt || Ieee.double.order (fw false r) 9218868437227405311 == some Ordering.eq) = true
 rw [ho]
 cases hq : compare (sg false (V r)) (sg false M) <;> first | rfl | exact absurd hq hc
theorem pos_word (r : Nat) (h : r < 2047 * 2 ^ 52) : (FloatKind.f64.format.order r 0 == some Ordering.gt || FloatKind.f64.format.order r 0 == some Ordering.eq) = true := by
 have ho := order_fw false false r 0 h (by decide)
 have e0 : sg false (V 0) = 0 := by decide
 rw [e0] at ho
 have hc : compare (sg false (V r)) 0 ≠ .lt := by
  unfold sg
  rw [Ne, Int.compare_eq_lt]
  simp
 show (Ieee.double.order (fw false r) (fw false 0) == some Ordering.gt || Ieee.double.order (fw false r) (fw false 0) == some Ordering.eq) = true
 rw [ho]
 cases hq : compare (sg false (V r)) 0 <;> first | rfl | exact absurd hq hc
theorem call54 (x : Nat) (w : World) : (callFunc 54 #[.int .u64 (x : Nat)]).run Tryz.prog w = .ok (.value (.float .f64 x)) w := by
 rw [run_callFunc_extern Tryz.func54 (by kernel_rfl) (by kernel_rfl) (by kernel_rfl) (e := Extern.MathFloatBits.float64frombits) (by kernel_rfl)]
 rfl
theorem call61 (x : Nat) (w : World) : (callFunc 61 #[.float .f64 x]).run Tryz.prog w = .ok (.value (.int .u64 x)) w := by
 rw [run_callFunc_extern Tryz.func61 (by kernel_rfl) (by kernel_rfl) (by kernel_rfl) (e := Extern.MathFloatBits.float64bits) (by kernel_rfl)]
 rfl
theorem f55_any (r : Nat) (h : r < 2047 * 2 ^ 52) (w : World) : Calls Tryz.prog 55 #[.float .f64 r] w fun e w' => e = .returned (.bool false) ∧ w = w' := by
 have hc := fun w => call61 r w
 have hw : wrap64 (r : Int) = r := by unfold wrap64; omega
 have h0 : ¬ (r : Int) < 0 := by omega
 have h0b : decide ((r : Int) < 0) = false := decide_eq_false h0
 go_enter Tryz.func55, Tryz.ntmps55
 go_wp2
 go_ret
 exact ⟨rfl, rfl⟩
end Go.Proofs.YtabeokminikfdaaGreat
