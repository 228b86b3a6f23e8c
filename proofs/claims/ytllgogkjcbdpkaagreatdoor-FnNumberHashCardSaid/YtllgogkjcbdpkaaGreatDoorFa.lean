/- Words of floats, in plain numbers: the sign and the rung; twice a float; a float of an integer; what is cut off. -/
import Derived.Laws.FloatArith
namespace Go.Proofs.YtllgogkjcbdpkaaGreatDoor

/-- The word of a sign and a rung. -/
def fw (s : Bool) (r : Nat) : Nat := if s then 2 ^ 63 + r else r
theorem sw : Ieee.double.signWeight = 2 ^ 63 := by decide
theorem bin : Ieee.double.binade = 2 ^ 52 := by decide
theorem inf : Ieee.double.infRung = 2047 * 2 ^ 52 := by decide
theorem least : Ieee.double.leastPlace = -1074 := by decide
theorem fbits : Ieee.double.fractionBits = 52 := by decide
theorem word_fw (s : Bool) (r : Nat) : Ieee.double.word s r = fw s r := by unfold Ieee.Format.word fw; rw [sw]
theorem fw_sign (s : Bool) (r : Nat) (h : r < 2 ^ 63) : (fw s r / 2 ^ 63 % 2 == 1) = s := by
  cases s
  · simp only [fw, Bool.false_eq_true, if_false]; rw [Nat.div_eq_of_lt h]; rfl
  · simp only [fw, if_true]; rw [Nat.add_div_left _ (by decide), Nat.div_eq_of_lt h]; rfl
theorem fw_rung (s : Bool) (r : Nat) (h : r < 2 ^ 63) : fw s r % 2 ^ 63 = r := by
  cases s
  · simp only [fw, Bool.false_eq_true, if_false]; exact Nat.mod_eq_of_lt h
  · simp only [fw, if_true]; rw [Nat.add_mod_left]; exact Nat.mod_eq_of_lt h
theorem read_fw (s : Bool) (r : Nat) (h : r < 2047 * 2 ^ 52) : Ieee.double.read (fw s r) = if r < 2 ^ 52 then .number s r (-1074) else .number s (2 ^ 52 + r % 2 ^ 52) (-1074 + ((r / 2 ^ 52 - 1 : Nat) : Int)) := by
  have h63 : r < 2 ^ 63 := Nat.lt_trans h (by decide)
  unfold Ieee.Format.read
  simp only [sw, bin, inf, least, fw_sign s r h63, fw_rung s r h63]
  rw [if_pos h]
theorem log_of {m k : Nat} (h1 : 2 ^ k ≤ m) (h2 : m < 2 ^ (k + 1)) : m.log2 = k := by
  have h0 : m ≠ 0 := by have := Nat.two_pow_pos k; omega
  have a := (Nat.le_log2 h0).2 h1
  have b := (Nat.log2_lt h0).2 h2
  omega
/-- A number of 53 digits, at a place that is not too low or too high: its word. -/
theorem write_norm (s : Bool) (m d : Nat) (p : Int) (hm : 2 ^ 52 ≤ m) (hm2 : m < 2 ^ 53) (hp : -1074 ≤ p) (hp2 : p ≤ 971) : Ieee.double.nearest s (m * 2 ^ d) (p - d) = fw s ((p + 1074).toNat * 2 ^ 52 + m) := by
  have hd := Nat.two_pow_pos d
  have h0 : m * 2 ^ d ≠ 0 := Nat.mul_ne_zero (by omega) (by omega)
  have hl : (m * 2 ^ d).log2 = 52 + d := log_of (by rw [Nat.pow_add]; exact Nat.mul_le_mul_right _ hm) (by rw [show 52 + d + 1 = 53 + d by omega, Nat.pow_add]; exact Nat.mul_lt_mul_of_pos_right hm2 hd)
  unfold Ieee.Format.nearest
  rw [if_neg h0]
  simp only [hl, fbits, least, bin, inf, word_fw]
  have e1 : max (p - (d : Int) + ((52 + d : Nat) : Int) - ((52 : Nat) : Int)) (-1074) = p := by omega
  rw [e1]
  have e2 : (p - (d : Int) - p).toNat = 0 := by omega
  have e3 : (p - (p - (d : Int))).toNat = d := by omega
  rw [e2, e3, Nat.shiftLeft_zero]
  have e4 : Ieee.Toward.even.cut s (m * 2 ^ d) d = m := by
    unfold Ieee.Toward.cut
    simp only [hl, Nat.min_eq_left (show d ≤ 52 + d + 2 by omega), Nat.one_shiftLeft, Nat.mul_div_cancel _ hd, Nat.mul_mod_left]
    have : ¬ (2 ^ d < 2 * 0) := by omega
    have h3 : (2 ^ d == 2 * 0) = false := by simp
    simp [h3]
  rw [e4, show p - -1074 = p + 1074 by omega]
  congr 1
  refine Nat.min_eq_left ?_
  have : (p + 1074).toNat ≤ 2045 := by omega
  exact Nat.le_trans (Nat.add_le_add (Nat.mul_le_mul_right (2 ^ 52) this) (Nat.le_of_lt hm2)) (by decide)
theorem fw_lt (s : Bool) (r : Nat) (h : r < 2047 * 2 ^ 52) : fw s r < 18446744073709551616 := by
  unfold fw; cases s <;> simp <;> omega
theorem cut0 (s : Bool) (n : Nat) : Ieee.Toward.even.cut s n 0 = n := by
  unfold Ieee.Toward.cut
  simp [Nat.mod_one]
theorem cut_up (s : Bool) (n d : Nat) (h : d ≤ n.log2) : n / 2 ^ d ≤ Ieee.Toward.even.cut s n d ∧ Ieee.Toward.even.cut s n d ≤ n / 2 ^ d + 1 := by
  unfold Ieee.Toward.cut
  rw [Nat.min_eq_left (show d ≤ n.log2 + 2 by omega), Nat.one_shiftLeft]
  refine ⟨Nat.le_add_right _ _, Nat.add_le_add_left ?_ _⟩
  exact Bool.toNat_le _
/-- The float of an integer below 2^64. -/
theorem of_nat (n : Nat) (h0 : n ≠ 0) (h : n < 2 ^ 64) : ∃ r, floatOfInt .f64 (n : Int) = fw false r ∧ 2 ^ 52 ≤ r ∧ r ≤ 1087 * 2 ^ 52 := by
  have hl : n.log2 < 64 := (Nat.log2_lt h0).2 h
  have hlo : 2 ^ n.log2 ≤ n := (Nat.le_log2 h0).1 (Nat.le_refl _)
  have hhi : n < 2 ^ (n.log2 + 1) := (Nat.log2_lt h0).1 (Nat.lt_succ_self _)
  have hneg : decide ((n : Int) < 0) = false := by simp
  have e0 : floatOfInt .f64 (n : Int) = Ieee.double.nearest false n 0 := by
    show Ieee.double.write (.number (decide ((n : Int) < 0)) (n : Int).natAbs 0) = _
    rw [hneg]; rfl
  rw [e0]
  unfold Ieee.Format.nearest
  rw [if_neg h0]
  simp only [fbits, least, bin, inf, word_fw]
  have e1 : max ((0 : Int) + (n.log2 : Int) - ((52 : Nat) : Int)) (-1074) = (n.log2 : Int) - 52 := by omega
  rw [e1]
  have key : ∀ kept, 2 ^ 52 ≤ kept → kept ≤ 2 ^ 53 → ∃ r, fw false (min (((n.log2 : Int) - 52 - -1074).toNat * 2 ^ 52 + kept) (2047 * 2 ^ 52)) = fw false r ∧ 2 ^ 52 ≤ r ∧ r ≤ 1087 * 2 ^ 52 := by
    intro kept k1 k2
    refine ⟨_, rfl, ?_, ?_⟩ <;> omega
  by_cases hd : n.log2 ≤ 52
  · have e2 : (0 - ((n.log2 : Int) - 52)).toNat = 52 - n.log2 := by omega
    have e3 : ((n.log2 : Int) - 52 - 0).toNat = 0 := by omega
    rw [e2, e3, cut0, Nat.shiftLeft_eq]
    have h1 : 2 ^ 52 ≤ n * 2 ^ (52 - n.log2) := by
      calc 2 ^ 52 = 2 ^ n.log2 * 2 ^ (52 - n.log2) := by rw [← Nat.pow_add]; congr 1; omega
        _ ≤ n * 2 ^ (52 - n.log2) := Nat.mul_le_mul_right _ hlo
    have h2 : n * 2 ^ (52 - n.log2) < 2 ^ 53 := by
      calc n * 2 ^ (52 - n.log2) < 2 ^ (n.log2 + 1) * 2 ^ (52 - n.log2) := Nat.mul_lt_mul_of_pos_right hhi (Nat.two_pow_pos _)
        _ = 2 ^ 53 := by rw [← Nat.pow_add]; congr 1; omega
    exact key _ h1 (by omega)
  · have e2 : (0 - ((n.log2 : Int) - 52)).toNat = 0 := by omega
    have e3 : ((n.log2 : Int) - 52 - 0).toNat = n.log2 - 52 := by omega
    rw [e2, e3, Nat.shiftLeft_zero]
    obtain ⟨c1, c2⟩ := cut_up false n (n.log2 - 52) (by omega)
    have h1 : n / 2 ^ (n.log2 - 52) < 2 ^ 53 := by
      rw [Nat.div_lt_iff_lt_mul (Nat.two_pow_pos _), ← Nat.pow_add, show 53 + (n.log2 - 52) = n.log2 + 1 by omega]
      exact hhi
    have h2 : 2 ^ 52 ≤ n / 2 ^ (n.log2 - 52) := by
      rw [Nat.le_div_iff_mul_le (Nat.two_pow_pos _), ← Nat.pow_add, show 52 + (n.log2 - 52) = n.log2 by omega]
      exact hlo
    exact key _ (by omega) (by omega)
theorem of_zero : floatOfInt .f64 ((0 : Nat) : Int) = fw false 0 := by decide
/-- A rung of a float's that is a zero, or not too small. -/
def Okr (r : Nat) : Prop := r = 0 ∨ 2 ^ 52 ≤ r
def up (r : Nat) : Nat := if r = 0 then 0 else r + 2 ^ 52
theorem two : (4611686018427387904 : Nat) = fw false (1024 * 2 ^ 52) := by decide
theorem twice (s : Bool) (r : Nat) (ho : Okr r) (h : r + 2 ^ 52 < 2047 * 2 ^ 52) : floatBits .mul .f64 (fw s r) 4611686018427387904 = some (fw s (up r)) := by
  show Ieee.double.mul (fw s r) 4611686018427387904 = _
  unfold Ieee.Format.mul
  rw [two, read_fw s r (by omega), read_fw false (1024 * 2 ^ 52) (by decide)]
  rw [if_neg (show ¬ 1024 * 2 ^ 52 < 2 ^ 52 by decide)]
  rcases ho with rfl | hr
  · rw [if_pos (by decide)]
    simp only [Ieee.Datum.product, Option.map_some, Ieee.Format.write, Nat.zero_mul, Bool.xor_false]
    unfold Ieee.Format.nearest
    simp [word_fw, up]
  · rw [if_neg (by omega)]
    simp only [Ieee.Datum.product, Option.map_some, Ieee.Format.write, Bool.xor_false]
    rw [show (2 : Nat) ^ 52 + 1024 * 2 ^ 52 % 2 ^ 52 = 2 ^ 52 by decide]
    have hq : 1 ≤ r / 2 ^ 52 := by omega
    have hq2 : r / 2 ^ 52 < 2046 := by omega
    have e : (-1074 : Int) + ((r / 2 ^ 52 - 1 : Nat) : Int) + (-1074 + ((1024 * 2 ^ 52 / 2 ^ 52 - 1 : Nat) : Int)) = ((r / 2 ^ 52 : Nat) : Int) - 1074 - ((52 : Nat) : Int) := by
      rw [show (1024 * 2 ^ 52 / 2 ^ 52 - 1 : Nat) = 1023 by decide]; omega
    rw [e, write_norm s (2 ^ 52 + r % 2 ^ 52) 52 _ (by omega) (by omega) (by omega) (by omega)]
    have e2 : (((r / 2 ^ 52 : Nat) : Int) - 1074 + 1074).toNat = r / 2 ^ 52 := by omega
    rw [e2]
    unfold up
    rw [if_neg (by omega)]
    congr 2
    omega
end Go.Proofs.YtllgogkjcbdpkaaGreatDoor
