/- Floats compared, and cut to integers, in plain numbers. -/
import Derived.Test.YtllgogkjcbdpkaaGreatDoorFa
namespace Go.Proofs.YtllgogkjcbdpkaaGreatDoor

/-- What a rung is worth, in units of the least place. -/
def V (r : Nat) : Nat := if r < 2 ^ 52 then r else (2 ^ 52 + r % 2 ^ 52) * 2 ^ (r / 2 ^ 52 - 1)
theorem V_succ (r : Nat) : V r < V (r + 1) := by
  unfold V
  by_cases h1 : r + 1 < 2 ^ 52
  · rw [if_pos (by omega), if_pos h1]; omega
  · by_cases h2 : r < 2 ^ 52
    · obtain rfl : r = 2 ^ 52 - 1 := by omega
      rw [if_pos (by decide), if_neg (by decide)]; decide
    · rw [if_neg h2, if_neg h1]
      by_cases h3 : r % 2 ^ 52 + 1 < 2 ^ 52
      · have e1 : (r + 1) / 2 ^ 52 = r / 2 ^ 52 := by omega
        have e2 : (r + 1) % 2 ^ 52 = r % 2 ^ 52 + 1 := by omega
        rw [e1, e2]
        exact Nat.mul_lt_mul_of_pos_right (by omega) (Nat.two_pow_pos _)
      · have e1 : (r + 1) / 2 ^ 52 = r / 2 ^ 52 + 1 := by omega
        have e2 : (r + 1) % 2 ^ 52 = 0 := by omega
        rw [e1, e2]
        have hq : r / 2 ^ 52 + 1 - 1 = (r / 2 ^ 52 - 1) + 1 := by omega
        have hp : 2 ^ (r / 2 ^ 52 - 1 + 1) = 2 * 2 ^ (r / 2 ^ 52 - 1) := by rw [Nat.pow_succ, Nat.mul_comm]
        rw [hq, hp, ← Nat.mul_assoc]
        exact Nat.mul_lt_mul_of_pos_right (by omega) (Nat.two_pow_pos _)
theorem V_lt {a b : Nat} (h : a < b) : V a < V b := by
  induction b with
  | zero => omega
  | succ b ih =>
    by_cases hb : a < b
    · exact Nat.lt_trans (ih hb) (V_succ b)
    · obtain rfl : a = b := by omega
      exact V_succ a
theorem V_le {a b : Nat} (h : a ≤ b) : V a ≤ V b := by
  rcases Nat.lt_or_eq_of_le h with h | rfl
  · exact Nat.le_of_lt (V_lt h)
  · exact Nat.le_refl _
/-- The place of a rung's last digit, less the least place; its digits. -/
def pl (r : Nat) : Nat := if r < 2 ^ 52 then 0 else r / 2 ^ 52 - 1
def mg (r : Nat) : Nat := if r < 2 ^ 52 then r else 2 ^ 52 + r % 2 ^ 52
theorem V_eq (r : Nat) : V r = mg r * 2 ^ pl r := by unfold V mg pl; split <;> simp
theorem read_mg (s : Bool) (r : Nat) (h : r < 2047 * 2 ^ 52) : Ieee.double.read (fw s r) = .number s (mg r) (-1074 + ((pl r : Nat) : Int)) := by
  rw [read_fw s r h]; unfold mg pl; split <;> simp
def sg (s : Bool) (n : Nat) : Int := if s then -(n : Int) else n
theorem signed_sg (s : Bool) (m u : Nat) : Ieee.signed s m u = sg s (m * 2 ^ u) := by unfold Ieee.signed sg; simp [Nat.shiftLeft_eq]
theorem sg_mul (s : Bool) (n k : Nat) : sg s (n * k) = sg s n * (k : Int) := by unfold sg; cases s <;> simp [Int.neg_mul]
theorem compare_mul (a b : Int) (k : Nat) (hk : 0 < k) : compare (a * (k : Int)) (b * (k : Int)) = compare a b := by
  have hk' : (0 : Int) < k := by omega
  rcases Int.lt_trichotomy a b with h | rfl | h
  · rw [(Std.compare_eq_lt (α := Int)).2 h, (Std.compare_eq_lt (α := Int)).2 (Int.mul_lt_mul_of_pos_right h hk')]
  · simp
  · rw [(Std.compare_eq_gt (α := Int)).2 h, (Std.compare_eq_gt (α := Int)).2 (Int.mul_lt_mul_of_pos_right h hk')]
/-- How two floats stand to each other. -/
theorem order_fw (s t : Bool) (a b : Nat) (ha : a < 2047 * 2 ^ 52) (hb : b < 2047 * 2 ^ 52) : Ieee.double.order (fw s a) (fw t b) = some (compare (sg s (V a)) (sg t (V b))) := by
  unfold Ieee.Format.order
  rw [read_mg s a ha, read_mg t b hb]
  simp only [Ieee.Datum.order, signed_sg]
  congr 1
  obtain ⟨c, hc⟩ : ∃ c, c = min (pl a) (pl b) := ⟨_, rfl⟩
  have e1 : (-1074 + ((pl a : Nat) : Int) - min (-1074 + ((pl a : Nat) : Int)) (-1074 + ((pl b : Nat) : Int))).toNat = pl a - c := by omega
  have e2 : (-1074 + ((pl b : Nat) : Int) - min (-1074 + ((pl a : Nat) : Int)) (-1074 + ((pl b : Nat) : Int))).toNat = pl b - c := by omega
  rw [e1, e2, ← compare_mul _ _ (2 ^ c) (Nat.two_pow_pos _), ← sg_mul, ← sg_mul, V_eq, V_eq, Nat.mul_assoc, Nat.mul_assoc, ← Nat.pow_add, ← Nat.pow_add]
  congr 4 <;> omega
/-- Cut towards zero. -/
def LP : Nat := 1074
def tr (r : Nat) : Nat := V r / 2 ^ LP
theorem cut_zero (s : Bool) (n d : Nat) : Ieee.Toward.zero.cut s n d = n / 2 ^ d := by
  unfold Ieee.Toward.cut
  simp only [Bool.toNat_false, Nat.add_zero, Nat.one_shiftLeft]
  by_cases h : d ≤ n.log2 + 2
  · rw [Nat.min_eq_left h]
  · rw [Nat.min_eq_right (by omega)]
    have hn : n < 2 ^ (n.log2 + 1) := Nat.lt_log2_self
    rw [Nat.div_eq_of_lt (Nat.lt_trans hn (Nat.pow_lt_pow_right (by decide) (by omega))), Nat.div_eq_of_lt (Nat.lt_trans hn (Nat.pow_lt_pow_right (by decide) (by omega)))]
theorem toInt_fw (s : Bool) (r : Nat) (h : r < 2047 * 2 ^ 52) : (FloatKind.f64.decode (fw s r)).toInt .zero = some (sg s (tr r)) := by
  show (Ieee.double.read (fw s r)).toInt .zero = _
  rw [read_mg s r h]
  simp only [Ieee.Datum.toInt, Ieee.Datum.integral, signed_sg, cut_zero, Nat.shiftLeft_eq, Nat.pow_zero, Nat.mul_one]
  congr 2
  unfold tr
  rw [V_eq]
  have hLP : LP = 1074 := rfl
  by_cases hp : LP ≤ pl r
  · have e1 : (-1074 + ((pl r : Nat) : Int)).toNat = pl r - LP := by omega
    have e2 : (-(-1074 + ((pl r : Nat) : Int))).toNat = 0 := by omega
    have e3 : mg r * 2 ^ pl r = mg r * 2 ^ (pl r - LP) * 2 ^ LP := by rw [Nat.mul_assoc, ← Nat.pow_add, show pl r - LP + LP = pl r by omega]
    rw [e1, e2, Nat.pow_zero, Nat.div_one, e3, Nat.mul_div_cancel _ (Nat.two_pow_pos _)]
  · have e1 : (-1074 + ((pl r : Nat) : Int)).toNat = 0 := by omega
    have e2 : (-(-1074 + ((pl r : Nat) : Int))).toNat = LP - pl r := by omega
    rw [e1, e2, Nat.pow_zero, Nat.mul_one]
    have e3 : 2 ^ LP = 2 ^ (LP - pl r) * 2 ^ pl r := by rw [← Nat.pow_add, show LP - pl r + pl r = LP by omega]
    rw [e3, Nat.mul_div_mul_right _ _ (Nat.two_pow_pos _)]
end Go.Proofs.YtllgogkjcbdpkaaGreatDoor
