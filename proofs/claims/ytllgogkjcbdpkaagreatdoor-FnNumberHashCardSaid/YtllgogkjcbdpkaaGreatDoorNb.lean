/- Digits and bits of magnitudes, in plain numbers; the long division bit by bit. -/
import Derived.Test.YtllgogkjcbdpkaaGreatDoorZSp4
namespace Go.Proofs.YtllgogkjcbdpkaaGreatDoor.Z

theorem p8 (q : Nat) : (256 : Nat) ^ q = 2 ^ (8 * q) := by rw [Nat.pow_mul]
theorem lo_mod (l : List Nat) (hd : ∀ d ∈ l, d < 256) (p : Nat) : lo l p = bv l % 256 ^ p := by
  by_cases h : p ≤ l.length
  · have h1 := bv_append (l.take (l.length - p)) (l.drop (l.length - p))
    rw [List.take_append_drop, List.length_drop, show l.length - (l.length - p) = p by omega] at h1
    have h2 : lo l p < 256 ^ p := by
      have := bv_lt (l.drop (l.length - p)) (fun d hx => hd d (List.mem_of_mem_drop hx))
      rw [List.length_drop, show l.length - (l.length - p) = p by omega] at this
      exact this
    rw [h1, Nat.mul_comm, Nat.mul_add_mod]
    exact (Nat.mod_eq_of_lt h2).symm
  · rw [lo_all l p (by omega), Nat.mod_eq_of_lt]
    exact Nat.lt_of_lt_of_le (bv_lt l hd) (Nat.pow_le_pow_right (by decide) (by omega))
theorem dg_eq (l : List Nat) (hd : ∀ d ∈ l, d < 256) (i : Nat) : dg l i = bv l / 256 ^ i % 256 := by
  have h := lo_succ l i
  rw [lo_mod l hd, lo_mod l hd, Nat.pow_succ, Nat.mod_mul] at h
  have h2 : 256 ^ i * (bv l / 256 ^ i % 256) = dg l i * 256 ^ i := by omega
  rw [Nat.mul_comm] at h2
  exact (Nat.eq_of_mul_eq_mul_right (Nat.pow_pos (by decide)) h2).symm
/-- The i-th bit. -/
def bt (n i : Nat) : Nat := n / 2 ^ i % 2
theorem bt_dg (l : List Nat) (hd : ∀ d ∈ l, d < 256) (i : Nat) : dg l (i / 8) / 2 ^ (i % 8) % 2 = bt (bv l) i := by
  rw [dg_eq l hd, p8]
  unfold bt
  have h1 : i = 8 * (i / 8) + i % 8 := by omega
  have e : (256 : Nat) = 2 ^ (i % 8) * 2 ^ (8 - i % 8) := by rw [← Nat.pow_add, show i % 8 + (8 - i % 8) = 8 by omega]
  conv => rhs; rw [h1, Nat.pow_add, ← Nat.div_div_eq_div_mul]
  generalize bv l / 2 ^ (8 * (i / 8)) = x
  rw [e, Nat.mod_mul_right_div_self]
  have : 8 - i % 8 = (7 - i % 8) + 1 := by omega
  rw [this, Nat.pow_succ, Nat.mul_comm _ 2, Nat.mod_mul_right_mod]
theorem bt_lt (n i : Nat) : bt n i < 2 := Nat.mod_lt _ (by decide)
theorem half_bt (n i : Nat) : n / 2 ^ i = 2 * (n / 2 ^ (i + 1)) + bt n i := by
  unfold bt
  rw [Nat.pow_succ, ← Nat.div_div_eq_div_mul]; omega
/-- The highest bit that is set. -/
def LenIs (n k : Nat) : Prop := n < 2 ^ k ∧ (k = 0 ∨ 2 ^ (k - 1) ≤ n)
theorem len_step {n k : Nat} (h : n < 2 ^ (k + 1)) : (bt n k = 1 → LenIs n (k + 1)) ∧ (bt n k = 0 → n < 2 ^ k) := by
  have h1 : n / 2 ^ k < 2 := by rw [Nat.div_lt_iff_lt_mul (Nat.two_pow_pos _)]; rw [Nat.pow_succ] at h; omega
  unfold bt
  constructor
  · intro hb
    refine ⟨h, .inr ?_⟩
    have : 1 ≤ n / 2 ^ k := by generalize n / 2 ^ k = q at *; omega
    rw [Nat.le_div_iff_mul_le (Nat.two_pow_pos _)] at this
    simpa using this
  · intro hb
    have : n / 2 ^ k < 1 := by generalize n / 2 ^ k = q at *; omega
    rw [Nat.div_lt_iff_lt_mul (Nat.two_pow_pos _)] at this
    simpa using this
/-- The division, bit by bit: A by D, down to the bit i: Q so far (a multiple of 2^i), L left. -/
structure Divs (A D i Q L : Nat) : Prop where
  val : A / 2 ^ i = Q / 2 ^ i * D + L
  low : L < D
  whole : Q % 2 ^ i = 0
theorem Divs.done {A D Q L : Nat} (h : Divs A D 0 Q L) : Q = A / D ∧ L = A % D := by
  have h1 := h.val
  simp at h1
  have h3 := Nat.div_add_mod A D
  have h4 : A / D = Q := by rw [h1, Nat.mul_comm, Nat.mul_add_div (Nat.lt_of_le_of_lt (Nat.zero_le _) h.low), Nat.div_eq_of_lt h.low]; omega
  refine ⟨h4.symm, ?_⟩
  rw [h1, Nat.mul_comm, Nat.mul_add_mod, Nat.mod_eq_of_lt h.low]
theorem Divs.zero {A D i Q L : Nat} (h : Divs A D (i + 1) Q L) (hl : 2 * L + bt A i < D) : Divs A D i Q (2 * L + bt A i) := by
  have hw := h.whole
  have hd : Q / 2 ^ i = 2 * (Q / 2 ^ (i + 1)) := by
    have := half_bt Q i
    have h2 : bt Q i = 0 := by
      unfold bt
      have : 2 ^ (i + 1) ∣ Q := Nat.dvd_of_mod_eq_zero hw
      obtain ⟨c, rfl⟩ := this
      rw [Nat.pow_succ, Nat.mul_assoc, Nat.mul_div_cancel_left _ (Nat.two_pow_pos _)]; omega
    omega
  refine ⟨?_, hl, ?_⟩
  · rw [half_bt A i, h.val, hd, Nat.mul_add, ← Nat.mul_assoc]; omega
  · have : 2 ^ (i + 1) ∣ Q := Nat.dvd_of_mod_eq_zero hw
    obtain ⟨c, rfl⟩ := this
    rw [Nat.pow_succ, Nat.mul_assoc, Nat.mul_mod_right]
theorem Divs.one {A D i Q L : Nat} (h : Divs A D (i + 1) Q L) (hl : D ≤ 2 * L + bt A i) : Divs A D i (Q + 2 ^ i) (2 * L + bt A i - D) := by
  have hw := h.whole
  have hb := bt_lt A i
  have hlow := h.low
  obtain ⟨c, rfl⟩ : 2 ^ (i + 1) ∣ Q := Nat.dvd_of_mod_eq_zero hw
  have e1 : (2 ^ (i + 1) * c + 2 ^ i) / 2 ^ i = 2 * c + 1 := by
    rw [Nat.pow_succ, show 2 ^ i * 2 * c + 2 ^ i = (2 * c + 1) * 2 ^ i by rw [Nat.add_mul]; rw [Nat.mul_assoc, Nat.mul_comm (2 ^ i) (2 * c)]; omega, Nat.mul_div_cancel _ (Nat.two_pow_pos _)]
  have e2 : 2 ^ (i + 1) * c / 2 ^ (i + 1) = c := Nat.mul_div_cancel_left _ (Nat.two_pow_pos _)
  have hv := h.val
  rw [e2] at hv
  refine ⟨?_, by omega, ?_⟩
  · rw [half_bt A i, hv, e1, Nat.add_mul, Nat.mul_assoc]; omega
  · rw [Nat.pow_succ, show 2 ^ i * 2 * c + 2 ^ i = (2 * c + 1) * 2 ^ i by rw [Nat.add_mul]; rw [Nat.mul_assoc, Nat.mul_comm (2 ^ i) (2 * c)]; omega, Nat.mul_mod_left]
/-- A digit set anew. -/
theorem bv_set (l : List Nat) (j y : Nat) (h : j < l.length) : bv (l.set j y) + l.getD j 0 * 256 ^ (l.length - 1 - j) = bv l + y * 256 ^ (l.length - 1 - j) := by
  induction l generalizing j with
  | nil => simp at h
  | cons a r ih =>
    cases j with
    | zero => simp [bv]; omega
    | succ j =>
      have := ih j (by simpa using h)
      simp only [List.set_cons_succ, bv, List.length_set, List.getD_cons_succ, List.length_cons]
      rw [show r.length + 1 - 1 - (j + 1) = r.length - 1 - j by omega]
      omega
/-- The quotient's digit gets its bit. -/
theorem set_bit (l : List Nat) (hd : ∀ d ∈ l, d < 256) (i : Nat) (hi : i < 8 * l.length) (hw : bv l % 2 ^ (i + 1) = 0) :
    let j := l.length - 1 - i / 8
    l.getD j 0 + 2 ^ (i % 8) < 256 ∧ (l.getD j 0 ||| 2 ^ (i % 8)) = l.getD j 0 + 2 ^ (i % 8) ∧ bv (l.set j (l.getD j 0 + 2 ^ (i % 8))) = bv l + 2 ^ i := by
  intro j
  have hj : j < l.length := by show l.length - 1 - i / 8 < _; omega
  have hjj : l.length - 1 - j = i / 8 := by show l.length - 1 - (l.length - 1 - i / 8) = _; omega
  have hdg : l.getD j 0 = dg l (i / 8) := by unfold dg; rw [if_pos (by omega)]
  have hx : l.getD j 0 = bv l / 2 ^ (8 * (i / 8)) % 256 := by rw [hdg, dg_eq l hd, p8]
  obtain ⟨c, hc⟩ : 2 ^ (i + 1) ∣ bv l := Nat.dvd_of_mod_eq_zero hw
  have e1 : i + 1 = 8 * (i / 8) + (i % 8 + 1) := by omega
  have hx2 : bv l / 2 ^ (8 * (i / 8)) = 2 ^ (i % 8 + 1) * c := by
    rw [hc, e1, Nat.pow_add, Nat.mul_assoc, Nat.mul_div_cancel_left _ (Nat.two_pow_pos _)]
  have e256 : (256 : Nat) = 2 ^ (i % 8 + 1) * 2 ^ (7 - i % 8) := by rw [← Nat.pow_add, show i % 8 + 1 + (7 - i % 8) = 8 by omega]
  have hx3 : l.getD j 0 = 2 ^ (i % 8 + 1) * (c % 2 ^ (7 - i % 8)) := by rw [hx, hx2]; conv => lhs; rw [e256, Nat.mul_mod_mul_left]
  have hc2 : c % 2 ^ (7 - i % 8) + 1 ≤ 2 ^ (7 - i % 8) := Nat.mod_lt _ (Nat.two_pow_pos _)
  have hp : 2 ^ (i % 8) < 2 ^ (i % 8 + 1) := Nat.pow_lt_pow_right (by decide) (by omega)
  refine ⟨?_, ?_, ?_⟩
  · have := Nat.mul_le_mul_left (2 ^ (i % 8 + 1)) hc2
    rw [← e256, Nat.mul_add, Nat.mul_one, ← hx3] at this
    omega
  · rw [hx3]; exact (Nat.two_pow_add_eq_or_of_lt hp _).symm
  · have := bv_set l j (l.getD j 0 + 2 ^ (i % 8)) hj
    rw [hjj, Nat.add_mul, p8, ← Nat.pow_add, show i % 8 + 8 * (i / 8) = i by omega] at this
    omega
end Go.Proofs.YtllgogkjcbdpkaaGreatDoor.Z
