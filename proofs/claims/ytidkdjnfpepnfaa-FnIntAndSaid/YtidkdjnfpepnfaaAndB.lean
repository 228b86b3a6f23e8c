/- Plain numbers: bytes that stand for an integer in two's complement. No program in sight. -/
import Derived.Test.YtidkdjnfpepnfaaAndNum
namespace Go.Proofs.Ytidkdjnfpepnfaa

/-- The first i bytes of l, each turned over; behind them Z's. -/
def cpZ (l Z : List Nat) (i : Nat) : List Nat := (l.take i).map (fun d => 255 - d) ++ Z.drop i
theorem cpZ_start (l Z : List Nat) : cpZ l Z 0 = Z := by simp [cpZ]
theorem cpZ_set (l Z : List Nat) (i v : Nat) (hi : i < l.length) (hZ : i < Z.length) (hv : v = 255 - l.getD i 0) : (cpZ l Z i).set i v = cpZ l Z (i + 1) := by
  subst hv
  have := lay_step [] ((l.take i).map fun d => 255 - d) (Z.drop i) (255 - l.getD i 0) i (by simp; omega) (by simp; omega)
  unfold cpZ
  rw [List.take_succ_eq_append_getElem hi, List.map_append]
  simpa [hi, drop_one'] using this
where
  drop_one' : ∀ (Z : List Nat) (k : Nat), (Z.drop k).drop 1 = Z.drop (k + 1) := fun Z k => by simp [List.drop_drop]
theorem cpZ_done (l Z : List Nat) (hZ : Z.length = l.length) : cpZ l Z l.length = l.map fun d => 255 - d := by
  unfold cpZ
  rw [List.take_length, List.drop_of_length_le (by omega), List.append_nil]
theorem bv_cp (l : List Nat) (h : ∀ d ∈ l, d < 256) : bv (l.map fun d => 255 - d) = 2 ^ (8 * l.length) - 1 - bv l := by
  have key : ∀ l : List Nat, (∀ d ∈ l, d < 256) → bv (l.map fun d => 255 - d) + bv l + 1 = 256 ^ l.length := by
    intro l
    induction l with
    | nil => intro _; rfl
    | cons a r ih =>
      intro h
      have h1 := h a (by simp)
      have h2 := ih fun d hd => h d (by simp [hd])
      simp only [List.map_cons, bv, List.length_map, List.length_cons, Nat.pow_succ]
      have h3 : (255 - a) * 256 ^ r.length + a * 256 ^ r.length = 255 * 256 ^ r.length := by rw [← Nat.add_mul]; congr 1; omega
      omega
  have := key l h
  rw [Nat.pow_mul, show (2 : Nat) ^ 8 = 256 from rfl]; omega
theorem bv_zpad (n : Nat) (l : List Nat) : bv (List.replicate n 0 ++ l) = bv l := by
  induction n with
  | zero => rfl
  | succ n ih => rw [List.replicate_succ, List.cons_append, bv, ih]; simp
/-- The bytes of two's complement. -/
def plainL (b : Bool) (n : Nat) (l : List Nat) : List Nat := if b then (List.replicate (n - l.length) 0 ++ l).map (fun d => 255 - d) else List.replicate (n - l.length) 0 ++ l
theorem plainL_len (b : Bool) (n : Nat) (l : List Nat) (h : l.length ≤ n) : (plainL b n l).length = n := by unfold plainL; split <;> simp <;> omega
theorem pad_low (n : Nat) (l : List Nat) (h : ∀ d ∈ l, d < 256) : ∀ d ∈ List.replicate (n - l.length) 0 ++ l, d < 256 := by
  intro d hd
  rcases List.mem_append.1 hd with h1 | h1
  · have := (List.mem_replicate.1 h1).2; omega
  · exact h d h1
theorem plainL_low (b : Bool) (n : Nat) (l : List Nat) (h : ∀ d ∈ l, d < 256) : ∀ d ∈ plainL b n l, d < 256 := by
  intro d hd
  unfold plainL at hd
  split at hd
  · obtain ⟨x, _, rfl⟩ := List.mem_map.1 hd; omega
  · exact pad_low n l h d hd
theorem plainL_val (b : Bool) (n : Nat) (l : List Nat) (h : ∀ d ∈ l, d < 256) (hl : l.length ≤ n) : bv (plainL b n l) = cpl (8 * n) b (bv l) := by
  unfold plainL cpl
  cases b
  · exact bv_zpad _ _
  · simp only [if_true]
    rw [bv_cp _ (pad_low n l h), bv_zpad]
    simp; congr 2; congr 1; omega
theorem bytes_split {F : Nat → Nat → Nat} (h : Bitwise F) {a b r s : Nat} (hr : r < 256) (hs : s < 256) : F (a * 256 + r) (b * 256 + s) = F a b * 256 + F r s := by
  have := h.split (k := 8) (a := a) (b := b) hr hs
  rw [Nat.mul_comm a, Nat.mul_comm b, Nat.mul_comm (F a b)]
  exact this
theorem getD_lt8 (xs : List Nat) (h : ∀ d ∈ xs, d < 256) (j : Nat) : xs.getD j 0 < 256 := by
  by_cases hj : j < xs.length
  · simp [hj]; exact h _ (List.getElem_mem hj)
  · simp [hj]
theorem bv_bw {F : Nat → Nat → Nat} (h : Bitwise F) (xs ys : List Nat) (hx : ∀ d ∈ xs, d < 256) (hy : ∀ d ∈ ys, d < 256) (n : Nat) (h1 : n ≤ xs.length) (h2 : n ≤ ys.length) : bv (bwL F xs ys n) = F (bv (xs.take n)) (bv (ys.take n)) := by
  induction n with
  | zero =>
    have : F 0 0 = 0 := by
      refine Nat.eq_of_testBit_eq fun i => ?_
      rw [h.bit]; simp [h.zero]
    simp [bwL, bv, this]
  | succ n ih =>
    rw [bwL_succ, bv_snoc, ih (by omega) (by omega), bv_take_succ xs n (by omega), bv_take_succ ys n (by omega), bytes_split h (getD_lt8 xs hx n) (getD_lt8 ys hy n)]
theorem bwL_low8 {F : Nat → Nat → Nat} (h : Bitwise F) (xs ys : List Nat) (hx : ∀ d ∈ xs, d < 256) (hy : ∀ d ∈ ys, d < 256) (n : Nat) : ∀ d ∈ bwL F xs ys n, d < 256 := by
  intro d hd
  obtain ⟨j, _, rfl⟩ := List.mem_map.1 hd
  exact h.lt (k := 8) (getD_lt8 xs hx j) (getD_lt8 ys hy j)
/-- The highest byte tells the sign. -/
theorem top_sign (l : List Nat) (h : ∀ d ∈ l, d < 256) (h0 : 0 < l.length) : l.getD 0 0 < 128 ↔ bv l < 2 ^ (8 * l.length - 1) := by
  cases l with
  | nil => simp at h0
  | cons a r =>
    have h2 := bv_lt r fun d hd => h d (by simp [hd])
    have e : 2 ^ (8 * (a :: r).length - 1) = 128 * 256 ^ r.length := by
      rw [show 8 * (a :: r).length - 1 = 7 + 8 * r.length from by simp; omega, Nat.pow_add, Nat.pow_mul]
    rw [e]
    simp only [bv, List.getD_cons_zero]
    constructor
    · intro h3
      have : a * 256 ^ r.length + 256 ^ r.length ≤ 128 * 256 ^ r.length := by
        have := Nat.mul_le_mul_right (256 ^ r.length) (show a + 1 ≤ 128 by omega)
        rwa [Nat.add_mul, Nat.one_mul] at this
      omega
    · intro h3
      by_cases h4 : a < 128
      · exact h4
      · have := Nat.mul_le_mul_right (256 ^ r.length) (show 128 ≤ a by omega)
        omega
/-- What back tells. -/
theorem back_low (l : List Nat) (h : ∀ d ∈ l, d < 256) (h0 : 0 < l.length) (ht : l.getD 0 0 < 128) : ((bv l : Nat) : Int) = backZ (8 * l.length) (bv l) := by
  unfold backZ; rw [if_pos ((top_sign l h h0).1 ht)]
theorem back_high (l : List Nat) (h : ∀ d ∈ l, d < 256) (h0 : 0 < l.length) (ht : ¬ l.getD 0 0 < 128) : -(((bv (l.map fun d => 255 - d) : Nat)) : Int) - 1 = backZ (8 * l.length) (bv l) := by
  unfold backZ
  rw [if_neg (fun h1 => ht ((top_sign l h h0).2 h1)), bv_cp l h]
  have h1 := bv_lt l h
  have e : (256 : Nat) ^ l.length = 2 ^ (8 * l.length) := by rw [Nat.pow_mul]
  rw [e] at h1
  have eI : (2 : Int) ^ (8 * l.length) = ((2 ^ (8 * l.length) : Nat) : Int) := by push_cast; rfl
  rw [eI]
  omega
end Go.Proofs.Ytidkdjnfpepnfaa
