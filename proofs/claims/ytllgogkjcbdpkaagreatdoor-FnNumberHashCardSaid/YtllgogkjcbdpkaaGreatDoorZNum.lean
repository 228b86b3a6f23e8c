/- Written by wip/tools/port2.py out of the text Num of seat Ytidkdjnfpepnfaa. -/
/- Plain numbers: bytes, the highest one first; a list without leading zeros is told by its number. No program in sight. -/
import Init
namespace Go.Proofs.YtllgogkjcbdpkaaGreatDoor.Z

/-- A list without its leading zeros. -/
def strip (l : List Nat) : List Nat := l.dropWhile (· == 0)

theorem strip_drop (l : List Nat) (k : Nat) (h : ∀ i, i < k → l.getD i 0 = 0) (hk : k < l.length) (h2 : l.getD k 0 ≠ 0) : strip l = l.drop k := by
  induction k generalizing l with
  | zero =>
    cases l with
    | nil => simp at hk
    | cons a r => simp at h2; simp [strip, h2]
  | succ k ih =>
    cases l with
    | nil => simp at hk
    | cons a r =>
      have h0 := h 0 (by omega)
      simp at h0
      subst h0
      have := ih r (fun i hi => by have := h (i + 1) (by omega); simpa using this) (by simpa using hk) (by simpa using h2)
      simpa [strip] using this
theorem strip_all (l : List Nat) (h : ∀ i, i < l.length → l.getD i 0 = 0) : strip l = [] := by
  induction l with
  | nil => rfl
  | cons a r ih =>
    have h0 := h 0 (by simp)
    simp at h0
    subst h0
    have := ih (fun i hi => by have := h (i + 1) (by simpa using hi); simpa using this)
    simpa [strip] using this

/-- The number of bytes, the highest one first. -/
def bv : List Nat → Nat
  | [] => 0
  | a :: r => a * 256 ^ r.length + bv r

theorem bv_append (a b : List Nat) : bv (a ++ b) = bv a * 256 ^ b.length + bv b := by
  induction a with
  | nil => simp [bv]
  | cons x r ih => simp only [List.cons_append, bv, ih, List.length_append, Nat.pow_add, Nat.add_mul, Nat.mul_assoc, Nat.add_assoc]
theorem bv_snoc (a : List Nat) (x : Nat) : bv (a ++ [x]) = bv a * 256 + x := by rw [bv_append]; simp [bv]
theorem bv_lt (l : List Nat) (h : ∀ d ∈ l, d < 256) : bv l < 256 ^ l.length := by
  induction l with
  | nil => simp [bv]
  | cons a r ih =>
    have h1 := h a (by simp)
    have h2 := ih (fun d hd => h d (by simp [hd]))
    simp only [bv, List.length_cons, Nat.pow_succ]
    have : a * 256 ^ r.length ≤ 255 * 256 ^ r.length := Nat.mul_le_mul_right _ (by omega)
    omega
theorem bv_strip (l : List Nat) : bv (strip l) = bv l := by
  induction l with
  | nil => rfl
  | cons a r ih =>
    by_cases h : a = 0
    · subst h
      have : strip (0 :: r) = strip r := by simp [strip]
      rw [this, ih]; simp [bv]
    · have : strip (a :: r) = a :: r := by simp [strip, h]
      rw [this]
theorem strip_strip (l : List Nat) : strip (strip l) = strip l := by
  induction l with
  | nil => rfl
  | cons a r ih =>
    by_cases h : a = 0
    · subst h
      have : strip (0 :: r) = strip r := by simp [strip]
      rw [this, ih]
    · have : strip (a :: r) = a :: r := by simp [strip, h]
      rw [this, this]
theorem strip_mem (l : List Nat) (d : Nat) (h : d ∈ strip l) : d ∈ l := by
  induction l with
  | nil => exact h
  | cons a r ih =>
    by_cases h0 : a = 0
    · subst h0
      have : strip (0 :: r) = strip r := by simp [strip]
      rw [this] at h
      exact List.mem_cons_of_mem _ (ih h)
    · have : strip (a :: r) = a :: r := by simp [strip, h0]
      rwa [this] at h
theorem strip_len (l : List Nat) : (strip l).length ≤ l.length := by
  induction l with
  | nil => simp [strip]
  | cons a r ih =>
    by_cases h0 : a = 0
    · subst h0
      have : strip (0 :: r) = strip r := by simp [strip]
      rw [this]; simp; omega
    · have : strip (a :: r) = a :: r := by simp [strip, h0]
      rw [this]; simp

/-- The bytes l are the number n's: bytes, none of them a leading 0. -/
structure IsB (n : Nat) (l : List Nat) : Prop where
  val : bv l = n
  low : ∀ d ∈ l, d < 256
  top : strip l = l

theorem IsB.ofStrip (l : List Nat) (h : ∀ d ∈ l, d < 256) : IsB (bv l) (strip l) := ⟨bv_strip l, fun d hd => h d (strip_mem l d hd), strip_strip l⟩
theorem top_pos (a : Nat) (r : List Nat) (h : strip (a :: r) = a :: r) : 0 < a := by
  by_cases h0 : a = 0
  · subst h0
    have h1 : strip (0 :: r) = strip r := by simp [strip]
    rw [h1] at h
    have := strip_len r
    rw [h] at this
    simp at this
    omega
  · omega
theorem IsB.ge {n a : Nat} {r : List Nat} (h : IsB n (a :: r)) : 256 ^ r.length ≤ n := by
  have h0 := top_pos a r h.top
  rw [← h.val, bv]
  have : 1 * 256 ^ r.length ≤ a * 256 ^ r.length := Nat.mul_le_mul_right _ h0
  omega
theorem IsB.lt {n : Nat} {l : List Nat} (h : IsB n l) : n < 256 ^ l.length := by rw [← h.val]; exact bv_lt l h.low
theorem IsB.zero {n : Nat} {l : List Nat} (h : IsB n l) : n = 0 ↔ l = [] := by
  constructor
  · rintro rfl
    cases l with
    | nil => rfl
    | cons a r =>
      have := h.ge
      have : 0 < 256 ^ r.length := Nat.pow_pos (by decide)
      omega
  · rintro rfl
    rw [← h.val]; rfl
theorem IsB.len_le {n : Nat} {l : List Nat} (h : IsB n l) {k : Nat} (hk : n < 256 ^ k) : l.length ≤ k := by
  cases l with
  | nil => simp
  | cons a r =>
    have h1 := h.ge
    have h2 : 256 ^ r.length < 256 ^ k := Nat.lt_of_le_of_lt h1 hk
    have := (Nat.pow_lt_pow_iff_right (by decide : 1 < 256)).1 h2
    simp; omega
theorem bv_inj : ∀ (l m : List Nat), l.length = m.length → (∀ d ∈ l, d < 256) → (∀ d ∈ m, d < 256) → bv l = bv m → l = m
  | [], [], _, _, _, _ => rfl
  | [], b :: m, h, _, _, _ => by simp at h
  | a :: l, [], h, _, _, _ => by simp at h
  | a :: l, b :: m, h, h1, h2, h3 => by
    have hl : l.length = m.length := by simpa using h
    have e1 := bv_lt l (fun d hd => h1 d (by simp [hd]))
    have e2 := bv_lt m (fun d hd => h2 d (by simp [hd]))
    simp only [bv] at h3
    rw [hl] at h3 e1
    have hp : 0 < 256 ^ m.length := Nat.pow_pos (by decide)
    have q1 : (a * 256 ^ m.length + bv l) / 256 ^ m.length = a := by rw [Nat.mul_comm, Nat.mul_add_div hp, Nat.div_eq_of_lt e1]; rfl
    have q2 : (b * 256 ^ m.length + bv m) / 256 ^ m.length = b := by rw [Nat.mul_comm, Nat.mul_add_div hp, Nat.div_eq_of_lt e2]; rfl
    have hab : a = b := by rw [← q1, h3, q2]
    subst hab
    have := bv_inj l m hl (fun d hd => h1 d (by simp [hd])) (fun d hd => h2 d (by simp [hd])) (by omega)
    rw [this]
theorem IsB.uniq {n : Nat} {l m : List Nat} (h1 : IsB n l) (h2 : IsB n m) : l = m := by
  have a := h1.len_le h2.lt
  have b := h2.len_le h1.lt
  exact bv_inj l m (by omega) h1.low h2.low (by rw [h1.val, h2.val])

/-- The number of words, the lowest one first. -/
def W : Nat := 18446744073709551616
def wv : List Nat → Nat
  | [] => 0
  | x :: r => x + W * wv r
/-- A list without the zeros at its end. -/
def trim (l : List Nat) : List Nat := (strip l.reverse).reverse

theorem wv_append (a b : List Nat) : wv (a ++ b) = wv a + W ^ a.length * wv b := by
  induction a with
  | nil => simp [wv]
  | cons x r ih => simp only [List.cons_append, wv, ih, List.length_cons, Nat.pow_succ, Nat.mul_add, Nat.add_assoc]; congr 2; rw [Nat.mul_comm (W ^ r.length) W, Nat.mul_assoc]
theorem wv_zeros (n : Nat) : wv (List.replicate n 0) = 0 := by
  induction n with
  | zero => rfl
  | succ n ih => simp [List.replicate_succ, wv, ih]
theorem strip_split (l : List Nat) : l = List.replicate (l.length - (strip l).length) 0 ++ strip l := by
  induction l with
  | nil => rfl
  | cons a r ih =>
    by_cases h : a = 0
    · subst h
      have h1 : strip (0 :: r) = strip r := by simp [strip]
      have h2 := strip_len r
      rw [h1, List.length_cons, show r.length + 1 - (strip r).length = (r.length - (strip r).length) + 1 from by omega, List.replicate_succ, List.cons_append, ← ih]
    · have h1 : strip (a :: r) = a :: r := by simp [strip, h]
      rw [h1]; simp
theorem trim_split (l : List Nat) : l = trim l ++ List.replicate (l.length - (trim l).length) 0 := by
  have := strip_split l.reverse
  have h := congrArg List.reverse this
  rw [List.reverse_reverse, List.reverse_append, List.reverse_replicate] at h
  simpa [trim] using h
theorem trim_val (l : List Nat) : wv (trim l) = wv l := by
  conv => rhs; rw [trim_split l]
  rw [wv_append, wv_zeros]; simp
theorem trim_mem (l : List Nat) (d : Nat) (h : d ∈ trim l) : d ∈ l := by
  have := strip_mem l.reverse d (by simpa [trim] using h)
  simpa using this
theorem trim_len (l : List Nat) : (trim l).length ≤ l.length := by have := strip_len l.reverse; simpa [trim] using this
theorem trim_trim (l : List Nat) : trim (trim l) = trim l := by simp [trim, strip_strip]
theorem trim_take (l : List Nat) (k : Nat) (hk : k ≤ l.length) (h : ∀ j, k ≤ j → j < l.length → l.getD j 0 = 0) (h2 : k = 0 ∨ l.getD (k - 1) 0 ≠ 0) : trim l = l.take k := by
  have e : l = l.take k ++ List.replicate (l.length - k) 0 := by
    apply List.ext_getElem
    · simp; omega
    · intro i h1 _
      by_cases hi : i < k
      · rw [List.getElem_append_left (by simp; omega)]; simp
      · rw [List.getElem_append_right (by simp; omega)]
        have := h i (by omega) h1
        simp [h1] at this
        simp [this]
  have e2 : strip l.reverse = (l.take k).reverse := by
    conv => lhs; rw [e]
    rw [List.reverse_append, List.reverse_replicate]
    have hz : ∀ n (m : List Nat), strip (List.replicate n 0 ++ m) = strip m := by
      intro n m
      induction n with
      | zero => simp
      | succ n ih => rw [List.replicate_succ, List.cons_append, ← ih]; simp [strip]
    rw [hz]
    rcases h2 with rfl | h2
    · simp [strip]
    · by_cases hk0 : k = 0
      · subst hk0; simp [strip]
      · obtain ⟨m, rfl⟩ : ∃ m, k = m + 1 := ⟨k - 1, by omega⟩
        have hl : m < l.length := by omega
        simp only [Nat.add_sub_cancel] at h2
        simp [hl] at h2
        rw [List.take_succ_eq_append_getElem hl, List.reverse_append]
        simp [strip, h2]
  rw [trim, e2, List.reverse_reverse]
theorem trim_take_len (l : List Nat) : l.take (trim l).length = trim l := by
  conv => lhs; rw [trim_split l]
  rw [List.take_append_of_le_length (by rw [← trim_split]; exact Nat.le_refl _)]
  conv => lhs; arg 1; rw [← trim_split]
  exact List.take_length
/-- The words xs are the number n's: words, the last of them not 0. -/
structure IsW (n : Nat) (xs : List Nat) : Prop where
  val : wv xs = n
  low : ∀ d ∈ xs, d < W
  top : trim xs = xs
theorem IsW.ofTrim (l : List Nat) (h : ∀ d ∈ l, d < W) : IsW (wv l) (trim l) := ⟨trim_val l, fun d hd => h d (trim_mem l d hd), trim_trim l⟩

/-- Eight bytes, the highest one first. -/
def be8 (b : Nat → Nat) : Nat := (((b 0 * 256 + b 1) * 256 + b 2) * 256 + b 3) * 4294967296 + (((b 4 * 256 + b 5) * 256 + b 6) * 256 + b 7)

theorem bv_take_succ (l : List Nat) (i : Nat) (h : i < l.length) : bv (l.take (i + 1)) = bv (l.take i) * 256 + l.getD i 0 := by
  rw [List.take_succ_eq_append_getElem h, bv_snoc]; simp [h]
set_option maxRecDepth 100000 in
theorem bv_take8 (l : List Nat) (j : Nat) (h : j + 8 ≤ l.length) : bv (l.take (j + 8)) = bv (l.take j) * W + be8 (fun t => l.getD (j + t) 0) := by
  have h0 := bv_take_succ l j (by omega)
  have h1 := bv_take_succ l (j + 1) (by omega)
  have h2 := bv_take_succ l (j + 2) (by omega)
  have h3 := bv_take_succ l (j + 3) (by omega)
  have h4 := bv_take_succ l (j + 4) (by omega)
  have h5 := bv_take_succ l (j + 5) (by omega)
  have h6 := bv_take_succ l (j + 6) (by omega)
  have h7 := bv_take_succ l (j + 7) (by omega)
  unfold W be8
  simp only [Nat.add_zero, Nat.add_assoc, Nat.reduceAdd] at *
  omega
theorem be8_lt (b : Nat → Nat) (h : ∀ j, j < 8 → b j < 256) : be8 b < W := by
  have := h 0; have := h 1; have := h 2; have := h 3; have := h 4; have := h 5; have := h 6; have := h 7
  unfold W be8; omega
theorem take_set_succ (xs : List Nat) (k : Nat) (y : Nat) (h : k < xs.length) : (xs.set k y).take (k + 1) = xs.take k ++ [y] := by
  rw [List.take_succ_eq_append_getElem (by simpa using h), List.take_set_of_le (by omega)]; simp
/-- The words that have been laid, and the bytes that are still to come. -/
structure Laid (l : List Nat) (n k : Nat) (xs : List Nat) : Prop where
  len : xs.length = n
  low : ∀ d ∈ xs, d < W
  rest : xs.drop k = List.replicate (n - k) 0
  sum : bv l = bv (l.take (l.length - 8 * k)) * W ^ k + wv (xs.take k)
theorem Laid.start (l : List Nat) (n : Nat) : Laid l n 0 (List.replicate n 0) :=
  ⟨by simp, fun d hd => by have := (List.mem_replicate.1 hd).2; subst this; decide, by simp, by simp [wv]⟩
theorem Laid.step {l : List Nat} {n k : Nat} {xs : List Nat} (h : Laid l n k xs) (hd : ∀ d ∈ l, d < 256) (hk : k < n) (j : Nat) (hj : j + 8 = l.length - 8 * k) :
    Laid l n (k + 1) (xs.set k (be8 fun t => l.getD (j + t) 0)) := by
  have hlow : be8 (fun t => l.getD (j + t) 0) < W := be8_lt _ fun t _ => by
    by_cases hi : j + t < l.length
    · simp [hi]; exact hd _ (List.getElem_mem hi)
    · simp [hi]
  refine ⟨by simpa using h.len, fun d hm => ?_, ?_, ?_⟩
  · rcases List.mem_or_eq_of_mem_set hm with h1 | h1
    · exact h.low d h1
    · rw [h1]; exact hlow
  · have := congrArg List.tail h.rest
    rw [List.tail_drop, List.tail_replicate] at this
    rw [List.drop_set_of_lt (by omega), this]
    congr 1
  · have h1 : l.length - 8 * (k + 1) = j := by omega
    have h2 := h.sum
    rw [← hj, bv_take8 l j (by omega)] at h2
    rw [h1, take_set_succ xs k _ (by rw [h.len]; exact hk), wv_append, h2, List.length_take, h.len, Nat.min_eq_left (by omega), Nat.pow_succ]
    simp only [wv, Nat.mul_zero, Nat.add_zero]
    rw [Nat.add_mul, Nat.mul_assoc, Nat.mul_comm W (W ^ k), Nat.mul_comm (be8 _) (W ^ k)]
    omega
theorem Laid.last {l : List Nat} {n k : Nat} {xs : List Nat} (h : Laid l n k xs) (hk : k + 1 = n) (r : Nat) (hr : r = l.length - 8 * k) (hlow : bv (l.take r) < W) :
    wv (xs.set k (bv (l.take r))) = bv l ∧ ∀ d ∈ xs.set k (bv (l.take r)), d < W := by
  constructor
  · have e : xs.set k (bv (l.take r)) = (xs.set k (bv (l.take r))).take (k + 1) := (List.take_of_length_le (by rw [List.length_set, h.len]; omega)).symm
    rw [e, take_set_succ xs k _ (by rw [h.len]; omega), wv_append, h.sum, List.length_take, h.len, Nat.min_eq_left (by omega), hr]
    simp only [wv, Nat.mul_zero, Nat.add_zero]
    rw [Nat.mul_comm (W ^ k)]; omega
  · intro d hm
    rcases List.mem_or_eq_of_mem_set hm with h1 | h1
    · exact h.low d h1
    · rw [h1]; exact hlow
theorem Laid.done {l : List Nat} {n k : Nat} {xs : List Nat} (h : Laid l n k xs) (hr : l.length = 8 * k) (hk : k = n) : wv xs = bv l := by
  have := h.sum
  have e : xs.take k = xs := List.take_of_length_le (by rw [h.len]; omega)
  rw [hr, Nat.sub_self, e] at this
  rw [this]; simp [bv]

theorem trim_snoc (l : List Nat) (x : Nat) (hx : x ≠ 0) : trim (l ++ [x]) = l ++ [x] := by simp [trim, strip, hx]
theorem trim_snoc0 (l : List Nat) : trim (l ++ [0]) = trim l := by simp [trim, strip]
/-- The highest word is not 0. -/
theorem IsW.last {n : Nat} {xs : List Nat} (h : IsW n xs) (h0 : 0 < xs.length) : 0 < xs.getD (xs.length - 1) 0 := by
  rcases List.eq_nil_or_concat xs with rfl | ⟨l, x, rfl⟩
  · simp at h0
  · have ht := h.top
    by_cases hx : x = 0
    · subst hx
      rw [List.concat_eq_append, trim_snoc0] at ht
      have := trim_len l
      rw [ht] at this
      simp at this
      omega
    · simp; omega
theorem wv_lt (xs : List Nat) (h : ∀ d ∈ xs, d < W) : wv xs < W ^ xs.length := by
  induction xs with
  | nil => simp [wv]
  | cons a r ih =>
    have h1 := h a (by simp)
    have h2 := ih (fun d hd => h d (by simp [hd]))
    simp only [wv, List.length_cons, Nat.pow_succ]
    have h3 : W * (wv r + 1) ≤ W * W ^ r.length := Nat.mul_le_mul_left _ (by omega)
    rw [Nat.mul_add, Nat.mul_one] at h3
    rw [Nat.mul_comm (W ^ r.length)]
    omega
theorem wv_getD_le (xs : List Nat) (i : Nat) : xs.getD i 0 * W ^ i ≤ wv xs := by
  induction xs generalizing i with
  | nil => simp
  | cons a r ih =>
    cases i with
    | zero => simp [wv]
    | succ i =>
      have := ih i
      simp only [List.getD_cons_succ, wv, Nat.pow_succ]
      have h2 : W * (r.getD i 0 * W ^ i) ≤ W * wv r := Nat.mul_le_mul_left _ this
      calc r.getD i 0 * (W ^ i * W) = W * (r.getD i 0 * W ^ i) := by rw [Nat.mul_comm W, Nat.mul_assoc]
        _ ≤ _ := by omega
theorem IsW.ge {n : Nat} {xs : List Nat} (h : IsW n xs) (h0 : 0 < xs.length) : W ^ (xs.length - 1) ≤ n := by
  have h1 := wv_getD_le xs (xs.length - 1)
  have h2 := h.last h0
  rw [h.val] at h1
  exact Nat.le_trans (Nat.le_mul_of_pos_left _ h2) h1
theorem W_pos : 0 < W := by decide
theorem IsW.len_le {n : Nat} {xs : List Nat} (h : IsW n xs) {k : Nat} (hk : n < W ^ k) : xs.length ≤ k := by
  by_cases h0 : xs.length = 0
  · omega
  · have h1 := h.ge (by omega)
    have h2 : W ^ (xs.length - 1) < W ^ k := Nat.lt_of_le_of_lt h1 hk
    have := (Nat.pow_lt_pow_iff_right (by decide : 1 < W)).1 h2
    omega
theorem IsW.zero {n : Nat} {xs : List Nat} (h : IsW n xs) : n = 0 ↔ xs = [] := by
  constructor
  · rintro rfl
    have := h.len_le (k := 0) (by decide)
    exact List.eq_nil_of_length_eq_zero (by omega)
  · rintro rfl; rw [← h.val]; rfl
theorem IsW.one {n : Nat} {xs : List Nat} (h : IsW n xs) (hn : n < W) (h0 : n ≠ 0) : xs = [n] := by
  have h1 := h.len_le (k := 1) (by simpa using hn)
  match xs, h with
  | [], h => exact absurd (h.zero.2 rfl) h0
  | [x], h => have := h.val; simp [wv] at this; rw [this]
  | _ :: _ :: _, _ => simp at h1
theorem IsW.lt {n : Nat} {xs : List Nat} (h : IsW n xs) : n < W ^ xs.length := by rw [← h.val]; exact wv_lt xs h.low
theorem isW_nil : IsW 0 [] := ⟨rfl, by simp, rfl⟩
theorem isW_one (n : Nat) (h0 : n ≠ 0) (hn : n < W) : IsW n [n] := ⟨by simp [wv], by simpa using hn, by simpa using trim_snoc [] n h0⟩

end Go.Proofs.YtllgogkjcbdpkaaGreatDoor.Z
