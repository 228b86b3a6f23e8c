/- Joined texts: ZNum ZBase ZSp1 ZSp2 ZBig1 ZBig2 ZBig3. -/
import Init
import Derived.Test.YtgcofpmhojplhaaGreatDoorProg
import Derived.WalkKit
import Derived.WalkSpells
import Derived.WalkLawsBesides
import Derived.Deep.QuietTactic
import Derived.BigQuiet
import Derived.Lib.Hide
import Derived.Lib.SmallJoins
import Derived.Laws.AppendOwnNone
import Derived.Laws.CopyOwn
import Derived.Deep.DeepCutAuto
import Derived.Deep.RegionWith
import Derived.Deep.RegionHeld3
import Derived.Deep.AppendLies
import Derived.Lib.EndianBits
/- Written by wip/tools/port2.py out of the text Num of seat Ytidkdjnfpepnfaa. -/
/- Plain numbers: bytes, the highest one first; a list without leading zeros is told by its number. No program in sight. -/
namespace Go.Proofs.YtgcofpmhojplhaaGreatDoor.Z

/-- A list without its leading zeros. -/
def strip (l : List Nat) : List Nat := l.dropWhile (· == 0)

theorem strip_drop (l : List Nat) (k : Nat) (h : ∀ i, i < k → l.getD i 0 = 0) (hk : k < l.length) (h2 : l.getD k 0 ≠ 0) : strip l = l.drop k := by
  induction k generalizing l with
  | zero =>
    cases l with
    | nil => simp at hk
    | cons a r => simp at h2; simp [strip, h2]
  | succ k ih =>
    cases l with
    | nil => simp at hk
    | cons a r =>
      have h0 := h 0 (by omega)
      simp at h0
      subst h0
      have := ih r (fun i hi => by have := h (i + 1) (by omega); simpa using this) (by simpa using hk) (by simpa using h2)
      simpa [strip] using this
theorem strip_all (l : List Nat) (h : ∀ i, i < l.length → l.getD i 0 = 0) : strip l = [] := by
  induction l with
  | nil => rfl
  | cons a r ih =>
    have h0 := h 0 (by simp)
    simp at h0
    subst h0
    have := ih (fun i hi => by have := h (i + 1) (by simpa using hi); simpa using this)
    simpa [strip] using this

/-- The number of bytes, the highest one first. -/
def bv : List Nat → Nat
  | [] => 0
  | a :: r => a * 256 ^ r.length + bv r

theorem bv_append (a b : List Nat) : bv (a ++ b) = bv a * 256 ^ b.length + bv b := by
  induction a with
  | nil => simp [bv]
  | cons x r ih => simp only [List.cons_append, bv, ih, List.length_append, Nat.pow_add, Nat.add_mul, Nat.mul_assoc, Nat.add_assoc]
theorem bv_snoc (a : List Nat) (x : Nat) : bv (a ++ [x]) = bv a * 256 + x := by rw [bv_append]; simp [bv]
theorem bv_lt (l : List Nat) (h : ∀ d ∈ l, d < 256) : bv l < 256 ^ l.length := by
  induction l with
  | nil => simp [bv]
  | cons a r ih =>
    have h1 := h a (by simp)
    have h2 := ih (fun d hd => h d (by simp [hd]))
    simp only [bv, List.length_cons, Nat.pow_succ]
    have : a * 256 ^ r.length ≤ 255 * 256 ^ r.length := Nat.mul_le_mul_right _ (by omega)
    omega
theorem bv_strip (l : List Nat) : bv (strip l) = bv l := by
  induction l with
  | nil => rfl
  | cons a r ih =>
    by_cases h : a = 0
    · subst h
      have : strip (0 :: r) = strip r := by simp [strip]
      rw [this, ih]; simp [bv]
    · have : strip (a :: r) = a :: r := by simp [strip, h]
      rw [this]
theorem strip_strip (l : List Nat) : strip (strip l) = strip l := by
  induction l with
  | nil => rfl
  | cons a r ih =>
    by_cases h : a = 0
    · subst h
      have : strip (0 :: r) = strip r := by simp [strip]
      rw [this, ih]
    · have : strip (a :: r) = a :: r := by simp [strip, h]
      rw [this, this]
theorem strip_mem (l : List Nat) (d : Nat) (h : d ∈ strip l) : d ∈ l := by
  induction l with
  | nil => exact h
  | cons a r ih =>
    by_cases h0 : a = 0
    · subst h0
      have : strip (0 :: r) = strip r := by simp [strip]
      rw [this] at h
      exact List.mem_cons_of_mem _ (ih h)
    · have : strip (a :: r) = a :: r := by simp [strip, h0]
      rwa [this] at h
theorem strip_len (l : List Nat) : (strip l).length ≤ l.length := by
  induction l with
  | nil => simp [strip]
  | cons a r ih =>
    by_cases h0 : a = 0
    · subst h0
      have : strip (0 :: r) = strip r := by simp [strip]
      rw [this]; simp; omega
    · have : strip (a :: r) = a :: r := by simp [strip, h0]
      rw [this]; simp

/-- The bytes l are the number n's: bytes, none of them a leading 0. -/
structure IsB (n : Nat) (l : List Nat) : Prop where
  val : bv l = n
  low : ∀ d ∈ l, d < 256
  top : strip l = l

theorem IsB.ofStrip (l : List Nat) (h : ∀ d ∈ l, d < 256) : IsB (bv l) (strip l) := ⟨bv_strip l, fun d hd => h d (strip_mem l d hd), strip_strip l⟩
theorem top_pos (a : Nat) (r : List Nat) (h : strip (a :: r) = a :: r) : 0 < a := by
  by_cases h0 : a = 0
  · subst h0
    have h1 : strip (0 :: r) = strip r := by simp [strip]
    rw [h1] at h
    have := strip_len r
    rw [h] at this
    simp at this
    omega
  · omega
theorem IsB.ge {n a : Nat} {r : List Nat} (h : IsB n (a :: r)) : 256 ^ r.length ≤ n := by
  have h0 := top_pos a r h.top
  rw [← h.val, bv]
  have : 1 * 256 ^ r.length ≤ a * 256 ^ r.length := Nat.mul_le_mul_right _ h0
  omega
theorem IsB.lt {n : Nat} {l : List Nat} (h : IsB n l) : n < 256 ^ l.length := by rw [← h.val]; exact bv_lt l h.low
theorem IsB.zero {n : Nat} {l : List Nat} (h : IsB n l) : n = 0 ↔ l = [] := by
  constructor
  · rintro rfl
    cases l with
    | nil => rfl
    | cons a r =>
      have := h.ge
      have : 0 < 256 ^ r.length := Nat.pow_pos (by decide)
      omega
  · rintro rfl
    rw [← h.val]; rfl
theorem IsB.len_le {n : Nat} {l : List Nat} (h : IsB n l) {k : Nat} (hk : n < 256 ^ k) : l.length ≤ k := by
  cases l with
  | nil => simp
  | cons a r =>
    have h1 := h.ge
    have h2 : 256 ^ r.length < 256 ^ k := Nat.lt_of_le_of_lt h1 hk
    have := (Nat.pow_lt_pow_iff_right (by decide : 1 < 256)).1 h2
    simp; omega
theorem bv_inj : ∀ (l m : List Nat), l.length = m.length → (∀ d ∈ l, d < 256) → (∀ d ∈ m, d < 256) → bv l = bv m → l = m
  | [], [], _, _, _, _ => rfl
  | [], b :: m, h, _, _, _ => by simp at h
  | a :: l, [], h, _, _, _ => by simp at h
  | a :: l, b :: m, h, h1, h2, h3 => by
    have hl : l.length = m.length := by simpa using h
    have e1 := bv_lt l (fun d hd => h1 d (by simp [hd]))
    have e2 := bv_lt m (fun d hd => h2 d (by simp [hd]))
    simp only [bv] at h3
    rw [hl] at h3 e1
    have hp : 0 < 256 ^ m.length := Nat.pow_pos (by decide)
    have q1 : (a * 256 ^ m.length + bv l) / 256 ^ m.length = a := by rw [Nat.mul_comm, Nat.mul_add_div hp, Nat.div_eq_of_lt e1]; rfl
    have q2 : (b * 256 ^ m.length + bv m) / 256 ^ m.length = b := by rw [Nat.mul_comm, Nat.mul_add_div hp, Nat.div_eq_of_lt e2]; rfl
    have hab : a = b := by rw [← q1, h3, q2]
    subst hab
    have := bv_inj l m hl (fun d hd => h1 d (by simp [hd])) (fun d hd => h2 d (by simp [hd])) (by omega)
    rw [this]
theorem IsB.uniq {n : Nat} {l m : List Nat} (h1 : IsB n l) (h2 : IsB n m) : l = m := by
  have a := h1.len_le h2.lt
  have b := h2.len_le h1.lt
  exact bv_inj l m (by omega) h1.low h2.low (by rw [h1.val, h2.val])

/-- The number of words, the lowest one first. -/
def W : Nat := 18446744073709551616
def wv : List Nat → Nat
  | [] => 0
  | x :: r => x + W * wv r
/-- A list without the zeros at its end. -/
def trim (l : List Nat) : List Nat := (strip l.reverse).reverse

theorem wv_append (a b : List Nat) : wv (a ++ b) = wv a + W ^ a.length * wv b := by
  induction a with
  | nil => simp [wv]
  | cons x r ih => simp only [List.cons_append, wv, ih, List.length_cons, Nat.pow_succ, Nat.mul_add, Nat.add_assoc]; congr 2; rw [Nat.mul_comm (W ^ r.length) W, Nat.mul_assoc]
theorem wv_zeros (n : Nat) : wv (List.replicate n 0) = 0 := by
  induction n with
  | zero => rfl
  | succ n ih => simp [List.replicate_succ, wv, ih]
theorem strip_split (l : List Nat) : l = List.replicate (l.length - (strip l).length) 0 ++ strip l := by
  induction l with
  | nil => rfl
  | cons a r ih =>
    by_cases h : a = 0
    · subst h
      have h1 : strip (0 :: r) = strip r := by simp [strip]
      have h2 := strip_len r
      rw [h1, List.length_cons, show r.length + 1 - (strip r).length = (r.length - (strip r).length) + 1 from by omega, List.replicate_succ, List.cons_append, ← ih]
    · have h1 : strip (a :: r) = a :: r := by simp [strip, h]
      rw [h1]; simp
theorem trim_split (l : List Nat) : l = trim l ++ List.replicate (l.length - (trim l).length) 0 := by
  have := strip_split l.reverse
  have h := congrArg List.reverse this
  rw [List.reverse_reverse, List.reverse_append, List.reverse_replicate] at h
  simpa [trim] using h
theorem trim_val (l : List Nat) : wv (trim l) = wv l := by
  conv => rhs; rw [trim_split l]
  rw [wv_append, wv_zeros]; simp
theorem trim_mem (l : List Nat) (d : Nat) (h : d ∈ trim l) : d ∈ l := by
  have := strip_mem l.reverse d (by simpa [trim] using h)
  simpa using this
theorem trim_len (l : List Nat) : (trim l).length ≤ l.length := by have := strip_len l.reverse; simpa [trim] using this
theorem trim_trim (l : List Nat) : trim (trim l) = trim l := by simp [trim, strip_strip]
theorem trim_take (l : List Nat) (k : Nat) (hk : k ≤ l.length) (h : ∀ j, k ≤ j → j < l.length → l.getD j 0 = 0) (h2 : k = 0 ∨ l.getD (k - 1) 0 ≠ 0) : trim l = l.take k := by
  have e : l = l.take k ++ List.replicate (l.length - k) 0 := by
    apply List.ext_getElem
    · simp; omega
    · intro i h1 _
      by_cases hi : i < k
      · rw [List.getElem_append_left (by simp; omega)]; simp
      · rw [List.getElem_append_right (by simp; omega)]
        have := h i (by omega) h1
        simp [h1] at this
        simp [this]
  have e2 : strip l.reverse = (l.take k).reverse := by
    conv => lhs; rw [e]
    rw [List.reverse_append, List.reverse_replicate]
    have hz : ∀ n (m : List Nat), strip (List.replicate n 0 ++ m) = strip m := by
      intro n m
      induction n with
      | zero => simp
      | succ n ih => rw [List.replicate_succ, List.cons_append, ← ih]; simp [strip]
    rw [hz]
    rcases h2 with rfl | h2
    · simp [strip]
    · by_cases hk0 : k = 0
      · subst hk0; simp [strip]
      · obtain ⟨m, rfl⟩ : ∃ m, k = m + 1 := ⟨k - 1, by omega⟩
        have hl : m < l.length := by omega
        simp only [Nat.add_sub_cancel] at h2
        simp [hl] at h2
        rw [List.take_succ_eq_append_getElem hl, List.reverse_append]
        simp [strip, h2]
  rw [trim, e2, List.reverse_reverse]
theorem trim_take_len (l : List Nat) : l.take (trim l).length = trim l := by
  conv => lhs; rw [trim_split l]
  rw [List.take_append_of_le_length (by rw [← trim_split]; exact Nat.le_refl _)]
  conv => lhs; arg 1; rw [← trim_split]
  exact List.take_length
/-- The words xs are the number n's: words, the last of them not 0. -/
structure IsW (n : Nat) (xs : List Nat) : Prop where
  val : wv xs = n
  low : ∀ d ∈ xs, d < W
  top : trim xs = xs
theorem IsW.ofTrim (l : List Nat) (h : ∀ d ∈ l, d < W) : IsW (wv l) (trim l) := ⟨trim_val l, fun d hd => h d (trim_mem l d hd), trim_trim l⟩

/-- Eight bytes, the highest one first. -/
def be8 (b : Nat → Nat) : Nat := (((b 0 * 256 + b 1) * 256 + b 2) * 256 + b 3) * 4294967296 + (((b 4 * 256 + b 5) * 256 + b 6) * 256 + b 7)

theorem bv_take_succ (l : List Nat) (i : Nat) (h : i < l.length) : bv (l.take (i + 1)) = bv (l.take i) * 256 + l.getD i 0 := by
  rw [List.take_succ_eq_append_getElem h, bv_snoc]; simp [h]
set_option maxRecDepth 100000 in
theorem bv_take8 (l : List Nat) (j : Nat) (h : j + 8 ≤ l.length) : bv (l.take (j + 8)) = bv (l.take j) * W + be8 (fun t => l.getD (j + t) 0) := by
  have h0 := bv_take_succ l j (by omega)
  have h1 := bv_take_succ l (j + 1) (by omega)
  have h2 := bv_take_succ l (j + 2) (by omega)
  have h3 := bv_take_succ l (j + 3) (by omega)
  have h4 := bv_take_succ l (j + 4) (by omega)
  have h5 := bv_take_succ l (j + 5) (by omega)
  have h6 := bv_take_succ l (j + 6) (by omega)
  have h7 := bv_take_succ l (j + 7) (by omega)
  unfold W be8
  simp only [Nat.add_zero, Nat.add_assoc, Nat.reduceAdd] at *
  omega
theorem be8_lt (b : Nat → Nat) (h : ∀ j, j < 8 → b j < 256) : be8 b < W := by
  have := h 0; have := h 1; have := h 2; have := h 3; have := h 4; have := h 5; have := h 6; have := h 7
  unfold W be8; omega
theorem take_set_succ (xs : List Nat) (k : Nat) (y : Nat) (h : k < xs.length) : (xs.set k y).take (k + 1) = xs.take k ++ [y] := by
  rw [List.take_succ_eq_append_getElem (by simpa using h), List.take_set_of_le (by omega)]; simp
/-- The words that have been laid, and the bytes that are still to come. -/
structure Laid (l : List Nat) (n k : Nat) (xs : List Nat) : Prop where
  len : xs.length = n
  low : ∀ d ∈ xs, d < W
  rest : xs.drop k = List.replicate (n - k) 0
  sum : bv l = bv (l.take (l.length - 8 * k)) * W ^ k + wv (xs.take k)
theorem Laid.start (l : List Nat) (n : Nat) : Laid l n 0 (List.replicate n 0) :=
  ⟨by simp, fun d hd => by have := (List.mem_replicate.1 hd).2; subst this; decide, by simp, by simp [wv]⟩
theorem Laid.step {l : List Nat} {n k : Nat} {xs : List Nat} (h : Laid l n k xs) (hd : ∀ d ∈ l, d < 256) (hk : k < n) (j : Nat) (hj : j + 8 = l.length - 8 * k) :
    Laid l n (k + 1) (xs.set k (be8 fun t => l.getD (j + t) 0)) := by
  have hlow : be8 (fun t => l.getD (j + t) 0) < W := be8_lt _ fun t _ => by
    by_cases hi : j + t < l.length
    · simp [hi]; exact hd _ (List.getElem_mem hi)
    · simp [hi]
  refine ⟨by simpa using h.len, fun d hm => ?_, ?_, ?_⟩
  · rcases List.mem_or_eq_of_mem_set hm with h1 | h1
    · exact h.low d h1
    · rw [h1]; exact hlow
  · have := congrArg List.tail h.rest
    rw [List.tail_drop, List.tail_replicate] at this
    rw [List.drop_set_of_lt (by omega), this]
    congr 1
  · have h1 : l.length - 8 * (k + 1) = j := by omega
    have h2 := h.sum
    rw [← hj, bv_take8 l j (by omega)] at h2
    rw [h1, take_set_succ xs k _ (by rw [h.len]; exact hk), wv_append, h2, List.length_take, h.len, Nat.min_eq_left (by omega), Nat.pow_succ]
    simp only [wv, Nat.mul_zero, Nat.add_zero]
    rw [Nat.add_mul, Nat.mul_assoc, Nat.mul_comm W (W ^ k), Nat.mul_comm (be8 _) (W ^ k)]
    omega
theorem Laid.last {l : List Nat} {n k : Nat} {xs : List Nat} (h : Laid l n k xs) (hk : k + 1 = n) (r : Nat) (hr : r = l.length - 8 * k) (hlow : bv (l.take r) < W) :
    wv (xs.set k (bv (l.take r))) = bv l ∧ ∀ d ∈ xs.set k (bv (l.take r)), d < W := by
  constructor
  · have e : xs.set k (bv (l.take r)) = (xs.set k (bv (l.take r))).take (k + 1) := (List.take_of_length_le (by rw [List.length_set, h.len]; omega)).symm
    rw [e, take_set_succ xs k _ (by rw [h.len]; omega), wv_append, h.sum, List.length_take, h.len, Nat.min_eq_left (by omega), hr]
    simp only [wv, Nat.mul_zero, Nat.add_zero]
    rw [Nat.mul_comm (W ^ k)]; omega
  · intro d hm
    rcases List.mem_or_eq_of_mem_set hm with h1 | h1
    · exact h.low d h1
    · rw [h1]; exact hlow
theorem Laid.done {l : List Nat} {n k : Nat} {xs : List Nat} (h : Laid l n k xs) (hr : l.length = 8 * k) (hk : k = n) : wv xs = bv l := by
  have := h.sum
  have e : xs.take k = xs := List.take_of_length_le (by rw [h.len]; omega)
  rw [hr, Nat.sub_self, e] at this
  rw [this]; simp [bv]

theorem trim_snoc (l : List Nat) (x : Nat) (hx : x ≠ 0) : trim (l ++ [x]) = l ++ [x] := by simp [trim, strip, hx]
theorem trim_snoc0 (l : List Nat) : trim (l ++ [0]) = trim l := by simp [trim, strip]
/-- The highest word is not 0. -/
theorem IsW.last {n : Nat} {xs : List Nat} (h : IsW n xs) (h0 : 0 < xs.length) : 0 < xs.getD (xs.length - 1) 0 := by
  rcases List.eq_nil_or_concat xs with rfl | ⟨l, x, rfl⟩
  · simp at h0
  · have ht := h.top
    by_cases hx : x = 0
    · subst hx
      rw [List.concat_eq_append, trim_snoc0] at ht
      have := trim_len l
      rw [ht] at this
      simp at this
      omega
    · simp; omega
theorem wv_lt (xs : List Nat) (h : ∀ d ∈ xs, d < W) : wv xs < W ^ xs.length := by
  induction xs with
  | nil => simp [wv]
  | cons a r ih =>
    have h1 := h a (by simp)
    have h2 := ih (fun d hd => h d (by simp [hd]))
    simp only [wv, List.length_cons, Nat.pow_succ]
    have h3 : W * (wv r + 1) ≤ W * W ^ r.length := Nat.mul_le_mul_left _ (by omega)
    rw [Nat.mul_add, Nat.mul_one] at h3
    rw [Nat.mul_comm (W ^ r.length)]
    omega
theorem wv_getD_le (xs : List Nat) (i : Nat) : xs.getD i 0 * W ^ i ≤ wv xs := by
  induction xs generalizing i with
  | nil => simp
  | cons a r ih =>
    cases i with
    | zero => simp [wv]
    | succ i =>
      have := ih i
      simp only [List.getD_cons_succ, wv, Nat.pow_succ]
      have h2 : W * (r.getD i 0 * W ^ i) ≤ W * wv r := Nat.mul_le_mul_left _ this
      calc r.getD i 0 * (W ^ i * W) = W * (r.getD i 0 * W ^ i) := by rw [Nat.mul_comm W, Nat.mul_assoc]
        _ ≤ _ := by omega
theorem IsW.ge {n : Nat} {xs : List Nat} (h : IsW n xs) (h0 : 0 < xs.length) : W ^ (xs.length - 1) ≤ n := by
  have h1 := wv_getD_le xs (xs.length - 1)
  have h2 := h.last h0
  rw [h.val] at h1
  exact Nat.le_trans (Nat.le_mul_of_pos_left _ h2) h1
theorem W_pos : 0 < W := by decide
theorem IsW.len_le {n : Nat} {xs : List Nat} (h : IsW n xs) {k : Nat} (hk : n < W ^ k) : xs.length ≤ k := by
  by_cases h0 : xs.length = 0
  · omega
  · have h1 := h.ge (by omega)
    have h2 : W ^ (xs.length - 1) < W ^ k := Nat.lt_of_le_of_lt h1 hk
    have := (Nat.pow_lt_pow_iff_right (by decide : 1 < W)).1 h2
    omega
theorem IsW.zero {n : Nat} {xs : List Nat} (h : IsW n xs) : n = 0 ↔ xs = [] := by
  constructor
  · rintro rfl
    have := h.len_le (k := 0) (by decide)
    exact List.eq_nil_of_length_eq_zero (by omega)
  · rintro rfl; rw [← h.val]; rfl
theorem IsW.one {n : Nat} {xs : List Nat} (h : IsW n xs) (hn : n < W) (h0 : n ≠ 0) : xs = [n] := by
  have h1 := h.len_le (k := 1) (by simpa using hn)
  match xs, h with
  | [], h => exact absurd (h.zero.2 rfl) h0
  | [x], h => have := h.val; simp [wv] at this; rw [this]
  | _ :: _ :: _, _ => simp at h1
theorem IsW.lt {n : Nat} {xs : List Nat} (h : IsW n xs) : n < W ^ xs.length := by rw [← h.val]; exact wv_lt xs h.low
theorem isW_nil : IsW 0 [] := ⟨rfl, by simp, rfl⟩
theorem isW_one (n : Nat) (h0 : n ≠ 0) (hn : n < W) : IsW n [n] := ⟨by simp [wv], by simpa using hn, by simpa using trim_snoc [] n h0⟩

end Go.Proofs.YtgcofpmhojplhaaGreatDoor.Z

/- Written by wip/tools/port2.py out of the text Base of seat Ytidkdjnfpepnfaa. -/
/- Common words of this seat's walks: a slice of numbers in memory as a list; appends onto a new slice; small laws on worlds. -/
namespace Go.Proofs.YtgcofpmhojplhaaGreatDoor.Z
open Go.RowKit

/-- What the walk is told of a slice of integers that came in: nil, or a row of cells. -/
def IsRow (k : IntKind) (w : World) (a : Option Addr) (len cap : Nat) (zs : List Int) : Prop :=
  (a = none ∧ len = 0 ∧ cap = 0 ∧ zs = []) ∨
  ∃ x, a = some x ∧ len ≤ cap ∧ cap ≤ maxLen ∧ zs.length = cap ∧ (∀ i, i < zs.length → w.cell? (x.add i) = some (.int k (zs.getD i 0))) ∧ ∀ n ∈ zs, (Lit.int k n).wf = true

/-- The slice v holds just the numbers l; where it holds any, they lie in a block from B on. -/
def Row (B : Nat) (k : IntKind) (w : World) (v : Value) (l : List Nat) : Prop :=
  (l = [] ∧ (v = .slice none 0 0 ∨ ∃ a c, v = .slice (some a) 0 c)) ∨
  (0 < l.length ∧ ∃ g off c, v = .slice (some ⟨g, off, none⟩) l.length c ∧ l.length ≤ c ∧ B ≤ g ∧ g < w.heap.size ∧ ∀ i, i < l.length → w.cell? ⟨g, off + i, none⟩ = some (.int k ((l.getD i 0 : Nat) : Int)))

theorem ext_trans {a b c : World} (h1 : Below a.heap.size a b) (h2 : Below b.heap.size b c) : Below a.heap.size a c := h1.trans (h2.mono h1.size)
theorem below_drewN {B : Nat} {a w : World} (h : Below B a w) (n : Nat) : Below B a (w.drewN n) := ⟨h.os, h.tape, h.output, h.size, h.block⟩
theorem bcell {W w1 : World} (hb : Below W.heap.size W w1) : (∀ b o, b < W.heap.size → w1.cell? ⟨b, o, none⟩ = W.cell? ⟨b, o, none⟩) ∧ (∀ b o, b < W.heap.size → w1.frozen? ⟨b, o, none⟩ = W.frozen? ⟨b, o, none⟩) :=
  ⟨fun b o h => hb.cell (p := ⟨b, o, none⟩) h, fun b o h => hb.frozen (p := ⟨b, o, none⟩) h⟩
theorem quiet_left {P : Program} {f : FuncId} {args : Array Value} {w : World} {n : Nat} {v : Value}
    (h : Calls P f args (w.drewN n) fun e w' => e = .returned v ∧ w.drewN n = w') : Calls P f args (w.drewN n) fun e w'' => e = .returned v ∧ ∃ m, w'' = w.drewN m :=
  h.mono fun _ _ ⟨he, hm⟩ => ⟨he, n, hm.symm⟩
theorem ret_int {k : IntKind} {a b : Int} (h : a = b) : Ending.returned (.int k a) = .returned (.int k b) := by rw [h]
theorem ret_bool {a b : Bool} (h : a = b) : Ending.returned (.bool a) = .returned (.bool b) := by rw [h]

theorem Row.below {B' : Nat} {k : IntKind} {w w' : World} {v : Value} {l : List Nat} {B : Nat} (h : Row B' k w v l) (hb : Below B w w') (hB : w.heap.size ≤ B) : Row B' k w' v l := by
  rcases h with h | ⟨h0, g, off, c, hv, hc, hB', hg, hcell⟩
  · exact .inl h
  · exact .inr ⟨h0, g, off, c, hv, hc, hB', Nat.lt_of_lt_of_le hg hb.size, fun i hi => by rw [hb.cell (p := ⟨g, off + i, none⟩) (Nat.lt_of_lt_of_le hg hB)]; exact hcell i hi⟩
theorem Row.le {B' : Nat} {k : IntKind} {w : World} {v : Value} {l : List Nat} {B : Nat} (h : Row B k w v l) (hB : B' ≤ B) : Row B' k w v l := by
  rcases h with h | ⟨h0, g, off, c, hv, hc, hB', hg, hcell⟩
  · exact .inl h
  · exact .inr ⟨h0, g, off, c, hv, hc, Nat.le_trans hB hB', hg, hcell⟩
/-- Stores into blocks below B leave it. -/
theorem Row.setOld {k : IntKind} {w : World} {v : Value} {l : List Nat} {B : Nat} (h : Row B k w v l) {a : Addr} (ha : a.block < B) (u : Value) : Row B k (w.setCell a u) v l := by
  rcases h with h | ⟨h0, g, off, c, hv, hc, hB', hg, hcell⟩
  · exact .inl h
  · refine .inr ⟨h0, g, off, c, hv, hc, hB', by simpa [World.setCell] using hg, fun i hi => ?_⟩
    rw [World.cell?_of_block (w := w) (Below.heap_setCell w a u g (by omega))]
    exact hcell i hi
theorem Row.draws {B : Nat} {k : IntKind} {w : World} {v : Value} {l : List Nat} (h : Row B k w v l) (n : Nat) : Row B k (w.drewN n) v l := h
theorem Row.alloc {B : Nat} {k : IntKind} {w : World} {v : Value} {l : List Nat} (h : Row B k w v l) (o : Obj) : Row B k (w.alloc o) v l := h.below ((Below.refl _ _).alloc (Nat.le_refl _) o) (Nat.le_refl _)

/-- A row that the call owns, read. -/
theorem Row.ofOwn {k : IntKind} {w : World} {base : Nat} {e : TypeId} {v : Value} {n : Nat} {l : List Nat} (h : w.ownsRow base e 1 v n (l.map fun x => Value.int k (x : Nat))) : Row base k w v l := by
  have hl : l.length = n := by simpa using h.1
  rcases h.2 with ⟨rfl, h0⟩ | ⟨g, cap, cur, rfl, hb, hg, hn, hm, hc, ht⟩
  · exact .inl ⟨List.eq_nil_of_length_eq_zero (by omega), .inl rfl⟩
  · subst hl
    by_cases h0 : l.length = 0
    · obtain rfl : l = [] := List.eq_nil_of_length_eq_zero h0
      exact .inl ⟨rfl, .inr ⟨_, _, rfl⟩⟩
    · refine .inr ⟨by omega, g, 0, cap, rfl, hn, hb, (Array.getElem?_eq_some_iff.1 hg).1, fun i hi => ?_⟩
      have := h.cellAt i (by omega)
      rw [Nat.zero_add, this]
      simp [hi]
/-- An empty slice, or one with cells. -/
theorem Row.len {B : Nat} {k : IntKind} {w : World} {v : Value} {l : List Nat} (h : Row B k w v l) : ∃ a c, v = .slice a l.length c := by
  rcases h with ⟨rfl, rfl | ⟨a, c, rfl⟩⟩ | ⟨_, g, off, c, rfl, _⟩
  · exact ⟨_, _, rfl⟩
  · exact ⟨_, _, rfl⟩
  · exact ⟨_, _, rfl⟩

/-- 'append(new, src...)': new a slice of the call's own, src any row of numbers. -/
theorem wp_append_row {P : Program} {w : World} {o : Oper} {a : Act} {K : Act → World → Prop} {Q : Exit → Act → World → Prop} (s x : Operand) (t : TypeId)
    (ho : o.op = .call { callee := .builtin .append, args := #[s, x], argTypes := #[t, t] })
    (base : Nat) (e : TypeId) (i : TypeInfo) (z : Value) (bytes : Nat) (ht : P.underlying t = some (.slice e)) (hi : P.info? e = some i) (hz : i.zero = some z)
    (hsize : i.size = 1) (hby : i.bytes = bytes) (hzs : z.cells.size = 1)
    (v : Value) (n : Nat) (xs : List Value) (hs : a.eval s = v) (hown : w.ownsRow base e 1 v n xs)
    (k : IntKind) (vx : Value) (l : List Nat) (hx : a.eval x = vx) (B : Nat) (hrow : Row B k w vx l)
    (h63 : n + l.length ≤ maxLen) (hbytes : (n + l.length) * bytes ≤ 140737488355328) (hbase : base ≤ w.heap.size)
    (h : ∀ v' w', w'.ownsRow base e 1 v' (n + l.length) (xs ++ l.map fun x => Value.int k (x : Nat)) → w.grownBy w' v.ownBlock → K (a.put o.dst v') w') : o.wp P a w K Q := by
  rcases hrow with ⟨rfl, rfl | ⟨b, c, rfl⟩⟩ | ⟨h0, g, off, c, rfl, hc, _, hg, hcell⟩
  · have hrun := run_append_owned_none (P := P) (w := w) base t o.type e i 1 ht hi v n xs hown
    unfold Oper.wp
    simp [execOp, ho, resolve, invoke, builtin, hs, hx, hrun, Result.andThen]
    exact h v w (by simpa using hown) (World.grownBy.refl _ _)
  · refine wp_append_own w s x t ho base e i z 1 bytes ht hi hz hsize hby hzs (by decide) v n xs hs hown b 0 c [] hx rfl (by simp) (by simp) (by simpa using h63) (by simpa using hbytes) hbase ?_
    intro v' w' h1 h2 _
    exact h v' w' (by simpa using h1) h2
  · refine wp_append_own w s x t ho base e i z 1 bytes ht hi hz hsize hby hzs (by decide) v n xs hs hown ⟨g, off, none⟩ l.length c (l.map fun x => Value.int k (x : Nat)) hx (by simp) ?_ (by intro u hu; obtain ⟨y, _, rfl⟩ := List.mem_map.1 hu; rfl) h63 hbytes hbase ?_
    · intro j u hu
      have hj : j < l.length := by
        have := List.getElem?_eq_some_iff.1 hu
        simpa using this.1
      have := hcell j hj
      rw [show (⟨g, off, none⟩ : Addr).add j = ⟨g, off + j, none⟩ from by unfold Addr.add; split <;> simp_all, this]
      rw [List.getElem?_map, List.getElem?_eq_getElem hj] at hu
      simp [hj] at hu ⊢
      exact hu
    · intro v' w' h1 h2 _
      exact h v' w' h1 h2
theorem wpList_append_row {P : Program} {w : World} {ops : Array Oper} {rest : List Oper} {o : Oper} {a : Act} {Q : Exit → Act → World → Prop} (hgd : o.guard = none) (s x : Operand) (t : TypeId)
    (ho : o.op = .call { callee := .builtin .append, args := #[s, x], argTypes := #[t, t] })
    (base : Nat) (e : TypeId) (i : TypeInfo) (z : Value) (bytes : Nat) (ht : P.underlying t = some (.slice e)) (hi : P.info? e = some i) (hz : i.zero = some z)
    (hsize : i.size = 1) (hby : i.bytes = bytes) (hzs : z.cells.size = 1)
    (v : Value) (n : Nat) (xs : List Value) (hs : a.eval s = v) (hown : w.ownsRow base e 1 v n xs)
    (k : IntKind) (vx : Value) (l : List Nat) (hx : a.eval x = vx) (B : Nat) (hrow : Row B k w vx l)
    (h63 : n + l.length ≤ maxLen) (hbytes : (n + l.length) * bytes ≤ 140737488355328) (hbase : base ≤ w.heap.size)
    (h : ∀ v' w', w'.ownsRow base e 1 v' (n + l.length) (xs ++ l.map fun x => Value.int k (x : Nat)) → w.grownBy w' v.ownBlock → wpList P ops Q rest (a.put o.dst v') w') : wpList P ops Q (o :: rest) a w :=
  wpList_plain hgd fun _ hK => wp_append_row s x t ho base e i z bytes ht hi hz hsize hby hzs v n xs hs hown k vx l hx B hrow h63 hbytes hbase fun v' w' h1 h2 => hK _ _ (h v' w' h1 h2)
theorem step_append_row {P : Program} {w : World} {ops : Array Oper} {o : Oper} {a : Act} {K : Act → World → Prop} {Q : Exit → Act → World → Prop} {E : Prop} (hgd : o.guard = none) (s x : Operand) (t : TypeId)
    (ho : o.op = .call { callee := .builtin .append, args := #[s, x], argTypes := #[t, t] })
    (base : Nat) (e : TypeId) (i : TypeInfo) (z : Value) (bytes : Nat) (ht : P.underlying t = some (.slice e)) (hi : P.info? e = some i) (hz : i.zero = some z)
    (hsize : i.size = 1) (hby : i.bytes = bytes) (hzs : z.cells.size = 1)
    (v : Value) (n : Nat) (xs : List Value) (hs : a.eval s = v) (hown : w.ownsRow base e 1 v n xs)
    (k : IntKind) (vx : Value) (l : List Nat) (hx : a.eval x = vx) (B : Nat) (hrow : Row B k w vx l)
    (h63 : n + l.length ≤ maxLen) (hbytes : (n + l.length) * bytes ≤ 140737488355328) (hbase : base ≤ w.heap.size)
    (h : ∀ v' w', w'.ownsRow base e 1 v' (n + l.length) (xs ++ l.map fun x => Value.int k (x : Nat)) → w.grownBy w' v.ownBlock → K (a.put o.dst v') w') : if Region.wanted o (yielded ops a.tmps) = true then Oper.wp P o a w K Q else E := by
  have hw : Region.wanted o (yielded ops a.tmps) = true := by simp [Region.wanted, hgd]
  rw [if_pos hw]
  exact wp_append_row s x t ho base e i z bytes ht hi hz hsize hby hzs v n xs hs hown k vx l hx B hrow h63 hbytes hbase h

/-- 'append([]T{}, src...)': a new row of the same numbers. -/
theorem wp_append_new {P : Program} {w : World} {o : Oper} {a : Act} {K : Act → World → Prop} {Q : Exit → Act → World → Prop} (s x : Operand) (t : TypeId)
    (ho : o.op = .call { callee := .builtin .append, args := #[s, x], argTypes := #[t, t] })
    (e : TypeId) (i : TypeInfo) (z : Value) (bytes : Nat) (ht : P.underlying t = some (.slice e)) (hi : P.info? e = some i) (hz : i.zero = some z)
    (hsize : i.size = 1) (hby : i.bytes = bytes) (hzs : z.cells.size = 1) (hb8 : bytes ≤ 8)
    (g : Nat) (hs : a.eval s = .slice (some ⟨g, 0, none⟩) 0 0) (hg : w.heap[g]? = some (.cells #[] e (0, 0)))
    (k : IntKind) (vx : Value) (l : List Nat) (hx : a.eval x = vx) (B : Nat) (hrow : Row B k w vx l) (hl : l.length ≤ 2147483647)
    (h : ∀ a' c' w', Row g k w' (.slice a' l.length c') l → w.grownBy w' (some g) → K (a.put o.dst (.slice a' l.length c')) w') : o.wp P a w K Q := by
  have hlt : g < w.heap.size := (Array.getElem?_eq_some_iff.1 hg).1
  have hown : w.ownsRow g e 1 (.slice (some ⟨g, 0, none⟩) 0 0) 0 [] := ⟨by simp, .inr ⟨g, 0, #[], rfl, Nat.le_refl _, hg, Nat.le_refl _, by decide, rfl, by simp⟩⟩
  refine wp_append_row s x t ho g e i z bytes ht hi hz hsize hby hzs _ 0 [] hs hown k vx l hx B hrow (by simp [maxLen]; omega) ?_ (by omega) ?_
  · rw [Nat.zero_add]
    exact Nat.le_trans (Nat.mul_le_mul hl hb8) (by decide)
  · intro v' w' h1 h2
    have hr : Row g k w' v' l := Row.ofOwn h1
    obtain ⟨a', c', rfl⟩ := hr.len
    exact h a' c' w' hr h2
theorem wpList_append_new {P : Program} {w : World} {ops : Array Oper} {rest : List Oper} {o : Oper} {a : Act} {Q : Exit → Act → World → Prop} (hgd : o.guard = none) (s x : Operand) (t : TypeId)
    (ho : o.op = .call { callee := .builtin .append, args := #[s, x], argTypes := #[t, t] })
    (e : TypeId) (i : TypeInfo) (z : Value) (bytes : Nat) (ht : P.underlying t = some (.slice e)) (hi : P.info? e = some i) (hz : i.zero = some z)
    (hsize : i.size = 1) (hby : i.bytes = bytes) (hzs : z.cells.size = 1) (hb8 : bytes ≤ 8)
    (g : Nat) (hs : a.eval s = .slice (some ⟨g, 0, none⟩) 0 0) (hg : w.heap[g]? = some (.cells #[] e (0, 0)))
    (k : IntKind) (vx : Value) (l : List Nat) (hx : a.eval x = vx) (B : Nat) (hrow : Row B k w vx l) (hl : l.length ≤ 2147483647)
    (h : ∀ a' c' w', Row g k w' (.slice a' l.length c') l → w.grownBy w' (some g) → wpList P ops Q rest (a.put o.dst (.slice a' l.length c')) w') : wpList P ops Q (o :: rest) a w :=
  wpList_plain hgd fun _ hK => wp_append_new s x t ho e i z bytes ht hi hz hsize hby hzs hb8 g hs hg k vx l hx B hrow hl fun a' c' w' h1 h2 => hK _ _ (h a' c' w' h1 h2)
theorem step_append_new {P : Program} {w : World} {ops : Array Oper} {o : Oper} {a : Act} {K : Act → World → Prop} {Q : Exit → Act → World → Prop} {E : Prop} (hgd : o.guard = none) (s x : Operand) (t : TypeId)
    (ho : o.op = .call { callee := .builtin .append, args := #[s, x], argTypes := #[t, t] })
    (e : TypeId) (i : TypeInfo) (z : Value) (bytes : Nat) (ht : P.underlying t = some (.slice e)) (hi : P.info? e = some i) (hz : i.zero = some z)
    (hsize : i.size = 1) (hby : i.bytes = bytes) (hzs : z.cells.size = 1) (hb8 : bytes ≤ 8)
    (g : Nat) (hs : a.eval s = .slice (some ⟨g, 0, none⟩) 0 0) (hg : w.heap[g]? = some (.cells #[] e (0, 0)))
    (k : IntKind) (vx : Value) (l : List Nat) (hx : a.eval x = vx) (B : Nat) (hrow : Row B k w vx l) (hl : l.length ≤ 2147483647)
    (h : ∀ a' c' w', Row g k w' (.slice a' l.length c') l → w.grownBy w' (some g) → K (a.put o.dst (.slice a' l.length c')) w') : if Region.wanted o (yielded ops a.tmps) = true then Oper.wp P o a w K Q else E := by
  have hw : Region.wanted o (yielded ops a.tmps) = true := by simp [Region.wanted, hgd]
  rw [if_pos hw]
  exact wp_append_new s x t ho e i z bytes ht hi hz hsize hby hzs hb8 g hs hg k vx l hx B hrow hl h
theorem grown_cell {w2 w3 : World} {o : Obj} (hg : (w2.alloc o).grownBy w3 (some w2.heap.size)) {a : Addr} {v : Value} (h : w2.cell? a = some v) : w3.cell? a = some v := by
  have hlt := World.block_lt_of_cell? w2 _ h
  rw [hg.cell_far _ (by simp; omega) (by simp; omega)]
  exact (((Below.refl _ _).alloc (Nat.le_refl _) o).cell hlt).trans h
theorem grown_cellX {w2 w3 X : World} (o : Obj) (hg : X.grownBy w3 (some w2.heap.size)) (hX : X.heap = (w2.alloc o).heap) {a : Addr} {v : Value} (h : w2.cell? a = some v) : w3.cell? a = some v := by
  have hlt := World.block_lt_of_cell? w2 _ h
  have hs : X.heap.size = w2.heap.size + 1 := by rw [hX]; simp
  rw [hg.cell_far _ (by omega) (by simp; omega)]
  exact (World.cell?_of_block (w := w2) (by rw [hX]; exact Below.heap_alloc w2 o _ hlt)).trans h
theorem grown_belowX {w2 w3 X : World} (o : Obj) (hg : X.grownBy w3 (some w2.heap.size)) (hX : X.heap = (w2.alloc o).heap) (h1 : X.os = w2.os) (h2 : X.tape = w2.tape) (h3 : X.output = w2.output) : Below w2.heap.size w2 w3 := by
  have hs : X.heap.size = w2.heap.size + 1 := by rw [hX]; simp
  refine ⟨hg.os.trans h1, hg.tape.trans h2, hg.output.trans h3, by have := hg.size; omega, fun k hk => ?_⟩
  rw [hg.block k (by omega) (by simp; omega), hX]
  exact Below.heap_alloc w2 o k hk
theorem grown_below {w2 w3 : World} {o : Obj} (hg : (w2.alloc o).grownBy w3 (some w2.heap.size)) : Below w2.heap.size w2 w3 :=
  ((Below.refl _ _).alloc (Nat.le_refl _) o).grown hg (by simp) (by intro k hk; cases hk; exact Nat.le_refl _)

/-- What makes a new row of numbers leaves. -/
def MakesRow (k : IntKind) (l : List Nat) (w : World) (e : Ending) (w' : World) : Prop := ∃ v, e = .returned v ∧ Row w.heap.size k w' v l ∧ Below w.heap.size w w'

/-- The reference's integer z in memory, of at most n bytes, which lie in a block from B on. -/
def SInt (B n : Nat) (w : World) (v : Value) (z : Int) : Prop := ∃ sl l, v = .agg #[.bool (decide (z < 0)), sl] ∧ Row B .u8 w sl l ∧ IsB z.natAbs l ∧ l.length ≤ n
/-- The integer z as a value of the thin package. -/
def VInt (B n : Nat) (w : World) (v : Value) (z : Int) : Prop := ∃ sl l, v = .agg #[.int .i64 2, .bool (decide (z < 0)), sl, .int .u64 0, .string ⟨#[]⟩, .slice none 0 0] ∧ Row B .u8 w sl l ∧ IsB z.natAbs l ∧ l.length ≤ n
theorem SInt.below {B' n : Nat} {w w' : World} {v : Value} {z : Int} {B : Nat} (h : SInt B' n w v z) (hb : Below B w w') (hB : w.heap.size ≤ B) : SInt B' n w' v z := by
  obtain ⟨sl, l, h1, h2, h3⟩ := h
  exact ⟨sl, l, h1, h2.below hb hB, h3⟩
theorem VInt.below {B' n : Nat} {w w' : World} {v : Value} {z : Int} {B : Nat} (h : VInt B' n w v z) (hb : Below B w w') (hB : w.heap.size ≤ B) : VInt B' n w' v z := by
  obtain ⟨sl, l, h1, h2, h3⟩ := h
  exact ⟨sl, l, h1, h2.below hb hB, h3⟩
theorem SInt.le {B' n : Nat} {w : World} {v : Value} {z : Int} {B m : Nat} (h : SInt B n w v z) (hB : B' ≤ B) (hm : n ≤ m) : SInt B' m w v z := by
  obtain ⟨sl, l, h1, h2, h3, h4⟩ := h
  exact ⟨sl, l, h1, h2.le hB, h3, Nat.le_trans h4 hm⟩
theorem VInt.le {B' n : Nat} {w : World} {v : Value} {z : Int} {B m : Nat} (h : VInt B n w v z) (hB : B' ≤ B) (hm : n ≤ m) : VInt B' m w v z := by
  obtain ⟨sl, l, h1, h2, h3, h4⟩ := h
  exact ⟨sl, l, h1, h2.le hB, h3, Nat.le_trans h4 hm⟩
theorem SInt.setOld {B n : Nat} {w : World} {v : Value} {z : Int} (h : SInt B n w v z) {a : Addr} (ha : a.block < B) (u : Value) : SInt B n (w.setCell a u) v z := by
  obtain ⟨sl, l, h1, h2, h3⟩ := h
  exact ⟨sl, l, h1, h2.setOld ha u, h3⟩
theorem VInt.setOld {B n : Nat} {w : World} {v : Value} {z : Int} (h : VInt B n w v z) {a : Addr} (ha : a.block < B) (u : Value) : VInt B n (w.setCell a u) v z := by
  obtain ⟨sl, l, h1, h2, h3⟩ := h
  exact ⟨sl, l, h1, h2.setOld ha u, h3⟩
def MakesS (n : Nat) (z : Int) (w : World) (e : Ending) (w' : World) : Prop := ∃ v, e = .returned v ∧ SInt w.heap.size n w' v z ∧ Below w.heap.size w w'
def MakesV (n : Nat) (z : Int) (w : World) (e : Ending) (w' : World) : Prop := ∃ v, e = .returned v ∧ VInt w.heap.size n w' v z ∧ Below w.heap.size w w'

/-- A sign and a magnitude. -/
def signed (neg : Bool) (m : Nat) : Int := if neg then -(m : Int) else m
theorem signed_neg (neg : Bool) (m : Nat) : decide (signed neg m < 0) = (neg && decide (0 < m)) := by
  cases neg <;> simp [signed]
theorem signed_abs (neg : Bool) (m : Nat) : (signed neg m).natAbs = m := by
  cases neg <;> simp [signed]

theorem info5 : (Tryz.prog.info? 5).map (fun i => (i.zero, i.size, i.bytes)) = some (some (.int .u8 0), 1, 1) := by kernel_rfl
theorem info225 : (Tryz.prog.info? 225).map (fun i => (i.zero, i.size, i.bytes)) = some (some (.int .u64 0), 1, 8) := by kernel_rfl

end Go.Proofs.YtgcofpmhojplhaaGreatDoor.Z

/- Written by wip/tools/port2.py out of the text Sp1 of seat Ytidkdjnfpepnfaa. -/
/- Walks of the reference's integers: cut, Of, told, whole. -/
namespace Go.Proofs.YtgcofpmhojplhaaGreatDoor.Z
open Go.RowKit

set_option maxRecDepth 100000 in
set_option maxHeartbeats 1000000 in
theorem f36_any (v : Value) (l : List Nat) (hl : l.length ≤ 2147483647) (w : World) (B : Nat) (hr : Row B .u8 w v l) : Calls Tryz.prog 36 #[v] w (MakesRow .u8 (strip l) w) := by
  obtain ⟨i0, hi, hz0, hz1, hz2⟩ := info_parts info5
  have HR := Lib.hid hr
  rcases hr with ⟨rfl, hv⟩ | ⟨h0, g, off, c, rfl, hc, hB, hg, hcell⟩
  · have hs : Hid (strip [] = []) := rfl
    rcases hv with rfl | ⟨a, c, rfl⟩
    all_goals
      go_enter Tryz.func36, Tryz.ntmps36
      go_wp2_with fail
      go_loop [3] (fun i => i = .int .i64 0) (fun _ => 0)
      case atStart => rfl
      case round =>
        obtain rfl := hrel
        go_wp2_with fail
        go_ret
        exact ⟨_, rfl, .inl ⟨rfl, .inr ⟨_, _, rfl⟩⟩, (Below.refl _ _).alloc (Nat.le_refl _) _⟩
  · go_enter Tryz.func36, Tryz.ntmps36
    go_wp2_with fail
    go_loop [3] (fun i => ∃ k : Nat, i = .int .i64 k ∧ k ≤ l.length ∧ Hid (∀ j, j < k → l.getD j 0 = 0)) (fun i => l.length - (intOf i).toNat)
    case atStart => exact ⟨0, rfl, Nat.zero_le _, fun j hj => by omega⟩
    case round =>
      obtain ⟨k, rfl, hk, HZ⟩ := hrel
      have HO : (w.alloc (.cells #[] 5)).ownsRow w.heap.size 5 1 (.slice (some ⟨w.heap.size, 0, none⟩) 0 0) 0 [] := World.ownsRow_made w #[] 0 (Nat.le_refl _) (by decide) rfl
      by_cases hlt : k < l.length
      · have hck := hcell k hlt
        by_cases hz : l.getD k 0 = 0
        · have HZ' : Hid (∀ j, j < k + 1 → l.getD j 0 = 0) := fun j hj => by
            by_cases h : j = k
            · subst h; exact hz
            · exact HZ.out j (by omega)
          rw [hz] at hck
          clear hcell hz HO
          go_wp2_with fail
          go_round
          case rel => exact ⟨k + 1, by go_num, by omega, HZ'⟩
          case measure => simp [intOf]; omega
        · have hne : (((l.getD k 0 : Nat) : Int) == 0) = false := by rw [beq_eq_false_iff_ne]; omega
          have HS : Hid (strip l = l.drop k) := strip_drop l k HZ.out hlt hz
          have HRW : Hid (Row B .u8 (w.alloc (.cells #[] 5)) (.slice (some ⟨g, off + k, none⟩) (l.length - k) (c - k)) (l.drop k)) := by
            refine Row.alloc (.inr ⟨by simp; omega, g, off + k, c - k, by simp, by simp; omega, hB, hg, fun i hi => ?_⟩) _
            have := hcell (k + i) (by simp at hi; omega)
            rw [Nat.add_assoc, this]
            simp
          clear hcell
          generalize l.getD k 0 = x at *
          have hkc : ¬ c = k := by omega
          have K3 : Hid (0 + (l.drop k).length ≤ maxLen) := by show _ ≤ _; simp [maxLen]; omega
          have K4 : Hid ((0 + (l.drop k).length) * 1 ≤ 140737488355328) := by show _ ≤ _; simp; omega
          have K5 : Hid (w.heap.size ≤ (w.alloc (.cells #[] 5)).heap.size) := by show _ ≤ _; simp
          generalize l.drop k = D at *
          go_wp2_with (at_builtin; refine wpList_append_row rfl (.tmp 17) (.tmp 20) 25 rfl w.heap.size 5 i0 (.int .u8 0) 1 Tryz.underlying25 hi hz0 hz1 hz2 rfl _ 0 [] rfl HO .u8 _ D rfl B HRW.out K3.out K4.out K5.out ?_)
          intro v' w1 hown hgrow
          have hb : Below w.heap.size w w1 := ((Below.refl _ _).alloc (Nat.le_refl _) _).grown hgrow (by simp) (by intro q hq; simp [Value.ownBlock] at hq; omega)
          have HR2 := Lib.hid (Row.ofOwn hown)
          clear hown hgrow
          go_wp2_with fail
          go_ret
          exact ⟨_, rfl, by rw [HS.out]; exact HR2.out, hb⟩
      · obtain rfl : k = l.length := by omega
        have HS : Hid (strip l = []) := strip_all l HZ.out
        clear hcell
        by_cases hkc : c = l.length
        all_goals
          go_wp2_with fail
          go_ret
          exact ⟨_, rfl, by rw [HS.out]; exact .inl ⟨rfl, .inr ⟨_, _, rfl⟩⟩, (Below.refl _ _).alloc (Nat.le_refl _) _⟩

theorem of_flag (neg : Bool) (l : List Nat) (h : ∀ d ∈ l, d < 256) : decide (signed neg (bv l) < 0) = (neg && decide (0 < (strip l).length)) := by
  rw [signed_neg]
  congr 1
  rw [Bool.eq_iff_iff, decide_eq_true_eq, decide_eq_true_eq]
  have := (IsB.ofStrip l h).zero
  constructor
  · intro h1
    have : strip l ≠ [] := fun e => by have := this.2 e; omega
    exact List.length_pos_iff.2 this
  · intro h1
    have : bv l ≠ 0 := fun e => by have := this.1 e; rw [this] at h1; simp at h1
    omega

set_option maxRecDepth 100000 in
set_option maxHeartbeats 1000000 in
theorem f18_any (neg : Bool) (v : Value) (l : List Nat) (hl : l.length ≤ 2147483647) (hd : ∀ d ∈ l, d < 256) (w : World) (B : Nat) (hr : Row B .u8 w v l) :
    Calls Tryz.prog 18 #[.bool neg, v] w (MakesS (strip l).length (signed neg (bv l)) w) := by
  have F := Lib.hid (of_flag neg l hd)
  have HB := Lib.hid (IsB.ofStrip l hd)
  have HR := Lib.hid hr
  clear hr
  go_enter Tryz.func18, Tryz.ntmps18
  go_wp2_with fail
  refine (f36_any v l hl _ B (HR.out.alloc _)).mono ?_
  rintro e w1 ⟨sl, rfl, hrs, hb⟩
  obtain ⟨a, c, rfl⟩ := hrs.len
  have HS := Lib.hid hrs
  clear hrs
  have hc1 : ∀ i, w1.cell? ⟨w.heap.size, i, none⟩ = (w.alloc (.cells #[.bool false, .slice none 0 0] 38)).cell? ⟨w.heap.size, i, none⟩ := fun i => hb.cell (by simp)
  have hf1 : ∀ i, w1.frozen? ⟨w.heap.size, i, none⟩ = (w.alloc (.cells #[.bool false, .slice none 0 0] 38)).frozen? ⟨w.heap.size, i, none⟩ := fun i => hb.frozen (by simp)
  have hz := hb.size
  simp only [World.size_alloc] at hz
  have HSB := Lib.hid hb
  cases neg
  all_goals
    go_wp2_with fail
    refine bodyPost_ret (v := .agg #[.bool _, .slice a (strip l).length c]) (by simp [results, Tryz.results18, go_sem, hc1]; rfl) rfl ?_
    refine ⟨_, rfl, ⟨_, strip l, ?_, ((HS.out.setOld (by simp) _).setOld (by simp) _).le (by simp), by rw [signed_abs]; exact HB.out, Nat.le_refl _⟩, ?_⟩
    · rw [F.out]; simp
    · exact ((((Below.refl _ _).alloc (Nat.le_refl _) _).trans (HSB.out.mono (by simp))).setCell (by simp) _).setCell (by simp) _

set_option maxRecDepth 100000 in
set_option maxHeartbeats 1000000 in
/-- laws.told: an integer of the reference as a value of the thin package. -/
theorem f9_any (n : Nat) (hn : n ≤ 2147483647) (v : Value) (z : Int) (w : World) (B : Nat) (hs : SInt B n w v z) : Calls Tryz.prog 9 #[v] w (MakesV n z w) := by
  obtain ⟨i0, hi, hz0, hz1, hz2⟩ := info_parts info5
  obtain ⟨sl, l, rfl, hr, hb, hl⟩ := hs
  have HB := Lib.hid hb
  have HR := Lib.hid hr
  clear hb hr
  go_enter Tryz.func9, Tryz.ntmps9
  go_wp2_with fail
  have K3 : Hid (0 + l.length ≤ maxLen) := by show _ ≤ _; simp [maxLen]; omega
  have K4 : Hid ((0 + l.length) * 1 ≤ 140737488355328) := by show _ ≤ _; omega
  have hn : l.length ≤ 2147483647 := by omega
  generalize hd : decide (z < 0) = d at *
  have HD := Lib.hid hd
  clear hd
  generalize hw2 : (w.alloc (Obj.cells #[Value.bool d, sl] 38)).alloc (Obj.cells #[Value.int IntKind.i64 0, Value.bool false, Value.slice none 0 0, Value.int IntKind.u64 0, Value.string { data := #[] }, Value.slice none 0 0] 28) = w2
  have HW := Lib.hid hw2
  clear hw2
  have c0 : w2.cell? ⟨w.heap.size, 0, none⟩ = some (.bool d) := by rw [← HW.out]; simp [go_sem]
  have c1 : w2.cell? ⟨w.heap.size, 1, none⟩ = some sl := by rw [← HW.out]; simp [go_sem]
  have c2 : ∀ i, w2.cell? ⟨w.heap.size + 1, i, none⟩ = #[Value.int IntKind.i64 0, Value.bool false, Value.slice none 0 0, Value.int IntKind.u64 0, Value.string { data := #[] }, Value.slice none 0 0][i]? := by intro i; rw [← HW.out]; simp [go_sem]
  have f2 : ∀ i, w2.frozen? ⟨w.heap.size + 1, i, none⟩ = false := by intro i; rw [← HW.out]; simp [go_sem]
  have hz : w.heap.size + 2 = w2.heap.size := by rw [← HW.out]; simp
  have HRW : Hid (Row B .u8 w2 sl l) := by rw [← HW.out]; exact (HR.out.alloc _).alloc _
  go_region_held3 (fun w' => w'.cell? ⟨w.heap.size, 0, none⟩ = some (.bool d) ∧ w'.cell? ⟨w.heap.size, 1, none⟩ = some sl)
    (first | go_keep | ((try dsimp only); exact ⟨grown_cellX (.cells #[] 5) hgrow rfl c0, grown_cellX (.cells #[] 5) hgrow rfl c1⟩))
    ((refine step_append_new (by rfl) _ _ 25 (by rfl) 5 i0 (.int .u8 0) 1 Tryz.underlying25 hi hz0 hz1 hz2 rfl (by decide) w2.heap.size (by rfl) (heap_alloc_new w2 _) .u8 sl l (by rfl) B (Row.alloc HRW.out _) hn ?_; intro a' c' w3 hrow hgrow; have hb3 := Lib.hid (grown_belowX (.cells #[] 5) hgrow rfl rfl rfl rfl); have c3 : ∀ i, w3.cell? ⟨w.heap.size + 1, i, none⟩ = w2.cell? ⟨w.heap.size + 1, i, none⟩ := fun i => hb3.out.cell (by simp; omega); have f3 : ∀ i, w3.frozen? ⟨w.heap.size + 1, i, none⟩ = w2.frozen? ⟨w.heap.size + 1, i, none⟩ := fun i => hb3.out.frozen (by simp; omega)))
  go_wp2
  refine bodyPost_ret (v := .agg #[.int .i64 2, .bool d, .slice a' l.length c', .int .u64 0, .string ⟨#[]⟩, .slice none 0 0]) (by simp [results, Tryz.results9, go_sem, c3, c2]) rfl ?_
  refine ⟨_, rfl, ⟨_, l, by rw [HD.out], ?_, HB.out, hl⟩, ?_⟩
  · refine Row.le (B := w2.heap.size) ?_ (by omega)
    iterate 6 (refine Row.setOld ?_ (show w.heap.size + 1 < w2.heap.size by omega) _)
    exact hrow
  · iterate 6 (refine Below.setCell ?_ (show w.heap.size ≤ w.heap.size + 1 by omega) _)
    refine Below.trans (b := w2) ?_ (hb3.out.mono (by omega))
    rw [← HW.out]
    exact ((Below.refl _ _).alloc (Nat.le_refl _) _).alloc (by simp) _

def MakesSV (n : Nat) (z : Int) (w : World) (e : Ending) (w' : World) : Prop := ∃ v u, e = .returned (.tuple #[v, u]) ∧ SInt w.heap.size n w' v z ∧ VInt w.heap.size n w' u z ∧ Below w.heap.size w w'

end Go.Proofs.YtgcofpmhojplhaaGreatDoor.Z

/- Written by wip/tools/port2.py out of the text Sp2 of seat Ytidkdjnfpepnfaa. -/
/- Walks of the reference's integers: whole. -/
namespace Go.Proofs.YtgcofpmhojplhaaGreatDoor.Z
open Go.RowKit

theorem set_other {w : World} {a : Addr} {v : Value} {p : Addr} {u : Value} (h : w.cell? a = some v) (hne : a.block ≠ p.block) : (w.setCell p u).cell? a = some v := (World.cell?_of_block (w := w) (Below.heap_setCell w p u a.block hne)).trans h

/-- The first so many numbers of a row. -/
theorem Row.take {B : Nat} {k : IntKind} {w : World} {g off n c : Nat} {l : List Nat} (m : Nat) (hm : m ≤ n) (h : Row B k w (.slice (some ⟨g, off, none⟩) n c) l) : Row B k w (.slice (some ⟨g, off, none⟩) m c) (l.take m) := by
  rcases h with ⟨rfl, h | ⟨a, c', h⟩⟩ | ⟨h0, g', off', c', h, hc, hB, hg, hcell⟩
  · cases h
  · simp only [Value.slice.injEq, Option.some.injEq] at h
    obtain ⟨rfl, rfl, rfl⟩ := h
    have : m = 0 := by omega
    subst this
    exact .inl ⟨by simp, .inr ⟨_, _, rfl⟩⟩
  · simp only [Value.slice.injEq, Option.some.injEq, Addr.mk.injEq, and_true] at h
    obtain ⟨⟨rfl, rfl⟩, rfl, rfl⟩ := h
    by_cases h0' : m = 0
    · subst h0'
      exact .inl ⟨by simp, .inr ⟨_, _, rfl⟩⟩
    · refine .inr ⟨by simp; omega, g, off, c, by simp; omega, by simp; omega, hB, hg, fun i hi => ?_⟩
      simp at hi
      rw [hcell i (by omega)]
      have h1 : i < m := by omega
      have h2 : i < l.length := by omega
      simp [h1, h2]

end Go.Proofs.YtgcofpmhojplhaaGreatDoor.Z

/- Written by wip/tools/port2.py out of the text Big1 of seat Ytidkdjnfpepnfaa. -/
/- Walks of the package's great numbers: bytes into words. -/
namespace Go.Proofs.YtgcofpmhojplhaaGreatDoor.Z
open Go.RowKit

theorem be4_eq (b0 b1 b2 b3 : Nat) (h0 : b0 < 256) (h1 : b1 < 256) (h2 : b2 < 256) (h3 : b3 < 256) :
    bits BinOp.or IntKind.u32 (bits BinOp.or IntKind.u32 (bits BinOp.or IntKind.u32 (b3 : Int) ((b2 : Int) * 256)) ((b1 : Int) * 65536)) ((b0 : Int) * 16777216) = ((((b0 * 256 + b1) * 256 + b2) * 256 + b3 : Nat) : Int) := by
  rw [u32_or8 (b3 : Int) ((b2 : Int) * 256) (by omega) (by omega) (by omega) (by omega) (by omega), u32_or16 ((b3 : Int) + (b2 : Int) * 256) ((b1 : Int) * 65536) (by omega) (by omega) (by omega) (by omega) (by omega), u32_or24 ((b3 : Int) + (b2 : Int) * 256 + (b1 : Int) * 65536) ((b0 : Int) * 16777216) (by omega) (by omega) (by omega) (by omega) (by omega)]
  omega
theorem be8_eq (x y : Nat) (hx : x < 4294967296) (hy : y < 4294967296) : bits BinOp.or IntKind.u64 ((x : Int) * 4294967296) (y : Int) = ((x * 4294967296 + y : Nat) : Int) := by
  rw [bits_join .u64 64 (by decide) (fun n h1 h2 => wraps_u64 n h1 h2) 32 _ _ (by omega) (by omega) (by omega) (by omega) (by omega) (by omega)]
  omega

set_option maxRecDepth 100000 in
theorem f133_any (g off n c : Nat) (hn : 4 ≤ n) (_hc : n ≤ c) (b0 b1 b2 b3 : Nat) (h0 : b0 < 256) (h1 : b1 < 256) (h2 : b2 < 256) (h3 : b3 < 256) (w : World)
    (e0 : w.cell? ⟨g, off, none⟩ = some (.int .u8 (b0 : Int))) (e1 : w.cell? ⟨g, off + 1, none⟩ = some (.int .u8 (b1 : Int))) (e2 : w.cell? ⟨g, off + 2, none⟩ = some (.int .u8 (b2 : Int))) (e3 : w.cell? ⟨g, off + 3, none⟩ = some (.int .u8 (b3 : Int))) :
    Calls Tryz.prog 133 #[.slice (some ⟨g, off, none⟩) n c] w fun e w' => e = .returned (.int .u32 ((((b0 * 256 + b1) * 256 + b2) * 256 + b3 : Nat) : Int)) ∧ ∃ m, w' = w.drewN m := by
  have k3 : (3 : Int) < n := by omega
  have k2 : (2 : Int) < n := by omega
  have k1 : (1 : Int) < n := by omega
  have k0 : (0 : Int) < n := by omega
  go_enter Tryz.func133, Tryz.ntmps133
  go_wp2
  go_quiet (fail)
  go_wp2
  go_ret
  refine ⟨ret_int ?_, _, rfl⟩
  exact be4_eq b0 b1 b2 b3 h0 h1 h2 h3

theorem calls_val {P : Program} {f : FuncId} {args : Array Value} {w : World} {v v' : Value} {R : World → Prop} (h : Calls P f args w fun e w' => e = .returned v ∧ R w') (hv : v = v') : Calls P f args w fun e w' => e = .returned v' ∧ R w' := by
  subst hv; exact h

set_option maxRecDepth 100000 in
theorem f132_any (g off c : Nat) (hc : 8 ≤ c) (b : Nat → Nat) (hb : ∀ j, j < 8 → b j < 256) (w : World) (e : ∀ j, j < 8 → w.cell? ⟨g, off + j, none⟩ = some (.int .u8 (b j : Int))) :
    Calls Tryz.prog 132 #[.slice (some ⟨g, off, none⟩) 8 c] w fun e w' => e = .returned (.int .u64 (be8 b : Int)) ∧ ∃ m, w' = w.drewN m := by
  have e7 := e 7 (by omega)
  have c1 : ∀ W : World, W.heap = w.heap → Calls Tryz.prog 133 #[.slice (some ⟨g, off, none⟩) 8 c] W fun e w' => e = .returned (.int .u32 ((((b 0 * 256 + b 1) * 256 + b 2) * 256 + b 3 : Nat) : Int)) ∧ ∃ m, w' = W.drewN m := fun W hW =>
    f133_any g off 8 c (by omega) hc _ _ _ _ (hb 0 (by omega)) (hb 1 (by omega)) (hb 2 (by omega)) (hb 3 (by omega)) W ((World.cell?_of_block (by rw [hW])).trans (e 0 (by omega))) ((World.cell?_of_block (by rw [hW])).trans (e 1 (by omega))) ((World.cell?_of_block (by rw [hW])).trans (e 2 (by omega))) ((World.cell?_of_block (by rw [hW])).trans (e 3 (by omega)))
  have c2 : ∀ W : World, W.heap = w.heap → Calls Tryz.prog 133 #[.slice (some ⟨g, off + 4, none⟩) 4 (c - 4)] W fun e w' => e = .returned (.int .u32 ((((b 4 * 256 + b 5) * 256 + b 6) * 256 + b 7 : Nat) : Int)) ∧ ∃ m, w' = W.drewN m := fun W hW =>
    f133_any g (off + 4) 4 (c - 4) (by omega) (by omega) _ _ _ _ (hb 4 (by omega)) (hb 5 (by omega)) (hb 6 (by omega)) (hb 7 (by omega)) W ((World.cell?_of_block (by rw [hW])).trans (e 4 (by omega))) ((World.cell?_of_block (by rw [hW])).trans (e 5 (by omega))) ((World.cell?_of_block (by rw [hW])).trans (e 6 (by omega))) ((World.cell?_of_block (by rw [hW])).trans (e 7 (by omega)))
  have C1 := Lib.hid c1
  have C2 := Lib.hid c2
  have F := Lib.hid (be8_eq (((b 0 * 256 + b 1) * 256 + b 2) * 256 + b 3) (((b 4 * 256 + b 5) * 256 + b 6) * 256 + b 7) (by have := hb 0; have := hb 1; have := hb 2; have := hb 3; omega) (by have := hb 4; have := hb 5; have := hb 6; have := hb 7; omega))
  have hx : (((b 0 * 256 + b 1) * 256 + b 2) * 256 + b 3) < 4294967296 := by have := hb 0; have := hb 1; have := hb 2; have := hb 3; omega
  have hy : (((b 4 * 256 + b 5) * 256 + b 6) * 256 + b 7) < 4294967296 := by have := hb 4; have := hb 5; have := hb 6; have := hb 7; omega
  have HD : Hid (be8 b = (((b 0 * 256 + b 1) * 256 + b 2) * 256 + b 3) * 4294967296 + (((b 4 * 256 + b 5) * 256 + b 6) * 256 + b 7)) := rfl
  generalize (((b 0 * 256 + b 1) * 256 + b 2) * 256 + b 3) = x at *
  generalize (((b 4 * 256 + b 5) * 256 + b 6) * 256 + b 7) = y at *
  clear c1 c2 e hb
  have h4 : ¬ c = 4 := by omega
  go_enter Tryz.func132, Tryz.ntmps132
  go_wp2
  go_quiet ((first | (go_at_call_of 133 (Value.slice (some ⟨g, off, none⟩) 8 c); exact Calls.quiet_of (C1.out _ rfl)) | (go_at_call 133; exact Calls.quiet_of (C2.out _ rfl))))
  go_wp2
  go_ret
  exact ⟨ret_int (by rw [HD.out, ← F.out]), _, rfl⟩

set_option maxRecDepth 100000 in
theorem f122_any (g off c : Nat) (hc : 8 ≤ c) (b : Nat → Nat) (hb : ∀ j, j < 8 → b j < 256) (w : World) (e : ∀ j, j < 8 → w.cell? ⟨g, off + j, none⟩ = some (.int .u8 (b j : Int))) :
    Calls Tryz.prog 122 #[.slice (some ⟨g, off, none⟩) 8 c] w fun e w' => e = .returned (.int .u64 (be8 b : Int)) ∧ ∃ m, w' = w.drewN m := by
  have E := Lib.hid e
  have HB := Lib.hid hb
  clear e hb
  go_enter Tryz.func122, Tryz.ntmps122
  go_wp2_with (go_at_call 132; refine (f132_any g off c hc b HB.out _ E.out).mono ?_; rintro e w' ⟨rfl, n, rfl⟩)
  go_ret
  exact ⟨rfl, _, rfl⟩
end Go.Proofs.YtgcofpmhojplhaaGreatDoor.Z

/- Written by wip/tools/port2.py out of the text Big2 of seat Ytidkdjnfpepnfaa. -/
/- Walks of the package's great numbers: make, norm, setBytes. -/
namespace Go.Proofs.YtgcofpmhojplhaaGreatDoor.Z
open Go.RowKit

/-- A row of words of the call's own: from its block's head on. -/
def OwnW (B : Nat) (w : World) (g n c : Nat) (xs : List Nat) : Prop := w.ownsRow B 225 1 (.slice (some ⟨g, 0, none⟩) n c) n (xs.map fun x => Value.int .u64 (x : Nat))

theorem OwnW.len {B : Nat} {w : World} {g n c : Nat} {xs : List Nat} (h : OwnW B w g n c xs) : xs.length = n := by simpa using h.1
theorem OwnW.cell {B : Nat} {w : World} {g n c : Nat} {xs : List Nat} (h : OwnW B w g n c xs) (j : Nat) (hj : j < n) : w.cell? ⟨g, j, none⟩ = some (.int .u64 ((xs.getD j 0 : Nat) : Int)) := by
  have := World.ownsRow.cellAt h j (by omega)
  rw [this]
  have := h.len
  simp [show j < xs.length by omega]
theorem OwnW.free {B : Nat} {w : World} {g n c : Nat} {xs : List Nat} (h : OwnW B w g n c xs) (j : Nat) : w.frozen? ⟨g, j, none⟩ = false := World.ownsRow.frozenAt h j
theorem OwnW.low {B : Nat} {w : World} {g n c : Nat} {xs : List Nat} (h : OwnW B w g n c xs) : B ≤ g ∧ g < w.heap.size := World.ownsRow.lt h g rfl
theorem OwnW.cap {B : Nat} {w : World} {g n c : Nat} {xs : List Nat} (h : OwnW B w g n c xs) : n ≤ c := by
  rcases h.2 with ⟨h, _⟩ | ⟨g', c', cur, h, _, _, hn, _⟩
  · cases h
  · cases h; exact hn
theorem OwnW.row {B : Nat} {w : World} {g n c : Nat} {xs : List Nat} (h : OwnW B w g n c xs) : Row B .u64 w (.slice (some ⟨g, 0, none⟩) n c) xs := Row.ofOwn h
theorem OwnW.draws {B : Nat} {w : World} {g n c : Nat} {xs : List Nat} (h : OwnW B w g n c xs) (k : Nat) : OwnW B (w.drewN k) g n c xs := h
theorem OwnW.below {B : Nat} {w w' : World} {g n c : Nat} {xs : List Nat} {B' : Nat} (h : OwnW B w g n c xs) (hb : Below B' w w') (hB : w.heap.size ≤ B') : OwnW B w' g n c xs :=
  World.ownsRow.kept (row := none) h ⟨hb.os, hb.tape, hb.output, hb.size, fun k hk _ => hb.block k (by omega)⟩ (.inr (by simp [Value.ownBlock]))

def MakesOwn (n : Nat) (xs : List Nat) (w : World) (e : Ending) (w' : World) : Prop := ∃ g c, e = .returned (.slice (some ⟨g, 0, none⟩) n c) ∧ OwnW w.heap.size w' g n c xs ∧ Below w.heap.size w w'

theorem own_made (w : World) (n c : Nat) (hn : n ≤ c) (hc : c ≤ maxLen) : OwnW w.heap.size (w.alloc (.cells (madeCells #[.int .u64 0] c) 225)) w.heap.size n c (List.replicate n 0) := by
  refine ⟨by simp, .inr ⟨w.heap.size, c, _, rfl, Nat.le_refl _, heap_alloc_new w _, hn, hc, by simp [size_madeCells], ?_⟩⟩
  rw [toList_madeCells_one]
  simp [List.take_replicate]
  omega

set_option maxRecDepth 100000 in
theorem f121_zero (w : World) : Calls Tryz.prog 121 #[.slice none 0 0, .int .i64 0] w fun e w' => e = .returned (.slice none 0 0) ∧ w = w' := by
  go_enter Tryz.func121, Tryz.ntmps121
  go_wp2
  go_ret
  exact ⟨rfl, rfl⟩

set_option maxRecDepth 100000 in
theorem f121_any (n : Nat) (h1 : 1 ≤ n) (hn : n ≤ 1000000) (w : World) : Calls Tryz.prog 121 #[.slice none 0 0, .int .i64 n] w (MakesOwn n (List.replicate n 0) w) := by
  obtain ⟨i0, hi, hz0, hz1, hz2⟩ := info_parts info225
  by_cases he : n = 1
  · subst he
    have hmk := fun w : World => run_make (P := Tryz.prog) w 194 225 i0 (.int .u64 0) Tryz.underlying194 hi hz0 .i64 .i64 1 1 (by omega) (by omega) (by rw [hz2]; omega) (by omega)
    simp only [hz1] at hmk
    have HO := Lib.hid (own_made w 1 1 (by omega) (by decide))
    go_enter Tryz.func121, Tryz.ntmps121
    go_wp2
    go_ret
    exact ⟨_, _, rfl, HO.out, (Below.refl _ _).alloc (Nat.le_refl _) _⟩
  · have hmk := fun w : World => run_make (P := Tryz.prog) w 194 225 i0 (.int .u64 0) Tryz.underlying194 hi hz0 .i64 .i64 (n : Int) ((n : Int) + 4) (by omega) (by omega) (by rw [hz2]; omega) (by omega)
    simp only [hz1, show ((n : Int) + 4).toNat = n + 4 from by omega, Int.toNat_natCast, Nat.mul_one] at hmk
    have HO := Lib.hid (own_made w n (n + 4) (by omega) (by simp [maxLen]; omega))
    have hne : ((n : Int) == 1) = false := by rw [beq_eq_false_iff_ne]; omega
    clear he
    go_enter Tryz.func121, Tryz.ntmps121
    go_wp2
    go_ret
    exact ⟨_, _, rfl, HO.out, (Below.refl _ _).alloc (Nat.le_refl _) _⟩

set_option maxRecDepth 100000 in
theorem f123_nil (w : World) : Calls Tryz.prog 123 #[.slice none 0 0] w fun e w' => e = .returned (.slice none 0 0) ∧ w = w' := by
  go_enter Tryz.func123, Tryz.ntmps123
  go_wp2
  go_loop [3] (fun i => i = .int .i64 0) (fun _ => 0)
  case atStart => rfl
  case round =>
    obtain rfl := hrel
    go_wp2
    go_ret
    exact ⟨rfl, rfl⟩

set_option maxRecDepth 100000 in
theorem f123_any (B g n c : Nat) (xs : List Nat) (hn : n ≤ 1000000) (w : World) (ho : OwnW B w g n c xs) :
    Calls Tryz.prog 123 #[.slice (some ⟨g, 0, none⟩) n c] w fun e w' => e = .returned (.slice (some ⟨g, 0, none⟩) (trim xs).length c) ∧ w = w' := by
  have HO := Lib.hid ho
  have hc := ho.cap
  have hl := Lib.hid ho.len
  clear ho
  go_enter Tryz.func123, Tryz.ntmps123
  go_wp2
  go_loop [3] (fun i => ∃ k : Nat, i = .int .i64 k ∧ k ≤ n ∧ Hid (∀ j, k ≤ j → j < n → xs.getD j 0 = 0)) (fun i => (intOf i).toNat)
  case atStart => exact ⟨n, rfl, Nat.le_refl _, fun j h1 h2 => by omega⟩
  case round =>
    obtain ⟨k, rfl, hk, HZ⟩ := hrel
    by_cases h0 : k = 0
    · subst h0
      have F : Hid ((trim xs).length = 0) := by
        show _ = _
        rw [trim_take xs 0 (by omega) (fun j h1 h2 => HZ.out j h1 (by rw [← hl.out]; exact h2)) (.inl rfl)]; simp
      go_wp2
      go_ret
      exact ⟨by rw [F.out]; rfl, rfl⟩
    · have hcell := HO.out.cell (k - 1) (by omega)
      have hk1 : (0 : Int) < k := by omega
      by_cases hz : xs.getD (k - 1) 0 = 0
      · have HZ' : Hid (∀ j, k - 1 ≤ j → j < n → xs.getD j 0 = 0) := fun j h1 h2 => by
          by_cases h : j = k - 1
          · subst h; exact hz
          · exact HZ.out j (by omega) h2
        rw [hz] at hcell
        have hk2 : Hid (((k - 1 : Nat) : Int) = (k : Int) - 1) := by show _ = _; omega
        clear hz
        go_wp2
        go_round
        case rel => exact ⟨k - 1, by rw [hk2.out], by omega, HZ'⟩
        case measure => simp [intOf]; omega
      · have F : Hid ((trim xs).length = k) := by
          show _ = _
          rw [trim_take xs k (by rw [hl.out]; exact hk) (fun j h1 h2 => HZ.out j h1 (by rw [← hl.out]; exact h2)) (.inr hz)]
          simp; have := hl.out; omega
        have hne : (((xs.getD (k - 1) 0 : Nat) : Int) == 0) = false := by rw [beq_eq_false_iff_ne]; omega
        generalize xs.getD (k - 1) 0 = x at *
        clear hz
        go_wp2
        go_ret
        exact ⟨by rw [F.out]; rfl, rfl⟩
end Go.Proofs.YtgcofpmhojplhaaGreatDoor.Z

/- Written by wip/tools/port2.py out of the text Big3 of seat Ytidkdjnfpepnfaa. -/
/- Walks of the package's great numbers: setBytes. -/
namespace Go.Proofs.YtgcofpmhojplhaaGreatDoor.Z
open Go.RowKit

theorem f121_int (z : Int) (h1 : 1 ≤ z) (hn : z ≤ 1000000) (w : World) : Calls Tryz.prog 121 #[.slice none 0 0, .int .i64 z] w (MakesOwn z.toNat (List.replicate z.toNat 0) w) := by
  obtain ⟨n, rfl⟩ := Int.eq_ofNat_of_zero_le (show 0 ≤ z by omega)
  exact f121_any n (by omega) (by omega) w

theorem OwnW.stored {B : Nat} {w : World} {g n c : Nat} {xs : List Nat} (h : OwnW B w g n c xs) (j y : Nat) : OwnW B (w.setCell ⟨g, j, none⟩ (.int .u64 (y : Int))) g n c (xs.set j y) := by
  have := (World.ownsRow.stored h j (.int .u64 (y : Int))).1
  unfold OwnW
  rw [List.map_set]
  exact this

theorem or_step (t M : Nat) (ht : t < 8) (hM : M = 256 ^ t) (D b : Nat) (hD : D < 256 ^ t) (hb : b < 256) (x : Int) (hx : x = (b : Int) * (M : Int)) : bits BinOp.or IntKind.u64 (D : Int) x = ((D + b * 256 ^ t : Nat) : Int) := by
  subst hM
  subst hx
  have e : (256 : Nat) ^ t = 2 ^ (8 * t) := by rw [Nat.pow_mul]
  have hp : (2 : Nat) ^ (8 * t) ≤ 2 ^ 56 := Nat.pow_le_pow_right (by decide) (by omega)
  have hbm : b * 2 ^ (8 * t) ≤ 255 * 2 ^ (8 * t) := Nat.mul_le_mul_right _ (by omega)
  rw [e] at hD ⊢
  rw [← Int.natCast_mul, (bits_nat .u64 64 (by decide) (fun n h1 h2 => wraps_u64 n h1 h2) D (b * 2 ^ (8 * t)) (by omega) (by omega)).2]
  congr 1
  rw [Nat.or_comm, Nat.mul_comm, ← Nat.two_pow_add_eq_or_of_lt hD]
  omega
theorem step_low (t D b : Nat) (hD : D < 256 ^ t) (hb : b < 256) : D + b * 256 ^ t < 256 ^ (t + 1) := by
  have : b * 256 ^ t ≤ 255 * 256 ^ t := Nat.mul_le_mul_right _ (by omega)
  rw [Nat.pow_succ]; omega
theorem step_val {A Q q t D b : Nat} (h1 : A = Q * 256 ^ t + D) (h2 : Q = q * 256 + b) : A = q * 256 ^ (t + 1) + (D + b * 256 ^ t) := by
  subst h2
  rw [h1, Nat.pow_succ, Nat.add_mul, Nat.mul_comm (256 ^ t) 256, ← Nat.mul_assoc]; omega

/-- What setBytes leaves. -/
def MakesNat (n : Nat) (w : World) (e : Ending) (w' : World) : Prop := ∃ v xs, e = .returned v ∧ Row w.heap.size .u64 w' v xs ∧ IsW n xs ∧ Below w.heap.size w w'

set_option maxRecDepth 100000 in
theorem f110_nil (w : World) (v : Value) (hv : v = .slice none 0 0 ∨ ∃ a c, v = .slice (some a) 0 c) : Calls Tryz.prog 110 #[.slice none 0 0, v] w (MakesNat 0 w) := by
  rcases hv with rfl | ⟨a, c, rfl⟩
  all_goals
    go_enter Tryz.func110, Tryz.ntmps110
    go_wp2_with (go_at_call 121; refine (f121_zero _).mono ?_; rintro e w' ⟨rfl, rfl⟩)
    go_loop [5, 6] (fun i _ => i = .int .i64 0) (fun _ _ => 0)
    case atStart => rfl
    case round =>
      obtain rfl := hrel
      go_wp2_with (go_at_call 123; refine (f123_nil _).mono ?_; rintro e w' ⟨rfl, rfl⟩)
      go_ret
      exact ⟨_, [], rfl, .inl ⟨rfl, .inl rfl⟩, ⟨rfl, by simp, rfl⟩, Below.refl _ _⟩

set_option maxRecDepth 100000 in
set_option maxHeartbeats 2000000 in
theorem f110_any (gb off cb : Nat) (l : List Nat) (h0 : 0 < l.length) (hl : l.length ≤ 4000) (hcb : l.length ≤ cb) (hd : ∀ d ∈ l, d < 256) (w : World) (hgb : gb < w.heap.size)
    (hcell : ∀ i, i < l.length → w.cell? ⟨gb, off + i, none⟩ = some (.int .u8 ((l.getD i 0 : Nat) : Int))) :
    Calls Tryz.prog 110 #[.slice none 0 0, .slice (some ⟨gb, off, none⟩) l.length cb] w (MakesNat (bv l) w) := by
  have HC := Lib.hid hcell
  have HD := Lib.hid hd
  clear hcell hd
  go_enter Tryz.func110, Tryz.ntmps110
  go_wp2_with fail
  refine (f121_int _ (by omega) (by omega) _).mono ?_
  rintro e w1 ⟨g, c, rfl, ho, hb⟩
  have hnn : 8 * (((l.length : Int) + 8 - 1) / 8).toNat ≤ l.length + 7 ∧ l.length ≤ 8 * (((l.length : Int) + 8 - 1) / 8).toNat := by omega
  obtain ⟨hn1, hn2⟩ := hnn
  generalize (((l.length : Int) + 8 - 1) / 8).toNat = n at *
  have HO := Lib.hid ho
  have HB := Lib.hid hb
  obtain ⟨hg1, hg2⟩ := ho.low
  have hnc := ho.cap
  clear ho
  have HC1 : Hid (∀ i, i < l.length → w1.cell? ⟨gb, off + i, none⟩ = some (.int .u8 ((l.getD i 0 : Nat) : Int))) := fun i hi => (hb.cell (p := ⟨gb, off + i, none⟩) hgb).trans (HC.out i hi)
  clear hb HC
  go_wp2_with fail
  go_loopw [5, 6] (fun vi vk wr => ∃ i k : Nat, vi = .int .i64 i ∧ vk = .int .i64 k ∧ i + 8 * k = l.length ∧ ∃ xs, Hid (Laid l n k xs) ∧ Hid (OwnW w.heap.size wr g n c xs) ∧ Hid (Below w.heap.size w wr) ∧ w1.heap.size ≤ wr.heap.size) (fun vi _ _ => (intOf vi).toNat)
  case atStart => exact ⟨l.length, 0, rfl, rfl, by omega, _, Laid.start l n, HO.out, HB.out, Nat.le_refl _⟩
  case round =>
    obtain ⟨i, k, rfl, rfl, hik, xs, HL, HOr, HBr, hsz⟩ := hrel
    have HCr : Hid (∀ i, i < l.length → wr.cell? ⟨gb, off + i, none⟩ = some (.int .u8 ((l.getD i 0 : Nat) : Int))) := fun i hi => (HBr.out.cell (p := ⟨gb, off + i, none⟩) hgb).trans (((HB.out.cell (p := ⟨gb, off + i, none⟩) hgb).symm).trans (HC1.out i hi))
    by_cases h8 : 8 ≤ i
    · obtain ⟨j, rfl⟩ : ∃ j, i = j + 8 := ⟨i - 8, by omega⟩
      have hk : k < n := by omega
      have hzc := HOr.out.cell k hk
      have hzf := HOr.out.free k
      have hcj : ¬ cb = j := by omega
      have HL' := Lib.hid (HL.out.step HD.out hk j (by omega))
      have HO' := Lib.hid (HOr.out.stored k (be8 fun t => l.getD (j + t) 0))
      have HF := Lib.hid (f122_any gb (off + j) (cb - j) (by omega) (fun t => l.getD (j + t) 0) (fun t ht => by
        have hi : j + t < l.length := by omega
        simp [hi]; exact HD.out _ (List.getElem_mem hi)) wr (fun t ht => by rw [Nat.add_assoc]; exact HCr.out (j + t) (by omega)))
      generalize (be8 fun t => l.getD (j + t) 0) = y at *
      generalize xs.getD k 0 = x0 at *
      go_wp2_with fail
      refine HF.out.mono ?_
      rintro e w2 ⟨rfl, m, rfl⟩
      go_wp2_with fail
      go_roundw
      case rel => exact ⟨j, k + 1, rfl, by go_num, by omega, _, HL', HO'.out.draws m, below_drewN (HBr.out.setCell (p := ⟨g, k, none⟩) hg1 _) m, by simpa using hsz⟩
      case measure => simp [intOf]; omega
    · have h8' : ¬ (8 : Int) ≤ i := by omega
      by_cases hi0 : i = 0
      · subst hi0
        have hk : k = n := by omega
        have HV : Hid (wv xs = bv l) := HL.out.done (by omega) hk
        have HN := Lib.hid (f123_any w.heap.size g n c xs (by omega) wr HOr.out)
        go_wp2_with fail
        refine HN.out.mono ?_
        rintro e w2 ⟨rfl, rfl⟩
        go_wp2_with fail
        go_ret
        refine ⟨_, trim xs, rfl, ?_, ?_, HBr.out⟩
        · have := Row.take (trim xs).length (by rw [← HOr.out.len]; exact trim_len xs) HOr.out.row
          rwa [trim_take_len] at this
        · rw [← HV.out]; exact IsW.ofTrim xs HL.out.low
      · have hk : k + 1 = n := by omega
        have hip : (0 : Int) < i := by omega
        go_wp2_with fail
        go_loop [5, 7, 8] (fun vi vd vs => ∃ (j t D : Nat) (S : Int), vi = .int .i64 j ∧ vd = .int .u64 (D : Int) ∧ vs = .int .u64 S ∧ j + t = i ∧ S = 8 * (t : Int) ∧ D < 256 ^ t ∧ Hid (bv (l.take i) = bv (l.take j) * 256 ^ t + D)) (fun vi _ _ => (intOf vi).toNat)
        case atStart => exact ⟨i, 0, 0, 0, rfl, rfl, rfl, by omega, by omega, by decide, by show _ = _; simp⟩
        case round =>
          obtain ⟨j, t, D, S, rfl, rfl, rfl, hjt, hS, hD, HV⟩ := hrel
          by_cases hj0 : j = 0
          · subst hj0
            have hDe : Hid (bv (l.take i) = D) := by show _ = _; rw [HV.out]; simp [bv]
            have hti : t = i := by omega
            have hDW : D < W := by
              have : 256 ^ t ≤ 256 ^ 8 := Nat.pow_le_pow_right (by decide) (by omega)
              unfold W; omega
            have HLast : Hid (wv (xs.set k D) = bv l ∧ ∀ d ∈ xs.set k D, d < W) := by
              have := HL.out.last hk i (by omega) (by rw [hDe.out]; exact hDW)
              rwa [hDe.out] at this
            have HO' := Lib.hid (HOr.out.stored k D)
            have hzc := HOr.out.cell k (by omega)
            have hzf := HOr.out.free k
            have HB' : Hid (Below w.heap.size w (wr.setCell ⟨g, k, none⟩ (.int .u64 (D : Int)))) := HBr.out.setCell (p := ⟨g, k, none⟩) hg1 _
            have HN := Lib.hid (f123_any w.heap.size g n c (xs.set k D) (by omega) _ HO'.out)
            have hnk : Hid (n = k + 1) := hk.symm
            obtain rfl : k = n - 1 := by omega
            clear hjt hS hD hti hDW hk
            generalize xs.getD (n - 1) 0 = x0 at *
            go_wp2_with fail
            refine HN.out.mono ?_
            rintro e w2 ⟨rfl, rfl⟩
            go_wp2_with fail
            go_ret
            refine ⟨_, trim (xs.set (n - 1) D), rfl, ?_, ?_, HB'.out⟩
            · have := Row.take (trim (xs.set (n - 1) D)).length (Nat.le_trans (trim_len _) (Nat.le_of_eq HO'.out.len)) HO'.out.row
              rwa [trim_take_len] at this
            · rw [← HLast.out.1]; exact IsW.ofTrim _ HLast.out.2
          · obtain ⟨q, rfl⟩ : ∃ q, j = q + 1 := ⟨j - 1, by omega⟩
            have hbl : l.getD q 0 < 256 := by
              have hi : q < l.length := by omega
              simp [hi]; exact HD.out _ (List.getElem_mem hi)
            have hbc := HCr.out q (by omega)
            have HV' := Lib.hid (bv_take_succ l q (by omega))
            generalize l.getD q 0 = b at *
            have hqi : q < i := by omega
            have HJ := Lib.hid hjt
            have ht : t = 0 ∨ t = 1 ∨ t = 2 ∨ t = 3 ∨ t = 4 ∨ t = 5 ∨ t = 6 := by omega
            clear hjt
            rcases ht with rfl | rfl | rfl | rfl | rfl | rfl | rfl
            · obtain rfl : S = 0 := by omega
              clear hS
              have HB2 := Lib.hid hD
              clear hD
              go_wp2_with fail
              refine ⟨⟨q, 1, D + b * 256 ^ 0, 8, rfl, ?_, rfl, by have := HJ.out; omega, by omega, step_low 0 D b HB2.out hbl, step_val HV.out HV'.out⟩, by simp [intOf]⟩
              exact congrArg (Value.int .u64) (or_step 0 1 (by omega) (by decide) D b HB2.out hbl _ (by simp))
            · obtain rfl : S = 8 := by omega
              clear hS
              have HB2 := Lib.hid hD
              clear hD
              go_wp2_with fail
              refine ⟨⟨q, 2, D + b * 256 ^ 1, 16, rfl, ?_, rfl, by have := HJ.out; omega, by omega, step_low 1 D b HB2.out hbl, step_val HV.out HV'.out⟩, by simp [intOf]⟩
              exact congrArg (Value.int .u64) (or_step 1 256 (by omega) (by decide) D b HB2.out hbl _ (by rfl))
            · obtain rfl : S = 16 := by omega
              clear hS
              have HB2 := Lib.hid hD
              clear hD
              go_wp2_with fail
              refine ⟨⟨q, 3, D + b * 256 ^ 2, 24, rfl, ?_, rfl, by have := HJ.out; omega, by omega, step_low 2 D b HB2.out hbl, step_val HV.out HV'.out⟩, by simp [intOf]⟩
              exact congrArg (Value.int .u64) (or_step 2 65536 (by omega) (by decide) D b HB2.out hbl _ (by rfl))
            · obtain rfl : S = 24 := by omega
              clear hS
              have HB2 := Lib.hid hD
              clear hD
              go_wp2_with fail
              refine ⟨⟨q, 4, D + b * 256 ^ 3, 32, rfl, ?_, rfl, by have := HJ.out; omega, by omega, step_low 3 D b HB2.out hbl, step_val HV.out HV'.out⟩, by simp [intOf]⟩
              exact congrArg (Value.int .u64) (or_step 3 16777216 (by omega) (by decide) D b HB2.out hbl _ (by rfl))
            · obtain rfl : S = 32 := by omega
              clear hS
              have HB2 := Lib.hid hD
              clear hD
              go_wp2_with fail
              refine ⟨⟨q, 5, D + b * 256 ^ 4, 40, rfl, ?_, rfl, by have := HJ.out; omega, by omega, step_low 4 D b HB2.out hbl, step_val HV.out HV'.out⟩, by simp [intOf]⟩
              exact congrArg (Value.int .u64) (or_step 4 4294967296 (by omega) (by decide) D b HB2.out hbl _ (by rfl))
            · obtain rfl : S = 40 := by omega
              clear hS
              have HB2 := Lib.hid hD
              clear hD
              go_wp2_with fail
              refine ⟨⟨q, 6, D + b * 256 ^ 5, 48, rfl, ?_, rfl, by have := HJ.out; omega, by omega, step_low 5 D b HB2.out hbl, step_val HV.out HV'.out⟩, by simp [intOf]⟩
              exact congrArg (Value.int .u64) (or_step 5 1099511627776 (by omega) (by decide) D b HB2.out hbl _ (by rfl))
            · obtain rfl : S = 48 := by omega
              clear hS
              have HB2 := Lib.hid hD
              clear hD
              go_wp2_with fail
              refine ⟨⟨q, 7, D + b * 256 ^ 6, 56, rfl, ?_, rfl, by have := HJ.out; omega, by omega, step_low 6 D b HB2.out hbl, step_val HV.out HV'.out⟩, by simp [intOf]⟩
              exact congrArg (Value.int .u64) (or_step 6 281474976710656 (by omega) (by decide) D b HB2.out hbl _ (by rfl))
end Go.Proofs.YtgcofpmhojplhaaGreatDoor.Z
