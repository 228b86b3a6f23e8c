import Init
import Derived.Test.YtabeokminikfdaaGreatProg
import Derived.WalkKit
import Derived.WalkSpells
import Derived.WalkLawsBesides
import Derived.Deep.QuietTactic
import Derived.BigQuiet
import Derived.Lib.Hide
import Derived.Lib.SmallJoins
import Derived.Laws.AppendOwnNone
import Derived.Laws.CopyOwn
import Derived.Deep.DeepCutAuto
import Derived.Deep.RegionWith
import Derived.Deep.RegionHeld3
import Derived.Deep.AppendLies
set_option linter.all false
set_option maxRecDepth 100000
namespace Go.Proofs.YtabeokminikfdaaGreat.Z
def strip (l : List Nat) : List Nat := l.dropWhile (· == 0)
theorem strip_drop (l : List Nat) (k : Nat) (h : ∀ i, i < k → l.getD i 0 = 0) (hk : k < l.length) (h2 : l.getD k 0 ≠ 0) : strip l = l.drop k := by
 induction k generalizing l with
 | zero =>
  cases l with
  | nil => simp at hk
  | cons a r => simp at h2; simp [strip, h2]
 | succ k ih =>
  cases l with
  | nil => simp at hk
  | cons a r =>
   have h0 := h 0 (by omega)
   simp at h0
   subst h0
   have := ih r (fun i hi => by have := h (i + 1) (by omega); simpa using this) (by simpa using hk) (by simpa using h2)
   simpa [strip] using this
theorem strip_all (l : List Nat) (h : ∀ i, i < l.length → l.getD i 0 = 0) : strip l = [] := by
 induction l with
 | nil => rfl
 | cons a r ih =>
  have h0 := h 0 (by simp)
  simp at h0
  subst h0
  have := ih (fun i hi => by have := h (i + 1) (by simpa using hi); simpa using this)
  simpa [strip] using this
def bv : List Nat → Nat
 | [] => 0
 | a :: r => a * 256 ^ r.length + bv r
theorem bv_append (a b : List Nat) : bv (a ++ b) = bv a * 256 ^ b.length + bv b := by
 induction a with
 | nil => simp [bv]
 | cons x r ih => simp only [List.cons_append, bv, ih, List.length_append, Nat.pow_add, Nat.add_mul, Nat.mul_assoc, Nat.add_assoc]
theorem bv_snoc (a : List Nat) (x : Nat) : bv (a ++ [x]) = bv a * 256 + x := by rw [bv_append]; simp [bv]
theorem bv_lt (l : List Nat) (h : ∀ d ∈ l, d < 256) : bv l < 256 ^ l.length := by
 induction l with
 | nil => simp [bv]
 | cons a r ih =>
  have h1 := h a (by simp)
  have h2 := ih (fun d hd => h d (by simp [hd]))
  simp only [bv, List.length_cons, Nat.pow_succ]
  have : a * 256 ^ r.length ≤ 255 * 256 ^ r.length := Nat.mul_le_mul_right _ (by omega)
  omega
theorem bv_strip (l : List Nat) : bv (strip l) = bv l := by
 induction l with
 | nil => rfl
 | cons a r ih =>
  by_cases h : a = 0
  ·subst h
   have : strip (0 :: r) = strip r := by simp [strip]
   rw [this, ih]; simp [bv]
  ·have : strip (a :: r) = a :: r := by simp [strip, h]
   rw [this]
theorem strip_strip (l : List Nat) : strip (strip l) = strip l := by
 induction l with
 | nil => rfl
 | cons a r ih =>
  by_cases h : a = 0
  ·subst h
   have : strip (0 :: r) = strip r := by simp [strip]
   rw [this, ih]
  ·have : strip (a :: r) = a :: r := by simp [strip, h]
   rw [this, this]
theorem strip_mem (l : List Nat) (d : Nat) (h : d ∈ strip l) : d ∈ l := by
 induction l with
 | nil => exact h
 | cons a r ih =>
  by_cases h0 : a = 0
  ·subst h0
   have : strip (0 :: r) = strip r := by simp [strip]
   rw [this] at h
   exact List.mem_cons_of_mem _ (ih h)
  ·have : strip (a :: r) = a :: r := by simp [strip, h0]
   rwa [this] at h
theorem strip_len (l : List Nat) : (strip l).length ≤ l.length := by
 induction l with
 | nil => simp [strip]
 | cons a r ih =>
  by_cases h0 : a = 0
  ·subst h0
   have : strip (0 :: r) = strip r := by simp [strip]
   rw [this]; simp; omega
  ·have : strip (a :: r) = a :: r := by simp [strip, h0]
   rw [this]; simp
structure IsB (n : Nat) (l : List Nat) : Prop where
 val : bv l = n
 low : ∀ d ∈ l, d < 256
 top : strip l = l
theorem IsB.ofStrip (l : List Nat) (h : ∀ d ∈ l, d < 256) : IsB (bv l) (strip l) := ⟨bv_strip l, fun d hd => h d (strip_mem l d hd), strip_strip l⟩
theorem top_pos (a : Nat) (r : List Nat) (h : strip (a :: r) = a :: r) : 0 < a := by
 by_cases h0 : a = 0
 ·subst h0
  have h1 : strip (0 :: r) = strip r := by simp [strip]
  rw [h1] at h
  have := strip_len r
  rw [h] at this
  simp at this
  omega
 ·omega
theorem IsB.ge {n a : Nat} {r : List Nat} (h : IsB n (a :: r)) : 256 ^ r.length ≤ n := by
 have h0 := top_pos a r h.top
 rw [← h.val, bv]
 have : 1 * 256 ^ r.length ≤ a * 256 ^ r.length := Nat.mul_le_mul_right _ h0
 omega
theorem IsB.lt {n : Nat} {l : List Nat} (h : IsB n l) : n < 256 ^ l.length := by rw [← h.val]; exact bv_lt l h.low
theorem IsB.zero {n : Nat} {l : List Nat} (h : IsB n l) : n = 0 ↔ l = [] := by
 constructor
 ·rintro rfl
  cases l with
  | nil => rfl
  | cons a r =>
   have := h.ge
   have : 0 < 256 ^ r.length := Nat.pow_pos (by decide)
   omega
 ·rintro rfl
  rw [← h.val]; rfl
theorem IsB.len_le {n : Nat} {l : List Nat} (h : IsB n l) {k : Nat} (hk : n < 256 ^ k) : l.length ≤ k := by
 cases l with
 | nil => simp
 | cons a r =>
  have h1 := h.ge
  have h2 : 256 ^ r.length < 256 ^ k := Nat.lt_of_le_of_lt h1 hk
  have := (Nat.pow_lt_pow_iff_right (by decide : 1 < 256)).1 h2
  simp; omega
theorem bv_inj : ∀ (l m : List Nat), l.length = m.length → (∀ d ∈ l, d < 256) → (∀ d ∈ m, d < 256) → bv l = bv m → l = m
 | [], [], _, _, _, _ => rfl
 | [], b :: m, h, _, _, _ => by simp at h
 | a :: l, [], h, _, _, _ => by simp at h
 | a :: l, b :: m, h, h1, h2, h3 => by
  have hl : l.length = m.length := by simpa using h
  have e1 := bv_lt l (fun d hd => h1 d (by simp [hd]))
  have e2 := bv_lt m (fun d hd => h2 d (by simp [hd]))
  simp only [bv] at h3
  rw [hl] at h3 e1
  have hp : 0 < 256 ^ m.length := Nat.pow_pos (by decide)
  have q1 : (a * 256 ^ m.length + bv l) / 256 ^ m.length = a := by rw [Nat.mul_comm, Nat.mul_add_div hp, Nat.div_eq_of_lt e1]; rfl
  have q2 : (b * 256 ^ m.length + bv m) / 256 ^ m.length = b := by rw [Nat.mul_comm, Nat.mul_add_div hp, Nat.div_eq_of_lt e2]; rfl
  have hab : a = b := by rw [← q1, h3, q2]
  subst hab
  have := bv_inj l m hl (fun d hd => h1 d (by simp [hd])) (fun d hd => h2 d (by simp [hd])) (by omega)
  rw [this]
theorem IsB.uniq {n : Nat} {l m : List Nat} (h1 : IsB n l) (h2 : IsB n m) : l = m := by
 have a := h1.len_le h2.lt
 have b := h2.len_le h1.lt
 exact bv_inj l m (by omega) h1.low h2.low (by rw [h1.val, h2.val])
def W : Nat := 18446744073709551616
def wv : List Nat → Nat
 | [] => 0
 | x :: r => x + W * wv r
def trim (l : List Nat) : List Nat := (strip l.reverse).reverse
theorem wv_append (a b : List Nat) : wv (a ++ b) = wv a + W ^ a.length * wv b := by
 induction a with
 | nil => simp [wv]
 | cons x r ih => simp only [List.cons_append, wv, ih, List.length_cons, Nat.pow_succ, Nat.mul_add, Nat.add_assoc]; congr 2; rw [Nat.mul_comm (W ^ r.length) W, Nat.mul_assoc]
theorem wv_zeros (n : Nat) : wv (List.replicate n 0) = 0 := by
 induction n with
 | zero => rfl
 | succ n ih => simp [List.replicate_succ, wv, ih]
theorem strip_split (l : List Nat) : l = List.replicate (l.length - (strip l).length) 0 ++ strip l := by
 induction l with
 | nil => rfl
 | cons a r ih =>
  by_cases h : a = 0
  ·subst h
   have h1 : strip (0 :: r) = strip r := by simp [strip]
   have h2 := strip_len r
   rw [h1, List.length_cons, show r.length + 1 - (strip r).length = (r.length - (strip r).length) + 1 from by omega, List.replicate_succ, List.cons_append, ← ih]
  ·have h1 : strip (a :: r) = a :: r := by simp [strip, h]
   rw [h1]; simp
theorem trim_split (l : List Nat) : l = trim l ++ List.replicate (l.length - (trim l).length) 0 := by
 have := strip_split l.reverse
 have h := congrArg List.reverse this
 rw [List.reverse_reverse, List.reverse_append, List.reverse_replicate] at h
 simpa [trim] using h
theorem trim_val (l : List Nat) : wv (trim l) = wv l := by
 conv => rhs; rw [trim_split l]
 rw [wv_append, wv_zeros]; simp
theorem trim_mem (l : List Nat) (d : Nat) (h : d ∈ trim l) : d ∈ l := by
 have := strip_mem l.reverse d (by simpa [trim] using h)
 simpa using this
theorem trim_len (l : List Nat) : (trim l).length ≤ l.length := by have := strip_len l.reverse; simpa [trim] using this
theorem trim_trim (l : List Nat) : trim (trim l) = trim l := by simp [trim, strip_strip]
theorem trim_take (l : List Nat) (k : Nat) (hk : k ≤ l.length) (h : ∀ j, k ≤ j → j < l.length → l.getD j 0 = 0) (h2 : k = 0 ∨ l.getD (k - 1) 0 ≠ 0) : trim l = l.take k := by
 have e : l = l.take k ++ List.replicate (l.length - k) 0 := by
  apply List.ext_getElem
  ·simp; omega
  ·intro i h1 _
   by_cases hi : i < k
   ·rw [List.getElem_append_left (by simp; omega)]; simp
   ·rw [List.getElem_append_right (by simp; omega)]
    have := h i (by omega) h1
    simp [h1] at this
    simp [this]
 have e2 : strip l.reverse = (l.take k).reverse := by
  conv => lhs; rw [e]
  rw [List.reverse_append, List.reverse_replicate]
  have hz : ∀ n (m : List Nat), strip (List.replicate n 0 ++ m) = strip m := by
   intro n m
   induction n with
   | zero => simp
   | succ n ih => rw [List.replicate_succ, List.cons_append, ← ih]; simp [strip]
  rw [hz]
  rcases h2 with rfl | h2
  ·simp [strip]
  ·by_cases hk0 : k = 0
   ·subst hk0; simp [strip]
   ·obtain ⟨m, rfl⟩ : ∃ m, k = m + 1 := ⟨k - 1, by omega⟩
    have hl : m < l.length := by omega
    simp only [Nat.add_sub_cancel] at h2
    simp [hl] at h2
    rw [List.take_succ_eq_append_getElem hl, List.reverse_append]
    simp [strip, h2]
 rw [trim, e2, List.reverse_reverse]
theorem trim_take_len (l : List Nat) : l.take (trim l).length = trim l := by
 conv => lhs; rw [trim_split l]
 rw [List.take_append_of_le_length (by rw [← trim_split]; exact Nat.le_refl _)]
 conv => lhs; arg 1; rw [← trim_split]
 exact List.take_length
structure IsW (n : Nat) (xs : List Nat) : Prop where
 val : wv xs = n
 low : ∀ d ∈ xs, d < W
 top : trim xs = xs
theorem IsW.ofTrim (l : List Nat) (h : ∀ d ∈ l, d < W) : IsW (wv l) (trim l) := ⟨trim_val l, fun d hd => h d (trim_mem l d hd), trim_trim l⟩
def be8 (b : Nat → Nat) : Nat := (((b 0 * 256 + b 1) * 256 + b 2) * 256 + b 3) * 4294967296 + (((b 4 * 256 + b 5) * 256 + b 6) * 256 + b 7)
theorem bv_take_succ (l : List Nat) (i : Nat) (h : i < l.length) : bv (l.take (i + 1)) = bv (l.take i) * 256 + l.getD i 0 := by
 rw [List.take_succ_eq_append_getElem h, bv_snoc]; simp [h]
theorem bv_take8 (l : List Nat) (j : Nat) (h : j + 8 ≤ l.length) : bv (l.take (j + 8)) = bv (l.take j) * W + be8 (fun t => l.getD (j + t) 0) := by
 have h0 := bv_take_succ l j (by omega)
 have h1 := bv_take_succ l (j + 1) (by omega)
 have h2 := bv_take_succ l (j + 2) (by omega)
 have h3 := bv_take_succ l (j + 3) (by omega)
 have h4 := bv_take_succ l (j + 4) (by omega)
 have h5 := bv_take_succ l (j + 5) (by omega)
 have h6 := bv_take_succ l (j + 6) (by omega)
 have h7 := bv_take_succ l (j + 7) (by omega)
 unfold W be8
 simp only [Nat.add_zero, Nat.add_assoc, Nat.reduceAdd] at *
 omega
theorem be8_lt (b : Nat → Nat) (h : ∀ j, j < 8 → b j < 256) : be8 b < W := by
 have := h 0; have := h 1; have := h 2; have := h 3; have := h 4; have := h 5; have := h 6; have := h 7
 unfold W be8; omega
theorem take_set_succ (xs : List Nat) (k : Nat) (y : Nat) (h : k < xs.length) : (xs.set k y).take (k + 1) = xs.take k ++ [y] := by
 rw [List.take_succ_eq_append_getElem (by simpa using h), List.take_set_of_le (by omega)]; simp
structure Laid (l : List Nat) (n k : Nat) (xs : List Nat) : Prop where
 len : xs.length = n
 low : ∀ d ∈ xs, d < W
 rest : xs.drop k = List.replicate (n - k) 0
 sum : bv l = bv (l.take (l.length - 8 * k)) * W ^ k + wv (xs.take k)
theorem Laid.start (l : List Nat) (n : Nat) : Laid l n 0 (List.replicate n 0) :=
 ⟨by simp, fun d hd => by have := (List.mem_replicate.1 hd).2; subst this; decide, by simp, by simp [wv]⟩
theorem Laid.step {l : List Nat} {n k : Nat} {xs : List Nat} (h : Laid l n k xs) (hd : ∀ d ∈ l, d < 256) (hk : k < n) (j : Nat) (hj : j + 8 = l.length - 8 * k) :
  Laid l n (k + 1) (xs.set k (be8 fun t => l.getD (j + t) 0)) := by
 have hlow : be8 (fun t => l.getD (j + t) 0) < W := be8_lt _ fun t _ => by
  by_cases hi : j + t < l.length
  ·simp [hi]; exact hd _ (List.getElem_mem hi)
  ·simp [hi]
 refine ⟨by simpa using h.len, fun d hm => ?_, ?_, ?_⟩
 ·rcases List.mem_or_eq_of_mem_set hm with h1 | h1
  ·exact h.low d h1
  ·rw [h1]; exact hlow
 ·have := congrArg List.tail h.rest
  rw [List.tail_drop, List.tail_replicate] at this
  rw [List.drop_set_of_lt (by omega), this]
  congr 1
 ·have h1 : l.length - 8 * (k + 1) = j := by omega
  have h2 := h.sum
  rw [← hj, bv_take8 l j (by omega)] at h2
  rw [h1, take_set_succ xs k _ (by rw [h.len]; exact hk), wv_append, h2, List.length_take, h.len, Nat.min_eq_left (by omega), Nat.pow_succ]
  simp only [wv, Nat.mul_zero, Nat.add_zero]
  rw [Nat.add_mul, Nat.mul_assoc, Nat.mul_comm W (W ^ k), Nat.mul_comm (be8 _) (W ^ k)]
  omega
theorem Laid.last {l : List Nat} {n k : Nat} {xs : List Nat} (h : Laid l n k xs) (hk : k + 1 = n) (r : Nat) (hr : r = l.length - 8 * k) (hlow : bv (l.take r) < W) :
  wv (xs.set k (bv (l.take r))) = bv l ∧ ∀ d ∈ xs.set k (bv (l.take r)), d < W := by
 constructor
 ·have e : xs.set k (bv (l.take r)) = (xs.set k (bv (l.take r))).take (k + 1) := (List.take_of_length_le (by rw [List.length_set, h.len]; omega)).symm
  rw [e, take_set_succ xs k _ (by rw [h.len]; omega), wv_append, h.sum, List.length_take, h.len, Nat.min_eq_left (by omega), hr]
  simp only [wv, Nat.mul_zero, Nat.add_zero]
  rw [Nat.mul_comm (W ^ k)]; omega
 ·intro d hm
  rcases List.mem_or_eq_of_mem_set hm with h1 | h1
  ·exact h.low d h1
  ·rw [h1]; exact hlow
theorem Laid.done {l : List Nat} {n k : Nat} {xs : List Nat} (h : Laid l n k xs) (hr : l.length = 8 * k) (hk : k = n) : wv xs = bv l := by
 have := h.sum
 have e : xs.take k = xs := List.take_of_length_le (by rw [h.len]; omega)
 rw [hr, Nat.sub_self, e] at this
 rw [this]; simp [bv]
theorem trim_snoc (l : List Nat) (x : Nat) (hx : x ≠ 0) : trim (l ++ [x]) = l ++ [x] := by simp [trim, strip, hx]
theorem trim_snoc0 (l : List Nat) : trim (l ++ [0]) = trim l := by simp [trim, strip]
theorem IsW.last {n : Nat} {xs : List Nat} (h : IsW n xs) (h0 : 0 < xs.length) : 0 < xs.getD (xs.length - 1) 0 := by
 rcases List.eq_nil_or_concat xs with rfl | ⟨l, x, rfl⟩
 ·simp at h0
 ·have ht := h.top
  by_cases hx : x = 0
  ·subst hx
   rw [List.concat_eq_append, trim_snoc0] at ht
   have := trim_len l
   rw [ht] at this
   simp at this
   omega
  ·simp; omega
theorem wv_lt (xs : List Nat) (h : ∀ d ∈ xs, d < W) : wv xs < W ^ xs.length := by
 induction xs with
 | nil => simp [wv]
 | cons a r ih =>
  have h1 := h a (by simp)
  have h2 := ih (fun d hd => h d (by simp [hd]))
  simp only [wv, List.length_cons, Nat.pow_succ]
  have h3 : W * (wv r + 1) ≤ W * W ^ r.length := Nat.mul_le_mul_left _ (by omega)
  rw [Nat.mul_add, Nat.mul_one] at h3
  rw [Nat.mul_comm (W ^ r.length)]
  omega
theorem wv_getD_le (xs : List Nat) (i : Nat) : xs.getD i 0 * W ^ i ≤ wv xs := by
 induction xs generalizing i with
 | nil => simp
 | cons a r ih =>
  cases i with
  | zero => simp [wv]
  | succ i =>
   have := ih i
   simp only [List.getD_cons_succ, wv, Nat.pow_succ]
   have h2 : W * (r.getD i 0 * W ^ i) ≤ W * wv r := Nat.mul_le_mul_left _ this
   calc r.getD i 0 * (W ^ i * W) = W * (r.getD i 0 * W ^ i) := by rw [Nat.mul_comm W, Nat.mul_assoc]
    _ ≤ _ := by omega
theorem IsW.ge {n : Nat} {xs : List Nat} (h : IsW n xs) (h0 : 0 < xs.length) : W ^ (xs.length - 1) ≤ n := by
 have h1 := wv_getD_le xs (xs.length - 1)
 have h2 := h.last h0
 rw [h.val] at h1
 exact Nat.le_trans (Nat.le_mul_of_pos_left _ h2) h1
theorem W_pos : 0 < W := by decide
theorem IsW.len_le {n : Nat} {xs : List Nat} (h : IsW n xs) {k : Nat} (hk : n < W ^ k) : xs.length ≤ k := by
 by_cases h0 : xs.length = 0
 ·omega
 ·have h1 := h.ge (by omega)
  have h2 : W ^ (xs.length - 1) < W ^ k := Nat.lt_of_le_of_lt h1 hk
  have := (Nat.pow_lt_pow_iff_right (by decide : 1 < W)).1 h2
  omega
theorem IsW.zero {n : Nat} {xs : List Nat} (h : IsW n xs) : n = 0 ↔ xs = [] := by
 constructor
 ·rintro rfl
  have := h.len_le (k := 0) (by decide)
  exact List.eq_nil_of_length_eq_zero (by omega)
 ·rintro rfl; rw [← h.val]; rfl
theorem IsW.one {n : Nat} {xs : List Nat} (h : IsW n xs) (hn : n < W) (h0 : n ≠ 0) : xs = [n] := by
 have h1 := h.len_le (k := 1) (by simpa using hn)
 match xs, h with
 | [], h => exact absurd (h.zero.2 rfl) h0
 | [x], h => have := h.val; simp [wv] at this; rw [this]
 | _ :: _ :: _, _ => simp at h1
theorem IsW.lt {n : Nat} {xs : List Nat} (h : IsW n xs) : n < W ^ xs.length := by rw [← h.val]; exact wv_lt xs h.low
theorem isW_nil : IsW 0 [] := ⟨rfl, by simp, rfl⟩
theorem isW_one (n : Nat) (h0 : n ≠ 0) (hn : n < W) : IsW n [n] := ⟨by simp [wv], by simpa using hn, by simpa using trim_snoc [] n h0⟩
end Go.Proofs.YtabeokminikfdaaGreat.Z
namespace Go.Proofs.YtabeokminikfdaaGreat.Z
open Go.RowKit
def IsRow (k : IntKind) (w : World) (a : Option Addr) (len cap : Nat) (zs : List Int) : Prop :=
 (a = none ∧ len = 0 ∧ cap = 0 ∧ zs = []) ∨
 ∃ x, a = some x ∧ len ≤ cap ∧ cap ≤ maxLen ∧ zs.length = cap ∧ (∀ i, i < zs.length → w.cell? (x.add i) = some (.int k (zs.getD i 0))) ∧ ∀ n ∈ zs, (Lit.int k n).wf = true
def Row (B : Nat) (k : IntKind) (w : World) (v : Value) (l : List Nat) : Prop :=
 (l = [] ∧ (v = .slice none 0 0 ∨ ∃ a c, v = .slice (some a) 0 c)) ∨
 (0 < l.length ∧ ∃ g off c, v = .slice (some ⟨g, off, none⟩) l.length c ∧ l.length ≤ c ∧ B ≤ g ∧ g < w.heap.size ∧ ∀ i, i < l.length → w.cell? ⟨g, off + i, none⟩ = some (.int k ((l.getD i 0 : Nat) : Int)))
theorem ext_trans {a b c : World} (h1 : Below a.heap.size a b) (h2 : Below b.heap.size b c) : Below a.heap.size a c := h1.trans (h2.mono h1.size)
theorem below_drewN {B : Nat} {a w : World} (h : Below B a w) (n : Nat) : Below B a (w.drewN n) := ⟨h.os, h.tape, h.output, h.size, h.block⟩
theorem bcell {W w1 : World} (hb : Below W.heap.size W w1) : (∀ b o, b < W.heap.size → w1.cell? ⟨b, o, none⟩ = W.cell? ⟨b, o, none⟩) ∧ (∀ b o, b < W.heap.size → w1.frozen? ⟨b, o, none⟩ = W.frozen? ⟨b, o, none⟩) :=
 ⟨fun b o h => hb.cell (p := ⟨b, o, none⟩) h, fun b o h => hb.frozen (p := ⟨b, o, none⟩) h⟩
theorem quiet_left {P : Program} {f : FuncId} {args : Array Value} {w : World} {n : Nat} {v : Value}
  (h : Calls P f args (w.drewN n) fun e w' => e = .returned v ∧ w.drewN n = w') : Calls P f args (w.drewN n) fun e w'' => e = .returned v ∧ ∃ m, w'' = w.drewN m :=
 h.mono fun _ _ ⟨he, hm⟩ => ⟨he, n, hm.symm⟩
theorem ret_int {k : IntKind} {a b : Int} (h : a = b) : Ending.returned (.int k a) = .returned (.int k b) := by rw [h]
theorem ret_bool {a b : Bool} (h : a = b) : Ending.returned (.bool a) = .returned (.bool b) := by rw [h]
theorem Row.below {B' : Nat} {k : IntKind} {w w' : World} {v : Value} {l : List Nat} {B : Nat} (h : Row B' k w v l) (hb : Below B w w') (hB : w.heap.size ≤ B) : Row B' k w' v l := by
 rcases h with h | ⟨h0, g, off, c, hv, hc, hB', hg, hcell⟩
 ·exact .inl h
 ·exact .inr ⟨h0, g, off, c, hv, hc, hB', Nat.lt_of_lt_of_le hg hb.size, fun i hi => by rw [hb.cell (p := ⟨g, off + i, none⟩) (Nat.lt_of_lt_of_le hg hB)]; exact hcell i hi⟩
theorem Row.le {B' : Nat} {k : IntKind} {w : World} {v : Value} {l : List Nat} {B : Nat} (h : Row B k w v l) (hB : B' ≤ B) : Row B' k w v l := by
 rcases h with h | ⟨h0, g, off, c, hv, hc, hB', hg, hcell⟩
 ·exact .inl h
 ·exact .inr ⟨h0, g, off, c, hv, hc, Nat.le_trans hB hB', hg, hcell⟩
theorem Row.setOld {k : IntKind} {w : World} {v : Value} {l : List Nat} {B : Nat} (h : Row B k w v l) {a : Addr} (ha : a.block < B) (u : Value) : Row B k (w.setCell a u) v l := by
 rcases h with h | ⟨h0, g, off, c, hv, hc, hB', hg, hcell⟩
 ·exact .inl h
 ·refine .inr ⟨h0, g, off, c, hv, hc, hB', by simpa [World.setCell] using hg, fun i hi => ?_⟩
  rw [World.cell?_of_block (w := w) (Below.heap_setCell w a u g (by omega))]
  exact hcell i hi
theorem Row.draws {B : Nat} {k : IntKind} {w : World} {v : Value} {l : List Nat} (h : Row B k w v l) (n : Nat) : Row B k (w.drewN n) v l := h
theorem Row.alloc {B : Nat} {k : IntKind} {w : World} {v : Value} {l : List Nat} (h : Row B k w v l) (o : Obj) : Row B k (w.alloc o) v l := h.below ((Below.refl _ _).alloc (Nat.le_refl _) o) (Nat.le_refl _)
theorem Row.ofOwn {k : IntKind} {w : World} {base : Nat} {e : TypeId} {v : Value} {n : Nat} {l : List Nat} (h : w.ownsRow base e 1 v n (l.map fun x => Value.int k (x : Nat))) : Row base k w v l := by
 have hl : l.length = n := by simpa using h.1
 rcases h.2 with ⟨rfl, h0⟩ | ⟨g, cap, cur, rfl, hb, hg, hn, hm, hc, ht⟩
 ·exact .inl ⟨List.eq_nil_of_length_eq_zero (by omega), .inl rfl⟩
 ·subst hl
  by_cases h0 : l.length = 0
  ·obtain rfl : l = [] := List.eq_nil_of_length_eq_zero h0
   exact .inl ⟨rfl, .inr ⟨_, _, rfl⟩⟩
  ·refine .inr ⟨by omega, g, 0, cap, rfl, hn, hb, (Array.getElem?_eq_some_iff.1 hg).1, fun i hi => ?_⟩
   have := h.cellAt i (by omega)
   rw [Nat.zero_add, this]
   simp [hi]
theorem Row.len {B : Nat} {k : IntKind} {w : World} {v : Value} {l : List Nat} (h : Row B k w v l) : ∃ a c, v = .slice a l.length c := by
 rcases h with ⟨rfl, rfl | ⟨a, c, rfl⟩⟩ | ⟨_, g, off, c, rfl, _⟩
 ·exact ⟨_, _, rfl⟩
 ·exact ⟨_, _, rfl⟩
 ·exact ⟨_, _, rfl⟩
theorem wp_append_row {P : Program} {w : World} {o : Oper} {a : Act} {K : Act → World → Prop} {Q : Exit → Act → World → Prop} (s x : Operand) (t : TypeId)
  (ho : o.op = .call { callee := .builtin .append, args := #[s, x], argTypes := #[t, t] })
  (base : Nat) (e : TypeId) (i : TypeInfo) (z : Value) (bytes : Nat) (ht : P.underlying t = some (.slice e)) (hi : P.info? e = some i) (hz : i.zero = some z)
  (hsize : i.size = 1) (hby : i.bytes = bytes) (hzs : z.cells.size = 1)
  (v : Value) (n : Nat) (xs : List Value) (hs : a.eval s = v) (hown : w.ownsRow base e 1 v n xs)
  (k : IntKind) (vx : Value) (l : List Nat) (hx : a.eval x = vx) (B : Nat) (hrow : Row B k w vx l)
  (h63 : n + l.length ≤ maxLen) (hbytes : (n + l.length) * bytes ≤ 140737488355328) (hbase : base ≤ w.heap.size)
  (h : ∀ v' w', w'.ownsRow base e 1 v' (n + l.length) (xs ++ l.map fun x => Value.int k (x : Nat)) → w.grownBy w' v.ownBlock → K (a.put o.dst v') w') : o.wp P a w K Q := by
 rcases hrow with ⟨rfl, rfl | ⟨b, c, rfl⟩⟩ | ⟨h0, g, off, c, rfl, hc, _, hg, hcell⟩
 ·have hrun := run_append_owned_none (P := P) (w := w) base t o.type e i 1 ht hi v n xs hown
  unfold Oper.wp
  simp [execOp, ho, resolve, invoke, builtin, hs, hx, hrun, Result.andThen]
  exact h v w (by simpa using hown) (World.grownBy.refl _ _)
 ·refine wp_append_own w s x t ho base e i z 1 bytes ht hi hz hsize hby hzs (by decide) v n xs hs hown b 0 c [] hx rfl (by simp) (by simp) (by simpa using h63) (by simpa using hbytes) hbase ?_
  intro v' w' h1 h2 _
  exact h v' w' (by simpa using h1) h2
 ·refine wp_append_own w s x t ho base e i z 1 bytes ht hi hz hsize hby hzs (by decide) v n xs hs hown ⟨g, off, none⟩ l.length c (l.map fun x => Value.int k (x : Nat)) hx (by simp) ?_ (by intro u hu; obtain ⟨y, _, rfl⟩ := List.mem_map.1 hu; rfl) h63 hbytes hbase ?_
  ·intro j u hu
   have hj : j < l.length := by
    have := List.getElem?_eq_some_iff.1 hu
    simpa using this.1
   have := hcell j hj
   rw [show (⟨g, off, none⟩ : Addr).add j = ⟨g, off + j, none⟩ from by unfold Addr.add; split <;> simp_all, this]
   rw [List.getElem?_map, List.getElem?_eq_getElem hj] at hu
   simp [hj] at hu ⊢
   exact hu
  ·intro v' w' h1 h2 _
   exact h v' w' h1 h2
theorem wpList_append_row {P : Program} {w : World} {ops : Array Oper} {rest : List Oper} {o : Oper} {a : Act} {Q : Exit → Act → World → Prop} (hgd : o.guard = none) (s x : Operand) (t : TypeId)
  (ho : o.op = .call { callee := .builtin .append, args := #[s, x], argTypes := #[t, t] })
  (base : Nat) (e : TypeId) (i : TypeInfo) (z : Value) (bytes : Nat) (ht : P.underlying t = some (.slice e)) (hi : P.info? e = some i) (hz : i.zero = some z)
  (hsize : i.size = 1) (hby : i.bytes = bytes) (hzs : z.cells.size = 1)
  (v : Value) (n : Nat) (xs : List Value) (hs : a.eval s = v) (hown : w.ownsRow base e 1 v n xs)
  (k : IntKind) (vx : Value) (l : List Nat) (hx : a.eval x = vx) (B : Nat) (hrow : Row B k w vx l)
  (h63 : n + l.length ≤ maxLen) (hbytes : (n + l.length) * bytes ≤ 140737488355328) (hbase : base ≤ w.heap.size)
  (h : ∀ v' w', w'.ownsRow base e 1 v' (n + l.length) (xs ++ l.map fun x => Value.int k (x : Nat)) → w.grownBy w' v.ownBlock → wpList P ops Q rest (a.put o.dst v') w') : wpList P ops Q (o :: rest) a w :=
 wpList_plain hgd fun _ hK => wp_append_row s x t ho base e i z bytes ht hi hz hsize hby hzs v n xs hs hown k vx l hx B hrow h63 hbytes hbase fun v' w' h1 h2 => hK _ _ (h v' w' h1 h2)
theorem step_append_row {P : Program} {w : World} {ops : Array Oper} {o : Oper} {a : Act} {K : Act → World → Prop} {Q : Exit → Act → World → Prop} {E : Prop} (hgd : o.guard = none) (s x : Operand) (t : TypeId)
  (ho : o.op = .call { callee := .builtin .append, args := #[s, x], argTypes := #[t, t] })
  (base : Nat) (e : TypeId) (i : TypeInfo) (z : Value) (bytes : Nat) (ht : P.underlying t = some (.slice e)) (hi : P.info? e = some i) (hz : i.zero = some z)
  (hsize : i.size = 1) (hby : i.bytes = bytes) (hzs : z.cells.size = 1)
  (v : Value) (n : Nat) (xs : List Value) (hs : a.eval s = v) (hown : w.ownsRow base e 1 v n xs)
  (k : IntKind) (vx : Value) (l : List Nat) (hx : a.eval x = vx) (B : Nat) (hrow : Row B k w vx l)
  (h63 : n + l.length ≤ maxLen) (hbytes : (n + l.length) * bytes ≤ 140737488355328) (hbase : base ≤ w.heap.size)
  (h : ∀ v' w', w'.ownsRow base e 1 v' (n + l.length) (xs ++ l.map fun x => Value.int k (x : Nat)) → w.grownBy w' v.ownBlock → K (a.put o.dst v') w') : if Region.wanted o (yielded ops a.tmps) = true then Oper.wp P o a w K Q else E := by
 have hw : Region.wanted o (yielded ops a.tmps) = true := by simp [Region.wanted, hgd]
 rw [if_pos hw]
 exact wp_append_row s x t ho base e i z bytes ht hi hz hsize hby hzs v n xs hs hown k vx l hx B hrow h63 hbytes hbase h
theorem wp_append_new {P : Program} {w : World} {o : Oper} {a : Act} {K : Act → World → Prop} {Q : Exit → Act → World → Prop} (s x : Operand) (t : TypeId)
  (ho : o.op = .call { callee := .builtin .append, args := #[s, x], argTypes := #[t, t] })
  (e : TypeId) (i : TypeInfo) (z : Value) (bytes : Nat) (ht : P.underlying t = some (.slice e)) (hi : P.info? e = some i) (hz : i.zero = some z)
  (hsize : i.size = 1) (hby : i.bytes = bytes) (hzs : z.cells.size = 1) (hb8 : bytes ≤ 8)
  (g : Nat) (hs : a.eval s = .slice (some ⟨g, 0, none⟩) 0 0) (hg : w.heap[g]? = some (.cells #[] e (0, 0)))
  (k : IntKind) (vx : Value) (l : List Nat) (hx : a.eval x = vx) (B : Nat) (hrow : Row B k w vx l) (hl : l.length ≤ 2147483647)
  (h : ∀ a' c' w', Row g k w' (.slice a' l.length c') l → w.grownBy w' (some g) → K (a.put o.dst (.slice a' l.length c')) w') : o.wp P a w K Q := by
 have hlt : g < w.heap.size := (Array.getElem?_eq_some_iff.1 hg).1
 have hown : w.ownsRow g e 1 (.slice (some ⟨g, 0, none⟩) 0 0) 0 [] := ⟨by simp, .inr ⟨g, 0, #[], rfl, Nat.le_refl _, hg, Nat.le_refl _, by decide, rfl, by simp⟩⟩
 refine wp_append_row s x t ho g e i z bytes ht hi hz hsize hby hzs _ 0 [] hs hown k vx l hx B hrow (by simp [maxLen]; omega) ?_ (by omega) ?_
 ·rw [Nat.zero_add]
  exact Nat.le_trans (Nat.mul_le_mul hl hb8) (by decide)
 ·intro v' w' h1 h2
  have hr : Row g k w' v' l := Row.ofOwn h1
  obtain ⟨a', c', rfl⟩ := hr.len
  exact h a' c' w' hr h2
theorem wpList_append_new {P : Program} {w : World} {ops : Array Oper} {rest : List Oper} {o : Oper} {a : Act} {Q : Exit → Act → World → Prop} (hgd : o.guard = none) (s x : Operand) (t : TypeId)
  (ho : o.op = .call { callee := .builtin .append, args := #[s, x], argTypes := #[t, t] })
  (e : TypeId) (i : TypeInfo) (z : Value) (bytes : Nat) (ht : P.underlying t = some (.slice e)) (hi : P.info? e = some i) (hz : i.zero = some z)
  (hsize : i.size = 1) (hby : i.bytes = bytes) (hzs : z.cells.size = 1) (hb8 : bytes ≤ 8)
  (g : Nat) (hs : a.eval s = .slice (some ⟨g, 0, none⟩) 0 0) (hg : w.heap[g]? = some (.cells #[] e (0, 0)))
  (k : IntKind) (vx : Value) (l : List Nat) (hx : a.eval x = vx) (B : Nat) (hrow : Row B k w vx l) (hl : l.length ≤ 2147483647)
  (h : ∀ a' c' w', Row g k w' (.slice a' l.length c') l → w.grownBy w' (some g) → wpList P ops Q rest (a.put o.dst (.slice a' l.length c')) w') : wpList P ops Q (o :: rest) a w :=
 wpList_plain hgd fun _ hK => wp_append_new s x t ho e i z bytes ht hi hz hsize hby hzs hb8 g hs hg k vx l hx B hrow hl fun a' c' w' h1 h2 => hK _ _ (h a' c' w' h1 h2)
theorem step_append_new {P : Program} {w : World} {ops : Array Oper} {o : Oper} {a : Act} {K : Act → World → Prop} {Q : Exit → Act → World → Prop} {E : Prop} (hgd : o.guard = none) (s x : Operand) (t : TypeId)
  (ho : o.op = .call { callee := .builtin .append, args := #[s, x], argTypes := #[t, t] })
  (e : TypeId) (i : TypeInfo) (z : Value) (bytes : Nat) (ht : P.underlying t = some (.slice e)) (hi : P.info? e = some i) (hz : i.zero = some z)
  (hsize : i.size = 1) (hby : i.bytes = bytes) (hzs : z.cells.size = 1) (hb8 : bytes ≤ 8)
  (g : Nat) (hs : a.eval s = .slice (some ⟨g, 0, none⟩) 0 0) (hg : w.heap[g]? = some (.cells #[] e (0, 0)))
  (k : IntKind) (vx : Value) (l : List Nat) (hx : a.eval x = vx) (B : Nat) (hrow : Row B k w vx l) (hl : l.length ≤ 2147483647)
  (h : ∀ a' c' w', Row g k w' (.slice a' l.length c') l → w.grownBy w' (some g) → K (a.put o.dst (.slice a' l.length c')) w') : if Region.wanted o (yielded ops a.tmps) = true then Oper.wp P o a w K Q else E := by
 have hw : Region.wanted o (yielded ops a.tmps) = true := by simp [Region.wanted, hgd]
 rw [if_pos hw]
 exact wp_append_new s x t ho e i z bytes ht hi hz hsize hby hzs hb8 g hs hg k vx l hx B hrow hl h
theorem grown_cell {w2 w3 : World} {o : Obj} (hg : (w2.alloc o).grownBy w3 (some w2.heap.size)) {a : Addr} {v : Value} (h : w2.cell? a = some v) : w3.cell? a = some v := by
 have hlt := World.block_lt_of_cell? w2 _ h
 rw [hg.cell_far _ (by simp; omega) (by simp; omega)]
 exact (((Below.refl _ _).alloc (Nat.le_refl _) o).cell hlt).trans h
theorem grown_cellX {w2 w3 X : World} (o : Obj) (hg : X.grownBy w3 (some w2.heap.size)) (hX : X.heap = (w2.alloc o).heap) {a : Addr} {v : Value} (h : w2.cell? a = some v) : w3.cell? a = some v := by
 have hlt := World.block_lt_of_cell? w2 _ h
 have hs : X.heap.size = w2.heap.size + 1 := by rw [hX]; simp
 rw [hg.cell_far _ (by omega) (by simp; omega)]
 exact (World.cell?_of_block (w := w2) (by rw [hX]; exact Below.heap_alloc w2 o _ hlt)).trans h
theorem grown_belowX {w2 w3 X : World} (o : Obj) (hg : X.grownBy w3 (some w2.heap.size)) (hX : X.heap = (w2.alloc o).heap) (h1 : X.os = w2.os) (h2 : X.tape = w2.tape) (h3 : X.output = w2.output) : Below w2.heap.size w2 w3 := by
 have hs : X.heap.size = w2.heap.size + 1 := by rw [hX]; simp
 refine ⟨hg.os.trans h1, hg.tape.trans h2, hg.output.trans h3, by have := hg.size; omega, fun k hk => ?_⟩
 rw [hg.block k (by omega) (by simp; omega), hX]
 exact Below.heap_alloc w2 o k hk
theorem grown_below {w2 w3 : World} {o : Obj} (hg : (w2.alloc o).grownBy w3 (some w2.heap.size)) : Below w2.heap.size w2 w3 :=
 ((Below.refl _ _).alloc (Nat.le_refl _) o).grown hg (by simp) (by intro k hk; cases hk; exact Nat.le_refl _)
def MakesRow (k : IntKind) (l : List Nat) (w : World) (e : Ending) (w' : World) : Prop := ∃ v, e = .returned v ∧ Row w.heap.size k w' v l ∧ Below w.heap.size w w'
def SInt (B n : Nat) (w : World) (v : Value) (z : Int) : Prop := ∃ sl l, v = .agg #[.bool (decide (z < 0)), sl] ∧ Row B .u8 w sl l ∧ IsB z.natAbs l ∧ l.length ≤ n
def VInt (B n : Nat) (w : World) (v : Value) (z : Int) : Prop := ∃ sl l, v = .agg #[.int .i64 2, .bool (decide (z < 0)), sl, .int .u64 0, .string ⟨#[]⟩, .slice none 0 0] ∧ Row B .u8 w sl l ∧ IsB z.natAbs l ∧ l.length ≤ n
theorem SInt.below {B' n : Nat} {w w' : World} {v : Value} {z : Int} {B : Nat} (h : SInt B' n w v z) (hb : Below B w w') (hB : w.heap.size ≤ B) : SInt B' n w' v z := by
 obtain ⟨sl, l, h1, h2, h3⟩ := h
 exact ⟨sl, l, h1, h2.below hb hB, h3⟩
theorem VInt.below {B' n : Nat} {w w' : World} {v : Value} {z : Int} {B : Nat} (h : VInt B' n w v z) (hb : Below B w w') (hB : w.heap.size ≤ B) : VInt B' n w' v z := by
 obtain ⟨sl, l, h1, h2, h3⟩ := h
 exact ⟨sl, l, h1, h2.below hb hB, h3⟩
theorem SInt.le {B' n : Nat} {w : World} {v : Value} {z : Int} {B m : Nat} (h : SInt B n w v z) (hB : B' ≤ B) (hm : n ≤ m) : SInt B' m w v z := by
 obtain ⟨sl, l, h1, h2, h3, h4⟩ := h
 exact ⟨sl, l, h1, h2.le hB, h3, Nat.le_trans h4 hm⟩
theorem VInt.le {B' n : Nat} {w : World} {v : Value} {z : Int} {B m : Nat} (h : VInt B n w v z) (hB : B' ≤ B) (hm : n ≤ m) : VInt B' m w v z := by
 obtain ⟨sl, l, h1, h2, h3, h4⟩ := h
 exact ⟨sl, l, h1, h2.le hB, h3, Nat.le_trans h4 hm⟩
theorem SInt.setOld {B n : Nat} {w : World} {v : Value} {z : Int} (h : SInt B n w v z) {a : Addr} (ha : a.block < B) (u : Value) : SInt B n (w.setCell a u) v z := by
 obtain ⟨sl, l, h1, h2, h3⟩ := h
 exact ⟨sl, l, h1, h2.setOld ha u, h3⟩
theorem VInt.setOld {B n : Nat} {w : World} {v : Value} {z : Int} (h : VInt B n w v z) {a : Addr} (ha : a.block < B) (u : Value) : VInt B n (w.setCell a u) v z := by
 obtain ⟨sl, l, h1, h2, h3⟩ := h
 exact ⟨sl, l, h1, h2.setOld ha u, h3⟩
def MakesS (n : Nat) (z : Int) (w : World) (e : Ending) (w' : World) : Prop := ∃ v, e = .returned v ∧ SInt w.heap.size n w' v z ∧ Below w.heap.size w w'
def MakesV (n : Nat) (z : Int) (w : World) (e : Ending) (w' : World) : Prop := ∃ v, e = .returned v ∧ VInt w.heap.size n w' v z ∧ Below w.heap.size w w'
def signed (neg : Bool) (m : Nat) : Int := if neg then -(m : Int) else m
theorem signed_neg (neg : Bool) (m : Nat) : decide (signed neg m < 0) = (neg && decide (0 < m)) := by
 cases neg <;> simp [signed]
theorem signed_abs (neg : Bool) (m : Nat) : (signed neg m).natAbs = m := by
 cases neg <;> simp [signed]
theorem info5 : (Tryz.prog.info? 5).map (fun i => (i.zero, i.size, i.bytes)) = some (some (.int .u8 0), 1, 1) := by kernel_rfl
theorem info215 : (Tryz.prog.info? 215).map (fun i => (i.zero, i.size, i.bytes)) = some (some (.int .u64 0), 1, 8) := by kernel_rfl
end Go.Proofs.YtabeokminikfdaaGreat.Z
namespace Go.Proofs.YtabeokminikfdaaGreat.Z
open Go.RowKit
theorem of_flag (neg : Bool) (l : List Nat) (h : ∀ d ∈ l, d < 256) : decide (signed neg (bv l) < 0) = (neg && decide (0 < (strip l).length)) := by
 rw [signed_neg]
 congr 1
 rw [Bool.eq_iff_iff, decide_eq_true_eq, decide_eq_true_eq]
 have := (IsB.ofStrip l h).zero
 constructor
 ·intro h1
  have : strip l ≠ [] := fun e => by have := this.2 e; omega
  exact List.length_pos_iff.2 this
 ·intro h1
  have : bv l ≠ 0 := fun e => by have := this.1 e; rw [this] at h1; simp at h1
  omega
def MakesSV (n : Nat) (z : Int) (w : World) (e : Ending) (w' : World) : Prop := ∃ v u, e = .returned (.tuple #[v, u]) ∧ SInt w.heap.size n w' v z ∧ VInt w.heap.size n w' u z ∧ Below w.heap.size w w'
end Go.Proofs.YtabeokminikfdaaGreat.Z
namespace Go.Proofs.YtabeokminikfdaaGreat.Z
open Go.RowKit
theorem set_other {w : World} {a : Addr} {v : Value} {p : Addr} {u : Value} (h : w.cell? a = some v) (hne : a.block ≠ p.block) : (w.setCell p u).cell? a = some v := (World.cell?_of_block (w := w) (Below.heap_setCell w p u a.block hne)).trans h
theorem Row.take {B : Nat} {k : IntKind} {w : World} {g off n c : Nat} {l : List Nat} (m : Nat) (hm : m ≤ n) (h : Row B k w (.slice (some ⟨g, off, none⟩) n c) l) : Row B k w (.slice (some ⟨g, off, none⟩) m c) (l.take m) := by
 rcases h with ⟨rfl, h | ⟨a, c', h⟩⟩ | ⟨h0, g', off', c', h, hc, hB, hg, hcell⟩
 ·cases h
 ·simp only [Value.slice.injEq, Option.some.injEq] at h
  obtain ⟨rfl, rfl, rfl⟩ := h
  have : m = 0 := by omega
  subst this
  exact .inl ⟨by simp, .inr ⟨_, _, rfl⟩⟩
 ·simp only [Value.slice.injEq, Option.some.injEq, Addr.mk.injEq, and_true] at h
  obtain ⟨⟨rfl, rfl⟩, rfl, rfl⟩ := h
  by_cases h0' : m = 0
  ·subst h0'
   exact .inl ⟨by simp, .inr ⟨_, _, rfl⟩⟩
  ·refine .inr ⟨by simp; omega, g, off, c, by simp; omega, by simp; omega, hB, hg, fun i hi => ?_⟩
   simp at hi
   rw [hcell i (by omega)]
   have h1 : i < m := by omega
   have h2 : i < l.length := by omega
   simp [h1, h2]
end Go.Proofs.YtabeokminikfdaaGreat.Z
