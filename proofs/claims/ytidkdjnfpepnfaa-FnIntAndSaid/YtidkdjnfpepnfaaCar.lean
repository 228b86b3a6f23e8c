/- Plain numbers: words added and taken away, with a carry. No program in sight. -/
import Derived.Test.YtidkdjnfpepnfaaNum
namespace Go.Proofs.Ytidkdjnfpepnfaa

def addLo (x y c : Nat) : Nat := (x + y + c) % W
def addHi (x y c : Nat) : Nat := (x + y + c) / W
def subLo (x y c : Nat) : Nat := (x + W - y - c) % W
def subHi (x y c : Nat) : Nat := if x < y + c then 1 else 0
/-- The carry behind k words. -/
def cry (hi : Nat → Nat → Nat → Nat) (xs ys : List Nat) (c : Nat) : Nat → Nat
  | 0 => c
  | k + 1 => hi (xs.getD k 0) (ys.getD k 0) (cry hi xs ys c k)
/-- The first n words of the answer. -/
def vvL (lo hi : Nat → Nat → Nat → Nat) (xs ys : List Nat) (c n : Nat) : List Nat := (List.range n).map fun j => lo (xs.getD j 0) (ys.getD j 0) (cry hi xs ys c j)
theorem vvL_len (lo hi : Nat → Nat → Nat → Nat) (xs ys : List Nat) (c n : Nat) : (vvL lo hi xs ys c n).length = n := by simp [vvL]
theorem vvL_succ (lo hi : Nat → Nat → Nat → Nat) (xs ys : List Nat) (c n : Nat) : vvL lo hi xs ys c (n + 1) = vvL lo hi xs ys c n ++ [lo (xs.getD n 0) (ys.getD n 0) (cry hi xs ys c n)] := by simp [vvL, List.range_succ]
theorem addLo_lt (x y c : Nat) : addLo x y c < W := Nat.mod_lt _ W_pos
theorem subLo_lt (x y c : Nat) : subLo x y c < W := Nat.mod_lt _ W_pos
theorem addHi_le (x y c : Nat) (hx : x < W) (hy : y < W) (hc : c ≤ 1) : addHi x y c ≤ 1 := by unfold addHi W at *; omega
theorem subHi_le (x y c : Nat) : subHi x y c ≤ 1 := by unfold subHi; split <;> omega
theorem add_word (x y c : Nat) : addLo x y c + W * addHi x y c = x + y + c := Nat.mod_add_div _ _
theorem sub_word (x y c : Nat) (hx : x < W) (hy : y < W) (hc : c ≤ 1) : subLo x y c + y + c = x + W * subHi x y c := by
  unfold subLo subHi W at *; split <;> omega
theorem getD_lt (xs : List Nat) (h : ∀ d ∈ xs, d < W) (j : Nat) : xs.getD j 0 < W := by
  by_cases hj : j < xs.length
  · simp [hj]; exact h _ (List.getElem_mem hj)
  · simp [hj]; exact W_pos
theorem vvL_low {lo hi : Nat → Nat → Nat → Nat} (hlo : ∀ x y c, lo x y c < W) (xs ys : List Nat) (c n : Nat) : ∀ d ∈ vvL lo hi xs ys c n, d < W := by
  intro d hd
  obtain ⟨j, _, rfl⟩ := List.mem_map.1 hd
  exact hlo _ _ _
theorem cry_add_le (xs ys : List Nat) (hx : ∀ d ∈ xs, d < W) (hy : ∀ d ∈ ys, d < W) (c : Nat) (hc : c ≤ 1) : ∀ k, cry addHi xs ys c k ≤ 1
  | 0 => hc
  | k + 1 => addHi_le _ _ _ (getD_lt xs hx k) (getD_lt ys hy k) (cry_add_le xs ys hx hy c hc k)
theorem cry_sub_le (xs ys : List Nat) (c : Nat) (hc : c ≤ 1) : ∀ k, cry subHi xs ys c k ≤ 1
  | 0 => hc
  | _ + 1 => subHi_le _ _ _
theorem wv_take_succ (xs : List Nat) (n : Nat) : wv (xs.take (n + 1)) = wv (xs.take n) + W ^ n * xs.getD n 0 := by
  by_cases h : n < xs.length
  · rw [List.take_succ_eq_append_getElem h, wv_append]; simp [wv, h, List.length_take, Nat.min_eq_left (Nat.le_of_lt h)]
  · rw [List.take_of_length_le (by omega), List.take_of_length_le (by omega)]; simp [h]
theorem add_sum (xs ys : List Nat) (c n : Nat) : wv (vvL addLo addHi xs ys c n) + W ^ n * cry addHi xs ys c n = wv (xs.take n) + wv (ys.take n) + c := by
  induction n with
  | zero => simp [vvL, cry, wv]
  | succ n ih =>
    rw [vvL_succ, wv_append, vvL_len, wv_take_succ, wv_take_succ]
    have h := add_word (xs.getD n 0) (ys.getD n 0) (cry addHi xs ys c n)
    have h2 : W ^ n * (addLo (xs.getD n 0) (ys.getD n 0) (cry addHi xs ys c n) + W * addHi (xs.getD n 0) (ys.getD n 0) (cry addHi xs ys c n)) = W ^ n * (xs.getD n 0 + ys.getD n 0 + cry addHi xs ys c n) := by rw [h]
    simp only [wv, cry, Nat.mul_zero, Nat.add_zero, Nat.pow_succ, Nat.mul_add, Nat.mul_assoc] at *
    omega
theorem sub_step {A q x y l h c wl wx wy c0 : Nat} (ih : wl + wy + c0 = wx + q * c) (hw : l + y + c = x + A * h) : wl + q * l + (wy + q * y) + c0 = wx + q * x + q * A * h := by
  have h2 : q * (l + y + c) = q * (x + A * h) := by rw [hw]
  simp only [Nat.mul_add, ← Nat.mul_assoc] at h2
  omega
theorem sub_gen {lo hi : Nat → Nat → Nat → Nat} (hw : ∀ x y c, x < W → y < W → c ≤ 1 → lo x y c + y + c = x + W * hi x y c) (hle : ∀ x y c, hi x y c ≤ 1) (xs ys : List Nat) (hx : ∀ d ∈ xs, d < W) (hy : ∀ d ∈ ys, d < W) (c : Nat) (hc : c ≤ 1) (n : Nat) :
    wv (vvL lo hi xs ys c n) + wv (ys.take n) + c = wv (xs.take n) + W ^ n * cry hi xs ys c n := by
  induction n with
  | zero => simp [vvL, cry, wv]
  | succ n ih =>
    have hcl : cry hi xs ys c n ≤ 1 := by
      cases n with
      | zero => exact hc
      | succ m => exact hle _ _ _
    have h := hw (xs.getD n 0) (ys.getD n 0) (cry hi xs ys c n) (getD_lt xs hx n) (getD_lt ys hy n) hcl
    have := sub_step ih h
    rw [vvL_succ, wv_append, vvL_len, wv_take_succ, wv_take_succ, Nat.pow_succ]
    simp only [wv, cry, Nat.mul_zero, Nat.add_zero]
    exact this
theorem sub_sum (xs ys : List Nat) (hx : ∀ d ∈ xs, d < W) (hy : ∀ d ∈ ys, d < W) (c : Nat) (hc : c ≤ 1) (n : Nat) : wv (vvL subLo subHi xs ys c n) + wv (ys.take n) + c = wv (xs.take n) + W ^ n * cry subHi xs ys c n :=
  sub_gen sub_word subHi_le xs ys hx hy c hc n

/-- One more word of the answer has been laid. -/
theorem lay_step (A Q Z : List Nat) (v k : Nat) (hk : A.length + Q.length = k) (hZ : k < (A ++ (Q ++ Z)).length) : (A ++ (Q ++ Z)).set k v = A ++ ((Q ++ [v]) ++ Z.drop 1) := by
  subst hk
  rw [List.set_append_right _ _ (by omega), List.set_append_right _ _ (by omega)]
  cases Z with
  | nil => simp at hZ
  | cons z r => simp

/-- Behind a carry of 0 the words stay. -/
theorem cry_zero {hi : Nat → Nat → Nat → Nat} (h0 : ∀ x, x < W → hi x 0 0 = 0) (xs : List Nat) (hx : ∀ d ∈ xs, d < W) (c i : Nat) (h : cry hi xs [] c i = 0) : ∀ k, cry hi xs [] c (i + k) = 0
  | 0 => h
  | k + 1 => by rw [← Nat.add_assoc, cry, cry_zero h0 xs hx c i h k]; exact h0 _ (getD_lt xs hx _)
theorem vvL_rest {lo hi : Nat → Nat → Nat → Nat} (h0 : ∀ x, x < W → hi x 0 0 = 0) (l0 : ∀ x, x < W → lo x 0 0 = x) (xs : List Nat) (hx : ∀ d ∈ xs, d < W) (c i : Nat) (h : cry hi xs [] c i = 0) (hil : i ≤ xs.length) :
    vvL lo hi xs [] c xs.length = vvL lo hi xs [] c i ++ xs.drop i := by
  have key : ∀ k, i + k ≤ xs.length → vvL lo hi xs [] c (i + k) = vvL lo hi xs [] c i ++ (xs.drop i).take k := by
    intro k
    induction k with
    | zero => intro _; simp
    | succ k ih =>
      intro hk
      rw [← Nat.add_assoc, vvL_succ, ih (by omega), cry_zero h0 xs hx c i h k]
      have hlt : i + k < xs.length := by omega
      rw [List.take_succ_eq_append_getElem (by simp; omega), List.append_assoc]
      have := l0 _ (getD_lt xs hx (i + k))
      simp [hlt] at this ⊢
      exact this
  have := key (xs.length - i) (by omega)
  rw [show i + (xs.length - i) = xs.length from by omega, List.take_of_length_le (by simp)] at this
  exact this
theorem addHi_zero (x : Nat) (h : x < W) : addHi x 0 0 = 0 := by unfold addHi; simpa using Nat.div_eq_of_lt h
theorem addLo_zero (x : Nat) (h : x < W) : addLo x 0 0 = x := by unfold addLo; simpa using Nat.mod_eq_of_lt h
theorem subHi_zero (x : Nat) (_h : x < W) : subHi x 0 0 = 0 := by simp [subHi]
theorem subLo_zero (x : Nat) (h : x < W) : subLo x 0 0 = x := by unfold subLo W at *; omega

theorem wv_cut (xs : List Nat) (n : Nat) (h : n ≤ xs.length) : wv xs = wv (xs.take n) + W ^ n * wv (xs.drop n) := by
  conv => lhs; rw [← List.take_append_drop n xs]
  rw [wv_append, List.length_take, Nat.min_eq_left h]
theorem carry_join {q a b c1 c2 s t u d : Nat} (h1 : a + q * c1 = s + t) (h2 : b + d * c2 = u + c1) : a + (q * (b + d * c2)) = s + q * u + t := by
  rw [h2, Nat.mul_add]; omega
/-- What nat.add lays. -/
def addAll (xs ys : List Nat) : List Nat :=
  vvL addLo addHi (xs.take ys.length) ys 0 ys.length ++ (vvL addLo addHi (xs.drop ys.length) [] (cry addHi (xs.take ys.length) ys 0 ys.length) (xs.length - ys.length) ++ [cry addHi (xs.drop ys.length) [] (cry addHi (xs.take ys.length) ys 0 ys.length) (xs.length - ys.length)])
theorem addAll_val (xs ys : List Nat) (h : ys.length ≤ xs.length) : wv (addAll xs ys) = wv xs + wv ys := by
  unfold addAll
  have h1 := add_sum (xs.take ys.length) ys 0 ys.length
  rw [List.take_of_length_le (Nat.le_refl _), List.take_take, Nat.min_self, Nat.add_zero] at h1
  have h2 := add_sum (xs.drop ys.length) [] (cry addHi (xs.take ys.length) ys 0 ys.length) (xs.length - ys.length)
  rw [List.take_of_length_le (l := xs.drop ys.length) (by simp)] at h2
  simp only [List.take_nil, wv, Nat.add_zero] at h2
  rw [wv_append, wv_append, vvL_len, vvL_len, wv_cut xs ys.length h]
  simp only [wv, Nat.mul_zero, Nat.add_zero]
  exact carry_join h1 h2
theorem addAll_low (xs ys : List Nat) (hx : ∀ d ∈ xs, d < W) (hy : ∀ d ∈ ys, d < W) : ∀ d ∈ addAll xs ys, d < W := by
  intro d hd
  have hx1 : ∀ d ∈ xs.take ys.length, d < W := fun d h => hx d (List.mem_of_mem_take h)
  have hx2 : ∀ d ∈ xs.drop ys.length, d < W := fun d h => hx d (List.mem_of_mem_drop h)
  rcases List.mem_append.1 hd with h | h
  · exact vvL_low addLo_lt _ _ _ _ d h
  · rcases List.mem_append.1 h with h | h
    · exact vvL_low addLo_lt _ _ _ _ d h
    · rw [List.mem_singleton.1 h]
      have := cry_add_le (xs.drop ys.length) [] hx2 (by simp) _ (cry_add_le (xs.take ys.length) ys hx1 hy 0 (by omega) ys.length) (xs.length - ys.length)
      exact Nat.lt_of_le_of_lt this (by unfold W; omega)
/-- What nat.sub lays, and the borrow at its end. -/
def subAll (xs ys : List Nat) : List Nat :=
  vvL subLo subHi (xs.take ys.length) ys 0 ys.length ++ vvL subLo subHi (xs.drop ys.length) [] (cry subHi (xs.take ys.length) ys 0 ys.length) (xs.length - ys.length)
def subEnd (xs ys : List Nat) : Nat := cry subHi (xs.drop ys.length) [] (cry subHi (xs.take ys.length) ys 0 ys.length) (xs.length - ys.length)
theorem borrow_join {q a b c1 c2 s t u d : Nat} (h1 : a + t + 0 = s + q * c1) (h2 : b + 0 + c1 = u + d * c2) : a + q * b + t = s + q * u + q * d * c2 := by
  have h3 : q * (b + c1) = q * (u + d * c2) := by rw [← h2]; rfl
  rw [Nat.mul_add, Nat.mul_add, ← Nat.mul_assoc] at h3
  omega
theorem subAll_val (xs ys : List Nat) (hx : ∀ d ∈ xs, d < W) (hy : ∀ d ∈ ys, d < W) (h : ys.length ≤ xs.length) : wv (subAll xs ys) + wv ys = wv xs + W ^ xs.length * subEnd xs ys := by
  unfold subAll subEnd
  have hx1 : ∀ d ∈ xs.take ys.length, d < W := fun d h => hx d (List.mem_of_mem_take h)
  have hx2 : ∀ d ∈ xs.drop ys.length, d < W := fun d h => hx d (List.mem_of_mem_drop h)
  have h1 := sub_sum (xs.take ys.length) ys hx1 hy 0 (by omega) ys.length
  rw [List.take_of_length_le (Nat.le_refl _), List.take_take, Nat.min_self] at h1
  have h2 := sub_sum (xs.drop ys.length) [] hx2 (by simp) (cry subHi (xs.take ys.length) ys 0 ys.length) (cry_sub_le _ _ _ (by omega) _) (xs.length - ys.length)
  rw [List.take_of_length_le (l := xs.drop ys.length) (by simp)] at h2
  simp only [List.take_nil, wv] at h2
  have h3 := borrow_join h1 h2
  rw [wv_append, vvL_len, wv_cut xs ys.length h]
  rw [← Nat.pow_add, show ys.length + (xs.length - ys.length) = xs.length from by omega] at h3
  exact h3
theorem subAll_low (xs ys : List Nat) : ∀ d ∈ subAll xs ys, d < W := by
  intro d hd
  rcases List.mem_append.1 hd with h | h
  · exact vvL_low subLo_lt _ _ _ _ d h
  · exact vvL_low subLo_lt _ _ _ _ d h
theorem subAll_len (xs ys : List Nat) (h : ys.length ≤ xs.length) : (subAll xs ys).length = xs.length := by
  unfold subAll; rw [List.length_append, vvL_len, vvL_len]; omega
theorem no_borrow {L x y Q e : Nat} (h : L + y = x + Q * e) (hL : L < Q) (hxy : y ≤ x) : e = 0 := by
  cases e with
  | zero => rfl
  | succ e => rw [Nat.mul_succ] at h; omega
theorem subEnd_zero (xs ys : List Nat) (hx : ∀ d ∈ xs, d < W) (hy : ∀ d ∈ ys, d < W) (h : ys.length ≤ xs.length) (hv : wv ys ≤ wv xs) : subEnd xs ys = 0 := by
  have h1 := wv_lt (subAll xs ys) (subAll_low xs ys)
  rw [subAll_len xs ys h] at h1
  exact no_borrow (subAll_val xs ys hx hy h) h1 hv

/-- How two numbers stand to each other. -/
def ord3n (a b : Nat) : Int := if a < b then -1 else if b < a then 1 else 0
theorem word_less {i x y a b R q : Nat} (ha : a < q) (h : x < y) : a + q * (x + i * R) < b + q * (y + i * R) := by
  have : q * (x + i * R) + q ≤ q * (y + i * R) := by
    have : q * (x + 1 + i * R) ≤ q * (y + i * R) := Nat.mul_le_mul_left _ (by omega)
    rw [show x + 1 + i * R = x + i * R + 1 from by omega, Nat.mul_add q (x + i * R) 1] at this
    omega
  omega
theorem cmp_less (xs ys : List Nat) (hx : ∀ d ∈ xs, d < W) (i : Nat) (hxl : i < xs.length) (hyl : i < ys.length) (hd : xs.drop (i + 1) = ys.drop (i + 1)) (h : xs.getD i 0 < ys.getD i 0) : wv xs < wv ys := by
  rw [wv_cut xs i (by omega), wv_cut ys i (by omega), List.drop_eq_getElem_cons hxl, List.drop_eq_getElem_cons hyl, hd]
  simp only [wv]
  have ha := wv_lt (xs.take i) (fun d h => hx d (List.mem_of_mem_take h))
  rw [List.length_take, Nat.min_eq_left (by omega)] at ha
  simp [hxl, hyl] at h
  exact word_less ha h
theorem drop_same (xs ys : List Nat) (i : Nat) (hxl : i < xs.length) (hyl : i < ys.length) (hd : xs.drop (i + 1) = ys.drop (i + 1)) (h : xs.getD i 0 = ys.getD i 0) : xs.drop i = ys.drop i := by
  simp [hxl, hyl] at h
  rw [List.drop_eq_getElem_cons hxl, List.drop_eq_getElem_cons hyl, hd, h]
theorem IsW.len_less {n m : Nat} {xs ys : List Nat} (hx : IsW n xs) (hy : IsW m ys) (h : xs.length < ys.length) : n < m := by
  by_cases hc : n < m
  · exact hc
  · have h1 : m < W ^ xs.length := by
      have := wv_lt xs hx.low
      rw [hx.val] at this; omega
    have := hy.len_le h1
    omega
theorem W_pow_mono {a b : Nat} (h : a ≤ b) : W ^ a ≤ W ^ b := Nat.pow_le_pow_right W_pos h
theorem IsW.lt_pow {n k : Nat} {xs : List Nat} (h : IsW n xs) (hk : xs.length ≤ k) : n < W ^ k := by
  have := wv_lt xs h.low
  rw [h.val] at this
  exact Nat.lt_of_lt_of_le this (W_pow_mono hk)
theorem IsW.len_sum {n m k : Nat} {xs ys zs : List Nat} (hz : IsW (n + m) zs) (hx : IsW n xs) (hy : IsW m ys) (h1 : xs.length ≤ k) (h2 : ys.length ≤ k) : zs.length ≤ k + 1 := by
  have a := hx.lt_pow h1
  have b := hy.lt_pow h2
  refine hz.len_le ?_
  rw [Nat.pow_succ]
  have : W ^ k * 2 ≤ W ^ k * W := Nat.mul_le_mul_left _ (by unfold W; omega)
  omega
theorem IsW.len_sub {n m k : Nat} {xs zs : List Nat} (hz : IsW (n - m) zs) (hx : IsW n xs) (h1 : xs.length ≤ k) : zs.length ≤ k := by
  have a := hx.lt_pow h1
  exact hz.len_le (by omega)
end Go.Proofs.Ytidkdjnfpepnfaa
