/- Joined texts: Sn0 P1 P2 P3 P4. -/

/- Plain lists: a text without some bytes at its ends. No program in sight. -/
namespace Go.Proofs.YtgcofpmhojplhaaGreatDoor

def Asc (l : List UInt8) : Prop := ∀ b ∈ l, b.toNat < 128
theorem Asc.drop {l : List UInt8} (h : Asc l) (n : Nat) : Asc (l.drop n) := fun b hb => h b (List.mem_of_mem_drop hb)
theorem Asc.take {l : List UInt8} (h : Asc l) (n : Nat) : Asc (l.take n) := fun b hb => h b (List.mem_of_mem_take hb)
/-- Without the bytes of p at the front. -/
def tl (p : UInt8 → Bool) : List UInt8 → List UInt8
  | [] => []
  | b :: t => if p b then tl p t else b :: t
/-- Without the bytes of p at the end. -/
def tr (p : UInt8 → Bool) : List UInt8 → List UInt8
  | [] => []
  | b :: t => if tr p t = [] then (if p b then [] else [b]) else b :: tr p t
theorem tl_tr (p : UInt8 → Bool) : ∀ l, tl p (tr p l) = tr p (tl p l)
  | [] => rfl
  | b :: t => by
    have ih := tl_tr p t
    by_cases hb : p b
    · rw [show tl p (b :: t) = tl p t by simp [tl, hb], ← ih]
      by_cases ht : tr p t = []
      · simp [tr, tl, hb, ht]
      · simp [tr, tl, hb, ht]
    · rw [show tl p (b :: t) = b :: t by simp [tl, hb]]
      by_cases ht : tr p t = []
      · simp [tr, tl, hb, ht]
      · simp [tr, tl, hb, ht]
theorem tr_snoc (p : UInt8 → Bool) (b : UInt8) : ∀ l, tr p (l ++ [b]) = if p b then tr p l else l ++ [b]
  | [] => by by_cases hb : p b <;> simp [tr, hb]
  | a :: t => by
    have ih := tr_snoc p b t
    by_cases hb : p b
    · simp only [List.cons_append, tr, ih, hb, if_true]
    · simp only [List.cons_append, tr, ih, hb]
      simp
theorem tl_suffix (p : UInt8 → Bool) : ∀ l, ∃ n, n ≤ l.length ∧ tl p l = l.drop n
  | [] => ⟨0, by simp, rfl⟩
  | b :: t => by
    by_cases hb : p b
    · obtain ⟨n, h1, h2⟩ := tl_suffix p t
      exact ⟨n + 1, by simp; omega, by simp [tl, hb, h2]⟩
    · exact ⟨0, by simp, by simp [tl, hb]⟩
theorem size_list0 (s : ByteArray) : s.size = s.data.toList.length := by rw [Array.length_toList]; rfl
theorem get_list0 (s : ByteArray) (k : Nat) : s.get! k = s.data.toList.getD k 0 := by
  show s.data[k]! = _
  rw [List.getD_eq_getElem?_getD, Array.getElem?_toList, getElem!_def]
  cases s.data[k]? <;> rfl
theorem drop_step (l : List UInt8) (i : Nat) (h : i < l.length) : l.drop i = l.getD i 0 :: l.drop (i + 1) := by
  rw [List.drop_eq_getElem_cons h, List.getD_eq_getElem?_getD, List.getElem?_eq_getElem h]; rfl
theorem take_step (l : List UInt8) (i : Nat) (h : i < l.length) : l.take (i + 1) = l.take i ++ [l.getD i 0] := by
  rw [List.take_succ_eq_append_getElem h, List.getD_eq_getElem?_getD, List.getElem?_eq_getElem h]; rfl
theorem tl_asc {l : List UInt8} (h : Asc l) (p : UInt8 → Bool) : Asc (tl p l) := by
  obtain ⟨n, _, e⟩ := tl_suffix p l
  rw [e]; exact h.drop n
end Go.Proofs.YtgcofpmhojplhaaGreatDoor

/- Plain lists: a text's parts between a separator. No program in sight. -/
namespace Go.Proofs.YtgcofpmhojplhaaGreatDoor

/-- A part stands at the head. -/
def hit (p s : List UInt8) : Bool := decide (s.take p.length = p)
/-- How many bytes are ahead of a part. -/
def idx (p : List UInt8) : List UInt8 → Option Nat
  | [] => if hit p [] then some 0 else none
  | b :: t => if hit p (b :: t) then some 0 else (idx p t).map (· + 1)
theorem idx_hit (p s : List UInt8) (h : hit p s = true) : idx p s = some 0 := by
  cases s with
  | nil => simp [idx, h]
  | cons b t => simp [idx, h]
theorem idx_miss (p : List UInt8) (b : UInt8) (t : List UInt8) (h : hit p (b :: t) = false) : idx p (b :: t) = (idx p t).map (· + 1) := by simp [idx, h]
theorem hit_len (p s : List UInt8) (h : hit p s = true) : p.length ≤ s.length := by
  have e : s.take p.length = p := by simpa [hit] using h
  have := congrArg List.length e
  rw [List.length_take] at this
  omega
theorem hit_short (p s : List UInt8) (h : s.length < p.length) : hit p s = false := by
  cases hh : hit p s with
  | false => rfl
  | true => have := hit_len p s hh; omega
theorem idx_short (p : List UInt8) : ∀ s : List UInt8, s.length < p.length → idx p s = none
  | [], h => by simp [idx, hit_short p [] h]
  | b :: t, h => by
    rw [idx_miss p b t (hit_short p _ h), idx_short p t (by simp at h; omega)]
    rfl
theorem idx_le (p : List UInt8) : ∀ (s : List UInt8) (k : Nat), idx p s = some k → k + p.length ≤ s.length ∧ (s.drop k).take p.length = p
  | [], k, h => by
    by_cases hh : hit p [] = true
    · rw [idx_hit _ _ hh] at h; cases h
      exact ⟨by have := hit_len _ _ hh; simpa using this, by simpa [hit] using hh⟩
    · simp [idx, hh] at h
  | b :: t, k, h => by
    by_cases hh : hit p (b :: t) = true
    · rw [idx_hit _ _ hh] at h; cases h
      exact ⟨by have := hit_len _ _ hh; simpa using this, by simpa [hit] using hh⟩
    · rw [idx_miss p b t (by simpa using hh)] at h
      obtain ⟨j, hj, rfl⟩ := Option.map_eq_some_iff.1 h
      obtain ⟨h1, h2⟩ := idx_le p t j hj
      exact ⟨by simp; omega, by simpa using h2⟩
/-- A text's parts between a part, so many cuts at most. -/
def pc (p : List UInt8) : Nat → List UInt8 → List (List UInt8)
  | 0, s => [s]
  | m + 1, s => match idx p s with
    | none => [s]
    | some k => s.take k :: pc p m (s.drop (k + p.length))
theorem pc_none (p : List UInt8) (m : Nat) (s : List UInt8) (h : idx p s = none) : pc p m s = [s] := by cases m <;> simp [pc, h]
theorem pc_some (p : List UInt8) (m k : Nat) (s : List UInt8) (h : idx p s = some k) : pc p (m + 1) s = s.take k :: pc p m (s.drop (k + p.length)) := by simp [pc, h]
/-- The places of the cuts. -/
def pos (p : List UInt8) : Nat → List UInt8 → Nat → List Nat
  | 0, _, _ => []
  | m + 1, s, o => match idx p s with
    | none => []
    | some k => (o + k) :: pos p m (s.drop (k + p.length)) (o + k + p.length)
theorem pos_none (p : List UInt8) (m : Nat) (s : List UInt8) (o : Nat) (h : idx p s = none) : pos p m s o = [] := by cases m <;> simp [pos, h]
/-- A text cut at some places. -/
def cutAt (s : List UInt8) (L : Nat) : Nat → List Nat → List (List UInt8)
  | o, [] => [s.drop o]
  | o, c :: cs => (s.drop o).take (c - o) :: cutAt s L (c + L) cs
theorem cut_pos (p S : List UInt8) : ∀ (m o : Nat), cutAt S p.length o (pos p m (S.drop o) o) = pc p m (S.drop o)
  | 0, o => rfl
  | m + 1, o => by
    cases h : idx p (S.drop o) with
    | none => rw [pos_none _ _ _ _ h, pc_none _ _ _ h]; rfl
    | some k =>
      rw [pc_some _ _ _ _ h]
      simp only [pos, h, cutAt]
      rw [List.drop_drop, show o + (k + p.length) = o + k + p.length by omega, cut_pos p S m (o + k + p.length), show o + k - o = k by omega]
/-- Past a place at which the part does not stand. -/
theorem pos_skip (p S : List UInt8) (m i : Nat) (hi : i < S.length) (h : hit p (S.drop i) = false) : pos p m (S.drop i) i = pos p m (S.drop (i + 1)) (i + 1) := by
  cases m with
  | zero => rfl
  | succ m =>
    have e := drop_step S i hi
    rw [e] at h
    have e2 : idx p (S.drop i) = (idx p (S.drop (i + 1))).map (· + 1) := by rw [e]; exact idx_miss _ _ _ h
    cases hk : idx p (S.drop (i + 1)) with
    | none => rw [pos_none _ _ _ _ hk, pos_none _ _ _ _ (by rw [e2, hk]; rfl)]
    | some k =>
      have e3 : idx p (S.drop i) = some (k + 1) := by rw [e2, hk]; rfl
      simp only [pos, e3, hk, List.drop_drop]
      rw [show i + (k + 1) = i + 1 + k by omega, show i + (k + 1 + p.length) = i + 1 + (k + p.length) by omega]
theorem pos_take (p S : List UInt8) (m i : Nat) (h : hit p (S.drop i) = true) : pos p (m + 1) (S.drop i) i = i :: pos p m (S.drop (i + p.length)) (i + p.length) := by
  simp only [pos, idx_hit _ _ h, List.drop_drop]
  simp
theorem pos_end (p S : List UInt8) (m i : Nat) (h : S.length < i + p.length) (_hp : 0 < p.length) : pos p m (S.drop i) i = [] := pos_none _ _ _ _ (idx_short _ _ (by rw [List.length_drop]; omega))
/-- More cuts than bytes are no more. -/
theorem pc_more (p : List UInt8) (hp : 0 < p.length) : ∀ (m n : Nat) (s : List UInt8), s.length ≤ m → s.length ≤ n → pc p m s = pc p n s
  | 0, n, s, h1, _ => by
    obtain rfl : s = [] := List.length_eq_zero_iff.1 (by omega)
    rw [pc_none p n [] (idx_short p [] hp)]; rfl
  | m + 1, 0, s, _, h2 => by
    obtain rfl : s = [] := List.length_eq_zero_iff.1 (by omega)
    rw [pc_none p (m + 1) [] (idx_short p [] hp)]; rfl
  | m + 1, n + 1, s, h1, h2 => by
    cases h : idx p s with
    | none => rw [pc_none _ _ _ h, pc_none _ _ _ h]
    | some k =>
      have := (idx_le p s k h).1
      rw [pc_some _ _ _ _ h, pc_some _ _ _ _ h, pc_more p hp m n _ (by rw [List.length_drop]; omega) (by rw [List.length_drop]; omega)]
theorem pos_more (p : List UInt8) (hp : 0 < p.length) : ∀ (m n o : Nat) (s : List UInt8), s.length ≤ m → s.length ≤ n → pos p m s o = pos p n s o
  | 0, n, o, s, h1, _ => by
    obtain rfl : s = [] := List.length_eq_zero_iff.1 (by omega)
    rw [pos_none p n [] o (idx_short p [] hp)]; rfl
  | m + 1, 0, o, s, _, h2 => by
    obtain rfl : s = [] := List.length_eq_zero_iff.1 (by omega)
    rw [pos_none p (m + 1) [] o (idx_short p [] hp)]; rfl
  | m + 1, n + 1, o, s, h1, h2 => by
    cases h : idx p s with
    | none => rw [pos_none _ _ _ _ h, pos_none _ _ _ _ h]
    | some k =>
      have := (idx_le p s k h).1
      simp only [pos, h]
      rw [pos_more p hp m n _ _ (by rw [List.length_drop]; omega) (by rw [List.length_drop]; omega)]
theorem pc_len (p : List UInt8) : ∀ (m : Nat) (s : List UInt8), (pc p m s).length ≤ m + 1
  | 0, s => by simp [pc]
  | m + 1, s => by
    cases h : idx p s with
    | none => rw [pc_none _ _ _ h]; simp
    | some k => rw [pc_some _ _ _ _ h]; have := pc_len p m (s.drop (k + p.length)); simp; omega
end Go.Proofs.YtgcofpmhojplhaaGreatDoor

/- Plain lists: cuts from the end on. No program in sight. -/
namespace Go.Proofs.YtgcofpmhojplhaaGreatDoor

/-- A text can stand over itself. -/
def Ov (p : List UInt8) : Prop := ∃ i, 0 < i ∧ i < p.length ∧ p.take i = p.drop (p.length - i)
theorem hit_eq (p s : List UInt8) (h : hit p s = true) : s.take p.length = p := by simpa [hit] using h
theorem hit_gap (p S : List UInt8) (hno : ¬ Ov p) (a b : Nat) (hab : a < b) (ha : hit p (S.drop a) = true) (hb : hit p (S.drop b) = true) : a + p.length ≤ b := by
  rcases Nat.lt_or_ge b (a + p.length) with hlt | hge
  · exfalso
    obtain ⟨d, hd⟩ : ∃ d, d = b - a := ⟨_, rfl⟩
    refine hno ⟨p.length - d, by omega, by omega, ?_⟩
    have h1 := hit_eq _ _ ha
    have h2 := hit_eq _ _ hb
    rw [show p.length - (p.length - d) = d by omega]
    have e1 : p.drop d = (S.drop b).take (p.length - d) := by
      conv => lhs; rw [← h1]
      rw [List.drop_take, List.drop_drop, show a + d = b by omega]
    have e2 : p.take (p.length - d) = (S.drop b).take (p.length - d) := by
      conv => lhs; rw [← h2]
      rw [List.take_take, h2, show min (p.length - d) p.length = p.length - d by omega]
    rw [e1, e2]
  · exact hge
theorem pos_hits (p S : List UInt8) : ∀ (m o : Nat), ∀ x ∈ pos p m (S.drop o) o, o ≤ x ∧ hit p (S.drop x) = true
  | 0, o, x, h => by cases h
  | m + 1, o, x, h => by
    cases hk : idx p (S.drop o) with
    | none => rw [pos_none _ _ _ _ hk] at h; cases h
    | some k =>
      simp only [pos, hk, List.drop_drop] at h
      rcases List.mem_cons.1 h with rfl | h
      · refine ⟨by omega, ?_⟩
        have := (idx_le p _ k hk).2
        rw [List.drop_drop] at this
        simpa [hit] using this
      · rw [show o + (k + p.length) = o + k + p.length by omega] at h
        have := pos_hits p S m (o + k + p.length) x h
        exact ⟨by omega, this.2⟩
theorem pos_pair (p S : List UInt8) : ∀ (m o : Nat), (pos p m (S.drop o) o).Pairwise (fun a b => a + p.length ≤ b)
  | 0, o => List.Pairwise.nil
  | m + 1, o => by
    cases hk : idx p (S.drop o) with
    | none => rw [pos_none _ _ _ _ hk]; exact List.Pairwise.nil
    | some k =>
      simp only [pos, hk, List.drop_drop]
      rw [show o + (k + p.length) = o + k + p.length by omega]
      exact List.Pairwise.cons (fun b hb => (pos_hits p S m _ b hb).1) (pos_pair p S m _)
theorem idx_none_miss (p : List UInt8) : ∀ (s : List UInt8), idx p s = none → ∀ q, hit p (s.drop q) = false
  | [], h, q => by
    cases hh : hit p [] with
    | false => simpa using hh
    | true => rw [idx_hit _ _ hh] at h; cases h
  | b :: t, h, q => by
    cases hh : hit p (b :: t) with
    | true => rw [idx_hit _ _ hh] at h; cases h
    | false =>
      cases q with
      | zero => simpa using hh
      | succ q =>
        rw [idx_miss _ _ _ hh] at h
        have : idx p t = none := by simpa using h
        simpa using idx_none_miss p t this q
theorem idx_first (p : List UInt8) : ∀ (s : List UInt8) (k : Nat), idx p s = some k → ∀ q, q < k → hit p (s.drop q) = false
  | [], k, h, q, hq => by
    cases hh : hit p [] with
    | false => simpa using hh
    | true => rw [idx_hit _ _ hh] at h; cases h; omega
  | b :: t, k, h, q, hq => by
    cases hh : hit p (b :: t) with
    | true => rw [idx_hit _ _ hh] at h; cases h; omega
    | false =>
      rw [idx_miss _ _ _ hh] at h
      obtain ⟨j, hj, rfl⟩ := Option.map_eq_some_iff.1 h
      cases q with
      | zero => simpa using hh
      | succ q => simpa using idx_first p t j hj q (by omega)
/-- Each place of a part that can't stand over itself is a cut. -/
theorem pos_all (p S : List UInt8) (hno : ¬ Ov p) (hp : 0 < p.length) : ∀ (m o q : Nat), S.length ≤ o + m → o ≤ q → hit p (S.drop q) = true → q ∈ pos p m (S.drop o) o
  | 0, o, q, hm, hq, hh => by
    have := hit_len _ _ hh
    rw [List.length_drop] at this
    omega
  | m + 1, o, q, hm, hq, hh => by
    cases hk : idx p (S.drop o) with
    | none =>
      have := idx_none_miss p _ hk (q - o)
      rw [List.drop_drop, show o + (q - o) = q by omega, hh] at this
      cases this
    | some k =>
      have hle := (idx_le p _ k hk)
      have hhk : hit p (S.drop (o + k)) = true := by have := hle.2; rw [List.drop_drop] at this; simpa [hit] using this
      simp only [pos, hk, List.drop_drop]
      rw [show o + (k + p.length) = o + k + p.length by omega]
      rcases Nat.lt_trichotomy q (o + k) with h | h | h
      · have := idx_first p _ k hk (q - o) (by omega)
        rw [List.drop_drop, show o + (q - o) = q by omega, hh] at this
        cases this
      · rw [h]; exact List.mem_cons_self
      · exact List.mem_cons_of_mem _ (pos_all p S hno hp m _ q (by omega) (hit_gap p S hno _ _ h hhk hh) hh)
/-- A search from the end: what it has found of all places P, at i. -/
def Bk (P : List Nat) (i : Int) (cs : List Nat) : Prop := ∃ A, P = A ++ cs ∧ (∀ x ∈ A, (x : Int) ≤ i) ∧ (∀ x ∈ cs, i < (x : Int))
theorem Bk.start (p S : List UInt8) (m : Nat) : Bk (pos p m (S.drop 0) 0) ((S.length : Int) - p.length) [] := by
  refine ⟨_, by simp; rfl, fun x hx => ?_, fun x h => by cases h⟩
  have := hit_len _ _ (pos_hits p S m 0 x hx).2
  rw [List.length_drop] at this
  by_cases h : x ≤ S.length
  · omega
  · have hz : p.length = 0 := by omega
    have h2 := (pos_hits p S m 0 x hx)
    exfalso
    have hle : ∀ (n o : Nat), o ≤ S.length → ∀ y ∈ pos p n (S.drop o) o, y ≤ S.length := by
      intro n
      induction n with
      | zero => intro o _ y hy; cases hy
      | succ n ih =>
        intro o ho y hy
        cases hk : idx p (S.drop o) with
        | none => rw [pos_none _ _ _ _ hk] at hy; cases hy
        | some k =>
          have hl := (idx_le p _ k hk).1
          rw [List.length_drop] at hl
          simp only [pos, hk, List.drop_drop] at hy
          rcases List.mem_cons.1 hy with rfl | hy
          · omega
          · rw [show o + (k + p.length) = o + k + p.length by omega] at hy
            exact ih _ (by omega) y hy
    exact h (hle m 0 (Nat.zero_le _) x hx)
theorem Bk.miss {p S : List UInt8} {m : Nat} {i : Nat} {cs : List Nat} (h : Bk (pos p m (S.drop 0) 0) i cs) (hm : hit p (S.drop i) = false) : Bk (pos p m (S.drop 0) 0) ((i : Int) - 1) cs := by
  obtain ⟨A, hA, h1, h2⟩ := h
  refine ⟨A, hA, fun x hx => ?_, fun x hx => by have := h2 x hx; omega⟩
  have := h1 x hx
  have hh := (pos_hits p S m 0 x (by rw [hA]; exact List.mem_append_left _ hx)).2
  by_cases he : x = i
  · subst he; rw [hm] at hh; cases hh
  · omega
theorem Bk.take {p S : List UInt8} (hno : ¬ Ov p) (hp : 0 < p.length) {m : Nat} (hm : S.length ≤ m) {i : Nat} {cs : List Nat} (h : Bk (pos p m (S.drop 0) 0) i cs) (hh : hit p (S.drop i) = true) :
    Bk (pos p m (S.drop 0) 0) ((i : Int) - p.length) (i :: cs) := by
  have hin := pos_all p S hno hp m 0 i (by omega) (Nat.zero_le _) hh
  have hpw := pos_pair p S m 0
  obtain ⟨A, hA, h1, h2⟩ := h
  rw [hA] at hin hpw
  have hiA : i ∈ A := by
    rcases List.mem_append.1 hin with h | h
    · exact h
    · have := h2 i h; omega
  obtain ⟨A1, A2, rfl⟩ := List.append_of_mem hiA
  have hpA := (List.pairwise_append.1 hpw).1
  have hp2 := List.pairwise_append.1 hpA
  have hA2 : A2 = [] := by
    cases A2 with
    | nil => rfl
    | cons y r =>
      have a := (List.pairwise_cons.1 hp2.2.1).1 y (by simp)
      have b := h1 y (by simp)
      omega
  subst hA2
  refine ⟨A1, by rw [hA]; simp, fun x hx => ?_, fun x hx => ?_⟩
  · have := hp2.2.2 x hx i (by simp)
    omega
  · rcases List.mem_cons.1 hx with rfl | hx
    · omega
    · have := h2 x hx; omega
theorem Bk.neg {P : List Nat} {i : Int} {cs : List Nat} (h : Bk P i cs) (hi : i < 0) : cs = P := by
  obtain ⟨A, rfl, h1, _⟩ := h
  cases A with
  | nil => rfl
  | cons x r => have := h1 x (by simp); omega
theorem Bk.full {P : List Nat} {i : Int} {cs : List Nat} (h : Bk P i cs) : cs = P.drop (P.length - cs.length) := by
  obtain ⟨A, rfl, _, _⟩ := h
  rw [List.length_append, Nat.add_sub_cancel, List.drop_left]
/-- Texts with another one between. -/
def joinL (p : List UInt8) : List (List UInt8) → List UInt8
  | [] => []
  | [x] => x
  | x :: y :: r => x ++ p ++ joinL p (y :: r)
theorem cutAt_ne (s : List UInt8) (L o : Nat) (P : List Nat) : ∃ h t, cutAt s L o P = h :: t := by cases P <;> exact ⟨_, _, rfl⟩
theorem cutAt_len (s : List UInt8) (L : Nat) : ∀ (P : List Nat) (o : Nat), (cutAt s L o P).length = P.length + 1
  | [], o => rfl
  | c :: cs, o => by simp [cutAt, cutAt_len s L cs]
/-- Where a cut is left out, its two parts are one. -/
theorem cutAt_from (p S : List UInt8) (o c : Nat) (hoc : o ≤ c) (hh : hit p (S.drop c) = true) (cs : List Nat) (hcs : ∀ x ∈ cs, c + p.length ≤ x) :
    ∀ h t, cutAt S p.length (c + p.length) cs = h :: t → cutAt S p.length o cs = ((S.drop o).take (c - o) ++ p ++ h) :: t := by
  have e : ∀ n, c + p.length ≤ n → (S.drop o).take (n - o) = (S.drop o).take (c - o) ++ p ++ (S.drop (c + p.length)).take (n - (c + p.length)) := by
    intro n hn
    rw [show n - o = (c - o) + (p.length + (n - (c + p.length))) by omega, List.take_add, List.drop_drop, show o + (c - o) = c by omega, List.take_add, hit_eq _ _ hh, List.drop_drop, List.append_assoc]
  intro h t he
  cases cs with
  | nil =>
    simp only [cutAt, List.cons.injEq] at he ⊢
    obtain ⟨rfl, rfl⟩ := he
    refine ⟨?_, rfl⟩
    have := e (S.length + c + p.length + o) (by omega)
    rw [List.take_of_length_le (by rw [List.length_drop]; omega), List.take_of_length_le (l := S.drop (c + p.length)) (by rw [List.length_drop]; omega)] at this
    exact this
  | cons x r =>
    simp only [cutAt, List.cons.injEq] at he ⊢
    obtain ⟨rfl, rfl⟩ := he
    exact ⟨e x (hcs x (by simp)), rfl⟩
theorem cut_join (p S : List UInt8) : ∀ (e : Nat) (P : List Nat) (o : Nat), e ≤ P.length → P.Pairwise (fun a b => a + p.length ≤ b) → (∀ x ∈ P, o ≤ x ∧ hit p (S.drop x) = true) →
    cutAt S p.length o (P.drop e) = joinL p ((cutAt S p.length o P).take (e + 1)) :: (cutAt S p.length o P).drop (e + 1)
  | 0, P, o, _, _, _ => by
    obtain ⟨h, t, he⟩ := cutAt_ne S p.length o P
    simp only [List.drop_zero]
    rw [he]
    simp [joinL]
  | e + 1, [], o, h, _, _ => by simp at h
  | e + 1, c :: cs, o, h, hpw, hh => by
    obtain ⟨hc1, hc2⟩ := List.pairwise_cons.1 hpw
    have ih := cut_join p S e cs (c + p.length) (by simpa using h) hc2 (fun x hx => ⟨hc1 x hx, (hh x (List.mem_cons_of_mem _ hx)).2⟩)
    have hf := cutAt_from p S o c (hh c (by simp)).1 (hh c (by simp)).2 (cs.drop e) (fun x hx => hc1 x (List.mem_of_mem_drop hx)) _ _ ih
    simp only [List.drop_succ_cons, cutAt, List.take_succ_cons]
    rw [hf]
    obtain ⟨a, b, hab⟩ := cutAt_ne S p.length (c + p.length) cs
    rw [hab]
    simp [joinL]
end Go.Proofs.YtgcofpmhojplhaaGreatDoor

/- Plain lists: a text's parts between white space. No program in sight. -/
namespace Go.Proofs.YtgcofpmhojplhaaGreatDoor

/-- A text's words, so many cuts at most. -/
def wd (q : UInt8 → Bool) : Nat → List UInt8 → List (List UInt8)
  | 0, s => match s.dropWhile q with
    | [] => []
    | t => [t]
  | m + 1, s => match s.dropWhile q with
    | [] => []
    | t => t.takeWhile (fun b => !q b) :: wd q m (t.dropWhile (fun b => !q b))
/-- Inside a word. -/
def wdIn (q : UInt8 → Bool) : Nat → List UInt8 → List UInt8 → List (List UInt8)
  | 0, u, s => [u ++ s]
  | m + 1, u, s => (u ++ s.takeWhile (fun b => !q b)) :: wd q m (s.dropWhile (fun b => !q b))
theorem wd_nil (q : UInt8 → Bool) (m : Nat) : wd q m [] = [] := by cases m <;> rfl
theorem wd_blank (q : UInt8 → Bool) (m : Nat) (b : UInt8) (s : List UInt8) (h : q b = true) : wd q m (b :: s) = wd q m s := by
  cases m <;> simp [wd, h]
theorem wd_word (q : UInt8 → Bool) (m : Nat) (b : UInt8) (s : List UInt8) (h : q b = false) : wd q m (b :: s) = wdIn q m [b] s := by
  cases m <;> simp [wd, wdIn, h]
theorem wdIn_nil (q : UInt8 → Bool) (m : Nat) (u : List UInt8) : wdIn q m u [] = [u] := by
  cases m <;> simp [wdIn, wd_nil]
theorem wdIn_word (q : UInt8 → Bool) (m : Nat) (u : List UInt8) (b : UInt8) (s : List UInt8) (h : q b = false) : wdIn q m u (b :: s) = wdIn q m (u ++ [b]) s := by
  cases m <;> simp [wdIn, h]
theorem wdIn_blank (q : UInt8 → Bool) (m : Nat) (u : List UInt8) (b : UInt8) (s : List UInt8) (h : q b = true) : wdIn q (m + 1) u (b :: s) = u :: wd q m s := by
  simp only [wdIn, List.takeWhile_cons, List.dropWhile_cons, h]
  simp [wd_blank _ _ _ _ h]
theorem wd_len (q : UInt8 → Bool) : ∀ (m : Nat) (s : List UInt8), (wd q m s).length ≤ m + 1
  | 0, s => by
    simp only [wd]
    split <;> simp
  | m + 1, s => by
    simp only [wd]
    split
    · simp
    · simp only [List.length_cons]
      have := wd_len q m
      exact Nat.succ_le_succ (this _)
/-- A text's words. -/
def F (q : UInt8 → Bool) : List UInt8 → List (List UInt8)
  | [] => []
  | b :: s => if q b then F q s else match s with
    | [] => [[b]]
    | c :: _ => if q c then [b] :: F q s else match F q s with
      | [] => [[b]]
      | x :: r => (b :: x) :: r
/-- The head of a text is in a word. -/
def hw (q : UInt8 → Bool) : List UInt8 → Bool
  | [] => false
  | c :: _ => !q c
def consH (b : UInt8) : List (List UInt8) → List (List UInt8)
  | [] => [[b]]
  | x :: r => (b :: x) :: r
theorem F_cons (q : UInt8 → Bool) (b : UInt8) (s : List UInt8) : F q (b :: s) = if q b then F q s else if hw q s then consH b (F q s) else [b] :: F q s := by
  cases s with
  | nil => simp [F, hw]
  | cons c r =>
    simp only [F, hw]
    by_cases hb : q b = true
    · simp [hb]
    · by_cases hc : q c = true
      · simp [hb, hc]
      · simp only [hb, hc]
        simp
        cases h : (match r with
            | [] => [[c]]
            | c_1 :: tail => if q c_1 = true then [c] :: F q r else match F q r with | [] => [[c]] | x :: r => (c :: x) :: r) <;> simp [consH]
theorem F_ne (q : UInt8 → Bool) : ∀ s : List UInt8, hw q s = true → F q s ≠ []
  | [], h => by cases h
  | b :: s, h => by
    have hb : q b = false := by simpa [hw] using h
    rw [F_cons, hb]
    simp only [Bool.false_eq_true, if_false]
    split
    · cases F q s <;> simp [consH]
    · simp
/-- A word at hand, and what is behind it. -/
def glue (q : UInt8 → Bool) (u s : List UInt8) : List (List UInt8) := if hw q s then (match F q s with | [] => [u] | x :: r => (u ++ x) :: r) else u :: F q s
theorem glue_cons (q : UInt8 → Bool) (u : List UInt8) (b : UInt8) (s : List UInt8) (h : q b = false) : glue q u (b :: s) = glue q (u ++ [b]) s := by
  unfold glue
  have h1 : hw q (b :: s) = true := by simp [hw, h]
  rw [h1, F_cons, h]
  simp only [Bool.false_eq_true, if_false, if_true]
  by_cases hs : hw q s = true
  · rw [hs]
    have := F_ne q s hs
    cases hF : F q s with
    | nil => exact absurd hF this
    | cons x r => simp [consH]
  · have hs : hw q s = false := by simpa using hs
    rw [hs]; simp
theorem wd_F (q : UInt8 → Bool) : ∀ (n : Nat) (s : List UInt8), s.length ≤ n → (∀ m, s.length ≤ m → wd q m s = F q s) ∧ (∀ m u, s.length ≤ m → wdIn q (m + 1) u s = glue q u s)
  | 0, s, h => by
    obtain rfl : s = [] := List.length_eq_zero_iff.1 (by omega)
    refine ⟨fun m _ => wd_nil q m, fun m u _ => ?_⟩
    rw [wdIn_nil]; simp [glue, hw, F]
  | n + 1, [], _ => ⟨fun m _ => wd_nil q m, fun m u _ => by rw [wdIn_nil]; simp [glue, hw, F]⟩
  | n + 1, b :: s, h => by
    have ih := wd_F q n s (by simpa using h)
    by_cases hb : q b = true
    · refine ⟨fun m hm => ?_, fun m u hm => ?_⟩
      · rw [wd_blank _ _ _ _ hb, F_cons, hb, if_pos rfl]
        exact ih.1 m (by simp at hm; omega)
      · rw [wdIn_blank _ _ _ _ _ hb, ih.1 m (by simp at hm; omega)]
        simp [glue, hw, hb, F_cons]
    · have hb : q b = false := by simpa using hb
      refine ⟨fun m hm => ?_, fun m u hm => ?_⟩
      · obtain ⟨m', rfl⟩ : ∃ m', m = m' + 1 := ⟨m - 1, by simp at hm; omega⟩
        rw [wd_word _ _ _ _ hb, ih.2 m' [b] (by simp at hm; omega), F_cons, hb]
        simp only [Bool.false_eq_true, if_false, glue]
        by_cases hs : hw q s = true
        · rw [hs]
          cases hF : F q s <;> simp [consH]
        · have hs : hw q s = false := by simpa using hs
          rw [hs]; simp
      · rw [wdIn_word _ _ _ _ _ hb, ih.2 m (u ++ [b]) (by simp at hm; omega), glue_cons _ _ _ _ hb]
theorem wd_all (q : UInt8 → Bool) (m : Nat) (s : List UInt8) (h : s.length ≤ m) : wd q m s = F q s := (wd_F q _ s (Nat.le_refl _)).1 m h
/-- The tail of a text is in a word. -/
def lw (q : UInt8 → Bool) (s : List UInt8) : Bool := hw q s.reverse
def snocH (b : UInt8) : List (List UInt8) → List (List UInt8)
  | [] => [[b]]
  | [x] => [x ++ [b]]
  | x :: y :: r => x :: snocH b (y :: r)
theorem lw_cons (q : UInt8 → Bool) (a c : UInt8) (s : List UInt8) : lw q (a :: c :: s) = lw q (c :: s) := by
  have e : ∀ (l : List UInt8) (z : UInt8), l ≠ [] → hw q (l ++ [z]) = hw q l := by
    intro l z h
    cases l with
    | nil => exact absurd rfl h
    | cons x r => rfl
  unfold lw
  rw [List.reverse_cons, e _ _ (by simp)]
theorem lw_ne (q : UInt8 → Bool) : ∀ s : List UInt8, lw q s = true → F q s ≠ []
  | [], h => by cases h
  | [a], h => by
    have ha : q a = false := by simpa [lw, hw] using h
    simp [F, ha]
  | a :: c :: s, h => by
    rw [lw_cons] at h
    have := lw_ne q (c :: s) h
    rw [F_cons]
    split
    · exact this
    · split
      · cases hF : F q (c :: s) <;> simp [consH]
      · simp
theorem F_snoc (q : UInt8 → Bool) (b : UInt8) : ∀ s : List UInt8, F q (s ++ [b]) = if q b then F q s else if lw q s then snocH b (F q s) else F q s ++ [[b]]
  | [] => by simp [F, lw, hw]
  | [a] => by
    simp only [List.cons_append, List.nil_append, F_cons, lw, List.reverse_cons, List.reverse_nil, hw]
    by_cases ha : q a = true <;> by_cases hb : q b = true <;> simp [ha, hb, F, snocH, consH]
  | a :: c :: s => by
    have ih := F_snoc q b (c :: s)
    have hh : hw q (c :: s ++ [b]) = hw q (c :: s) := rfl
    rw [List.cons_append, F_cons, F_cons q a (c :: s), lw_cons, hh, ih]
    by_cases ha : q a = true
    · simp [ha]
    · simp only [ha]
      by_cases hc : hw q (c :: s) = true
      · have hne := F_ne q _ hc
        cases hF : F q (c :: s) with
        | nil => exact absurd hF hne
        | cons x r =>
          simp only [hc, if_true]
          by_cases hb : q b = true
          · simp [hb]
          · by_cases hl : lw q (c :: s) = true
            · simp only [hb, hl]
              cases r <;> simp [snocH, consH]
            · simp only [hb, hl]
              simp [consH]
      · simp only [hc]
        by_cases hb : q b = true
        · simp [hb]
        · by_cases hl : lw q (c :: s) = true
          · have hne := lw_ne q _ hl
            cases hF : F q (c :: s) with
            | nil => exact absurd hF hne
            | cons x r => simp [hb, hl, snocH]
          · simp [hb, hl]
/-- From the end on, as from the beginning. -/
def mir (l : List (List UInt8)) : List (List UInt8) := (l.map List.reverse).reverse
theorem mir_consH (b : UInt8) (l : List (List UInt8)) : mir (consH b l) = snocH b (mir l) := by
  have e : ∀ (a : List (List UInt8)) (x : List UInt8), snocH b (a ++ [x]) = a ++ [x ++ [b]] := by
    intro a
    induction a with
    | nil => intro x; rfl
    | cons y r ih =>
      intro x
      cases r with
      | nil => rfl
      | cons z r' =>
        have := ih x
        simp only [List.cons_append] at this ⊢
        simp only [snocH]
        rw [this]
  cases l with
  | nil => rfl
  | cons x r => simp [mir, consH, e]
theorem F_rev (q : UInt8 → Bool) : ∀ s : List UInt8, F q s.reverse = mir (F q s)
  | [] => rfl
  | b :: s => by
    rw [List.reverse_cons, F_snoc, F_cons, F_rev q s]
    have hl : lw q s.reverse = hw q s := by simp [lw]
    rw [hl]
    by_cases hb : q b = true
    · simp [hb]
    · simp only [hb]
      by_cases hs : hw q s = true
      · simp [hs, mir_consH]
      · simp [hs, mir]
/-- Words from the end on. -/
def wdB (q : UInt8 → Bool) (m : Nat) (s : List UInt8) : List (List UInt8) := mir (wd q m s.reverse)
theorem wdB_all (q : UInt8 → Bool) (m : Nat) (s : List UInt8) (h : s.length ≤ m) : wdB q m s = F q s := by
  unfold wdB
  rw [wd_all q m _ (by simpa using h), F_rev]
  have e : List.reverse ∘ List.reverse = (id : List UInt8 → List UInt8) := funext fun l => List.reverse_reverse l
  simp [mir, e]
end Go.Proofs.YtgcofpmhojplhaaGreatDoor

/- Plain lists: places of cuts in order. No program in sight. -/
namespace Go.Proofs.YtgcofpmhojplhaaGreatDoor

/-- Cuts of length L, in order, from o on, in n bytes. -/
def Ch (L n : Nat) : Nat → List Nat → Prop
  | o, [] => o ≤ n
  | o, c :: cs => o ≤ c ∧ c + L ≤ n ∧ Ch L n (c + L) cs
theorem Ch.at {L n : Nat} : ∀ {o : Nat} {cs : List Nat}, Ch L n o cs → o ≤ n
  | _, [], h => h
  | _, c :: cs, ⟨h1, h2, _⟩ => by omega
theorem Ch.low {L n : Nat} : ∀ {o o' : Nat} {cs : List Nat}, Ch L n o cs → o' ≤ o → Ch L n o' cs
  | _, _, [], h, h' => by unfold Ch at *; omega
  | _, _, c :: cs, ⟨h1, h2, h3⟩, h' => ⟨by omega, h2, h3⟩
theorem Ch.drop {L n : Nat} : ∀ {o : Nat} {cs : List Nat} (e : Nat), Ch L n o cs → Ch L n o (cs.drop e)
  | _, _, 0, h => h
  | _, [], _ + 1, h => h
  | _, c :: cs, e + 1, ⟨h1, h2, h3⟩ => by
    rw [List.drop_succ_cons]
    exact (h3.drop e).low (by omega)
theorem Ch.len {L n : Nat} (hL : 0 < L) : ∀ {o : Nat} {cs : List Nat}, Ch L n o cs → cs.length ≤ n - o
  | _, [], _ => by simp
  | _, c :: cs, ⟨h1, h2, h3⟩ => by
    have := h3.len hL
    simp; omega
theorem Ch.step {L n o j : Nat} {cs : List Nat} (hj : j < cs.length) (h : Ch L n o (cs.drop j)) : o ≤ cs.getD j 0 ∧ cs.getD j 0 + L ≤ n ∧ Ch L n (cs.getD j 0 + L) (cs.drop (j + 1)) := by
  have e : cs.drop j = cs.getD j 0 :: cs.drop (j + 1) := by
    rw [List.drop_eq_getElem_cons hj]
    simp [hj]
  rw [e] at h
  exact h
theorem cutAt_step (S : List UInt8) (L o j : Nat) (cs : List Nat) (hj : j < cs.length) : cutAt S L o (cs.drop j) = (S.drop o).take (cs.getD j 0 - o) :: cutAt S L (cs.getD j 0 + L) (cs.drop (j + 1)) := by
  have e : cs.drop j = cs.getD j 0 :: cs.drop (j + 1) := by
    rw [List.drop_eq_getElem_cons hj]
    simp [hj]
  rw [e]
  rfl
theorem cutAt_done (S : List UInt8) (L o j : Nat) (cs : List Nat) (hj : cs.length ≤ j) : cutAt S L o (cs.drop j) = [S.drop o] := by
  rw [List.drop_of_length_le hj]
  rfl
theorem ch_pos (p S : List UInt8) : ∀ (m o : Nat), o ≤ S.length → Ch p.length S.length o (pos p m (S.drop o) o)
  | 0, o, h => h
  | m + 1, o, h => by
    cases hk : idx p (S.drop o) with
    | none => rw [pos_none _ _ _ _ hk]; exact h
    | some k =>
      have hle := (idx_le p _ k hk).1
      rw [List.length_drop] at hle
      simp only [pos, hk, List.drop_drop]
      rw [show o + (k + p.length) = o + k + p.length by omega]
      exact ⟨by omega, by omega, ch_pos p S m _ (by omega)⟩
/-- How many cuts at most: a bound below 0 is none. -/
def lim (z : Int) (n : Nat) : Nat := if z < 0 then n else z.toNat
theorem lim_zero {z : Int} {n c i : Nat} (h : c + 0 = lim z n) (hc : c ≤ i) (hi : i < n) : (c : Int) = z := by
  unfold lim at h
  split at h
  · omega
  · omega
theorem lim_pos {z : Int} {n c m : Nat} (h : c + (m + 1) = lim z n) : ¬ (c : Int) = z := by
  unfold lim at h
  split at h
  · omega
  · omega
/-- The search from the beginning, as the cuts. -/
theorem fore_all (p S : List UInt8) (m : Nat) : cutAt S p.length 0 (pos p m S 0) = pc p m S := by
  have := cut_pos p S m 0
  simpa using this
theorem ch_all (p S : List UInt8) (m : Nat) : Ch p.length S.length 0 (pos p m S 0) := by
  have := ch_pos p S m 0 (Nat.zero_le _)
  simpa using this
end Go.Proofs.YtgcofpmhojplhaaGreatDoor
