/- Plain lists: a text without some bytes at its ends. No program in sight. -/
namespace Go.Proofs.YtgcofpmhojplhaaGreatDoor

def Asc (l : List UInt8) : Prop := ∀ b ∈ l, b.toNat < 128
theorem Asc.drop {l : List UInt8} (h : Asc l) (n : Nat) : Asc (l.drop n) := fun b hb => h b (List.mem_of_mem_drop hb)
theorem Asc.take {l : List UInt8} (h : Asc l) (n : Nat) : Asc (l.take n) := fun b hb => h b (List.mem_of_mem_take hb)
/-- Without the bytes of p at the front. -/
def tl (p : UInt8 → Bool) : List UInt8 → List UInt8
  | [] => []
  | b :: t => if p b then tl p t else b :: t
/-- Without the bytes of p at the end. -/
def tr (p : UInt8 → Bool) : List UInt8 → List UInt8
  | [] => []
  | b :: t => if tr p t = [] then (if p b then [] else [b]) else b :: tr p t
theorem tl_tr (p : UInt8 → Bool) : ∀ l, tl p (tr p l) = tr p (tl p l)
  | [] => rfl
  | b :: t => by
    have ih := tl_tr p t
    by_cases hb : p b
    · rw [show tl p (b :: t) = tl p t by simp [tl, hb], ← ih]
      by_cases ht : tr p t = []
      · simp [tr, tl, hb, ht]
      · simp [tr, tl, hb, ht]
    · rw [show tl p (b :: t) = b :: t by simp [tl, hb]]
      by_cases ht : tr p t = []
      · simp [tr, tl, hb, ht]
      · simp [tr, tl, hb, ht]
theorem tr_snoc (p : UInt8 → Bool) (b : UInt8) : ∀ l, tr p (l ++ [b]) = if p b then tr p l else l ++ [b]
  | [] => by by_cases hb : p b <;> simp [tr, hb]
  | a :: t => by
    have ih := tr_snoc p b t
    by_cases hb : p b
    · simp only [List.cons_append, tr, ih, hb, if_true]
    · simp only [List.cons_append, tr, ih, hb]
      simp
theorem tl_suffix (p : UInt8 → Bool) : ∀ l, ∃ n, n ≤ l.length ∧ tl p l = l.drop n
  | [] => ⟨0, by simp, rfl⟩
  | b :: t => by
    by_cases hb : p b
    · obtain ⟨n, h1, h2⟩ := tl_suffix p t
      exact ⟨n + 1, by simp; omega, by simp [tl, hb, h2]⟩
    · exact ⟨0, by simp, by simp [tl, hb]⟩
theorem size_list0 (s : ByteArray) : s.size = s.data.toList.length := by rw [Array.length_toList]; rfl
theorem get_list0 (s : ByteArray) (k : Nat) : s.get! k = s.data.toList.getD k 0 := by
  show s.data[k]! = _
  rw [List.getD_eq_getElem?_getD, Array.getElem?_toList, getElem!_def]
  cases s.data[k]? <;> rfl
theorem drop_step (l : List UInt8) (i : Nat) (h : i < l.length) : l.drop i = l.getD i 0 :: l.drop (i + 1) := by
  rw [List.drop_eq_getElem_cons h, List.getD_eq_getElem?_getD, List.getElem?_eq_getElem h]; rfl
theorem take_step (l : List UInt8) (i : Nat) (h : i < l.length) : l.take (i + 1) = l.take i ++ [l.getD i 0] := by
  rw [List.take_succ_eq_append_getElem h, List.getD_eq_getElem?_getD, List.getElem?_eq_getElem h]; rfl
theorem tl_asc {l : List UInt8} (h : Asc l) (p : UInt8 → Bool) : Asc (tl p l) := by
  obtain ⟨n, _, e⟩ := tl_suffix p l
  rw [e]; exact h.drop n
end Go.Proofs.YtgcofpmhojplhaaGreatDoor
