/- Plain lists: a text of ASCII without some bytes at its ends. No program in sight. -/
import Derived.Test.YtgcofpmhojplhaaGreatDoorMP
import Derived.Lib.TrimAscii
import Derived.Lib.DecodeN
import Derived.Shelf.GgClosure.StringsTrimFunc
import Derived.Shelf.GgClosure.StringsIndexFunc
namespace Go.Proofs.YtgcofpmhojplhaaGreatDoor
open Go.Lib
theorem decode_asc (s : ByteArray) (ha : Asc s.data.toList) (i : Nat) (hi : i < s.size) : Utf8.decode s i = ((s.data.toList.getD i 0).toNat, 1) := by
  have hl : i < s.data.toList.length := by rw [← size_list0]; exact hi
  have hb : (s.data.toList.getD i 0).toNat < 128 := by
    rw [List.getD_eq_getElem?_getD, List.getElem?_eq_getElem hl]
    exact ha _ (List.getElem_mem hl)
  rw [decode_at, get_list0]
  unfold decodeN
  rw [if_pos hb]
theorem idx_asc (p : Nat → Bool) (s : ByteArray) (ha : Asc s.data.toList) : ∀ (f pos : Nat) (_ : s.size ≤ pos + f) (_ : pos ≤ s.size),
    (idxFuncFrom p false s f pos = -1 ∧ tl (fun b => p b.toNat) (s.data.toList.drop pos) = []) ∨ ∃ i : Nat, idxFuncFrom p false s f pos = i ∧ i < s.size ∧ tl (fun b => p b.toNat) (s.data.toList.drop pos) = s.data.toList.drop i
  | 0, pos, h1, h2 => by
    left
    refine ⟨rfl, ?_⟩
    rw [List.drop_of_length_le (by rw [← size_list0]; omega)]; rfl
  | f + 1, pos, h1, h2 => by
    unfold idxFuncFrom
    by_cases hp : pos < s.size
    · rw [if_pos hp, decode_asc s ha pos hp, drop_step _ pos (by rw [← size_list0]; exact hp)]
      by_cases hb : p (s.data.toList.getD pos 0).toNat = false
      · right
        refine ⟨pos, by rw [if_pos hb], hp, ?_⟩
        rw [drop_step _ pos (by rw [← size_list0]; exact hp)]
        simp only [tl, hb]
        simp
      · rw [if_neg hb]
        have hb' : p (s.data.toList.getD pos 0).toNat = true := by simpa using hb
        have e : tl (fun b => p b.toNat) (s.data.toList.getD pos 0 :: s.data.toList.drop (pos + 1)) = tl (fun b => p b.toNat) (s.data.toList.drop (pos + 1)) := by simp only [tl, hb', if_true]
        rw [e]
        exact idx_asc p s ha f (pos + 1) (by omega) (by omega)
    · left
      rw [if_neg hp]
      refine ⟨rfl, ?_⟩
      rw [List.drop_of_length_le (by rw [← size_list0]; omega)]; rfl
theorem trimLeft_asc (p : Nat → Bool) (s : ByteArray) (ha : Asc s.data.toList) : (trimLeftF p s).data.toList = tl (fun b => p b.toNat) s.data.toList := by
  have h := idx_asc p s ha s.size 0 (by omega) (by omega)
  rw [List.drop_zero] at h
  unfold trimLeftF idxFunc
  rcases h with ⟨h1, h2⟩ | ⟨i, h1, h2, h3⟩
  · rw [if_pos h1, h2]
  · rw [h1, if_neg (by omega), h3, Int.toNat_natCast, ByteArray.data_extract, Array.toList_extract, List.extract_eq_take_drop]
    exact List.take_of_length_le (by rw [List.length_drop, ← size_list0]; omega)
theorem last_asc (p : Nat → Bool) (s : ByteArray) (ha : Asc s.data.toList) : ∀ (f i : Nat) (_ : i ≤ f) (_ : i ≤ s.size),
    (lastIdxFuncFrom p false s f i = -1 ∧ tr (fun b => p b.toNat) (s.data.toList.take i) = []) ∨ ∃ j : Nat, lastIdxFuncFrom p false s f i = j ∧ j < i ∧ tr (fun b => p b.toNat) (s.data.toList.take i) = s.data.toList.take (j + 1)
  | 0, i, h1, _ => by
    left
    obtain rfl : i = 0 := by omega
    exact ⟨rfl, by simp [tr]⟩
  | f + 1, 0, _, _ => .inl ⟨lastIdxFuncFrom_zero _ _ _ _, by simp [tr]⟩
  | f + 1, i + 1, h1, h2 => by
    have hl : i < s.data.toList.length := by rw [← size_list0]; omega
    have hb : (s.data.toList.getD i 0).toNat < 128 := by
      rw [List.getD_eq_getElem?_getD, List.getElem?_eq_getElem hl]
      exact ha _ (List.getElem_mem hl)
    unfold lastIdxFuncFrom
    rw [if_pos (by omega), take_step _ i hl, decodeLastL_ascii _ _ hb, tr_snoc]
    simp only []
    by_cases hp : p (s.data.toList.getD i 0).toNat = false
    · right
      rw [if_pos hp]
      refine ⟨i, by simp, by omega, ?_⟩
      rw [take_step _ i hl, if_neg (by rw [hp]; decide)]
    · rw [if_neg hp]
      have hp' : p (s.data.toList.getD i 0).toNat = true := by simpa using hp
      rw [if_pos hp', Nat.add_sub_cancel]
      rcases last_asc p s ha f i (by omega) (by omega) with h | ⟨j, a, b, c⟩
      · exact .inl h
      · exact .inr ⟨j, a, by omega, c⟩
theorem trimRight_asc (p : Nat → Bool) (s : ByteArray) (ha : Asc s.data.toList) : (trimRightF p s).data.toList = tr (fun b => p b.toNat) s.data.toList := by
  have h := last_asc p s ha s.size s.size (Nat.le_refl _) (Nat.le_refl _)
  rw [List.take_of_length_le (by rw [← size_list0]; exact Nat.le_refl _)] at h
  unfold trimRightF
  rw [ByteArray.data_extract, Array.toList_extract, List.extract_eq_take_drop, List.drop_zero, Nat.sub_zero]
  unfold rightEndF lastIdxFunc
  rcases h with ⟨h1, h2⟩ | ⟨j, h1, h2, h3⟩
  · rw [h1, if_neg (by omega), h2]; simp
  · rw [h1, if_pos (by omega), h3, Int.toNat_natCast]
    congr 1
    congr 1
    unfold decodeGoB
    have hs : (s.extract j s.size).size = s.size - j := by rw [ByteArray.size_extract]; omega
    rw [if_neg (by omega), decode_asc _ (by
      rw [ByteArray.data_extract, Array.toList_extract, List.extract_eq_take_drop]
      exact (ha.drop j).take _) 0 (by omega)]
theorem trim_asc (p : Nat → Bool) (s : ByteArray) (ha : Asc s.data.toList) : (trimF p s).data.toList = tr (fun b => p b.toNat) (tl (fun b => p b.toNat) s.data.toList) := by
  unfold trimF
  rw [trimRight_asc p _ (by rw [trimLeft_asc p s ha]; exact tl_asc ha _), trimLeft_asc p s ha]
end Go.Proofs.YtgcofpmhojplhaaGreatDoor
