/- Plain lists: a rune in a quoted text, by its kinds. No program in sight. -/
import Derived.Test.YtbimbpplkhdeiaaDoorUt
namespace Go.Proofs.YtbimbpplkhdeiaaDoor
open Go.Lib

theorem latin_of (T : PrintTabs) (r : Nat) (h : r < 128) : isPrintR T (r : Int) = isPrintLatin (r : Int) := by
  unfold isPrintR; rw [if_pos (by omega)]
theorem escB_sign (T : PrintTabs) (r : Nat) (h : r = 34 ∨ r = 92) : escB T r = [92, r.toUInt8] := by
  unfold escB escRune
  rw [if_pos (by omega)]
  simp
theorem escB_print (T : PrintTabs) (r : Nat) (h : ¬ (r = 34 ∨ r = 92)) (hp : isPrintR T (r : Int) = true) : escB T r = encodeRune (r : Int) := by
  unfold escB encodeRune escRune
  rw [if_neg (by omega), if_pos hp]
theorem escB_7 (T : PrintTabs) : escB T 7 = [92, 97] := by simp [escB, escRune, isPrintR, isPrintLatin]
theorem escB_8 (T : PrintTabs) : escB T 8 = [92, 98] := by simp [escB, escRune, isPrintR, isPrintLatin]
theorem escB_12 (T : PrintTabs) : escB T 12 = [92, 102] := by simp [escB, escRune, isPrintR, isPrintLatin]
theorem escB_10 (T : PrintTabs) : escB T 10 = [92, 110] := by simp [escB, escRune, isPrintR, isPrintLatin]
theorem escB_13 (T : PrintTabs) : escB T 13 = [92, 114] := by simp [escB, escRune, isPrintR, isPrintLatin]
theorem escB_9 (T : PrintTabs) : escB T 9 = [92, 116] := by simp [escB, escRune, isPrintR, isPrintLatin]
theorem escB_11 (T : PrintTabs) : escB T 11 = [92, 118] := by simp [escB, escRune, isPrintR, isPrintLatin]
def NamedR (r : Nat) : Prop := r = 7 ∨ r = 8 ∨ r = 9 ∨ r = 10 ∨ r = 11 ∨ r = 12 ∨ r = 13
theorem escB_rest (T : PrintTabs) (r : Nat) (h : ¬ (r = 34 ∨ r = 92)) (hp : ¬ isPrintR T (r : Int) = true) (hn : ¬ NamedR r) (hv : validRune (r : Int) = true) :
    escB T r = if r < 32 ∨ r = 127 then 92 :: 120 :: hexBs r 2 else if r < 65536 then 92 :: 117 :: hexBs r 4 else 92 :: 85 :: hexBs r 8 := by
  unfold NamedR at hn
  unfold escB escRune
  rw [if_neg (by omega), if_neg hp, if_neg (by omega), if_neg (by omega), if_neg (by omega), if_neg (by omega), if_neg (by omega), if_neg (by omega), if_neg (by omega)]
  by_cases c : r < 32 ∨ r = 127
  · rw [if_pos (by omega), if_pos c, show [92, 120, hexDigit ((r : Int).toNat / 16), hexDigit ((r : Int).toNat % 16)] = 92 :: 120 :: hexDigits r 2 by
      rw [← two_digits r (by omega)]; rfl]
    simp [hexDigits_map]
  · rw [if_neg (by omega), if_neg c, if_neg (by simp [hv])]
    by_cases c2 : r < 65536
    · rw [if_pos (by omega), if_pos c2]; simp [hexDigits_map]
    · rw [if_neg (by omega), if_neg c2]; simp [hexDigits_map]
theorem quoted_snoc (T : PrintTabs) (rs : List Nat) (r : Nat) : quoted T (rs ++ [r]) = quoted T rs ++ escB T r := by simp [quoted]
theorem escB_len (T : PrintTabs) (r : Nat) : (escB T r).length ≤ 10 := by unfold escB; rw [List.length_map]; exact escRune_length_le T _
theorem quoted_len (T : PrintTabs) : ∀ (rs : List Nat), (quoted T rs).length ≤ 10 * rs.length
  | [] => by simp [quoted]
  | r :: rs => by
    have h1 := quoted_len T rs
    have h2 := escB_len T r
    rw [show quoted T (r :: rs) = escB T r ++ quoted T rs by simp [quoted], List.length_append, List.length_cons]
    omega
theorem text_len : ∀ (rs : List Nat), rs.length ≤ (textOf rs).length
  | [] => by simp
  | r :: rs => by
    have h1 := text_len rs
    have h2 := encodeRuneZ_length (r : Int)
    rw [textOf_cons, List.length_append, List.length_cons, encodeRune_len]
    omega
theorem hexBs_take (r : Nat) : ∀ (g j : Nat), j < g → (hexBs r g).take (j + 1) = (hexBs r g).take j ++ [hexB (r / 16 ^ (g - 1 - j) % 16)]
  | g + 1, 0, _ => by simp [hexBs]
  | g + 1, j + 1, h => by
    have e : g + 1 - 1 - (j + 1) = g - 1 - j := by omega
    rw [e]
    simp only [hexBs, List.take_succ_cons, List.cons_append]
    rw [hexBs_take r g j (by omega)]
/-- The first byte. -/
theorem first_byte (r : Nat) (hv : validRune (r : Int) = true) (t : List UInt8) : ((encodeRune (r : Int) ++ t).getD 0 0).toNat = r ∧ r < 128 ∨ 128 ≤ ((encodeRune (r : Int) ++ t).getD 0 0).toNat ∧ 128 ≤ r ∧ 2 ≤ (encodeRune (r : Int)).length := by
  rw [validRune_iff] at hv
  by_cases h1 : r < 128
  · left; rw [enc_ascii r h1]; refine ⟨?_, h1⟩; simp; omega
  · right
    have key : ∀ (x : Int) (l : List Int), encodeRuneZ (r : Int) = x :: l → 128 ≤ x → x < 256 → 1 ≤ l.length → 128 ≤ ((encodeRune (r : Int) ++ t).getD 0 0).toNat ∧ 128 ≤ r ∧ 2 ≤ (encodeRune (r : Int)).length := by
      intro x l he h2 h3 h4
      unfold encodeRune
      rw [he]
      refine ⟨?_, by omega, by simp; omega⟩
      simp only [List.map_cons, List.cons_append, List.getD_cons_zero]
      rw [UInt8.toNat_ofNat']; omega
    by_cases a2 : r ≤ 2047
    · exact key _ _ (encodeRuneZ_two (by omega) (by omega)) (by omega) (by omega) (by simp)
    by_cases a3 : r ≤ 65535
    · exact key _ _ (encodeRuneZ_three (by omega)) (by omega) (by omega) (by simp)
    · exact key _ _ (encodeRuneZ_four (by omega) (by omega)) (by omega) (by omega) (by simp)
end Go.Proofs.YtbimbpplkhdeiaaDoor
