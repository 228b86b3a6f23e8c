/- Plain lists: UTF-8 texts as lists of runes; a quoted text and what it is read as. No program in sight. -/
import Derived.Lib.QuoteLoop
import Derived.Lib.RuneBytes
import Derived.Lib.DecodeN
namespace Go.Proofs.YtbimbpplkhdeiaaDoor
open Go.Lib

theorem validRune_iff (r : Int) : validRune r = true ↔ (0 ≤ r ∧ r < 55296) ∨ (57343 < r ∧ r ≤ 1114111) := by simp [validRune]

set_option maxHeartbeats 1000000 in
/-- What decodes without an error is a valid rune, and its bytes are the rune's own. -/
theorem decodeN_chunk (n b0 b1 b2 b3 : Nat) (hn : 1 ≤ n) (h0 : b0 < 256) (r k : Nat) (hd : decodeN n b0 b1 b2 b3 = (r, k)) (hg : ¬ (r = 65533 ∧ k < 2)) :
    validRune (r : Int) = true ∧ 1 ≤ k ∧ k ≤ n ∧ k ≤ 4 ∧ encodeRuneZ (r : Int) = (([b0, b1, b2, b3] : List Nat).take k).map (fun x : Nat => (x : Int)) := by
  rw [validRune_iff]
  unfold decodeN at hd
  by_cases c0 : b0 < 128
  · rw [if_pos c0] at hd; simp only [Prod.mk.injEq] at hd; obtain ⟨rfl, rfl⟩ := hd
    refine ⟨by omega, by omega, by omega, by omega, ?_⟩
    rw [encodeRuneZ_one (by omega) (by omega)]; rfl
  rw [if_neg c0] at hd
  by_cases c1 : b0 / 32 = 6 ∧ (1 < n ∧ b1 / 64 = 2)
  · rw [if_pos c1] at hd
    split at hd
    · simp only [Prod.mk.injEq] at hd; obtain ⟨rfl, rfl⟩ := hd
      refine ⟨by omega, by omega, by omega, by omega, ?_⟩
      rw [encodeRuneZ_two (by omega) (by omega)]
      simp only [List.take_succ_cons, List.take_zero, List.map_cons, List.map_nil, List.cons.injEq, and_true]
      refine ⟨by omega, by omega⟩
    · simp only [Prod.mk.injEq] at hd; obtain ⟨rfl, rfl⟩ := hd; exact absurd ⟨rfl, by omega⟩ hg
  rw [if_neg c1] at hd
  by_cases c2 : b0 / 16 = 14 ∧ (1 < n ∧ b1 / 64 = 2) ∧ (2 < n ∧ b2 / 64 = 2)
  · rw [if_pos c2] at hd
    split at hd
    · simp only [Prod.mk.injEq] at hd; obtain ⟨rfl, rfl⟩ := hd
      refine ⟨by omega, by omega, by omega, by omega, ?_⟩
      rw [encodeRuneZ_three (by omega)]
      simp only [List.take_succ_cons, List.take_zero, List.map_cons, List.map_nil, List.cons.injEq, and_true]
      refine ⟨by omega, by omega, by omega⟩
    · simp only [Prod.mk.injEq] at hd; obtain ⟨rfl, rfl⟩ := hd; exact absurd ⟨rfl, by omega⟩ hg
  rw [if_neg c2] at hd
  by_cases c3 : b0 / 8 = 30 ∧ (1 < n ∧ b1 / 64 = 2) ∧ (2 < n ∧ b2 / 64 = 2) ∧ (3 < n ∧ b3 / 64 = 2)
  · rw [if_pos c3] at hd
    split at hd
    · simp only [Prod.mk.injEq] at hd; obtain ⟨rfl, rfl⟩ := hd
      refine ⟨by omega, by omega, by omega, by omega, ?_⟩
      rw [encodeRuneZ_four (by omega) (by omega)]
      simp only [List.take_succ_cons, List.take_zero, List.map_cons, List.map_nil, List.cons.injEq, and_true]
      refine ⟨by omega, by omega, by omega, by omega⟩
    · simp only [Prod.mk.injEq] at hd; obtain ⟨rfl, rfl⟩ := hd; exact absurd ⟨rfl, by omega⟩ hg
  · rw [if_neg c3] at hd
    simp only [Prod.mk.injEq] at hd; obtain ⟨rfl, rfl⟩ := hd; exact absurd ⟨rfl, by omega⟩ hg

set_option maxHeartbeats 1000000 in
/-- A valid rune's bytes, whatever stands behind them, decode as it. -/
theorem decodeN_encode (r : Nat) (hv : validRune (r : Int) = true) (n b0 b1 b2 b3 : Nat) (hn : (encodeRuneZ (r : Int)).length ≤ n)
    (hb : (([b0, b1, b2, b3] : List Nat).take (encodeRuneZ (r : Int)).length).map (fun x : Nat => (x : Int)) = encodeRuneZ (r : Int)) : decodeN n b0 b1 b2 b3 = (r, (encodeRuneZ (r : Int)).length) := by
  rw [validRune_iff] at hv
  by_cases a1 : r ≤ 127
  · rw [encodeRuneZ_one (by omega) (by omega)] at hn hb ⊢
    simp at hb hn ⊢
    unfold decodeN; rw [if_pos (by omega)]
    simp only [Prod.mk.injEq, and_true]; omega
  by_cases a2 : r ≤ 2047
  · rw [encodeRuneZ_two (by omega) (by omega)] at hn hb ⊢
    simp at hb hn ⊢
    obtain ⟨e0, e1⟩ := hb
    unfold decodeN; rw [if_neg (by omega), if_pos (by omega), if_pos (by omega)]
    simp only [Prod.mk.injEq, and_true]; omega
  by_cases a3 : r ≤ 65535
  · rw [encodeRuneZ_three (by omega)] at hn hb ⊢
    simp at hb hn ⊢
    obtain ⟨e0, e1, e2⟩ := hb
    unfold decodeN; rw [if_neg (by omega), if_neg (by omega), if_pos (by omega), if_pos (by omega)]
    simp only [Prod.mk.injEq, and_true]; omega
  · rw [encodeRuneZ_four (by omega) (by omega)] at hn hb ⊢
    simp at hb hn ⊢
    obtain ⟨e0, e1, e2, e3⟩ := hb
    unfold decodeN; rw [if_neg (by omega), if_neg (by omega), if_neg (by omega), if_pos (by omega), if_pos (by omega)]
    simp only [Prod.mk.injEq, and_true]; omega

/-- A text of UTF-8: the bytes of valid runes. -/
def textOf (rs : List Nat) : List UInt8 := rs.flatMap fun r : Nat => encodeRune (r : Int)
def AllValid (rs : List Nat) : Prop := ∀ r ∈ rs, validRune (r : Int) = true
/-- What a Go text of these bytes decodes as. -/
def decL (l : List UInt8) : Nat × Nat := decodeN l.length (l.getD 0 0).toNat (l.getD 1 0).toNat (l.getD 2 0).toNat (l.getD 3 0).toNat

theorem byte_back (x : Int) (h : 0 ≤ x ∧ x < 256) : ((x.toNat.toUInt8).toNat : Int) = x := by
  rw [UInt8.toNat_ofNat']; omega
theorem encodeRune_nums (r : Int) : (encodeRune r).map (fun b => (b.toNat : Int)) = encodeRuneZ r := by
  unfold encodeRune
  rw [List.map_map]
  conv => rhs; rw [← List.map_id (encodeRuneZ r)]
  exact List.map_congr_left fun x hx => byte_back x (encodeRuneZ_byte r x hx)
theorem encodeRune_len (r : Int) : (encodeRune r).length = (encodeRuneZ r).length := by simp [encodeRune]
theorem bytes_inj {a b : List UInt8} (h : a.map (fun x => (x.toNat : Int)) = b.map (fun x => (x.toNat : Int))) : a = b := by
  induction a generalizing b with
  | nil => cases b with
    | nil => rfl
    | cons _ _ => simp at h
  | cons x t ih => cases b with
    | nil => simp at h
    | cons y u =>
      simp only [List.map_cons, List.cons.injEq] at h
      have e : x = y := UInt8.toNat_inj.1 (by omega)
      rw [ih h.2, e]
theorem first4 (l : List UInt8) (k : Nat) (hk : k ≤ l.length) (hk4 : k ≤ 4) : ([(l.getD 0 0).toNat, (l.getD 1 0).toNat, (l.getD 2 0).toNat, (l.getD 3 0).toNat] : List Nat).take k = (l.take k).map (·.toNat) := by
  match k, hk, hk4 with
  | 0, _, _ => simp
  | 1, hk, _ => match l, hk with | a :: t, _ => simp
  | 2, hk, _ => match l, hk with | a :: b :: t, _ => simp
  | 3, hk, _ => match l, hk with | a :: b :: c :: t, _ => simp
  | 4, hk, _ => match l, hk with | a :: b :: c :: d :: t, _ => simp
theorem decL_chunk (l : List UInt8) (hl : 1 ≤ l.length) (r k : Nat) (hd : decL l = (r, k)) (hg : ¬ (r = 65533 ∧ k < 2)) :
    validRune (r : Int) = true ∧ 1 ≤ k ∧ k ≤ l.length ∧ l.take k = encodeRune (r : Int) := by
  obtain ⟨a, b, c, c4, d⟩ := decodeN_chunk _ _ _ _ _ hl (UInt8.toNat_lt _) r k hd hg
  refine ⟨a, b, c, bytes_inj ?_⟩
  rw [encodeRune_nums, d, first4 l k c c4, List.map_map]; rfl
theorem decL_encode (r : Nat) (hv : validRune (r : Int) = true) (t : List UInt8) : decL (encodeRune (r : Int) ++ t) = (r, (encodeRune (r : Int)).length) := by
  have hl := encodeRuneZ_length (r : Int)
  rw [encodeRune_len]
  refine decodeN_encode r hv _ _ _ _ _ (by rw [List.length_append, encodeRune_len]; omega) ?_
  rw [first4 _ _ (by rw [List.length_append, encodeRune_len]; omega) hl.2, ← encodeRune_len, List.take_left', List.map_map]
  · exact encodeRune_nums _
  · rfl
theorem decL_width (l : List UInt8) (hl : 1 ≤ l.length) : 1 ≤ (decL l).2 ∧ (decL l).2 ≤ l.length := by
  refine ⟨?_, decodeN_width_le _ _ _ _ _ hl⟩
  unfold decL decodeN
  repeat' split
  all_goals (simp only; omega)
theorem textOf_cons (r : Nat) (rs : List Nat) : textOf (r :: rs) = encodeRune (r : Int) ++ textOf rs := by simp [textOf]
theorem textOf_append (a b : List Nat) : textOf (a ++ b) = textOf a ++ textOf b := by simp [textOf]
theorem textOf_nil : textOf [] = [] := rfl
theorem encode_question : encodeRune (63 : Nat) = [63] := by decide
theorem AllValid.append {a b : List Nat} (ha : AllValid a) (hb : AllValid b) : AllValid (a ++ b) := fun r h => (List.mem_append.1 h).elim (ha r) (hb r)
theorem AllValid.one {r : Nat} (h : validRune (r : Int) = true) : AllValid [r] := fun x hx => by simp at hx; subst hx; exact h
theorem encodeRune_ne (r : Int) : encodeRune r ≠ [] := by
  intro h; have := encodeRuneZ_length r; rw [← encodeRune_len, h] at this; simp at this
theorem textOf_eq_nil {rs : List Nat} (h : textOf rs = []) : rs = [] := by
  cases rs with
  | nil => rfl
  | cons r t => rw [textOf_cons] at h; exact absurd (List.append_eq_nil_iff.1 h).1 (encodeRune_ne _)

/- ## What a quoted text is read as -/
def hexB (d : Nat) : UInt8 := if d < 10 then (48 + d).toUInt8 else (87 + d).toUInt8
def hexBs (r : Nat) : Nat → List UInt8
  | 0 => []
  | n + 1 => hexB (r / 16 ^ n % 16) :: hexBs r n
theorem hexBs_len (r : Nat) : ∀ n, (hexBs r n).length = n
  | 0 => rfl
  | n + 1 => by simp [hexBs, hexBs_len r n]
/-- The ten letters of a short escape, and what they say. -/
def names : List UInt8 := [110, 114, 116, 97, 98, 102, 118, 34, 39, 92]
def says : List UInt8 := [10, 13, 9, 7, 8, 12, 11, 34, 39, 92]
/-- An escape and its bytes. -/
inductive Esc : List UInt8 → List UInt8 → Prop
  | named (k : Nat) (h : k < 10) : Esc [92, names.getD k 0] [says.getD k 0]
  | two (v : Nat) (h : v < 128) : Esc (92 :: 120 :: hexBs v 2) [v.toUInt8]
  | four (v : Nat) (h : v < 65536) (hv : validRune (v : Int) = true) : Esc (92 :: 117 :: hexBs v 4) (encodeRune (v : Int))
  | eight (v : Nat) (h : v ≤ 1114111) (hv : validRune (v : Int) = true) : Esc (92 :: 85 :: hexBs v 8) (encodeRune (v : Int))
theorem Esc.head {e p : List UInt8} (h : Esc e p) : ∃ t, e = 92 :: t := by cases h <;> exact ⟨_, rfl⟩
theorem Esc.len {e p : List UInt8} (h : Esc e p) : 2 ≤ e.length ∧ e.length ≤ 10 ∧ p.length ≤ 4 ∧ 1 ≤ p.length := by
  cases h with
  | named k h => simp
  | two v h => simp [hexBs_len]
  | four v h hv => have := encodeRuneZ_length (v : Int); simp [hexBs_len, encodeRune_len]; omega
  | eight v h hv => have := encodeRuneZ_length (v : Int); simp [hexBs_len, encodeRune_len]; omega
/-- A text between quotes and what it is read as. -/
inductive Unq : List UInt8 → List UInt8 → Prop
  | nil : Unq [] []
  | plain (b : UInt8) (t r : List UInt8) (h1 : b ≠ 34) (h2 : b ≠ 10) (h3 : b ≠ 13) (h4 : b ≠ 92) (h : Unq t r) : Unq (b :: t) (b :: r)
  | esc (e p t r : List UInt8) (he : Esc e p) (h : Unq t r) : Unq (e ++ t) (p ++ r)
theorem Unq.plains : ∀ (l : List UInt8) (_ : ∀ b ∈ l, b ≠ 34 ∧ b ≠ 10 ∧ b ≠ 13 ∧ b ≠ 92) {t r : List UInt8} (_ : Unq t r), Unq (l ++ t) (l ++ r)
  | [], _, _, _, h => h
  | b :: l, hb, t, r, h => .plain b _ _ (hb b (by simp)).1 (hb b (by simp)).2.1 (hb b (by simp)).2.2.1 (hb b (by simp)).2.2.2 (Unq.plains l (fun x hx => hb x (by simp [hx])) h)

/-- A rune in a quoted text. -/
def escB (T : PrintTabs) (r : Nat) : List UInt8 := (escRune T (r : Int)).map fun x => x.toNat.toUInt8
def quoted (T : PrintTabs) (rs : List Nat) : List UInt8 := rs.flatMap (escB T)
theorem hexDigits_map (r : Nat) : ∀ n, (hexDigits r n).map (fun x => x.toNat.toUInt8) = hexBs r n
  | 0 => rfl
  | n + 1 => by
    simp only [hexDigits, hexBs, List.map_cons, hexDigits_map r n, List.cons.injEq, and_true]
    unfold hexDigit hexB; split <;> (congr 1)
theorem enc_ascii (r : Nat) (h : r < 128) : encodeRune (r : Int) = [r.toUInt8] := by
  unfold encodeRune; rw [encodeRuneZ_one (by omega) (by omega)]; simp
theorem two_digits (r : Nat) (h : r < 128) : [hexDigit (r / 16), hexDigit (r % 16)] = hexDigits r 2 := by
  have : r / 16 % 16 = r / 16 := Nat.mod_eq_of_lt (by omega)
  simp [hexDigits, this]
theorem says_lt : ∀ k, k < 10 → (says.getD k 0).toNat < 128 := by decide
theorem unq_rune (T : PrintTabs) (r : Nat) (hv : validRune (r : Int) = true) {t u : List UInt8} (h : Unq t u) : Unq (escB T r ++ t) (encodeRune (r : Int) ++ u) := by
  have hv' := hv
  rw [validRune_iff] at hv'
  have nm : ∀ k (_ : k < 10), r = (says.getD k 0).toNat → (escRune T (r : Int)) = [92, ((names.getD k 0).toNat : Int)] → Unq (escB T r ++ t) (encodeRune (r : Int) ++ u) := by
    intro k hk h1 h2
    have hr : r < 128 := by rw [h1]; exact says_lt k hk
    unfold escB
    rw [h2, enc_ascii r hr]
    have e := Unq.esc _ _ _ _ (Esc.named k hk) h
    have e1 : r.toUInt8 = says.getD k 0 := by rw [h1]; simp
    simpa [e1] using e
  by_cases c0 : (r : Int) = 34 ∨ (r : Int) = 92
  · rcases c0 with c | c
    · exact nm 7 (by omega) (by simp [says]; omega) (by simp [escRune, c, names])
    · exact nm 9 (by omega) (by simp [says]; omega) (by simp [escRune, c, names])
  by_cases c1 : isPrintR T (r : Int) = true
  · have e : escB T r = encodeRune (r : Int) := by unfold escB encodeRune escRune; rw [if_neg c0, if_pos c1]
    rw [e]
    refine Unq.plains _ ?_ h
    intro b hb
    by_cases hr : r < 128
    · rw [enc_ascii r hr] at hb
      simp only [List.mem_singleton] at hb
      have hl : isPrintLatin (r : Int) = true := by simpa [isPrintR, show ((r : Int) ≤ 255) by omega] using c1
      simp [isPrintLatin] at hl
      have hbn : b.toNat = r := by rw [hb, UInt8.toNat_ofNat']; omega
      refine ⟨?_, ?_, ?_, ?_⟩ <;> (intro hh; rw [hh] at hbn; simp at hbn; omega)
    · have hbig : ∀ x ∈ encodeRuneZ (r : Int), 128 ≤ x := by
        intro x hx
        unfold encodeRuneZ at hx
        rw [if_neg (by omega)] at hx
        split at hx
        · simp at hx; omega
        split at hx
        · simp at hx; omega
        split at hx
        · simp at hx; omega
        · simp at hx; omega
      unfold encodeRune at hb
      obtain ⟨x, hx, rfl⟩ := List.mem_map.1 hb
      have h1 := hbig x hx
      have h2 := encodeRuneZ_byte _ x hx
      have hbn : (x.toNat.toUInt8).toNat = x.toNat := by rw [UInt8.toNat_ofNat']; omega
      refine ⟨?_, ?_, ?_, ?_⟩ <;> (intro hh; rw [hh] at hbn; simp at hbn; omega)
  by_cases d7 : (r : Int) = 7
  · exact nm 3 (by omega) (by simp [says]; omega) (by rw [d7]; simp [escRune, isPrintR, isPrintLatin, names])
  by_cases d8 : (r : Int) = 8
  · exact nm 4 (by omega) (by simp [says]; omega) (by rw [d8]; simp [escRune, isPrintR, isPrintLatin, names])
  by_cases d12 : (r : Int) = 12
  · exact nm 5 (by omega) (by simp [says]; omega) (by rw [d12]; simp [escRune, isPrintR, isPrintLatin, names])
  by_cases d10 : (r : Int) = 10
  · exact nm 0 (by omega) (by simp [says]; omega) (by rw [d10]; simp [escRune, isPrintR, isPrintLatin, names])
  by_cases d13 : (r : Int) = 13
  · exact nm 1 (by omega) (by simp [says]; omega) (by rw [d13]; simp [escRune, isPrintR, isPrintLatin, names])
  by_cases d9 : (r : Int) = 9
  · exact nm 2 (by omega) (by simp [says]; omega) (by rw [d9]; simp [escRune, isPrintR, isPrintLatin, names])
  by_cases d11 : (r : Int) = 11
  · exact nm 6 (by omega) (by simp [says]; omega) (by rw [d11]; simp [escRune, isPrintR, isPrintLatin, names])
  have hesc : escRune T (r : Int) = if (r : Int) < 32 ∨ (r : Int) = 127 then [92, 120, hexDigit (r / 16), hexDigit (r % 16)] else if (r : Int) < 65536 then 92 :: 117 :: hexDigits r 4 else 92 :: 85 :: hexDigits r 8 := by
    unfold escRune
    rw [if_neg c0, if_neg c1, if_neg d7, if_neg d8, if_neg d12, if_neg d10, if_neg d13, if_neg d9, if_neg d11, if_neg (show ¬ validRune (r : Int) = false by simp [hv])]
    rfl
  unfold escB
  rw [hesc]
  split
  · next c =>
    have hr : r < 128 := by omega
    rw [enc_ascii r hr, show [92, 120, hexDigit (r / 16), hexDigit (r % 16)] = 92 :: 120 :: hexDigits r 2 by rw [← two_digits r hr]]
    have e := Unq.esc _ _ _ _ (Esc.two r hr) h
    simpa [hexDigits_map] using e
  split
  · next c =>
    have e := Unq.esc _ _ _ _ (Esc.four r (by omega) hv) h
    simpa [hexDigits_map] using e
  · have e := Unq.esc _ _ _ _ (Esc.eight r (by omega) hv) h
    simpa [hexDigits_map] using e
theorem unq_text (T : PrintTabs) : ∀ (rs : List Nat) (_ : AllValid rs), Unq (quoted T rs) (textOf rs)
  | [], _ => .nil
  | r :: rs, h => by
    rw [textOf_cons, show quoted T (r :: rs) = escB T r ++ quoted T rs by simp [quoted]]
    exact unq_rune T r (h r (by simp)) (unq_text T rs fun x hx => h x (by simp [hx]))
end Go.Proofs.YtbimbpplkhdeiaaDoor
