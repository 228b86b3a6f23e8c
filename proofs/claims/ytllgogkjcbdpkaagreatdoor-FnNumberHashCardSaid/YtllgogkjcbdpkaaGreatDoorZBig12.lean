/- Written by wip/tools/port2.py out of the text Big12 of seat Ytidkdjnfpepnfaa. -/
/- Walks of the package's great numbers: bigInt, same, alias, shifting to the left. -/
import Derived.Test.YtllgogkjcbdpkaaGreatDoorMZ
namespace Go.Proofs.YtllgogkjcbdpkaaGreatDoor.Z
open Go.RowKit

/-- A great number that is read only: new, or one that was there. -/
def GivesB (b : Nat) (z : Int) (w : World) (e : Ending) (w' : World) : Prop :=
  ∃ g sl xs, e = .returned (.pointer (some ⟨g, 0, none⟩)) ∧ (g < b ∨ w.heap.size ≤ g) ∧ BInt 0 w' g z sl xs ∧ Below w.heap.size w w'

/-- Where the great part of an integer lies. -/
def PtrLt (b : Nat) (v : Value) : Prop := ∀ a g, v = .agg #[.int .i64 a, .pointer (some ⟨g, 0, none⟩)] → g < b
theorem KInt.ptrLt {B : Nat} {w : World} {v : Value} {z : Int} (h : KInt B w v z) : PtrLt w.heap.size v := by
  intro a g hv
  rcases h with ⟨_, rfl⟩ | ⟨_, g', sl, xs, rfl, _, hx⟩
  · simp at hv
  · simp at hv
    obtain ⟨_, rfl⟩ := hv
    exact hx.lt

set_option maxRecDepth 100000 in
theorem f101_nil (a : Option Addr) (n c : Nat) (w : World) : Calls Tryz.prog 101 #[.slice none 0 0, .slice a n c] w fun e w' => e = .returned (.bool false) ∧ ∃ m, w' = w.drewN m := by
  by_cases h0 : n = 0
  · subst h0
    go_enter Tryz.func101, Tryz.ntmps101
    go_wp2_with fail
    go_quiet (fail)
    go_wp2
    go_ret
    exact ⟨rfl, by first | exact ⟨_, rfl⟩ | (simp only [World.drewN_drewN]; exact ⟨_, rfl⟩)⟩
  · have hne : ((0 : Int) == (n : Int)) = false := by rw [beq_eq_false_iff_ne]; omega
    go_enter Tryz.func101, Tryz.ntmps101
    go_wp2_with fail
    go_quiet (fail)
    go_wp2
    go_ret
    exact ⟨rfl, by first | exact ⟨_, rfl⟩ | (simp only [World.drewN_drewN]; exact ⟨_, rfl⟩)⟩

set_option maxRecDepth 100000 in
theorem f102_nil (v : Value) (w : World) : Calls Tryz.prog 102 #[.slice none 0 0, v] w fun e w' => e = .returned (.bool false) ∧ ∃ m, w' = w.drewN m := by
  go_enter Tryz.func102, Tryz.ntmps102
  go_wp2_with fail
  go_quiet (fail)
  go_wp2
  go_ret
  exact ⟨rfl, by first | exact ⟨_, rfl⟩ | (simp only [World.drewN_drewN]; exact ⟨_, rfl⟩)⟩

/-- The words of a number, shifted by s bits within their length. -/
def shlW (s : Nat) (xs : List Nat) (j : Nat) : Nat := xs.getD j 0 * 2 ^ s % W + (if j = 0 then 0 else xs.getD (j - 1) 0 / 2 ^ (64 - s))
def shlL (s : Nat) (xs : List Nat) : List Nat := (List.range xs.length).map (shlW s xs)
theorem W_split (s : Nat) (hs : s ≤ 64) : W = 2 ^ (64 - s) * 2 ^ s := by
  rw [← Nat.pow_add, show 64 - s + s = 64 from by omega]; rfl
theorem top_part (s x : Nat) (hs : s ≤ 64) : x * 2 ^ s / W = x / 2 ^ (64 - s) := by
  rw [W_split s hs, Nat.mul_div_mul_right _ _ (Nat.pow_pos (by decide))]
theorem low_part (s x : Nat) (hs : s ≤ 64) : x * 2 ^ s % W = 2 ^ s * (x % 2 ^ (64 - s)) := by
  rw [W_split s hs, Nat.mul_mod_mul_right, Nat.mul_comm]
theorem high_lt (s x : Nat) (hs : s ≤ 64) (hx : x < W) : x / 2 ^ (64 - s) < 2 ^ s := by
  rw [Nat.div_lt_iff_lt_mul (Nat.pow_pos (by decide)), Nat.mul_comm, ← W_split s hs]; exact hx
theorem shl_word (s x y : Nat) (hs : s ≤ 64) (hy : y < W) : (x * 2 ^ s % W) ||| (y / 2 ^ (64 - s)) = x * 2 ^ s % W + y / 2 ^ (64 - s) := by
  rw [low_part s x hs, ← Nat.two_pow_add_eq_or_of_lt (high_lt s y hs hy)]
theorem shlW_lt (s : Nat) (hs : s ≤ 64) (xs : List Nat) (hd : ∀ d ∈ xs, d < W) (j : Nat) : shlW s xs j < W := by
  have h1 := low_part s (xs.getD j 0) hs
  have h2 : xs.getD j 0 % 2 ^ (64 - s) + 1 ≤ 2 ^ (64 - s) := Nat.mod_lt _ (Nat.pow_pos (by decide))
  have h3 : 2 ^ s * (xs.getD j 0 % 2 ^ (64 - s) + 1) ≤ 2 ^ s * 2 ^ (64 - s) := Nat.mul_le_mul_left _ h2
  rw [Nat.mul_comm (2 ^ s) (2 ^ (64 - s)), ← W_split s hs, Nat.mul_add, ← h1] at h3
  have h5 : 0 < 2 ^ s := Nat.pow_pos (by decide)
  unfold shlW
  split
  · omega
  · have h4 : xs.getD (j - 1) 0 / 2 ^ (64 - s) < 2 ^ s := high_lt s _ hs (by
      by_cases h : j - 1 < xs.length
      · simp [h]; exact hd _ (List.getElem_mem h)
      · simp [h]; exact W_pos)
    omega
/-- The number of the first k words, shifted. -/
theorem shl_sum (s : Nat) (hs : s ≤ 64) (xs : List Nat) (k : Nat) (hk : k ≤ xs.length) :
    wv ((shlL s xs).take k) + W ^ k * (if k = 0 then 0 else xs.getD (k - 1) 0 / 2 ^ (64 - s)) = wv (xs.take k) * 2 ^ s := by
  induction k with
  | zero => simp [wv]
  | succ k ih =>
    have h1 := ih (by omega)
    have hl : k < (shlL s xs).length := by simp [shlL]; omega
    have hx : k < xs.length := by omega
    rw [List.take_succ_eq_append_getElem hl, List.take_succ_eq_append_getElem hx, wv_append, wv_append]
    simp only [List.length_take, Nat.min_eq_left (Nat.le_of_lt hl), Nat.min_eq_left (Nat.le_of_lt hx), wv, Nat.mul_zero, Nat.add_zero, Nat.add_sub_cancel, Nat.add_one_ne_zero, if_false]
    have e1 : (shlL s xs)[k] = shlW s xs k := by simp [shlL]
    have e2 : xs.getD k 0 = xs[k] := by simp [hx]
    rw [e1, e2, Nat.add_mul, ← h1]
    unfold shlW
    rw [e2]
    have h3 := Nat.mod_add_div (xs[k] * 2 ^ s) W
    rw [top_part s _ hs] at h3
    have h4 : W ^ k * (xs[k] * 2 ^ s % W) + W ^ k * (W * (xs[k] / 2 ^ (64 - s))) = W ^ k * (xs[k] * 2 ^ s) := by rw [← Nat.mul_add, h3]
    rw [Nat.pow_succ, Nat.mul_add, Nat.mul_assoc (W ^ k) W, Nat.mul_assoc (W ^ k) xs[k], ← h4]
    omega
theorem shl_all (s : Nat) (hs : s ≤ 64) (xs : List Nat) (h0 : 0 < xs.length) : wv (shlL s xs) + W ^ xs.length * (xs.getD (xs.length - 1) 0 / 2 ^ (64 - s)) = wv xs * 2 ^ s := by
  have := shl_sum s hs xs xs.length (Nat.le_refl _)
  rw [if_neg (by omega), List.take_of_length_le (by simp [shlL]), List.take_of_length_le (Nat.le_refl _)] at this
  exact this

theorem OwnW.slice {B : Nat} {w : World} {g n c : Nat} {xs : List Nat} (h : OwnW B w g n c xs) : Row B .u64 w (.slice (some ⟨g, 0, none⟩) n c) xs := h.row

theorem eq_of_all' (l k : List Nat) (hl : l.length = k.length) (h : ∀ i, i < l.length → l.getD i 0 = k.getD i 0) : l = k := by
  apply List.ext_getElem hl
  intro i a b
  have := h i a
  simpa [a, b] using this

/-- The words from q on have been laid, from the highest down to i. -/
def Shifted (s q i : Nat) (xs Z Z' : List Nat) : Prop := Z'.length = Z.length ∧ ∀ t, t < Z.length → Z'.getD t 0 = if q + i ≤ t ∧ t < q + xs.length then shlW s xs (t - q) else Z.getD t 0
theorem Shifted.start (s q : Nat) (xs Z : List Nat) : Shifted s q xs.length xs Z Z := ⟨rfl, fun t _ => by rw [if_neg (by omega)]⟩
theorem Shifted.step {s q i : Nat} {xs Z Z' : List Nat} (h : Shifted s q (i + 1) xs Z Z') (hi : i < xs.length) : Shifted s q i xs Z (Z'.set (q + i) (shlW s xs i)) := by
  refine ⟨by simpa using h.1, fun t ht => ?_⟩
  have hl := h.1
  by_cases he : t = q + i
  · subst he
    rw [if_pos (by omega)]
    simp [show q + i < Z'.length by omega]
  · have h2 := h.2 t ht
    have h3 : (Z'.set (q + i) (shlW s xs i)).getD t 0 = Z'.getD t 0 := by
      simp [show q + i ≠ t by omega]
    rw [h3, h2]
    by_cases hc : q + (i + 1) ≤ t ∧ t < q + xs.length
    · rw [if_pos hc, if_pos (by omega)]
    · rw [if_neg hc, if_neg (by omega)]
theorem Shifted.done {s q : Nat} {xs Z Z' : List Nat} (h : Shifted s q 0 xs Z Z') (hq : q + xs.length ≤ Z.length) : Z' = Z.take q ++ (shlL s xs ++ Z.drop (q + xs.length)) := by
  have hsl : (shlL s xs).length = xs.length := by simp [shlL]
  refine eq_of_all' _ _ (by rw [h.1]; simp [hsl]; omega) fun t ht => ?_
  rw [h.1] at ht
  rw [h.2 t ht]
  by_cases h1 : t < q
  · rw [if_neg (by omega)]
    simp [List.getElem?_append_left, show t < min q Z.length by omega, ht]
  · by_cases h2 : t < q + xs.length
    · rw [if_pos (by omega)]
      have e : (Z.take q ++ (shlL s xs ++ Z.drop (q + xs.length)))[t]? = (shlL s xs)[t - q]? := by
        rw [List.getElem?_append_right (by simp; omega), List.getElem?_append_left (by simp [hsl]; omega)]
        simp [Nat.min_eq_left (show q ≤ Z.length by omega)]
      have e2 : (shlL s xs)[t - q]? = some (shlW s xs (t - q)) := by
        rw [List.getElem?_eq_getElem (by rw [hsl]; omega)]; simp [shlL]
      rw [List.getD_eq_getElem?_getD, e, e2]; rfl
    · rw [if_neg (by omega)]
      have e : (Z.take q ++ (shlL s xs ++ Z.drop (q + xs.length)))[t]? = Z[t]? := by
        rw [List.getElem?_append_right (by simp; omega), List.getElem?_append_right (by simp [hsl]; omega)]
        simp [hsl, Nat.min_eq_left (show q ≤ Z.length by omega)]
        congr 1; omega
      rw [List.getD_eq_getElem?_getD, List.getD_eq_getElem?_getD, e]

theorem wrap_shl (x s : Nat) : IntKind.u64.wrap ((x : Int) * 2 ^ s) = ((x * 2 ^ s % W : Nat) : Int) := by
  rw [IntKind.wrap_u64, Int.natCast_emod, Int.natCast_mul, Int.natCast_pow]; rfl
theorem or_shl (s t x y : Nat) (hs : s ≤ 64) (ht : t = 64 - s) (hy : y < W) : bits .or .u64 (IntKind.u64.wrap ((x : Int) * 2 ^ s)) ((y : Int) / 2 ^ t) = ((x * 2 ^ s % W + y / 2 ^ t : Nat) : Int) := by
  subst ht
  have e : ((y : Int) / 2 ^ (64 - s)) = ((y / 2 ^ (64 - s) : Nat) : Int) := by push_cast; rfl
  have h1 : x * 2 ^ s % W < W := Nat.mod_lt _ W_pos
  have h2 : y / 2 ^ (64 - s) ≤ y := Nat.div_le_self _ _
  unfold W at h1 hy
  rw [wrap_shl, e, (bits_nat .u64 64 (by decide) (fun n h1 h2 => wraps_u64 n h1 h2) _ _ (by unfold W; omega) (by omega)).2, shl_word s x y hs (by unfold W; omega)]

theorem set_other_drew {w : World} {a : Addr} {v : Value} {p : Addr} {u : Value} (h : w.cell? a = some v) (hne : a.block ≠ p.block) : (w.setCell p u).drew.cell? a = some v := set_other h hne

theorem grown_drew {w w' : World} {g : Option Nat} (h : w.grownBy w' g) : w.grownBy w'.drew g := ⟨h.os, h.tape, h.output, h.size, h.block⟩

/-- What lshVU leaves: the words in their place, and what came out at the top. -/
def LshPost (B g N c q s : Nat) (xs Z : List Nat) (w : World) (e : Ending) (w' : World) : Prop :=
  e = .returned (.int .u64 ((xs.getD (xs.length - 1) 0 / 2 ^ (64 - s) : Nat) : Int)) ∧ OwnW B w' g N c (Z.take q ++ (shlL s xs ++ Z.drop (q + xs.length))) ∧ w.grownBy w' (some g)

set_option maxRecDepth 100000 in
set_option maxHeartbeats 2000000 in
theorem f124_any (B g N c q s : Nat) (xs Z : List Nat) (gx off cx cz : Nat) (h0 : 0 < xs.length) (hl : xs.length ≤ 1000) (hlow : ∀ d ∈ xs, d < W) (hs1 : 0 < s) (hs2 : s < 64) (w : World) (ho : OwnW B w g N c Z) (hq : q + xs.length ≤ N) (hne : gx ≠ g) (hgx : gx < w.heap.size)
    (hcell : ∀ i, i < xs.length → w.cell? ⟨gx, off + i, none⟩ = some (.int .u64 ((xs.getD i 0 : Nat) : Int))) :
    Calls Tryz.prog 124 #[.slice (some ⟨g, q, none⟩) xs.length cz, .slice (some ⟨gx, off, none⟩) xs.length cx, .int .u64 s] w (LshPost B g N c q s xs Z w) := by
  have HC := Lib.hid hcell
  have HD := Lib.hid hlow
  have HO := Lib.hid ho
  have HQ := Lib.hid hq
  have HL := Lib.hid ho.len
  clear hcell hlow ho
  have eb1 : bits .and .u64 (s : Int) 63 = (s : Int) := by
    have := (bits_nat .u64 64 (by decide) (fun n h1 h2 => wraps_u64 n h1 h2) s 63 (by omega) (by omega)).1
    rw [show (63 : Nat) = 2 ^ 6 - 1 from rfl, Nat.and_two_pow_sub_one_eq_mod, Nat.mod_eq_of_lt (by omega)] at this
    exact this
  have eb2 : bits .and .u64 ((64 - s : Nat) : Int) 63 = ((64 - s : Nat) : Int) := by
    have := (bits_nat .u64 64 (by decide) (fun n h1 h2 => wraps_u64 n h1 h2) (64 - s) 63 (by omega) (by omega)).1
    rw [show (63 : Nat) = 2 ^ 6 - 1 from rfl, Nat.and_two_pow_sub_one_eq_mod, Nat.mod_eq_of_lt (by omega)] at this
    exact this
  have eb3 : (64 : Int) - (s : Int) = ((64 - s : Nat) : Int) := by omega
  have hsl : 64 - s < 64 := by omega
  have hne0 : ((s : Int) == 0) = false := by rw [beq_eq_false_iff_ne]; omega
  have hne1 : ((xs.length : Int) == 0) = false := by rw [beq_eq_false_iff_ne]; omega
  have el : (xs.length : Int) - 1 = ((xs.length - 1 : Nat) : Int) := by omega
  have clast := HC.out (xs.length - 1) (by omega)
  obtain ⟨top, htop⟩ : ∃ top, top = xs.getD (xs.length - 1) 0 := ⟨_, rfl⟩
  rw [← htop] at clast
  have HTOP := Lib.hid htop
  clear htop
  obtain ⟨t, ht⟩ : ∃ t, t = 64 - s := ⟨_, rfl⟩
  rw [← ht] at eb2 eb3 hsl
  have HT := Lib.hid ht
  clear ht
  go_enter Tryz.func124, Tryz.ntmps124
  go_wp2_with fail
  go_loopw [8] (fun vi wr => ∃ i : Nat, vi = .int .i64 i ∧ i < xs.length ∧ ∃ Z', Hid (Shifted s q (i + 1) xs Z Z') ∧ Hid (OwnW B wr g N c Z') ∧ Hid (w.grownBy wr (some g))) (fun vi _ => (intOf vi).toNat)
  case atStart => exact ⟨xs.length - 1, rfl, by omega, Z, by rw [show xs.length - 1 + 1 = xs.length from by omega]; exact Shifted.start s q xs Z, HO.out, World.grownBy.refl _ _⟩
  case round =>
    obtain ⟨i, rfl, hi, Z', HS, HOr, HG⟩ := hrel
    have ci := (HG.out.cell_far ⟨gx, off + i, none⟩ hgx (by simpa using hne)).trans (HC.out i hi)
    have zc := HOr.out.cell (q + i) (by have := HQ.out; omega)
    have zf := HOr.out.free (q + i)
    have HS' := Lib.hid (HS.out.step hi)
    have HO' := Lib.hid (HOr.out.stored (q + i) (shlW s xs i))
    have HG' := Lib.hid (HG.out.setCell g (q + i) (.int .u64 ((shlW s xs i : Nat) : Int)))
    by_cases h0 : i = 0
    · subst h0
      rw [Nat.add_zero] at HO' HG' HS'
      have HE : Hid (shlW s xs 0 = xs.getD 0 0 * 2 ^ s % W) := by show _ = _; simp [shlW]
      rw [Nat.add_zero] at ci zc zf
      generalize Z'.getD q 0 = z0 at *
      generalize xs.getD 0 0 = x at *
      go_wp2
      go_ret
      refine ⟨?_, ?_, ?_⟩
      · rw [← HTOP.out, ← HT.out]; push_cast; rfl
      · rw [wrap_shl, ← HE.out, ← HS'.out.done (by rw [HL.out]; exact HQ.out)]; exact HO'.out
      · rw [wrap_shl, ← HE.out]; exact HG'.out
    · obtain ⟨k, hk⟩ : ∃ k, i = k + 1 := ⟨i - 1, by omega⟩
      have cj := (HG.out.cell_far ⟨gx, off + k, none⟩ hgx (by simpa using hne)).trans (HC.out k (by omega))
      have HE : Hid (shlW s xs i = xs.getD i 0 * 2 ^ s % W + xs.getD k 0 / 2 ^ t) := by show _ = _; rw [HT.out]; subst hk; simp [shlW]
      have hkl : k < xs.length := by omega
      have hip : (0 : Int) < i := by omega
      have HYW : Hid (xs.getD k 0 < W) := by
        show _ < _
        simp [hkl]; exact HD.out _ (List.getElem_mem hkl)
      have HK := Lib.hid hk
      have hws : IntKind.i64.wrap ((i : Int) - 1) = (k : Int) := by rw [IntKind.wrap_i64]; omega
      have hkI : (k : Int) < xs.length := by omega
      have hk0 : (0 : Int) ≤ (k : Int) := by omega
      clear hk h0
      generalize Z'.getD (q + i) 0 = z0 at *
      generalize xs.getD i 0 = x at *
      generalize xs.getD k 0 = y at *
      have HOR := Lib.hid (or_shl s t x y (by omega) HT.out HYW.out)
      go_wp2
      go_region_held3 (fun w' => w'.cell? ⟨gx, off + i, none⟩ = some (.int .u64 x) ∧ w'.cell? ⟨gx, off + k, none⟩ = some (.int .u64 y))
        (first
          | exact ⟨set_other_drew ci hne, set_other_drew cj hne⟩
          | exact ⟨set_other ci hne, set_other cj hne⟩
          | exact ⟨ci, cj⟩
          | go_keep)
        (fail)
      have HV : Hid (bits BinOp.or IntKind.u64 (IntKind.u64.wrap ((x : Int) * 2 ^ s)) ((y : Int) / 2 ^ t) = ((shlW s xs i : Nat) : Int)) := by show _ = _; rw [HOR.out, HE.out]
      generalize bits BinOp.or IntKind.u64 (IntKind.u64.wrap ((x : Int) * 2 ^ s)) ((y : Int) / 2 ^ t) = V at *
      clear hws
      go_wp2
      have e2 : (i : Int) - 1 = (k : Int) := by have := HK.out; omega
      refine ⟨⟨k, congrArg (Value.int .i64) e2, by omega, Z'.set (q + i) (shlW s xs i), ?_, ?_, ?_⟩, by simp [intOf]; omega⟩
      · rw [← HK.out]; exact HS'
      · rw [HV.out]; exact HO'.out
      · rw [HV.out]; exact grown_drew HG'.out

set_option maxRecDepth 100000 in
theorem f103_any (B g N c q s : Nat) (xs Z : List Nat) (gx off cx cz : Nat) (h0 : 0 < xs.length) (hl : xs.length ≤ 1000) (hlow : ∀ d ∈ xs, d < W) (hs1 : 0 < s) (hs2 : s < 64) (w : World) (ho : OwnW B w g N c Z) (hq : q + xs.length ≤ N) (hne : gx ≠ g) (hgx : gx < w.heap.size)
    (hcell : ∀ i, i < xs.length → w.cell? ⟨gx, off + i, none⟩ = some (.int .u64 ((xs.getD i 0 : Nat) : Int))) :
    Calls Tryz.prog 103 #[.slice (some ⟨g, q, none⟩) xs.length cz, .slice (some ⟨gx, off, none⟩) xs.length cx, .int .u64 s] w (LshPost B g N c q s xs Z w) := by
  have HF := Lib.hid (f124_any B g N c q s xs Z gx off cx cz h0 hl hlow hs1 hs2 w ho hq hne hgx hcell)
  clear h0 hl hlow hs1 hs2 ho hq hne hgx hcell
  go_enter Tryz.func103, Tryz.ntmps103
  go_wp2_with fail
  refine HF.out.mono ?_
  rintro e w2 ⟨rfl, h1, h2⟩
  have H1 := Lib.hid h1
  have H2 := Lib.hid h2
  clear h1 h2
  obtain ⟨top, hT⟩ : ∃ top, top = xs.getD (xs.length - 1) 0 / 2 ^ (64 - s) := ⟨_, rfl⟩
  rw [← hT]
  have HT := Lib.hid hT
  clear hT HF
  go_wp2_with fail
  go_ret
  exact ⟨by rw [← HT.out]; rfl, H1.out, H2.out⟩
end Go.Proofs.YtllgogkjcbdpkaaGreatDoor.Z
