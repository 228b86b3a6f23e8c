/- The walk of the package's rsplitspace. -/
import Derived.Test.YtgcofpmhojplhaaGreatDoorT4
import Derived.RegionTactic
import Derived.BigRegion
import Derived.IntWalk
namespace Go.Proofs.YtgcofpmhojplhaaGreatDoor
open Go.RowKit

theorem snoc_of' (l : List UInt8) (h : l ≠ []) : ∃ r b, l = r ++ [b] := by
  rcases List.eq_nil_or_concat l with h' | ⟨r, b, h'⟩
  · exact absurd h' h
  · exact ⟨r, b, by rw [h', List.concat_eq_append]⟩
theorem list_ne' (t : ByteArray) (h : 0 < t.size) : t.data.toList ≠ [] := fun e => by rw [size_list0, e] at h; simp at h
theorem f86_asc (t : ByteArray) (ha : Asc t.data.toList) (hs : t.size ≤ 100000) (hp : 0 < t.size) (w : World) (hT : Lib.Utf8Tabs 1 2 w) :
    Calls Tryz.prog 86 #[.string t] w fun e w' => e = .returned (.tuple #[.int .i32 ((t.data.toList.getD (t.size - 1) 0).toNat : Int), .int .i64 1]) ∧ Below w.heap.size w w' := by
  obtain ⟨r, b, hbr⟩ := snoc_of' t.data.toList (list_ne' t hp)
  have hb128 : b.toNat < 128 := ha b (by rw [hbr]; simp)
  have h := Tryz.utf8_DecodeLastRuneInString t w (by omega) hT
  rw [hbr, Lib.decodeLastL_ascii r b hb128] at h
  have hsz : t.size - 1 = r.length := by rw [size_list0, hbr]; simp
  rw [hsz, hbr]
  have e : ((r ++ [b]).getD r.length 0) = b := by simp
  rw [e]
  exact h
/-- A row of its own, empty, with room. -/
theorem own_room (w : World) (z : Value) (c : Nat) (e : TypeId) (hc : c ≤ maxLen) : (w.alloc (.cells (madeCells #[z] c) e)).ownsRow w.heap.size e 1 (.slice (some ⟨w.heap.size, 0, none⟩) 0 c) 0 [] :=
  ⟨by simp, .inr ⟨w.heap.size, c, _, rfl, Nat.le_refl _, heap_alloc_new w _, Nat.zero_le _, hc, by simp [size_madeCells], by simp⟩⟩
/-- What a scan from the end for words holds: i bytes not looked at. -/
def ScanB (q : UInt8 → Bool) (m0 : Nat) (s : ByteArray) (w : World) (o st ix : Value) (wr : World) : Prop :=
  ∃ (i : Nat) (a : List (List UInt8)), i ≤ s.size ∧ a.length ≤ m0 ∧ ix = .int .i64 i ∧ wr.ownsRow w.heap.size 9 1 o a.length (strs (a.map List.reverse)) ∧ Below w.heap.size w wr ∧
    ((st = .int .i64 (-1) ∧ wd q m0 s.data.toList.reverse = a ++ wd q (m0 - a.length) (s.data.toList.reverse.drop (s.size - i))) ∨
     (∃ k : Nat, i < k ∧ k ≤ s.size ∧ st = .int .i64 k ∧ wd q m0 s.data.toList.reverse = a ++ wdIn q (m0 - a.length) ((s.data.toList.reverse.drop (s.size - k)).take (k - i)) (s.data.toList.reverse.drop (s.size - i))))
/-- A list whose first i and last i elements have changed places. -/
def Mid (L : List Value) (i : Nat) (ys : List Value) : Prop := ys.length = L.length ∧ ∀ j, j < L.length → ys[j]? = if j < i ∨ L.length - i ≤ j then L[L.length - 1 - j]? else L[j]?
theorem Mid.start (L : List Value) : Mid L 0 L := ⟨rfl, fun j hj => by rw [if_neg (by omega)]⟩
theorem Mid.step {L ys : List Value} {i : Nat} (h : Mid L i ys) (hi : i < L.length / 2) (x y : Value) (hx : L[i]? = some x) (hy : L[L.length - 1 - i]? = some y) : Mid L (i + 1) ((ys.set i y).set (L.length - 1 - i) x) := by
  refine ⟨by simp [h.1], fun j hj => ?_⟩
  have hl := h.1
  have hne : i ≠ L.length - 1 - i := by omega
  rw [List.getElem?_set, List.getElem?_set]
  by_cases h1 : L.length - 1 - i = j
  · subst h1
    rw [if_pos rfl, if_pos (by simp; omega), if_pos (by omega), show L.length - 1 - (L.length - 1 - i) = i by omega, hx]
  · rw [if_neg h1]
    by_cases h2 : i = j
    · subst h2
      rw [if_pos rfl, if_pos (by omega), if_pos (by omega), hy]
    · rw [if_neg h2, h.2 j hj]
      by_cases h3 : j < i ∨ L.length - i ≤ j
      · rw [if_pos h3, if_pos (by omega)]
      · rw [if_neg h3, if_neg (by omega)]
theorem Mid.get {L ys : List Value} {i : Nat} (h : Mid L i ys) (hi : i < L.length / 2) : ys[i]? = L[i]? ∧ ys[L.length - 1 - i]? = L[L.length - 1 - i]? := by
  refine ⟨?_, ?_⟩
  · rw [h.2 i (by omega), if_neg (by omega)]
  · rw [h.2 _ (by omega), if_neg (by omega)]
theorem Mid.done {L ys : List Value} {i : Nat} (h : Mid L i ys) (hi : L.length / 2 ≤ i) (hi2 : i ≤ L.length) : ys = L.reverse := by
  apply List.ext_getElem?
  intro j
  by_cases hj : j < L.length
  · rw [h.2 j hj, List.getElem?_reverse hj]
    by_cases h3 : j < i ∨ L.length - i ≤ j
    · rw [if_pos h3]
    · rw [if_neg h3, show L.length - 1 - j = j by omega]
  · rw [List.getElem?_eq_none (by rw [h.1]; omega), List.getElem?_eq_none (by simp; omega)]
theorem own_form {w : World} {base : Nat} {e : TypeId} {A : Option Addr} {n c : Nat} {xs : List Value} (h : w.ownsRow base e 1 (.slice A n c) n xs) (hn : 0 < n) : ∃ g, A = some ⟨g, 0, none⟩ := by
  rcases h.2 with ⟨_, h0⟩ | ⟨g, cap, cur, h1, _⟩
  · omega
  · injection h1 with h2
    exact ⟨g, h2⟩
theorem strs_get {L : List Value} {l : List (List UInt8)} (h : L = strs l) (i : Nat) (hi : i < L.length) : ∃ t, L[i]? = some (.string t) := by
  subst h
  rw [strs_len] at hi
  exact ⟨txt l[i], by simp [strs, hi]⟩
theorem strs_rev (l : List (List UInt8)) : (strs l).reverse = strs l.reverse := by simp [strs]
theorem rev_mid (S : List UInt8) (i k : Nat) (hik : i ≤ k) (hk : k ≤ S.length) : ((S.reverse.drop (S.length - k)).take (k - i)).reverse = (S.drop i).take (k - i) := by
  apply List.ext_getElem?
  intro j
  have hl : ((S.reverse.drop (S.length - k)).take (k - i)).length = k - i := by simp; omega
  by_cases hj : j < k - i
  · rw [List.getElem?_reverse (by rw [hl]; exact hj), hl, List.getElem?_take, if_pos (by omega), List.getElem?_drop, List.getElem?_reverse (by omega), List.getElem?_take, if_pos hj, List.getElem?_drop]
    congr 1
    omega
  · rw [List.getElem?_eq_none (by rw [List.length_reverse, hl]; omega), List.getElem?_eq_none (by simp; omega)]
theorem rev_head (S : List UInt8) (k : Nat) (hk : k ≤ S.length) : (S.reverse.drop (S.length - k)).reverse = S.take k := by
  have := rev_mid S 0 k (Nat.zero_le _) hk
  rw [List.drop_zero, Nat.sub_zero, List.take_of_length_le (by simp; omega)] at this
  exact this
theorem rev_get (S : List UInt8) (i : Nat) (hi : i < S.length) : S.reverse.getD (S.length - (i + 1)) 0 = S.getD i 0 := by
  rw [List.getD_eq_getElem?_getD, List.getD_eq_getElem?_getD, List.getElem?_reverse (by omega), show S.length - 1 - (S.length - (i + 1)) = i by omega]
theorem own_below {w w' : World} {base : Nat} {e : TypeId} {size : Nat} {v : Value} {n : Nat} {xs : List Value} (h : w.ownsRow base e size v n xs) (hb : Below w.heap.size w w') : w'.ownsRow base e size v n xs := by
  obtain ⟨h1, h2⟩ := h
  refine ⟨h1, ?_⟩
  rcases h2 with h2 | ⟨g, cap, cur, a, b, c, d⟩
  · exact .inl h2
  · exact .inr ⟨g, cap, cur, a, b, by rw [hb.block g (Array.getElem?_eq_some_iff.1 c).1]; exact c, d⟩
theorem tabs_below' {w w' : World} {B : Nat} (h : Lib.Utf8Tabs 1 2 w) (hb : Below B w w') (hB : w.heap.size ≤ B) : Lib.Utf8Tabs 1 2 w' := tabs_below h (hb.mono hB)
theorem getD_asc {l : List UInt8} (h : Asc l) (i : Nat) (hi : i < l.length) : (l.getD i 0).toNat < 128 := by
  rw [List.getD_eq_getElem?_getD, List.getElem?_eq_getElem hi]
  exact h _ (List.getElem_mem hi)
theorem ext_last (s : ByteArray) (j : Nat) (hj : j < s.size) : (s.extract 0 (j + 1)).data.toList.getD ((s.extract 0 (j + 1)).size - 1) 0 = s.data.toList.getD j 0 := by
  rw [ByteArray.size_extract, show min (j + 1) s.size - 0 - 1 = j by omega, ext_list, List.drop_zero, Nat.sub_zero, List.getD_eq_getElem?_getD, List.getD_eq_getElem?_getD, List.getElem?_take, if_pos (by omega)]
set_option maxRecDepth 100000 in
set_option maxHeartbeats 8000000 in
theorem f72_any (s : ByteArray) (ha : Asc s.data.toList) (hs : s.size ≤ 100000) (m0 : Nat) (hm0 : m0 ≤ 1000000) (w : World) (hT : Lib.Utf8Tabs 1 2 w) : Calls Tryz.prog 72 #[.string s, .int .i64 (m0 : Int)] w (TextsMade (wdB blankB m0 s.data.toList) w) := by
  obtain ⟨i0, hi, hz0, hz1, hz2⟩ := info_parts infoStr
  have HA := Lib.hid ha
  have HT := Lib.hid hT
  have hmk := fun w : World => run_make (P := Tryz.prog) w 23 9 i0 (.string ByteArray.empty) Tryz.underlying23 hi hz0 .i64 .i64 0 ((m0 : Int) + 1) (by omega) (by omega) (by rw [hz2]; omega) (by omega)
  simp only [hz1, show ((m0 : Int) + 1).toNat = m0 + 1 from by omega, Nat.mul_one] at hmk
  have HO0 := Lib.hid (own_room w (.string ByteArray.empty) (m0 + 1) 9 (by unfold maxLen; omega))
  have HB0 : Hid (Below w.heap.size w (w.alloc (.cells (madeCells #[.string ByteArray.empty] (m0 + 1)) 9))) := (Below.refl _ _).alloc (Nat.le_refl _) _
  have HS := Lib.hid (size_list0 s)
  clear ha hT
  go_enter Tryz.func72, Tryz.ntmps72
  go_wp2
  clear hmk
  go_loopw [5, 6, 7] (fun o st ix wr => ScanB blankB m0 s w o st ix wr) (fun _ _ ix _ => (RowKit.intOf ix).toNat)
  case atStart => exact ⟨s.size, [], Nat.le_refl _, Nat.zero_le _, rfl, HO0.out, HB0.out, .inl ⟨rfl, by simp⟩⟩
  case round =>
    obtain ⟨i, a, hip, ham, rfl, hown, hb, hst⟩ := hrel
    obtain ⟨oA, oc, rfl⟩ := own_len hown
    have K3 : Hid (a.length + 1 ≤ maxLen) := by show _ ≤ _; unfold maxLen; omega
    have K4 : Hid ((a.length + 1) * 16 ≤ 140737488355328) := by show _ ≤ _; omega
    by_cases hi0 : i = 0
    · subst hi0
      have HO := Lib.hid hown
      have HB := Lib.hid hb
      have K5 : ∀ u, Hid (w.heap.size ≤ (wr.alloc (.cells #[.string u] 9)).heap.size) := fun u => by show _ ≤ _; have := HB.out.size; simp; omega
      have K5 := Lib.hid K5
      clear hown hb
      rcases hst with ⟨rfl, hw⟩ | ⟨k, hik, hks, rfl, hw⟩
      · obtain ⟨b, hb⟩ : ∃ b, b = a := ⟨_, rfl⟩
        subst hb
        have HBN : b.length ≤ 1000001 := by omega
        have HE : Hid (wd blankB m0 s.data.toList.reverse = b) := by
          show _ = _
          rw [hw, List.drop_of_length_le (by rw [List.length_reverse, ← size_list0]; omega), wd_nil, List.append_nil]
        clear hw
        skip
        obtain ⟨L, hL⟩ : ∃ L, L = strs (b.map List.reverse) := ⟨_, rfl⟩
        have HLL : Hid (L.length = b.length) := by show _ = _; rw [hL, strs_len, List.length_map]
        have HL := Lib.hid hL
        have HO2 := HO.out
        rw [← hL] at HO2
        have HO2 := Lib.hid HO2
        have HB2 := Lib.hid HB.out
        have hbl : b.length ≤ 2000000 := by have := HBN; omega
        clear hL
        go_wp2
        go_loopw [11] (fun ix wr => ∃ (i : Nat) (ys : List Value), ix = .int .i64 i ∧ i ≤ b.length ∧ Hid (wr.ownsRow w.heap.size 9 1 (.slice oA b.length oc) b.length ys) ∧ Hid (Below w.heap.size w wr) ∧ Hid (Mid L i ys)) (fun ix _ => b.length - (RowKit.intOf ix).toNat)
        case atStart => exact ⟨0, L, rfl, Nat.zero_le _, HO2.out, HB2.out, Mid.start L⟩
        case round =>
          obtain ⟨i, ys, rfl, hib, HO3, HB3, HM⟩ := hrel
          by_cases hlt : i < b.length / 2
          · have hlL : i < L.length / 2 := by rw [HLL.out]; exact hlt
            obtain ⟨g, hg⟩ := own_form HO3.out (by omega)
            obtain rfl : oA = some ⟨g, 0, none⟩ := hg
            obtain ⟨xt, hx⟩ := strs_get HL.out i (by omega)
            obtain ⟨yt, hy⟩ := strs_get HL.out (L.length - 1 - i) (by omega)
            have HM2 := Lib.hid (HM.out.step hlL (.string xt) (.string yt) hx hy)
            have hgx := HM.out.get hlL
            rw [hx, hy] at hgx
            have c1 : wr.cell? ⟨g, i, none⟩ = some (.string xt) := (HO3.out.cellAt i (by omega)).trans hgx.1
            have c2 : wr.cell? ⟨g, b.length - 1 - i, none⟩ = some (.string yt) := (HO3.out.cellAt (b.length - 1 - i) (by omega)).trans (by rw [← HLL.out]; exact hgx.2)
            have f1 : wr.frozen? ⟨g, i, none⟩ = false := HO3.out.frozenAt i
            have f2 : wr.frozen? ⟨g, b.length - 1 - i, none⟩ = false := HO3.out.frozenAt (b.length - 1 - i)
            rw [HLL.out] at HM2
            obtain ⟨m, hm⟩ : ∃ m, m = b.length - 1 - i := ⟨_, rfl⟩
            rw [← hm] at c2 f2 HM2
            have hmi : i < m := by omega
            have hmb : m < b.length := by omega
            have w1e : IntKind.i64.wrap ((b.length : Int) - 1) = ((b.length - 1 : Nat) : Int) := by rw [IntWalk.i64_in _ (by omega)]; omega
            have w2e : IntKind.i64.wrap (((b.length - 1 : Nat) : Int) - (i : Int)) = (m : Int) := by rw [IntWalk.i64_in _ (by omega)]; omega
            have hib2 : i < b.length := by omega
            have HMM := Lib.hid hm
            clear hx hy hgx hlL hm
            go_wp2
            go_region
            go_wp2
            go_roundw
            case rel =>
              have hlt2 := World.ownsRow.lt HO3.out g rfl
              exact ⟨i + 1, _, by go_num, by omega, ((HO3.out.stored i (.string yt)).1.stored m (.string xt)).1, ((HB3.out.setCell (p := ⟨g, i, none⟩) hlt2.1 _).setCell (p := ⟨g, m, none⟩) hlt2.1 _).drew, HM2.out⟩
            case measure => (simp [RowKit.intOf]; try omega)
          · go_wp2
            go_ret
            refine ⟨_, rfl, ?_, HB3.out⟩
            have := HM.out.done (by rw [HLL.out]; omega) (by rw [HLL.out]; exact hib)
            have e : wdB blankB m0 s.data.toList = (b.map List.reverse).reverse := by unfold wdB mir; rw [HE.out]
            rw [e, List.length_reverse, List.length_map, ← strs_rev, ← HL.out, ← this]
            exact HO3.out
      · have HW := Lib.hid hw
        have hk0 : (0 : Int) ≤ (k : Int) := by omega
        clear hw
        go_wp2_with (at_builtin; refine wpList_append_own _ rfl (.tmp 49) (.tmp 53) 23 rfl w.heap.size 9 i0 (.string ByteArray.empty) 1 16 Tryz.underlying23 hi hz0 hz1 hz2 rfl (by decide) _ a.length _ rfl (HO.out.alloc _) ⟨_, 0, none⟩ 1 1 [.string (s.extract 0 k)] rfl rfl (one_new _ _ _) (one_cell _) K3.out K4.out (K5.out _).out ?_)
        intro v' w1 hown' hgrow _
        have R := rel_app1 HO.out HB.out HB.out.size hown' hgrow
        have HR := Lib.hid R
        clear hown' hgrow R
        obtain ⟨b, hb⟩ : ∃ b, b = a ++ [s.data.toList.reverse.drop (s.size - k)] := ⟨_, rfl⟩
        have HBN : b.length ≤ 1000001 := by rw [hb]; simp; omega
        have HE : Hid (wd blankB m0 s.data.toList.reverse = b) := by
          show _ = _
          rw [HW.out, hb]
          have := Scan.last (q := blankB) (m := m0 - a.length) (p := s.size - 0) (k := s.size - k) (S := s.data.toList.reverse) (by omega) (by rw [List.length_reverse, ← size_list0]; omega)
          rw [show s.size - 0 - (s.size - k) = k - 0 by omega] at this
          rw [this]
        have HO9 : w1.ownsRow w.heap.size 9 1 v' b.length (strs (b.map List.reverse)) := by
          have h1 := HR.out.1
          rw [hb, List.map_append, List.map_cons, List.map_nil, strs_snoc, List.length_append, HS.out, rev_head _ _ (by rw [← size_list0]; exact hks)]
          rw [ext_txt, List.drop_zero, Nat.sub_zero] at h1
          exact h1
        clear hb
        obtain ⟨oA2, oc2, rfl⟩ := own_len HO9
        obtain ⟨L, hL⟩ : ∃ L, L = strs (b.map List.reverse) := ⟨_, rfl⟩
        have HLL : Hid (L.length = b.length) := by show _ = _; rw [hL, strs_len, List.length_map]
        have HL := Lib.hid hL
        have HO2 := HO9
        rw [← hL] at HO2
        have HO2 := Lib.hid HO2
        have HB2 := Lib.hid HR.out.2
        have hbl : b.length ≤ 2000000 := by have := HBN; omega
        clear hL
        go_wp2
        go_loopw [11] (fun ix wr => ∃ (i : Nat) (ys : List Value), ix = .int .i64 i ∧ i ≤ b.length ∧ Hid (wr.ownsRow w.heap.size 9 1 (.slice oA2 b.length oc2) b.length ys) ∧ Hid (Below w.heap.size w wr) ∧ Hid (Mid L i ys)) (fun ix _ => b.length - (RowKit.intOf ix).toNat)
        case atStart => exact ⟨0, L, rfl, Nat.zero_le _, HO2.out, HB2.out, Mid.start L⟩
        case round =>
          obtain ⟨i, ys, rfl, hib, HO3, HB3, HM⟩ := hrel
          by_cases hlt : i < b.length / 2
          · have hlL : i < L.length / 2 := by rw [HLL.out]; exact hlt
            obtain ⟨g, hg⟩ := own_form HO3.out (by omega)
            obtain rfl : oA2 = some ⟨g, 0, none⟩ := hg
            obtain ⟨xt, hx⟩ := strs_get HL.out i (by omega)
            obtain ⟨yt, hy⟩ := strs_get HL.out (L.length - 1 - i) (by omega)
            have HM2 := Lib.hid (HM.out.step hlL (.string xt) (.string yt) hx hy)
            have hgx := HM.out.get hlL
            rw [hx, hy] at hgx
            have c1 : wr.cell? ⟨g, i, none⟩ = some (.string xt) := (HO3.out.cellAt i (by omega)).trans hgx.1
            have c2 : wr.cell? ⟨g, b.length - 1 - i, none⟩ = some (.string yt) := (HO3.out.cellAt (b.length - 1 - i) (by omega)).trans (by rw [← HLL.out]; exact hgx.2)
            have f1 : wr.frozen? ⟨g, i, none⟩ = false := HO3.out.frozenAt i
            have f2 : wr.frozen? ⟨g, b.length - 1 - i, none⟩ = false := HO3.out.frozenAt (b.length - 1 - i)
            rw [HLL.out] at HM2
            obtain ⟨m, hm⟩ : ∃ m, m = b.length - 1 - i := ⟨_, rfl⟩
            rw [← hm] at c2 f2 HM2
            have hmi : i < m := by omega
            have hmb : m < b.length := by omega
            have w1e : IntKind.i64.wrap ((b.length : Int) - 1) = ((b.length - 1 : Nat) : Int) := by rw [IntWalk.i64_in _ (by omega)]; omega
            have w2e : IntKind.i64.wrap (((b.length - 1 : Nat) : Int) - (i : Int)) = (m : Int) := by rw [IntWalk.i64_in _ (by omega)]; omega
            have hib2 : i < b.length := by omega
            have HMM := Lib.hid hm
            clear hx hy hgx hlL hm
            go_wp2
            go_region
            go_wp2
            go_roundw
            case rel =>
              have hlt2 := World.ownsRow.lt HO3.out g rfl
              exact ⟨i + 1, _, by go_num, by omega, ((HO3.out.stored i (.string yt)).1.stored m (.string xt)).1, ((HB3.out.setCell (p := ⟨g, i, none⟩) hlt2.1 _).setCell (p := ⟨g, m, none⟩) hlt2.1 _).drew, HM2.out⟩
            case measure => (simp [RowKit.intOf]; try omega)
          · go_wp2
            go_ret
            refine ⟨_, rfl, ?_, HB3.out⟩
            have := HM.out.done (by rw [HLL.out]; omega) (by rw [HLL.out]; exact hib)
            have e : wdB blankB m0 s.data.toList = (b.map List.reverse).reverse := by unfold wdB mir; rw [HE.out]
            rw [e, List.length_reverse, List.length_map, ← strs_rev, ← HL.out, ← this]
            exact HO3.out
    · have hi1 : (0 : Int) < (i : Int) := by omega
      obtain ⟨j, rfl⟩ : ∃ j, i = j + 1 := ⟨i - 1, by omega⟩
      have hjl : j < s.data.toList.length := by rw [← size_list0]; omega
      have H86 := Lib.hid (f86_asc (s.extract 0 (j + 1)) (by rw [ext_list]; exact (HA.out.drop _).take _) (by rw [ByteArray.size_extract]; omega) (by rw [ByteArray.size_extract]; omega) wr (tabs_below (w := w) HT.out hb))
      rw [ext_last s j (by omega)] at H86
      have hlt : (s.data.toList.getD j 0).toNat < 128 := getD_asc HA.out j hjl
      have hrg := rev_get s.data.toList j hjl
      rw [← size_list0] at hrg
      have hpl : s.size - (j + 1) < s.data.toList.reverse.length := by rw [List.length_reverse, ← size_list0]; omega
      have e1 : s.size - (j + 1) + 1 = s.size - j := by omega
      have HJ := Lib.hid e1
      clear e1 hi0
      by_cases hbl : blankN (s.data.toList.getD j 0).toNat = true
      · have HBL : Hid (blankB (s.data.toList.reverse.getD (s.size - (j + 1)) 0) = true) := by show _ = _; rw [hrg]; exact hbl
        have H65 := Lib.hid (fun w => f65_true _ hbl w)
        clear hbl hlt hrg
        generalize ((s.data.toList.getD j 0).toNat : Int) = x at *
        rcases hst with ⟨rfl, hw⟩ | ⟨k, hik, hks, rfl, hw⟩
        · have HW := Lib.hid hw
          clear hw
          go_wp2_with fail
          go_at_call 86
          refine H86.out.mono ?_
          rintro e wn ⟨rfl, hbn⟩
          have HO := Lib.hid (own_below hown hbn)
          have HB := Lib.hid (hb.trans (hbn.mono hb.size))
          have K5 : ∀ u, Hid (w.heap.size ≤ (wn.alloc (.cells #[.string u] 9)).heap.size) := fun u => by show _ ≤ _; have := HB.out.size; simp; omega
          have K5 := Lib.hid K5
          clear hown hb hbn H86
          go_wp2_with fail
          go_at_call 65
          refine (H65.out wn).mono ?_
          rintro e w' ⟨rfl, rfl⟩
          go_wp2
          go_roundw
          case rel => exact ⟨j, a, by omega, ham, by go_num, HO.out, HB.out, .inl ⟨rfl, by rw [HW.out, Scan.blank hpl HBL.out, HJ.out]⟩⟩
          case measure => (simp [RowKit.intOf]; try omega)
        · have HW := Lib.hid hw
          have hk0 : (0 : Int) ≤ (k : Int) := by omega
          clear hw
          by_cases hfull : a.length = m0
          · have hf : ((a.length : Int) == (m0 : Int)) = true := by rw [beq_iff_eq]; omega
            have HF := Lib.hid hfull
            clear hfull
            go_wp2_with fail
            go_at_call 86
            refine H86.out.mono ?_
            rintro e wn ⟨rfl, hbn⟩
            have HO := Lib.hid (own_below hown hbn)
            have HB := Lib.hid (hb.trans (hbn.mono hb.size))
            have K5 : ∀ u, Hid (w.heap.size ≤ (wn.alloc (.cells #[.string u] 9)).heap.size) := fun u => by show _ ≤ _; have := HB.out.size; simp; omega
            have K5 := Lib.hid K5
            clear hown hb hbn H86
            go_wp2_with fail
            go_at_call 65
            refine (H65.out wn).mono ?_
            rintro e w' ⟨rfl, rfl⟩
            go_wp2_with (at_builtin; refine wpList_append_own _ rfl (.tmp 49) (.tmp 53) 23 rfl w.heap.size 9 i0 (.string ByteArray.empty) 1 16 Tryz.underlying23 hi hz0 hz1 hz2 rfl (by decide) _ a.length _ rfl (HO.out.alloc _) ⟨_, 0, none⟩ 1 1 [.string (s.extract 0 k)] rfl rfl (one_new _ _ _) (one_cell _) K3.out K4.out (K5.out _).out ?_)
            intro v' w1 hown' hgrow _
            have R := rel_app1 HO.out HB.out HB.out.size hown' hgrow
            have HR := Lib.hid R
            clear hown' hgrow R
            obtain ⟨b, hb⟩ : ∃ b, b = a ++ [s.data.toList.reverse.drop (s.size - k)] := ⟨_, rfl⟩
            have HBN : b.length ≤ 1000001 := by rw [hb]; simp; omega
            have HE : Hid (wd blankB m0 s.data.toList.reverse = b) := by
              show _ = _
              rw [HW.out, hb, show m0 - a.length = 0 by have := HF.out; omega]
              have := Scan.rest (q := blankB) (p := s.size - (j + 1)) (k := s.size - k) (S := s.data.toList.reverse) (by omega)
              rw [show s.size - (j + 1) - (s.size - k) = k - (j + 1) by omega] at this
              rw [this]
            have HO9 : w1.ownsRow w.heap.size 9 1 v' b.length (strs (b.map List.reverse)) := by
              have h1 := HR.out.1
              rw [hb, List.map_append, List.map_cons, List.map_nil, strs_snoc, List.length_append, HS.out, rev_head _ _ (by rw [← size_list0]; exact hks)]
              rw [ext_txt, List.drop_zero, Nat.sub_zero] at h1
              exact h1
            clear hb
            obtain ⟨oA2, oc2, rfl⟩ := own_len HO9
            obtain ⟨L, hL⟩ : ∃ L, L = strs (b.map List.reverse) := ⟨_, rfl⟩
            have HLL : Hid (L.length = b.length) := by show _ = _; rw [hL, strs_len, List.length_map]
            have HL := Lib.hid hL
            have HO2 := HO9
            rw [← hL] at HO2
            have HO2 := Lib.hid HO2
            have HB2 := Lib.hid HR.out.2
            have hbl : b.length ≤ 2000000 := by have := HBN; omega
            clear hL
            go_wp2
            go_loopw [11] (fun ix wr => ∃ (i : Nat) (ys : List Value), ix = .int .i64 i ∧ i ≤ b.length ∧ Hid (wr.ownsRow w.heap.size 9 1 (.slice oA2 b.length oc2) b.length ys) ∧ Hid (Below w.heap.size w wr) ∧ Hid (Mid L i ys)) (fun ix _ => b.length - (RowKit.intOf ix).toNat)
            case atStart => exact ⟨0, L, rfl, Nat.zero_le _, HO2.out, HB2.out, Mid.start L⟩
            case round =>
              obtain ⟨i, ys, rfl, hib, HO3, HB3, HM⟩ := hrel
              by_cases hlt : i < b.length / 2
              · have hlL : i < L.length / 2 := by rw [HLL.out]; exact hlt
                obtain ⟨g, hg⟩ := own_form HO3.out (by omega)
                obtain rfl : oA2 = some ⟨g, 0, none⟩ := hg
                obtain ⟨xt, hx⟩ := strs_get HL.out i (by omega)
                obtain ⟨yt, hy⟩ := strs_get HL.out (L.length - 1 - i) (by omega)
                have HM2 := Lib.hid (HM.out.step hlL (.string xt) (.string yt) hx hy)
                have hgx := HM.out.get hlL
                rw [hx, hy] at hgx
                have c1 : wr.cell? ⟨g, i, none⟩ = some (.string xt) := (HO3.out.cellAt i (by omega)).trans hgx.1
                have c2 : wr.cell? ⟨g, b.length - 1 - i, none⟩ = some (.string yt) := (HO3.out.cellAt (b.length - 1 - i) (by omega)).trans (by rw [← HLL.out]; exact hgx.2)
                have f1 : wr.frozen? ⟨g, i, none⟩ = false := HO3.out.frozenAt i
                have f2 : wr.frozen? ⟨g, b.length - 1 - i, none⟩ = false := HO3.out.frozenAt (b.length - 1 - i)
                rw [HLL.out] at HM2
                obtain ⟨m, hm⟩ : ∃ m, m = b.length - 1 - i := ⟨_, rfl⟩
                rw [← hm] at c2 f2 HM2
                have hmi : i < m := by omega
                have hmb : m < b.length := by omega
                have w1e : IntKind.i64.wrap ((b.length : Int) - 1) = ((b.length - 1 : Nat) : Int) := by rw [IntWalk.i64_in _ (by omega)]; omega
                have w2e : IntKind.i64.wrap (((b.length - 1 : Nat) : Int) - (i : Int)) = (m : Int) := by rw [IntWalk.i64_in _ (by omega)]; omega
                have hib2 : i < b.length := by omega
                have HMM := Lib.hid hm
                clear hx hy hgx hlL hm
                go_wp2
                go_region
                go_wp2
                go_roundw
                case rel =>
                  have hlt2 := World.ownsRow.lt HO3.out g rfl
                  exact ⟨i + 1, _, by go_num, by omega, ((HO3.out.stored i (.string yt)).1.stored m (.string xt)).1, ((HB3.out.setCell (p := ⟨g, i, none⟩) hlt2.1 _).setCell (p := ⟨g, m, none⟩) hlt2.1 _).drew, HM2.out⟩
                case measure => (simp [RowKit.intOf]; try omega)
              · go_wp2
                go_ret
                refine ⟨_, rfl, ?_, HB3.out⟩
                have := HM.out.done (by rw [HLL.out]; omega) (by rw [HLL.out]; exact hib)
                have e : wdB blankB m0 s.data.toList = (b.map List.reverse).reverse := by unfold wdB mir; rw [HE.out]
                rw [e, List.length_reverse, List.length_map, ← strs_rev, ← HL.out, ← this]
                exact HO3.out
          · have hf : ((a.length : Int) == (m0 : Int)) = false := int_ne _ _ (by omega)
            have HF := Lib.hid hfull
            clear hfull
            go_wp2_with fail
            go_at_call 86
            refine H86.out.mono ?_
            rintro e wn ⟨rfl, hbn⟩
            have HO := Lib.hid (own_below hown hbn)
            have HB := Lib.hid (hb.trans (hbn.mono hb.size))
            have K5 : ∀ u, Hid (w.heap.size ≤ (wn.alloc (.cells #[.string u] 9)).heap.size) := fun u => by show _ ≤ _; have := HB.out.size; simp; omega
            have K5 := Lib.hid K5
            clear hown hb hbn H86
            go_wp2_with fail
            go_at_call 65
            refine (H65.out wn).mono ?_
            rintro e w' ⟨rfl, rfl⟩
            go_wp2_with (at_builtin; refine wpList_append_own _ rfl (.tmp 34) (.tmp 39) 23 rfl w.heap.size 9 i0 (.string ByteArray.empty) 1 16 Tryz.underlying23 hi hz0 hz1 hz2 rfl (by decide) _ a.length _ rfl (HO.out.alloc _) ⟨_, 0, none⟩ 1 1 [.string (s.extract (j + 1) k)] rfl rfl (one_new _ _ _) (one_cell _) K3.out K4.out (K5.out _).out ?_)
            intro v' w1 hown' hgrow _
            have R := rel_app1 HO.out HB.out HB.out.size hown' hgrow
            have HR := Lib.hid R
            clear hown' hgrow R
            go_wp2
            go_roundw
            case rel =>
              have hF := HF.out
              refine ⟨j, a ++ [(s.data.toList.reverse.drop (s.size - k)).take (k - (j + 1))], by omega, by simp; omega, by go_num, ?_, HR.out.2, .inl ⟨rfl, ?_⟩⟩
              · have h1 := HR.out.1
                rw [List.map_append, List.map_cons, List.map_nil, strs_snoc, List.length_append, HS.out, rev_mid _ _ _ (by omega) (by rw [← size_list0]; exact hks)]
                rw [ext_txt] at h1
                exact h1
              · obtain ⟨m, hm⟩ : ∃ m, m0 - a.length = m + 1 := ⟨m0 - a.length - 1, by omega⟩
                have := Scan.cut (q := blankB) (m := m) (p := s.size - (j + 1)) (k := s.size - k) (S := s.data.toList.reverse) hpl HBL.out
                rw [show s.size - (j + 1) - (s.size - k) = k - (j + 1) by omega, HJ.out] at this
                have e2 : m0 - (a ++ [(s.data.toList.reverse.drop (s.size - k)).take (k - (j + 1))]).length = m := by rw [List.length_append]; simp; omega
                rw [HW.out, hm, this, e2, List.append_assoc]
                rfl
            case measure => (simp [RowKit.intOf]; try omega)
      · have hbl : blankN (s.data.toList.getD j 0).toNat = false := by simpa using hbl
        have HBL : Hid (blankB (s.data.toList.reverse.getD (s.size - (j + 1)) 0) = false) := by show _ = _; rw [hrg]; exact hbl
        have H65 := Lib.hid (fun w => f65_false _ hlt hbl w)
        clear hbl hlt hrg
        generalize ((s.data.toList.getD j 0).toNat : Int) = x at *
        rcases hst with ⟨rfl, hw⟩ | ⟨k, hik, hks, rfl, hw⟩
        · have HW := Lib.hid hw
          clear hw
          go_wp2_with fail
          go_at_call 86
          refine H86.out.mono ?_
          rintro e wn ⟨rfl, hbn⟩
          have HO := Lib.hid (own_below hown hbn)
          have HB := Lib.hid (hb.trans (hbn.mono hb.size))
          have K5 : ∀ u, Hid (w.heap.size ≤ (wn.alloc (.cells #[.string u] 9)).heap.size) := fun u => by show _ ≤ _; have := HB.out.size; simp; omega
          have K5 := Lib.hid K5
          clear hown hb hbn H86
          go_wp2_with fail
          go_at_call 65
          refine (H65.out wn).mono ?_
          rintro e w' ⟨rfl, rfl⟩
          go_wp2
          go_roundw
          case rel =>
            have := Scan.word (q := blankB) (m := m0 - a.length) (p := s.size - (j + 1)) (S := s.data.toList.reverse) hpl HBL.out
            refine ⟨j, a, by omega, ham, by go_num, HO.out, HB.out, .inr ⟨j + 1, by omega, by omega, by go_num, ?_⟩⟩
            rw [HW.out, this, HJ.out, show s.size - j - (s.size - (j + 1)) = j + 1 - j by omega]
          case measure => (simp [RowKit.intOf]; try omega)
        · have HW := Lib.hid hw
          have hk0 : (0 : Int) ≤ (k : Int) := by omega
          clear hw
          go_wp2_with fail
          go_at_call 86
          refine H86.out.mono ?_
          rintro e wn ⟨rfl, hbn⟩
          have HO := Lib.hid (own_below hown hbn)
          have HB := Lib.hid (hb.trans (hbn.mono hb.size))
          have K5 : ∀ u, Hid (w.heap.size ≤ (wn.alloc (.cells #[.string u] 9)).heap.size) := fun u => by show _ ≤ _; have := HB.out.size; simp; omega
          have K5 := Lib.hid K5
          clear hown hb hbn H86
          go_wp2_with fail
          go_at_call 65
          refine (H65.out wn).mono ?_
          rintro e w' ⟨rfl, rfl⟩
          go_wp2
          go_roundw
          case rel =>
            have := Scan.more (q := blankB) (m := m0 - a.length) (p := s.size - (j + 1)) (k := s.size - k) (S := s.data.toList.reverse) (by omega) hpl HBL.out
            refine ⟨j, a, by omega, ham, by go_num, HO.out, HB.out, .inr ⟨k, by omega, hks, rfl, ?_⟩⟩
            rw [show s.size - (j + 1) - (s.size - k) = k - (j + 1) by omega, HJ.out, show s.size - j - (s.size - k) = k - j by omega] at this
            rw [HW.out, this]
          case measure => (simp [RowKit.intOf]; try omega)
end Go.Proofs.YtgcofpmhojplhaaGreatDoor
