/- Joined texts: V12 V13 V14. -/
import Derived.Test.YtgcofpmhojplhaaGreatDoorV11
import Derived.Test.YtgcofpmhojplhaaGreatDoorS4
import Derived.ArgAppend
/- The law of split: its answers, plain. (Printed by mkv12.py.) -/
namespace Go.Proofs.YtgcofpmhojplhaaGreatDoor
open Go.RowKit

theorem words_eq (back : Bool) (z : Int) (S : List UInt8) : wordsL back z S = if z < 0 then wd blankB S.length S else if back then wdB blankB z.toNat S else wd blankB z.toNat S := by
  unfold wordsL lim
  by_cases h : z < 0
  · simp only [h, if_true]
    cases back
    · rfl
    · show wdB blankB S.length S = _
      rw [wdB_all _ _ _ (Nat.le_refl _), wd_all _ _ _ (Nat.le_refl _)]
  · simp only [h, if_false]
theorem pieces_eq (back : Bool) (p : List UInt8) (z : Int) (S : List UInt8) : piecesL back p z S = if z < 0 then pc p S.length S else if back then rs p z.toNat S else pc p z.toNat S := by
  unfold piecesL rsZ lim
  by_cases h : z < 0
  · simp only [h, if_true]
    cases back <;> rfl
  · simp only [h, if_false]
/-- The separator that an argument stands for. -/
def sepOf (k : Int) (t : ByteArray) : Option (List UInt8) := if k = 0 then none else some t.data.toList
theorem refO_eq (back : Bool) (S : List UInt8) (k : Int) (t : ByteArray) (z : Int) : refO back S k t z = splitO back S (sepOf k t) z := by
  unfold refO sepOf
  by_cases hk : k = 0
  · simp only [hk, if_true, splitO]
    rw [words_eq]
  · simp only [hk, if_false, splitO]
    by_cases ht : t.size = 0
    · simp [ht, nil_of_size ht]
    · have h1 : t.data.toList ≠ [] := size_pos_list (by omega)
      simp only [ht, h1, if_false]
      rw [pieces_eq]
def ascT (t : ByteArray) : ByteArray := ⟨(ascL t.data.toList).toArray⟩
theorem ascT_asc (t : ByteArray) : Asc (ascT t).data.toList := low7_asc _
theorem ascT_size (t : ByteArray) : (ascT t).size ≤ 60 := by
  rw [size_list0]
  show ((t.data.toList.take 60).map low7).length ≤ 60
  rw [List.length_map, List.length_take]
  exact Nat.min_le_left _ _
def MadeT (s : ByteArray) (w : World) (e : Ending) (w' : World) : Prop := e = .returned (.string s) ∧ Below w.heap.size w w'
theorem f5_txt (t : ByteArray) (ht : t.size ≤ 2147483647) (w : World) : Calls Tryz.prog 5 #[.string t] w (MadeT (ascT t) w) := f5_any t ht w
def LawIs (w : World) (e : Ending) (w' : World) : Prop := e = .returned (.bool true) ∧ Below w.heap.size w w'
/-- 'm[k] = s' at a key of bool that is new. -/
theorem run_upd_bool {w : World} {r clock : Nat} {es : Array MapEntry} (key : Bool) (s : ByteArray) (hb : w.heap[r]? = some (.map es clock)) (hf : Instr.findNow .bool (.bool key) es.toList 0 = some none) :
    (Instr.mapUpdate 40 (.map (some r)) (.bool key) (.string s)).run Tryz.prog w = .ok () { w with heap := w.heap.setIfInBounds r (.map (es.push { key := .bool key, val := .string s, born := clock }) (clock + 1)) } := by
  have hc : (Instr.checkKey false 10000 4 (.bool key)).run Tryz.prog w = .ok () w := MapKept.run_checkKey (k := .bool key) Tryz.underlying4 (by simp [MapKept.IsKey]) false 9999
  simp [Instr.mapUpdate, run_underlying Tryz.underlying40, MapKept.run_getObj_map hb, hc, MapKept.run_findKey Tryz.underlying4 hf, MapKept.run_setObj_map _ hb, Result.andThen]
/-- 'm[k]' at a key of bool that is there. -/
theorem run_look_bool {w : World} {r clock i : Nat} {es : Array MapEntry} (key : Bool) (s : ByteArray) (hb : w.heap[r]? = some (.map es clock)) (hf : Instr.findNow .bool (.bool key) es.toList 0 = some (some (i, .string s))) :
    (Instr.lookup 40 (.map (some r)) (.bool key) false).run Tryz.prog w = .ok (.string s) w := by
  have hc : ∀ e, (Instr.checkKey e 10000 4 (.bool key)).run Tryz.prog w = .ok () w := fun e => MapKept.run_checkKey (k := .bool key) Tryz.underlying4 (by simp [MapKept.IsKey]) e 9999
  simp [Instr.lookup, run_underlying Tryz.underlying40, MapKept.run_getObj_map hb, hc, MapKept.run_findKey Tryz.underlying4 hf, Result.andThen]
theorem names_made (W0 : World) (back : Bool) : ∃ W1 W2, (Instr.mapUpdate 40 (.map (some W0.heap.size)) (.bool false) (.string ⟨#[115, 112, 108, 105, 116]⟩)).run Tryz.prog (W0.alloc (.map #[] 0)) = .ok () W1 ∧
    (Instr.mapUpdate 40 (.map (some W0.heap.size)) (.bool true) (.string ⟨#[114, 115, 112, 108, 105, 116]⟩)).run Tryz.prog W1 = .ok () W2 ∧ (Instr.lookup 40 (.map (some W0.heap.size)) (.bool back) false).run Tryz.prog W2 = .ok (.string (nmOf back)) W2 ∧ Below W0.heap.size W0 W2 := by
  have h0 : (W0.alloc (.map #[] 0)).heap[W0.heap.size]? = some (.map #[] 0) := heap_alloc_new W0 _
  have u1 := run_upd_bool (w := W0.alloc (.map #[] 0)) (r := W0.heap.size) (clock := 0) (es := #[]) false ⟨#[115, 112, 108, 105, 116]⟩ h0 rfl
  have hb0 : Below W0.heap.size W0 (W0.alloc (.map #[] 0)) := (Below.refl _ _).alloc (Nat.le_refl _) _
  generalize W0.alloc (.map #[] 0) = Wa at *
  have hs : W0.heap.size < Wa.heap.size := (Array.getElem?_eq_some_iff.1 h0).1
  have h1 : (Wa.heap.setIfInBounds W0.heap.size (.map #[{ key := .bool false, val := .string ⟨#[115, 112, 108, 105, 116]⟩, born := 0 }] 1))[W0.heap.size]? = some (.map #[{ key := .bool false, val := .string ⟨#[115, 112, 108, 105, 116]⟩, born := 0 }] 1) := by
    rw [Array.getElem?_setIfInBounds_self_of_lt hs]
  have hb1 : Below W0.heap.size W0 { Wa with heap := Wa.heap.setIfInBounds W0.heap.size (.map #[{ key := .bool false, val := .string ⟨#[115, 112, 108, 105, 116]⟩, born := 0 }] 1) } :=
    ⟨hb0.os, hb0.tape, hb0.output, by simpa using hb0.size, fun k hk => by
      show (Wa.heap.setIfInBounds _ _)[k]? = _
      rw [Array.getElem?_setIfInBounds_ne (by omega)]
      exact hb0.block k hk⟩
  have u2 := run_upd_bool (w := { Wa with heap := Wa.heap.setIfInBounds W0.heap.size (.map #[{ key := .bool false, val := .string ⟨#[115, 112, 108, 105, 116]⟩, born := 0 }] 1) }) (r := W0.heap.size) (clock := 1) (es := #[{ key := .bool false, val := .string ⟨#[115, 112, 108, 105, 116]⟩, born := 0 }]) true ⟨#[114, 115, 112, 108, 105, 116]⟩ h1 rfl
  refine ⟨_, _, u1, u2, ?_, ?_⟩
  · refine run_look_bool (clock := 2) (i := if back then 1 else 0) (es := #[{ key := .bool false, val := .string ⟨#[115, 112, 108, 105, 116]⟩, born := 0 }, { key := .bool true, val := .string ⟨#[114, 115, 112, 108, 105, 116]⟩, born := 1 }]) back _ ?_ (by cases back <;> rfl)
    show (Array.setIfInBounds _ _ _)[_]? = _
    rw [Array.getElem?_setIfInBounds_self_of_lt (by simpa using hs)]
    rfl
  · refine ⟨hb1.os, hb1.tape, hb1.output, by simpa using hb1.size, fun k hk => ?_⟩
    show (Array.setIfInBounds _ _ _)[k]? = _
    rw [Array.getElem?_setIfInBounds_ne (by omega)]
    exact hb1.block k hk
theorem vint_one {B n : Nat} {w : World} {v : Value} {z : Int} (h : Z.VInt B n w v z) (h0 : -256 < z) (h1 : z < 256) : Z.VInt 0 1 w v z := by
  obtain ⟨sl, l, e, hr, hb, hl⟩ := h
  exact ⟨sl, l, e, hr.le (Nat.zero_le _), hb, hb.len_le (k := 1) (by omega)⟩
end Go.Proofs.YtgcofpmhojplhaaGreatDoor

/- The law of split: what its pieces hand on. (Printed by mkv13.py.) -/
namespace Go.Proofs.YtgcofpmhojplhaaGreatDoor
open Go.RowKit

/-- From a block's beginning on lie these cells. -/
def CellsAt (g : Nat) (xs : List Value) (w : World) : Prop := ∀ j u, xs[j]? = some u → w.cell? ((⟨g, 0, none⟩ : Addr).add j) = some u
theorem CellsAt.below {g : Nat} {xs : List Value} {w w' : World} (h : CellsAt g xs w) (hb : Below w.heap.size w w') : CellsAt g xs w' := fun j u hj => cell_below (h j u hj) hb
theorem CellsAt.new (w : World) (cs : Array Value) (t : TypeId) : CellsAt w.heap.size cs.toList (w.alloc (.cells cs t)) := World.news_of_block (heap_alloc_new w _)
theorem CellsAt.cell {g : Nat} {xs : List Value} {w : World} (h : CellsAt g xs w) (j : Nat) (u : Value) (hj : xs[j]? = some u) : w.cell? ⟨g, j, none⟩ = some u := by
  have := h j u hj
  rwa [Addr.add_lit, Nat.zero_add] at this
def intC (d : Bool) (sl : Value) : List Value := [.int .i64 2, .bool d, sl, .int .u64 0, .string ⟨#[]⟩, .slice none 0 0]
theorem args_of1 {k : Int} {t : ByteArray} {g : Nat} {w : World} (h : CellsAt g (cellsV k t (.slice none 0 0)) w) : ArgsAre k t none (.slice (some ⟨g, 0, none⟩) 1 1) w :=
  ⟨g, 1, h.cell 0 _ rfl, h.cell 4 _ rfl, rfl⟩
theorem args_of2 {k : Int} {t : ByteArray} {d : Bool} {a : Option Addr} {n cc : Nat} {z : Int} {B : Nat} {v : Value} {w : World} (h : w.ownsRow B 28 6 v 2 (cellsV k t (.slice none 0 0) ++ intC d (.slice a n cc))) (hv : Z.VInt 0 1 w (VAgg d (.slice a n cc)) z) (h0 : -256 < z) (h1 : z < 256) : ArgsAre k t (some z) v w := by
  obtain ⟨A, c, rfl⟩ := own_len h
  obtain ⟨g, rfl, _⟩ := own_formS h (by omega)
  have hc : ∀ j, j < 12 → w.cell? ⟨g, j, none⟩ = (cellsV k t (.slice none 0 0) ++ intC d (.slice a n cc))[j]? := fun j hj => h.cellAt j (by omega)
  exact ⟨g, c, hc 0 (by omega), hc 4 (by omega), rfl, ⟨d, a, n, cc, ⟨hc 6 (by omega), hc 7 (by omega), hc 8 (by omega), hc 9 (by omega), hc 10 (by omega), hc 11 (by omega)⟩, hv⟩, h0, h1⟩
/-- The thin package's bound, out of its cells. -/
theorem max_of {d : Bool} {a : Option Addr} {n cc : Nat} {z : Int} {g : Nat} {w : World} (h : CellsAt g (intC d (.slice a n cc)) w) (hv : Z.VInt 0 1 w (VAgg d (.slice a n cc)) z) (h0 : -256 < z) (h1 : z < 256) : MaxArg (.slice (some ⟨g, 0, none⟩) 1 1) z w :=
  .inr ⟨g, 1, d, a, n, cc, rfl, by unfold Z.smallB; exact decide_eq_true (by omega), ⟨h.cell 0 _ rfl, h.cell 1 _ rfl, h.cell 2 _ rfl, h.cell 3 _ rfl, h.cell 4 _ rfl, h.cell 5 _ rfl⟩, hv.le (Nat.zero_le _) (by omega)⟩
/-- The separator's slice. -/
def SepArg (k : Int) (t : ByteArray) (v : Value) (w : World) : Prop := (k = 0 ∧ v = .slice none 0 0) ∨ (k = 4 ∧ ∃ g, v = .slice (some ⟨g, 0, none⟩) 1 1 ∧ w.cell? ⟨g, 0, none⟩ = some (.string t))
theorem SepArg.below {k : Int} {t : ByteArray} {v : Value} {w w' : World} (h : SepArg k t v w) (hb : Below w.heap.size w w') : SepArg k t v w' := by
  rcases h with h | ⟨hk, g, hv, hc⟩
  · exact .inl h
  · exact .inr ⟨hk, g, hv, cell_below hc hb⟩
theorem im_split (back : Bool) (s : ByteArray) (ha : Asc s.data.toList) (hs : s.size ≤ 100000) {k : Int} {t : ByteArray} (ht : t.size ≤ 100000) (sv mv : Value) (z : Int) (hz : z ≤ 1000) (w : World) (hT : Lib.Utf8Tabs 1 2 w) (hsv : SepArg k t sv w) (hm : MaxArg mv z w) :
    Calls Tryz.prog 12 #[.bool back, .string s, sv, mv] w (TripIs (splitO back s.data.toList (sepOf k t) z) w) := by
  rcases hsv with ⟨rfl, rfl⟩ | ⟨rfl, g, rfl, hc⟩
  · exact im_words back s ha hs mv z hz w hT hm
  · exact im_seps back s t ha hs ht mv z hz g 1 w hT hc hm
theorem f7_split (back : Bool) (s : ByteArray) (hs : s.size ≤ 100000) {k : Int} {t : ByteArray} {mz : Option Int} {v : Value} {w : World} (ht : t.size ≤ 100000) (hk : k = 0 ∨ k = 4) (hno : ¬ (back = true ∧ k = 4 ∧ Ov t.data.toList)) (h : ArgsAre k t mz v w) :
    Calls Tryz.prog 7 #[.string s, .string (nmOf back), v] w (AskIs (splitO back s.data.toList (sepOf k t) (boundZ mz)) w) := by
  have hz : boundZ mz ≤ 1000 := by
    obtain ⟨_, _, _, _, h⟩ := h
    cases mz with
    | none => show (-1 : Int) ≤ 1000; omega
    | some z => obtain ⟨_, _, _, h6⟩ := h; show z ≤ 1000; omega
  refine f7_args _ s v _ (fun l hl => splitO_len back _ _ _ (by rw [← size_list0]; exact hs) hz l hl) w fun w1 hb => ?_
  refine f14_args back s v _ w1 fun w2 hb2 => ?_
  rw [← refO_eq]
  exact f27_args s hs back ht hk hno (h.below (hb.trans (hb2.mono hb.size)))
theorem ov_space : ¬ Ov [32] := fun ⟨i, h0, h1, _⟩ => by simp at h1; omega
theorem two_words : splitO false [97, 32, 98] (sepOf 0 ⟨#[]⟩) (-1) = some [[97], [98]] := by rfl
theorem asc_abc : Asc [97, 32, 98, 32, 99] := by intro b hb; simp at hb; rcases hb with rfl | rfl | rfl | rfl | rfl <;> decide
theorem asc_ab : Asc [97, 32, 98] := by intro b hb; simp at hb; rcases hb with rfl | rfl | rfl <;> decide
end Go.Proofs.YtgcofpmhojplhaaGreatDoor

/- The law of split, walked. (Printed by mkv14.py.) -/
namespace Go.Proofs.YtgcofpmhojplhaaGreatDoor
open Go.RowKit

theorem val_cells (k : Int) (t : ByteArray) : ∀ u ∈ cellsV k t (.slice none 0 0), u.oneCell' = true := by intro u hu; simp [cellsV] at hu; rcases hu with rfl | rfl | rfl | rfl | rfl | rfl <;> rfl
theorem int_cells (d : Bool) (a : Option Addr) (n c : Nat) : ∀ u ∈ intC d (.slice a n c), u.oneCell' = true := by intro u hu; simp [intC] at hu; rcases hu with rfl | rfl | rfl | rfl | rfl | rfl <;> rfl
theorem grown_none {w w' : World} (h : w.grownBy w' none) : Below w.heap.size w w' := (Below.refl _ _).grown h (Nat.le_refl _) (by intro k hk; cases hk)
set_option maxRecDepth 100000 in
set_option maxHeartbeats 8000000 in
theorem f4_word_n (back : Bool) (text between : ByteArray) (ht : text.size ≤ 2147483647) (hb2 : between.size ≤ 2147483647) (most : Int) (hm0 : -128 ≤ most) (hm1 : most ≤ 127) (w : World) (hT : Lib.Utf8Tabs 1 2 w) :
    Calls Tryz.prog 4 #[.bool back, .string text, .string between, .bool false, .int .i8 most, .bool false] w (LawIs w) := by
  obtain ⟨i0, hi, hz0, hz1, hz2⟩ := info_parts infoVal28
  have H5 := Lib.hid (fun w => f5_txt text ht w)
  have t1 : ¬ (2147483647 : Int) < (text.size : Int) := by omega
  have t2 : ¬ (2147483647 : Int) < (between.size : Int) := by omega
  have hmm := @run_makeMap Tryz.prog
  have HMM : Hid (-256 < most ∧ most < 256) := ⟨by omega, by omega⟩
  have HSA : Hid ((ascT text).size ≤ 100000) := by show _ ≤ _; have := ascT_size text; omega
  have HSB : Hid ((ascT between).size ≤ 100000) := by show _ ≤ _; have := ascT_size between; omega
  have HB : Hid (Below w.heap.size w w) := Below.refl _ _
  have H6 := Lib.hid (fun s w => f6_any s w)
  go_enter Tryz.func4, Tryz.ntmps4
  go_wp2_with fail
  go_at_call 5
  refine (H5.out _).mono ?_
  rintro e w1 ⟨rfl, hb⟩
  have HB := Lib.hid (HB.out.trans (hb.mono HB.out.size))
  clear hb
  have hb : Below w1.heap.size w1 (w1.alloc (.cells #[.int .i64 0, .bool false, .slice none 0 0, .int .u64 0, .string ⟨#[]⟩, .slice none 0 0] 28)) := (Below.refl _ _).alloc (Nat.le_refl _) _
  have HB := Lib.hid (HB.out.trans (hb.mono HB.out.size))
  clear hb
  have CA : Hid (CellsAt w1.heap.size (cellsV 0 ⟨#[]⟩ (.slice none 0 0)) (w1.alloc (.cells #[.int .i64 0, .bool false, .slice none 0 0, .int .u64 0, .string ⟨#[]⟩, .slice none 0 0] 28))) := CellsAt.new _ _ _
  have SEP : Hid (SepArg 0 ⟨#[]⟩ (.slice none 0 0) (w1.alloc (.cells #[.int .i64 0, .bool false, .slice none 0 0, .int .u64 0, .string ⟨#[]⟩, .slice none 0 0] 28))) := .inl ⟨rfl, rfl⟩
  obtain ⟨Wm, Wn, u1, u2, u3, hb⟩ := names_made (w1.alloc (.cells #[.int .i64 0, .bool false, .slice none 0 0, .int .u64 0, .string ⟨#[]⟩, .slice none 0 0] 28)) back
  rw [World.size_alloc] at u1 u2 u3
  have HB := Lib.hid (HB.out.trans (hb.mono HB.out.size))
  have CA := Lib.hid (CA.out.below hb)
  have SEP := Lib.hid (SEP.out.below hb)
  clear hb
  have HAR := Lib.hid (args_of1 CA.out)
  have H11 := Lib.hid (f11_args back (s := ascT text) HSA.out (t := ⟨#[]⟩) (by decide) (by omega) HAR.out)
  go_wp2_with fail
  go_at_call 11
  refine (H11.out).mono ?_
  rintro e w8 ⟨⟨r, rfl, hr⟩, hb⟩
  have HAR := 0
  have HB := Lib.hid (HB.out.trans (hb.mono HB.out.size))
  have CA := Lib.hid (CA.out.below hb)
  have SEP := Lib.hid (SEP.out.below hb)
  clear hb
  cases r with
  | false =>
    have HNO : Hid (¬ (back = true ∧ (0 : Int) = 4 ∧ Ov (⟨#[]⟩ : ByteArray).data.toList)) := by
      have h := hr rfl
      first | exact h | exact fun ⟨h1, _, h3⟩ => h ⟨h1, trivial, h3⟩
    clear hr
    have HSZ := HSA
    have HAR := Lib.hid (args_of1 CA.out)
    obtain ⟨O, hO⟩ : ∃ O, O = splitO back (ascT text).data.toList (sepOf 0 ⟨#[]⟩) (-1) := ⟨_, rfl⟩
    have H7 := Lib.hid (f7_split back (ascT text) HSZ.out (k := 0) (t := ⟨#[]⟩) (by decide) (by omega) (by first | exact HNO.out | exact fun ⟨h1, _, h3⟩ => HNO.out ⟨h1, trivial, h3⟩) HAR.out)
    have HM : Hid (MaxArg (.slice none 0 0) (-1) w8) := .inl ⟨rfl, rfl⟩
    have H12 := Lib.hid (fun W hT hs hm => im_split back (ascT text) (ascT_asc text) HSZ.out (k := 0) (t := ⟨#[]⟩) (by decide) (.slice none 0 0) (.slice none 0 0) (-1) (by omega) W hT hs hm)
    rw [show boundZ none = (-1) from rfl] at H7
    rw [← hO] at H7 H12
    have HLO : Hid (∀ l, O = some l → l.length ≤ 1000000) := fun l hl => splitO_len back _ _ (-1) (by rw [← size_list0]; exact HSZ.out) (by omega) l (hO.symm.trans hl)
    clear hO
    cases O with
    | none =>
      go_wp2_with fail
      go_at_call 7
      refine (H7.out).mono ?_
      rintro e w9 ⟨rfl, hb⟩
      unfold aggV cellsV
      have HB := Lib.hid (HB.out.trans (hb.mono HB.out.size))
      have CA := Lib.hid (CA.out.below hb)
      have SEP := Lib.hid (SEP.out.below hb)
      have HM := Lib.hid (HM.out.below hb)
      clear hb
      have hb : Below w9.heap.size w9 (w9.alloc (.cells #[.int .i64 0, .bool false, .slice none 0 0, .int .u64 0, .string ⟨#[]⟩, .slice none 0 0] 28)) := (Below.refl _ _).alloc (Nat.le_refl _) _
      have HB := Lib.hid (HB.out.trans (hb.mono HB.out.size))
      have CA := Lib.hid (CA.out.below hb)
      have SEP := Lib.hid (SEP.out.below hb)
      have HM := Lib.hid (HM.out.below hb)
      clear hb
      go_wp2_with fail
      go_at_call 12
      refine (H12.out _ (tabs_below hT HB.out) SEP.out HM.out).mono ?_
      rintro e wx ⟨rfl, hb⟩
      have HB := Lib.hid (HB.out.trans (hb.mono HB.out.size))
      have CA := Lib.hid (CA.out.below hb)
      have SEP := Lib.hid (SEP.out.below hb)
      have HM := Lib.hid (HM.out.below hb)
      clear hb
      have H2 := im_split false ⟨#[97, 32, 98]⟩ asc_ab (by decide) (k := 0) (t := ⟨#[]⟩) (by decide) (.slice none 0 0) (.slice none 0 0) (-1) (by omega) wx (tabs_below hT HB.out) (.inl ⟨rfl, rfl⟩) (.inl ⟨rfl, rfl⟩)
      rw [show splitO false (⟨#[97, 32, 98]⟩ : ByteArray).data.toList (sepOf 0 ⟨#[]⟩) (-1) = some [[97], [98]] from two_words] at H2
      have H2 := Lib.hid H2
      go_wp2_with fail
      go_at_call 12
      refine (H2.out).mono ?_
      rintro e wy ⟨vy, rfl, hoy, hb⟩
      obtain ⟨yA, yc, rfl⟩ := own_len hoy
      clear hoy
      have HB := Lib.hid (HB.out.trans (hb.mono HB.out.size))
      have CA := Lib.hid (CA.out.below hb)
      have SEP := Lib.hid (SEP.out.below hb)
      have HM := Lib.hid (HM.out.below hb)
      clear hb
      rw [show [[(97 : UInt8)], [98]].length = 2 from rfl]
      go_wp2
      go_ret
      exact ⟨rfl, HB.out⟩
    | some l =>
      have HLL : Hid (l.length ≤ 1000000) := HLO.out l rfl
      go_wp2_with fail
      go_at_call 7
      refine (H7.out).mono ?_
      rintro e w9 ⟨v9, rA, rc, rfl, ho9, hb⟩
      unfold aggV cellsV
      have HB := Lib.hid (HB.out.trans (hb.mono HB.out.size))
      have CA := Lib.hid (CA.out.below hb)
      have SEP := Lib.hid (SEP.out.below hb)
      have HM := Lib.hid (HM.out.below hb)
      clear hb
      obtain ⟨oA, oc, rfl⟩ := own_len ho9
      have hb : Below w9.heap.size w9 (w9.alloc (.cells #[.int .i64 6, .bool false, .slice none 0 0, .int .u64 0, .string ⟨#[]⟩, .slice rA l.length rc] 28)) := (Below.refl _ _).alloc (Nat.le_refl _) _
      have HB := Lib.hid (HB.out.trans (hb.mono HB.out.size))
      have CA := Lib.hid (CA.out.below hb)
      have SEP := Lib.hid (SEP.out.below hb)
      have HM := Lib.hid (HM.out.below hb)
      clear hb
      have HO9 := Lib.hid (own_below ho9 ((Below.refl w9.heap.size w9).alloc (Nat.le_refl _) (.cells #[.int .i64 6, .bool false, .slice none 0 0, .int .u64 0, .string ⟨#[]⟩, .slice rA l.length rc] 28)))
      clear ho9
      go_wp2_with fail
      go_at_call 12
      refine (H12.out _ (tabs_below hT HB.out) SEP.out HM.out).mono ?_
      rintro e wx ⟨vx, rfl, hox, hb⟩
      obtain ⟨xA, xc, rfl⟩ := own_len hox
      have HOX := Lib.hid hox
      have HO9 := Lib.hid (own_below HO9.out hb)
      clear hox
      have HB := Lib.hid (HB.out.trans (hb.mono HB.out.size))
      have CA := Lib.hid (CA.out.below hb)
      have SEP := Lib.hid (SEP.out.below hb)
      have HM := Lib.hid (HM.out.below hb)
      clear hb
      have H2 := im_split false ⟨#[97, 32, 98]⟩ asc_ab (by decide) (k := 0) (t := ⟨#[]⟩) (by decide) (.slice none 0 0) (.slice none 0 0) (-1) (by omega) wx (tabs_below hT HB.out) (.inl ⟨rfl, rfl⟩) (.inl ⟨rfl, rfl⟩)
      rw [show splitO false (⟨#[97, 32, 98]⟩ : ByteArray).data.toList (sepOf 0 ⟨#[]⟩) (-1) = some [[97], [98]] from two_words] at H2
      have H2 := Lib.hid H2
      go_wp2_with fail
      go_at_call 12
      refine (H2.out).mono ?_
      rintro e wy ⟨vy, rfl, hoy, hb⟩
      obtain ⟨yA, yc, rfl⟩ := own_len hoy
      have HOX := Lib.hid (own_below HOX.out hb)
      have HO9 := Lib.hid (own_below HO9.out hb)
      clear hoy
      have HB := Lib.hid (HB.out.trans (hb.mono HB.out.size))
      have CA := Lib.hid (CA.out.below hb)
      have SEP := Lib.hid (SEP.out.below hb)
      have HM := Lib.hid (HM.out.below hb)
      clear hb
      rw [show [[(97 : UInt8)], [98]].length = 2 from rfl]
      go_wp2_with fail
      go_at_call 13
      refine (f13_same l HLL.out _ _ _ _ wy HOX.out HO9.out).mono ?_
      rintro e wz ⟨rfl, rfl⟩
      go_wp2
      go_ret
      exact ⟨rfl, HB.out⟩
  | true =>
    clear hr
    have HSZ : Hid ((⟨#[97, 32, 98, 32, 99]⟩ : ByteArray).size ≤ 100000) := by show _ ≤ _; decide
    clear CA SEP
    have hb : Below w8.heap.size w8 (w8.alloc (.cells #[.string ⟨#[32]⟩] 9)) := (Below.refl _ _).alloc (Nat.le_refl _) _
    have HB := Lib.hid (HB.out.trans (hb.mono HB.out.size))
    clear hb
    have SEP : Hid (SepArg 4 ⟨#[32]⟩ (.slice (some ⟨w8.heap.size, 0, none⟩) 1 1) (w8.alloc (.cells #[.string ⟨#[32]⟩] 9))) := .inr ⟨rfl, _, rfl, by simp [go_sem]⟩
    go_wp2_with fail
    go_at_call 6
    refine (H6.out _ _).mono ?_
    rintro e wb ⟨rfl, hb⟩
    have HB := Lib.hid (HB.out.trans (hb.mono HB.out.size))
    have SEP := Lib.hid (SEP.out.below hb)
    clear hb
    have hb : Below wb.heap.size wb (wb.alloc (.cells #[.int .i64 4, .bool false, .slice none 0 0, .int .u64 0, .string ⟨#[32]⟩, .slice none 0 0] 28)) := (Below.refl _ _).alloc (Nat.le_refl _) _
    have HB := Lib.hid (HB.out.trans (hb.mono HB.out.size))
    have SEP := Lib.hid (SEP.out.below hb)
    clear hb
    have CA : Hid (CellsAt wb.heap.size (cellsV 4 ⟨#[32]⟩ (.slice none 0 0)) (wb.alloc (.cells #[.int .i64 4, .bool false, .slice none 0 0, .int .u64 0, .string ⟨#[32]⟩, .slice none 0 0] 28))) := CellsAt.new _ _ _
    have HAR := Lib.hid (args_of1 CA.out)
    obtain ⟨O, hO⟩ : ∃ O, O = splitO back (⟨#[97, 32, 98, 32, 99]⟩ : ByteArray).data.toList (sepOf 4 ⟨#[32]⟩) (-1) := ⟨_, rfl⟩
    have H7 := Lib.hid (f7_split back ⟨#[97, 32, 98, 32, 99]⟩ HSZ.out (k := 4) (t := ⟨#[32]⟩) (by decide) (by omega) (fun h => ov_space h.2.2) HAR.out)
    have HM : Hid (MaxArg (.slice none 0 0) (-1) (wb.alloc (.cells #[.int .i64 4, .bool false, .slice none 0 0, .int .u64 0, .string ⟨#[32]⟩, .slice none 0 0] 28))) := .inl ⟨rfl, rfl⟩
    have H12 := Lib.hid (fun W hT hs hm => im_split back ⟨#[97, 32, 98, 32, 99]⟩ asc_abc HSZ.out (k := 4) (t := ⟨#[32]⟩) (by decide) (.slice (some ⟨w8.heap.size, 0, none⟩) 1 1) (.slice none 0 0) (-1) (by omega) W hT hs hm)
    rw [show boundZ none = (-1) from rfl] at H7
    rw [← hO] at H7 H12
    have HLO : Hid (∀ l, O = some l → l.length ≤ 1000000) := fun l hl => splitO_len back _ _ (-1) (by rw [← size_list0]; exact HSZ.out) (by omega) l (hO.symm.trans hl)
    clear hO
    cases O with
    | none =>
      go_wp2_with fail
      go_at_call 7
      refine (H7.out).mono ?_
      rintro e w9 ⟨rfl, hb⟩
      unfold aggV cellsV
      have HB := Lib.hid (HB.out.trans (hb.mono HB.out.size))
      have SEP := Lib.hid (SEP.out.below hb)
      have CA := Lib.hid (CA.out.below hb)
      have HM := Lib.hid (HM.out.below hb)
      clear hb
      have hb : Below w9.heap.size w9 (w9.alloc (.cells #[.int .i64 0, .bool false, .slice none 0 0, .int .u64 0, .string ⟨#[]⟩, .slice none 0 0] 28)) := (Below.refl _ _).alloc (Nat.le_refl _) _
      have HB := Lib.hid (HB.out.trans (hb.mono HB.out.size))
      have SEP := Lib.hid (SEP.out.below hb)
      have CA := Lib.hid (CA.out.below hb)
      have HM := Lib.hid (HM.out.below hb)
      clear hb
      go_wp2_with fail
      go_at_call 12
      refine (H12.out _ (tabs_below hT HB.out) SEP.out HM.out).mono ?_
      rintro e wx ⟨rfl, hb⟩
      have HB := Lib.hid (HB.out.trans (hb.mono HB.out.size))
      have SEP := Lib.hid (SEP.out.below hb)
      have CA := Lib.hid (CA.out.below hb)
      have HM := Lib.hid (HM.out.below hb)
      clear hb
      have H2 := im_split false ⟨#[97, 32, 98]⟩ asc_ab (by decide) (k := 0) (t := ⟨#[]⟩) (by decide) (.slice none 0 0) (.slice none 0 0) (-1) (by omega) wx (tabs_below hT HB.out) (.inl ⟨rfl, rfl⟩) (.inl ⟨rfl, rfl⟩)
      rw [show splitO false (⟨#[97, 32, 98]⟩ : ByteArray).data.toList (sepOf 0 ⟨#[]⟩) (-1) = some [[97], [98]] from two_words] at H2
      have H2 := Lib.hid H2
      go_wp2_with fail
      go_at_call 12
      refine (H2.out).mono ?_
      rintro e wy ⟨vy, rfl, hoy, hb⟩
      obtain ⟨yA, yc, rfl⟩ := own_len hoy
      clear hoy
      have HB := Lib.hid (HB.out.trans (hb.mono HB.out.size))
      have SEP := Lib.hid (SEP.out.below hb)
      have CA := Lib.hid (CA.out.below hb)
      have HM := Lib.hid (HM.out.below hb)
      clear hb
      rw [show [[(97 : UInt8)], [98]].length = 2 from rfl]
      go_wp2
      go_ret
      exact ⟨rfl, HB.out⟩
    | some l =>
      have HLL : Hid (l.length ≤ 1000000) := HLO.out l rfl
      go_wp2_with fail
      go_at_call 7
      refine (H7.out).mono ?_
      rintro e w9 ⟨v9, rA, rc, rfl, ho9, hb⟩
      unfold aggV cellsV
      have HB := Lib.hid (HB.out.trans (hb.mono HB.out.size))
      have SEP := Lib.hid (SEP.out.below hb)
      have CA := Lib.hid (CA.out.below hb)
      have HM := Lib.hid (HM.out.below hb)
      clear hb
      obtain ⟨oA, oc, rfl⟩ := own_len ho9
      have hb : Below w9.heap.size w9 (w9.alloc (.cells #[.int .i64 6, .bool false, .slice none 0 0, .int .u64 0, .string ⟨#[]⟩, .slice rA l.length rc] 28)) := (Below.refl _ _).alloc (Nat.le_refl _) _
      have HB := Lib.hid (HB.out.trans (hb.mono HB.out.size))
      have SEP := Lib.hid (SEP.out.below hb)
      have CA := Lib.hid (CA.out.below hb)
      have HM := Lib.hid (HM.out.below hb)
      clear hb
      have HO9 := Lib.hid (own_below ho9 ((Below.refl w9.heap.size w9).alloc (Nat.le_refl _) (.cells #[.int .i64 6, .bool false, .slice none 0 0, .int .u64 0, .string ⟨#[]⟩, .slice rA l.length rc] 28)))
      clear ho9
      go_wp2_with fail
      go_at_call 12
      refine (H12.out _ (tabs_below hT HB.out) SEP.out HM.out).mono ?_
      rintro e wx ⟨vx, rfl, hox, hb⟩
      obtain ⟨xA, xc, rfl⟩ := own_len hox
      have HOX := Lib.hid hox
      have HO9 := Lib.hid (own_below HO9.out hb)
      clear hox
      have HB := Lib.hid (HB.out.trans (hb.mono HB.out.size))
      have SEP := Lib.hid (SEP.out.below hb)
      have CA := Lib.hid (CA.out.below hb)
      have HM := Lib.hid (HM.out.below hb)
      clear hb
      have H2 := im_split false ⟨#[97, 32, 98]⟩ asc_ab (by decide) (k := 0) (t := ⟨#[]⟩) (by decide) (.slice none 0 0) (.slice none 0 0) (-1) (by omega) wx (tabs_below hT HB.out) (.inl ⟨rfl, rfl⟩) (.inl ⟨rfl, rfl⟩)
      rw [show splitO false (⟨#[97, 32, 98]⟩ : ByteArray).data.toList (sepOf 0 ⟨#[]⟩) (-1) = some [[97], [98]] from two_words] at H2
      have H2 := Lib.hid H2
      go_wp2_with fail
      go_at_call 12
      refine (H2.out).mono ?_
      rintro e wy ⟨vy, rfl, hoy, hb⟩
      obtain ⟨yA, yc, rfl⟩ := own_len hoy
      have HOX := Lib.hid (own_below HOX.out hb)
      have HO9 := Lib.hid (own_below HO9.out hb)
      clear hoy
      have HB := Lib.hid (HB.out.trans (hb.mono HB.out.size))
      have SEP := Lib.hid (SEP.out.below hb)
      have CA := Lib.hid (CA.out.below hb)
      have HM := Lib.hid (HM.out.below hb)
      clear hb
      rw [show [[(97 : UInt8)], [98]].length = 2 from rfl]
      go_wp2_with fail
      go_at_call 13
      refine (f13_same l HLL.out _ _ _ _ wy HOX.out HO9.out).mono ?_
      rintro e wz ⟨rfl, rfl⟩
      go_wp2
      go_ret
      exact ⟨rfl, HB.out⟩
set_option maxRecDepth 100000 in
set_option maxHeartbeats 8000000 in
theorem f4_word_b (back : Bool) (text between : ByteArray) (ht : text.size ≤ 2147483647) (hb2 : between.size ≤ 2147483647) (most : Int) (hm0 : -128 ≤ most) (hm1 : most ≤ 127) (w : World) (hT : Lib.Utf8Tabs 1 2 w) :
    Calls Tryz.prog 4 #[.bool back, .string text, .string between, .bool false, .int .i8 most, .bool true] w (LawIs w) := by
  obtain ⟨i0, hi, hz0, hz1, hz2⟩ := info_parts infoVal28
  have H5 := Lib.hid (fun w => f5_txt text ht w)
  have t1 : ¬ (2147483647 : Int) < (text.size : Int) := by omega
  have t2 : ¬ (2147483647 : Int) < (between.size : Int) := by omega
  have hmm := @run_makeMap Tryz.prog
  have HMM : Hid (-256 < most ∧ most < 256) := ⟨by omega, by omega⟩
  have HSA : Hid ((ascT text).size ≤ 100000) := by show _ ≤ _; have := ascT_size text; omega
  have HSB : Hid ((ascT between).size ≤ 100000) := by show _ ≤ _; have := ascT_size between; omega
  have HB : Hid (Below w.heap.size w w) := Below.refl _ _
  have H6 := Lib.hid (fun s w => f6_any s w)
  go_enter Tryz.func4, Tryz.ntmps4
  go_wp2_with fail
  go_at_call 5
  refine (H5.out _).mono ?_
  rintro e w1 ⟨rfl, hb⟩
  have HB := Lib.hid (HB.out.trans (hb.mono HB.out.size))
  clear hb
  have hb : Below w1.heap.size w1 (w1.alloc (.cells #[.int .i64 0, .bool false, .slice none 0 0, .int .u64 0, .string ⟨#[]⟩, .slice none 0 0] 28)) := (Below.refl _ _).alloc (Nat.le_refl _) _
  have HB := Lib.hid (HB.out.trans (hb.mono HB.out.size))
  clear hb
  have CA : Hid (CellsAt w1.heap.size (cellsV 0 ⟨#[]⟩ (.slice none 0 0)) (w1.alloc (.cells #[.int .i64 0, .bool false, .slice none 0 0, .int .u64 0, .string ⟨#[]⟩, .slice none 0 0] 28))) := CellsAt.new _ _ _
  have SEP : Hid (SepArg 0 ⟨#[]⟩ (.slice none 0 0) (w1.alloc (.cells #[.int .i64 0, .bool false, .slice none 0 0, .int .u64 0, .string ⟨#[]⟩, .slice none 0 0] 28))) := .inl ⟨rfl, rfl⟩
  have H10 := Lib.hid (Z.f10_int most (by omega) (by omega) (w1.alloc (.cells #[.int .i64 0, .bool false, .slice none 0 0, .int .u64 0, .string ⟨#[]⟩, .slice none 0 0] 28)))
  go_wp2_with fail
  go_at_call 10
  refine (H10.out).mono ?_
  rintro e w5 ⟨v5, rfl, hs5, hb⟩
  obtain ⟨d5, a5, n5, c5, rfl⟩ := hs5.shape
  have H9 := Lib.hid (Z.f9_any 8 (by omega) _ most w5 _ hs5)
  clear hs5
  have HB := Lib.hid (HB.out.trans (hb.mono HB.out.size))
  have CA := Lib.hid (CA.out.below hb)
  have SEP := Lib.hid (SEP.out.below hb)
  clear hb
  go_wp2_with fail
  go_at_call 9
  refine (H9.out).mono ?_
  rintro e w6 ⟨v6, rfl, hv6, hb⟩
  have HB := Lib.hid (HB.out.trans (hb.mono HB.out.size))
  have CA := Lib.hid (CA.out.below hb)
  have SEP := Lib.hid (SEP.out.below hb)
  clear hb
  have hv6 := vint_one hv6 HMM.out.1 HMM.out.2
  have hv7 := hv6
  obtain ⟨sl6, l6, rfl, hr6, _, _⟩ := hv6
  obtain ⟨ia, ic, rfl⟩ := hr6.len
  obtain ⟨d, hd⟩ : ∃ d, d = decide (most < 0) := ⟨_, rfl⟩
  rw [← hd] at hv7 ⊢
  obtain ⟨il, hil⟩ : ∃ il, il = l6.length := ⟨_, rfl⟩
  rw [← hil] at hv7 ⊢
  have HV : Hid (Z.VInt 0 1 w6 (VAgg d (.slice ia il ic)) most) := hv7
  clear hd hil hr6 hv7
  have hb : Below w6.heap.size w6 (w6.alloc (.cells #[.int .i64 2, .bool d, .slice ia il ic, .int .u64 0, .string ⟨#[]⟩, .slice none 0 0] 28)) := (Below.refl _ _).alloc (Nat.le_refl _) _
  have HB := Lib.hid (HB.out.trans (hb.mono HB.out.size))
  have CA := Lib.hid (CA.out.below hb)
  have SEP := Lib.hid (SEP.out.below hb)
  have HV := Lib.hid (HV.out.below hb (Nat.le_refl _))
  clear hb
  have CC : Hid (CellsAt w6.heap.size (intC d (.slice ia il ic)) (w6.alloc (.cells #[.int .i64 2, .bool d, .slice ia il ic, .int .u64 0, .string ⟨#[]⟩, .slice none 0 0] 28))) := CellsAt.new _ _ _
  obtain ⟨Wm, Wn, u1, u2, u3, hb⟩ := names_made (w6.alloc (.cells #[.int .i64 2, .bool d, .slice ia il ic, .int .u64 0, .string ⟨#[]⟩, .slice none 0 0] 28)) back
  rw [World.size_alloc] at u1 u2 u3
  have HB := Lib.hid (HB.out.trans (hb.mono HB.out.size))
  have CA := Lib.hid (CA.out.below hb)
  have SEP := Lib.hid (SEP.out.below hb)
  have HV := Lib.hid (HV.out.below hb (Nat.le_refl _))
  have CC := Lib.hid (CC.out.below hb)
  clear hb
  skip
  go_wp2_with (at_builtin; refine wpList_append_grows _ rfl (.tmp 59) (.tmp 60) 24 rfl 28 i0 (aggV 0 ⟨#[]⟩ (.slice none 0 0)) 6 88 Tryz.underlying24 hi hz0 hz1 hz2 rfl (by decide) (some ⟨w1.heap.size, 0, none⟩) 1 1 (cellsV 0 ⟨#[]⟩ (.slice none 0 0)) rfl (by intro h; cases h) rfl (by intro b hb; cases hb; exact CA.out) ⟨w6.heap.size, 0, none⟩ 1 1 (intC d (.slice ia il ic)) rfl rfl CC.out (int_cells _ _ _ _) (by omega) (by unfold maxLen; omega) (by omega) ?_)
  intro va wa1 hown hgrow
  have hb := grown_none hgrow
  have HVx := HV.out.below hb (Nat.le_refl _)
  have HAR := Lib.hid (args_of2 hown HVx HMM.out.1 HMM.out.2)
  clear hgrow hown HVx
  have HB := Lib.hid (HB.out.trans (hb.mono HB.out.size))
  have CA := Lib.hid (CA.out.below hb)
  have SEP := Lib.hid (SEP.out.below hb)
  have HV := Lib.hid (HV.out.below hb (Nat.le_refl _))
  have CC := Lib.hid (CC.out.below hb)
  clear hb
  generalize hva : va = va2 at *
  clear hva
  have H11 := Lib.hid (f11_args back (s := ascT text) HSA.out (t := ⟨#[]⟩) (by decide) (by omega) HAR.out)
  go_wp2_with fail
  go_at_call 11
  refine (H11.out).mono ?_
  rintro e w8 ⟨⟨r, rfl, hr⟩, hb⟩
  have HAR := 0
  have HB := Lib.hid (HB.out.trans (hb.mono HB.out.size))
  have CA := Lib.hid (CA.out.below hb)
  have SEP := Lib.hid (SEP.out.below hb)
  have HV := Lib.hid (HV.out.below hb (Nat.le_refl _))
  have CC := Lib.hid (CC.out.below hb)
  clear hb
  cases r with
  | false =>
    have HNO : Hid (¬ (back = true ∧ (0 : Int) = 4 ∧ Ov (⟨#[]⟩ : ByteArray).data.toList)) := by
      have h := hr rfl
      first | exact h | exact fun ⟨h1, _, h3⟩ => h ⟨h1, trivial, h3⟩
    clear hr
    have HSZ := HSA
    go_wp2_with (at_builtin; refine wpList_append_grows _ rfl (.tmp 69) (.tmp 70) 24 rfl 28 i0 (aggV 0 ⟨#[]⟩ (.slice none 0 0)) 6 88 Tryz.underlying24 hi hz0 hz1 hz2 rfl (by decide) (some ⟨w1.heap.size, 0, none⟩) 1 1 (cellsV 0 ⟨#[]⟩ (.slice none 0 0)) rfl (by intro h; cases h) rfl (by intro b hb; cases hb; exact CA.out) ⟨w6.heap.size, 0, none⟩ 1 1 (intC d (.slice ia il ic)) rfl rfl CC.out (int_cells _ _ _ _) (by omega) (by unfold maxLen; omega) (by omega) ?_)
    intro va wa2 hown hgrow
    have hb := grown_none hgrow
    have HVx := HV.out.below hb (Nat.le_refl _)
    have HAR := Lib.hid (args_of2 hown HVx HMM.out.1 HMM.out.2)
    clear hgrow hown HVx
    have HB := Lib.hid (HB.out.trans (hb.mono HB.out.size))
    have CA := Lib.hid (CA.out.below hb)
    have SEP := Lib.hid (SEP.out.below hb)
    have HV := Lib.hid (HV.out.below hb (Nat.le_refl _))
    have CC := Lib.hid (CC.out.below hb)
    clear hb
    generalize hva : va = va2 at *
    clear hva
    obtain ⟨O, hO⟩ : ∃ O, O = splitO back (ascT text).data.toList (sepOf 0 ⟨#[]⟩) most := ⟨_, rfl⟩
    have H7 := Lib.hid (f7_split back (ascT text) HSZ.out (k := 0) (t := ⟨#[]⟩) (by decide) (by omega) (by first | exact HNO.out | exact fun ⟨h1, _, h3⟩ => HNO.out ⟨h1, trivial, h3⟩) HAR.out)
    have HM := Lib.hid (max_of CC.out HV.out HMM.out.1 HMM.out.2)
    have H12 := Lib.hid (fun W hT hs hm => im_split back (ascT text) (ascT_asc text) HSZ.out (k := 0) (t := ⟨#[]⟩) (by decide) (.slice none 0 0) (.slice (some ⟨w6.heap.size, 0, none⟩) 1 1) most (by have := HMM.out.2; omega) W hT hs hm)
    rw [show boundZ (some most) = most from rfl] at H7
    rw [← hO] at H7 H12
    have HLO : Hid (∀ l, O = some l → l.length ≤ 1000000) := fun l hl => splitO_len back _ _ most (by rw [← size_list0]; exact HSZ.out) (by have := HMM.out.2; omega) l (hO.symm.trans hl)
    clear hO
    cases O with
    | none =>
      go_wp2_with fail
      go_at_call 7
      refine (H7.out).mono ?_
      rintro e w9 ⟨rfl, hb⟩
      unfold aggV cellsV
      have HB := Lib.hid (HB.out.trans (hb.mono HB.out.size))
      have CA := Lib.hid (CA.out.below hb)
      have SEP := Lib.hid (SEP.out.below hb)
      have HV := Lib.hid (HV.out.below hb (Nat.le_refl _))
      have CC := Lib.hid (CC.out.below hb)
      have HM := Lib.hid (HM.out.below hb)
      clear hb
      have hb : Below w9.heap.size w9 (w9.alloc (.cells #[.int .i64 0, .bool false, .slice none 0 0, .int .u64 0, .string ⟨#[]⟩, .slice none 0 0] 28)) := (Below.refl _ _).alloc (Nat.le_refl _) _
      have HB := Lib.hid (HB.out.trans (hb.mono HB.out.size))
      have CA := Lib.hid (CA.out.below hb)
      have SEP := Lib.hid (SEP.out.below hb)
      have HV := Lib.hid (HV.out.below hb (Nat.le_refl _))
      have CC := Lib.hid (CC.out.below hb)
      have HM := Lib.hid (HM.out.below hb)
      clear hb
      go_wp2_with fail
      go_at_call 12
      refine (H12.out _ (tabs_below hT HB.out) SEP.out HM.out).mono ?_
      rintro e wx ⟨rfl, hb⟩
      have HB := Lib.hid (HB.out.trans (hb.mono HB.out.size))
      have CA := Lib.hid (CA.out.below hb)
      have SEP := Lib.hid (SEP.out.below hb)
      have HV := Lib.hid (HV.out.below hb (Nat.le_refl _))
      have CC := Lib.hid (CC.out.below hb)
      have HM := Lib.hid (HM.out.below hb)
      clear hb
      have H2 := im_split false ⟨#[97, 32, 98]⟩ asc_ab (by decide) (k := 0) (t := ⟨#[]⟩) (by decide) (.slice none 0 0) (.slice none 0 0) (-1) (by omega) wx (tabs_below hT HB.out) (.inl ⟨rfl, rfl⟩) (.inl ⟨rfl, rfl⟩)
      rw [show splitO false (⟨#[97, 32, 98]⟩ : ByteArray).data.toList (sepOf 0 ⟨#[]⟩) (-1) = some [[97], [98]] from two_words] at H2
      have H2 := Lib.hid H2
      go_wp2_with fail
      go_at_call 12
      refine (H2.out).mono ?_
      rintro e wy ⟨vy, rfl, hoy, hb⟩
      obtain ⟨yA, yc, rfl⟩ := own_len hoy
      clear hoy
      have HB := Lib.hid (HB.out.trans (hb.mono HB.out.size))
      have CA := Lib.hid (CA.out.below hb)
      have SEP := Lib.hid (SEP.out.below hb)
      have HV := Lib.hid (HV.out.below hb (Nat.le_refl _))
      have CC := Lib.hid (CC.out.below hb)
      have HM := Lib.hid (HM.out.below hb)
      clear hb
      rw [show [[(97 : UInt8)], [98]].length = 2 from rfl]
      go_wp2
      go_ret
      exact ⟨rfl, HB.out⟩
    | some l =>
      have HLL : Hid (l.length ≤ 1000000) := HLO.out l rfl
      go_wp2_with fail
      go_at_call 7
      refine (H7.out).mono ?_
      rintro e w9 ⟨v9, rA, rc, rfl, ho9, hb⟩
      unfold aggV cellsV
      have HB := Lib.hid (HB.out.trans (hb.mono HB.out.size))
      have CA := Lib.hid (CA.out.below hb)
      have SEP := Lib.hid (SEP.out.below hb)
      have HV := Lib.hid (HV.out.below hb (Nat.le_refl _))
      have CC := Lib.hid (CC.out.below hb)
      have HM := Lib.hid (HM.out.below hb)
      clear hb
      obtain ⟨oA, oc, rfl⟩ := own_len ho9
      have hb : Below w9.heap.size w9 (w9.alloc (.cells #[.int .i64 6, .bool false, .slice none 0 0, .int .u64 0, .string ⟨#[]⟩, .slice rA l.length rc] 28)) := (Below.refl _ _).alloc (Nat.le_refl _) _
      have HB := Lib.hid (HB.out.trans (hb.mono HB.out.size))
      have CA := Lib.hid (CA.out.below hb)
      have SEP := Lib.hid (SEP.out.below hb)
      have HV := Lib.hid (HV.out.below hb (Nat.le_refl _))
      have CC := Lib.hid (CC.out.below hb)
      have HM := Lib.hid (HM.out.below hb)
      clear hb
      have HO9 := Lib.hid (own_below ho9 ((Below.refl w9.heap.size w9).alloc (Nat.le_refl _) (.cells #[.int .i64 6, .bool false, .slice none 0 0, .int .u64 0, .string ⟨#[]⟩, .slice rA l.length rc] 28)))
      clear ho9
      go_wp2_with fail
      go_at_call 12
      refine (H12.out _ (tabs_below hT HB.out) SEP.out HM.out).mono ?_
      rintro e wx ⟨vx, rfl, hox, hb⟩
      obtain ⟨xA, xc, rfl⟩ := own_len hox
      have HOX := Lib.hid hox
      have HO9 := Lib.hid (own_below HO9.out hb)
      clear hox
      have HB := Lib.hid (HB.out.trans (hb.mono HB.out.size))
      have CA := Lib.hid (CA.out.below hb)
      have SEP := Lib.hid (SEP.out.below hb)
      have HV := Lib.hid (HV.out.below hb (Nat.le_refl _))
      have CC := Lib.hid (CC.out.below hb)
      have HM := Lib.hid (HM.out.below hb)
      clear hb
      have H2 := im_split false ⟨#[97, 32, 98]⟩ asc_ab (by decide) (k := 0) (t := ⟨#[]⟩) (by decide) (.slice none 0 0) (.slice none 0 0) (-1) (by omega) wx (tabs_below hT HB.out) (.inl ⟨rfl, rfl⟩) (.inl ⟨rfl, rfl⟩)
      rw [show splitO false (⟨#[97, 32, 98]⟩ : ByteArray).data.toList (sepOf 0 ⟨#[]⟩) (-1) = some [[97], [98]] from two_words] at H2
      have H2 := Lib.hid H2
      go_wp2_with fail
      go_at_call 12
      refine (H2.out).mono ?_
      rintro e wy ⟨vy, rfl, hoy, hb⟩
      obtain ⟨yA, yc, rfl⟩ := own_len hoy
      have HOX := Lib.hid (own_below HOX.out hb)
      have HO9 := Lib.hid (own_below HO9.out hb)
      clear hoy
      have HB := Lib.hid (HB.out.trans (hb.mono HB.out.size))
      have CA := Lib.hid (CA.out.below hb)
      have SEP := Lib.hid (SEP.out.below hb)
      have HV := Lib.hid (HV.out.below hb (Nat.le_refl _))
      have CC := Lib.hid (CC.out.below hb)
      have HM := Lib.hid (HM.out.below hb)
      clear hb
      rw [show [[(97 : UInt8)], [98]].length = 2 from rfl]
      go_wp2_with fail
      go_at_call 13
      refine (f13_same l HLL.out _ _ _ _ wy HOX.out HO9.out).mono ?_
      rintro e wz ⟨rfl, rfl⟩
      go_wp2
      go_ret
      exact ⟨rfl, HB.out⟩
  | true =>
    clear hr
    have HSZ : Hid ((⟨#[97, 32, 98, 32, 99]⟩ : ByteArray).size ≤ 100000) := by show _ ≤ _; decide
    clear CA SEP
    have hb : Below w8.heap.size w8 (w8.alloc (.cells #[.string ⟨#[32]⟩] 9)) := (Below.refl _ _).alloc (Nat.le_refl _) _
    have HB := Lib.hid (HB.out.trans (hb.mono HB.out.size))
    have HV := Lib.hid (HV.out.below hb (Nat.le_refl _))
    have CC := Lib.hid (CC.out.below hb)
    clear hb
    have SEP : Hid (SepArg 4 ⟨#[32]⟩ (.slice (some ⟨w8.heap.size, 0, none⟩) 1 1) (w8.alloc (.cells #[.string ⟨#[32]⟩] 9))) := .inr ⟨rfl, _, rfl, by simp [go_sem]⟩
    go_wp2_with fail
    go_at_call 6
    refine (H6.out _ _).mono ?_
    rintro e wb ⟨rfl, hb⟩
    have HB := Lib.hid (HB.out.trans (hb.mono HB.out.size))
    have HV := Lib.hid (HV.out.below hb (Nat.le_refl _))
    have CC := Lib.hid (CC.out.below hb)
    have SEP := Lib.hid (SEP.out.below hb)
    clear hb
    have hb : Below wb.heap.size wb (wb.alloc (.cells #[.int .i64 4, .bool false, .slice none 0 0, .int .u64 0, .string ⟨#[32]⟩, .slice none 0 0] 28)) := (Below.refl _ _).alloc (Nat.le_refl _) _
    have HB := Lib.hid (HB.out.trans (hb.mono HB.out.size))
    have HV := Lib.hid (HV.out.below hb (Nat.le_refl _))
    have CC := Lib.hid (CC.out.below hb)
    have SEP := Lib.hid (SEP.out.below hb)
    clear hb
    have CA : Hid (CellsAt wb.heap.size (cellsV 4 ⟨#[32]⟩ (.slice none 0 0)) (wb.alloc (.cells #[.int .i64 4, .bool false, .slice none 0 0, .int .u64 0, .string ⟨#[32]⟩, .slice none 0 0] 28))) := CellsAt.new _ _ _
    go_wp2_with (at_builtin; refine wpList_append_grows _ rfl (.tmp 69) (.tmp 70) 24 rfl 28 i0 (aggV 0 ⟨#[]⟩ (.slice none 0 0)) 6 88 Tryz.underlying24 hi hz0 hz1 hz2 rfl (by decide) (some ⟨wb.heap.size, 0, none⟩) 1 1 (cellsV 4 ⟨#[32]⟩ (.slice none 0 0)) rfl (by intro h; cases h) rfl (by intro b hb; cases hb; exact CA.out) ⟨w6.heap.size, 0, none⟩ 1 1 (intC d (.slice ia il ic)) rfl rfl CC.out (int_cells _ _ _ _) (by omega) (by unfold maxLen; omega) (by omega) ?_)
    intro va wa2 hown hgrow
    have hb := grown_none hgrow
    have HVx := HV.out.below hb (Nat.le_refl _)
    have HAR := Lib.hid (args_of2 hown HVx HMM.out.1 HMM.out.2)
    clear hgrow hown HVx
    have HB := Lib.hid (HB.out.trans (hb.mono HB.out.size))
    have HV := Lib.hid (HV.out.below hb (Nat.le_refl _))
    have CC := Lib.hid (CC.out.below hb)
    have SEP := Lib.hid (SEP.out.below hb)
    have CA := Lib.hid (CA.out.below hb)
    clear hb
    generalize hva : va = va2 at *
    clear hva
    obtain ⟨O, hO⟩ : ∃ O, O = splitO back (⟨#[97, 32, 98, 32, 99]⟩ : ByteArray).data.toList (sepOf 4 ⟨#[32]⟩) most := ⟨_, rfl⟩
    have H7 := Lib.hid (f7_split back ⟨#[97, 32, 98, 32, 99]⟩ HSZ.out (k := 4) (t := ⟨#[32]⟩) (by decide) (by omega) (fun h => ov_space h.2.2) HAR.out)
    have HM := Lib.hid (max_of CC.out HV.out HMM.out.1 HMM.out.2)
    have H12 := Lib.hid (fun W hT hs hm => im_split back ⟨#[97, 32, 98, 32, 99]⟩ asc_abc HSZ.out (k := 4) (t := ⟨#[32]⟩) (by decide) (.slice (some ⟨w8.heap.size, 0, none⟩) 1 1) (.slice (some ⟨w6.heap.size, 0, none⟩) 1 1) most (by have := HMM.out.2; omega) W hT hs hm)
    rw [show boundZ (some most) = most from rfl] at H7
    rw [← hO] at H7 H12
    have HLO : Hid (∀ l, O = some l → l.length ≤ 1000000) := fun l hl => splitO_len back _ _ most (by rw [← size_list0]; exact HSZ.out) (by have := HMM.out.2; omega) l (hO.symm.trans hl)
    clear hO
    cases O with
    | none =>
      go_wp2_with fail
      go_at_call 7
      refine (H7.out).mono ?_
      rintro e w9 ⟨rfl, hb⟩
      unfold aggV cellsV
      have HB := Lib.hid (HB.out.trans (hb.mono HB.out.size))
      have HV := Lib.hid (HV.out.below hb (Nat.le_refl _))
      have CC := Lib.hid (CC.out.below hb)
      have SEP := Lib.hid (SEP.out.below hb)
      have CA := Lib.hid (CA.out.below hb)
      have HM := Lib.hid (HM.out.below hb)
      clear hb
      have hb : Below w9.heap.size w9 (w9.alloc (.cells #[.int .i64 0, .bool false, .slice none 0 0, .int .u64 0, .string ⟨#[]⟩, .slice none 0 0] 28)) := (Below.refl _ _).alloc (Nat.le_refl _) _
      have HB := Lib.hid (HB.out.trans (hb.mono HB.out.size))
      have HV := Lib.hid (HV.out.below hb (Nat.le_refl _))
      have CC := Lib.hid (CC.out.below hb)
      have SEP := Lib.hid (SEP.out.below hb)
      have CA := Lib.hid (CA.out.below hb)
      have HM := Lib.hid (HM.out.below hb)
      clear hb
      go_wp2_with fail
      go_at_call 12
      refine (H12.out _ (tabs_below hT HB.out) SEP.out HM.out).mono ?_
      rintro e wx ⟨rfl, hb⟩
      have HB := Lib.hid (HB.out.trans (hb.mono HB.out.size))
      have HV := Lib.hid (HV.out.below hb (Nat.le_refl _))
      have CC := Lib.hid (CC.out.below hb)
      have SEP := Lib.hid (SEP.out.below hb)
      have CA := Lib.hid (CA.out.below hb)
      have HM := Lib.hid (HM.out.below hb)
      clear hb
      have H2 := im_split false ⟨#[97, 32, 98]⟩ asc_ab (by decide) (k := 0) (t := ⟨#[]⟩) (by decide) (.slice none 0 0) (.slice none 0 0) (-1) (by omega) wx (tabs_below hT HB.out) (.inl ⟨rfl, rfl⟩) (.inl ⟨rfl, rfl⟩)
      rw [show splitO false (⟨#[97, 32, 98]⟩ : ByteArray).data.toList (sepOf 0 ⟨#[]⟩) (-1) = some [[97], [98]] from two_words] at H2
      have H2 := Lib.hid H2
      go_wp2_with fail
      go_at_call 12
      refine (H2.out).mono ?_
      rintro e wy ⟨vy, rfl, hoy, hb⟩
      obtain ⟨yA, yc, rfl⟩ := own_len hoy
      clear hoy
      have HB := Lib.hid (HB.out.trans (hb.mono HB.out.size))
      have HV := Lib.hid (HV.out.below hb (Nat.le_refl _))
      have CC := Lib.hid (CC.out.below hb)
      have SEP := Lib.hid (SEP.out.below hb)
      have CA := Lib.hid (CA.out.below hb)
      have HM := Lib.hid (HM.out.below hb)
      clear hb
      rw [show [[(97 : UInt8)], [98]].length = 2 from rfl]
      go_wp2
      go_ret
      exact ⟨rfl, HB.out⟩
    | some l =>
      have HLL : Hid (l.length ≤ 1000000) := HLO.out l rfl
      go_wp2_with fail
      go_at_call 7
      refine (H7.out).mono ?_
      rintro e w9 ⟨v9, rA, rc, rfl, ho9, hb⟩
      unfold aggV cellsV
      have HB := Lib.hid (HB.out.trans (hb.mono HB.out.size))
      have HV := Lib.hid (HV.out.below hb (Nat.le_refl _))
      have CC := Lib.hid (CC.out.below hb)
      have SEP := Lib.hid (SEP.out.below hb)
      have CA := Lib.hid (CA.out.below hb)
      have HM := Lib.hid (HM.out.below hb)
      clear hb
      obtain ⟨oA, oc, rfl⟩ := own_len ho9
      have hb : Below w9.heap.size w9 (w9.alloc (.cells #[.int .i64 6, .bool false, .slice none 0 0, .int .u64 0, .string ⟨#[]⟩, .slice rA l.length rc] 28)) := (Below.refl _ _).alloc (Nat.le_refl _) _
      have HB := Lib.hid (HB.out.trans (hb.mono HB.out.size))
      have HV := Lib.hid (HV.out.below hb (Nat.le_refl _))
      have CC := Lib.hid (CC.out.below hb)
      have SEP := Lib.hid (SEP.out.below hb)
      have CA := Lib.hid (CA.out.below hb)
      have HM := Lib.hid (HM.out.below hb)
      clear hb
      have HO9 := Lib.hid (own_below ho9 ((Below.refl w9.heap.size w9).alloc (Nat.le_refl _) (.cells #[.int .i64 6, .bool false, .slice none 0 0, .int .u64 0, .string ⟨#[]⟩, .slice rA l.length rc] 28)))
      clear ho9
      go_wp2_with fail
      go_at_call 12
      refine (H12.out _ (tabs_below hT HB.out) SEP.out HM.out).mono ?_
      rintro e wx ⟨vx, rfl, hox, hb⟩
      obtain ⟨xA, xc, rfl⟩ := own_len hox
      have HOX := Lib.hid hox
      have HO9 := Lib.hid (own_below HO9.out hb)
      clear hox
      have HB := Lib.hid (HB.out.trans (hb.mono HB.out.size))
      have HV := Lib.hid (HV.out.below hb (Nat.le_refl _))
      have CC := Lib.hid (CC.out.below hb)
      have SEP := Lib.hid (SEP.out.below hb)
      have CA := Lib.hid (CA.out.below hb)
      have HM := Lib.hid (HM.out.below hb)
      clear hb
      have H2 := im_split false ⟨#[97, 32, 98]⟩ asc_ab (by decide) (k := 0) (t := ⟨#[]⟩) (by decide) (.slice none 0 0) (.slice none 0 0) (-1) (by omega) wx (tabs_below hT HB.out) (.inl ⟨rfl, rfl⟩) (.inl ⟨rfl, rfl⟩)
      rw [show splitO false (⟨#[97, 32, 98]⟩ : ByteArray).data.toList (sepOf 0 ⟨#[]⟩) (-1) = some [[97], [98]] from two_words] at H2
      have H2 := Lib.hid H2
      go_wp2_with fail
      go_at_call 12
      refine (H2.out).mono ?_
      rintro e wy ⟨vy, rfl, hoy, hb⟩
      obtain ⟨yA, yc, rfl⟩ := own_len hoy
      have HOX := Lib.hid (own_below HOX.out hb)
      have HO9 := Lib.hid (own_below HO9.out hb)
      clear hoy
      have HB := Lib.hid (HB.out.trans (hb.mono HB.out.size))
      have HV := Lib.hid (HV.out.below hb (Nat.le_refl _))
      have CC := Lib.hid (CC.out.below hb)
      have SEP := Lib.hid (SEP.out.below hb)
      have CA := Lib.hid (CA.out.below hb)
      have HM := Lib.hid (HM.out.below hb)
      clear hb
      rw [show [[(97 : UInt8)], [98]].length = 2 from rfl]
      go_wp2_with fail
      go_at_call 13
      refine (f13_same l HLL.out _ _ _ _ wy HOX.out HO9.out).mono ?_
      rintro e wz ⟨rfl, rfl⟩
      go_wp2
      go_ret
      exact ⟨rfl, HB.out⟩
set_option maxRecDepth 100000 in
set_option maxHeartbeats 8000000 in
theorem f4_sep_n (back : Bool) (text between : ByteArray) (ht : text.size ≤ 2147483647) (hb2 : between.size ≤ 2147483647) (most : Int) (hm0 : -128 ≤ most) (hm1 : most ≤ 127) (w : World) (hT : Lib.Utf8Tabs 1 2 w) :
    Calls Tryz.prog 4 #[.bool back, .string text, .string between, .bool true, .int .i8 most, .bool false] w (LawIs w) := by
  obtain ⟨i0, hi, hz0, hz1, hz2⟩ := info_parts infoVal28
  have H5 := Lib.hid (fun w => f5_txt text ht w)
  have t1 : ¬ (2147483647 : Int) < (text.size : Int) := by omega
  have t2 : ¬ (2147483647 : Int) < (between.size : Int) := by omega
  have hmm := @run_makeMap Tryz.prog
  have HMM : Hid (-256 < most ∧ most < 256) := ⟨by omega, by omega⟩
  have HSA : Hid ((ascT text).size ≤ 100000) := by show _ ≤ _; have := ascT_size text; omega
  have HSB : Hid ((ascT between).size ≤ 100000) := by show _ ≤ _; have := ascT_size between; omega
  have HB : Hid (Below w.heap.size w w) := Below.refl _ _
  have H5b := Lib.hid (fun w => f5_txt between hb2 w)
  have H6 := Lib.hid (fun s w => f6_any s w)
  go_enter Tryz.func4, Tryz.ntmps4
  go_wp2_with fail
  go_at_call 5
  refine (H5.out _).mono ?_
  rintro e w1 ⟨rfl, hb⟩
  have HB := Lib.hid (HB.out.trans (hb.mono HB.out.size))
  clear hb
  have hb : Below w1.heap.size w1 (w1.alloc (.cells #[.int .i64 0, .bool false, .slice none 0 0, .int .u64 0, .string ⟨#[]⟩, .slice none 0 0] 28)) := (Below.refl _ _).alloc (Nat.le_refl _) _
  have HB := Lib.hid (HB.out.trans (hb.mono HB.out.size))
  clear hb
  go_wp2_with fail
  go_at_call 5
  refine (H5b.out _).mono ?_
  rintro e w2 ⟨rfl, hb⟩
  have HB := Lib.hid (HB.out.trans (hb.mono HB.out.size))
  clear hb
  have hb : Below w2.heap.size w2 (w2.alloc (.cells #[.string (ascT between)] 9)) := (Below.refl _ _).alloc (Nat.le_refl _) _
  have HB := Lib.hid (HB.out.trans (hb.mono HB.out.size))
  clear hb
  have SEP : Hid (SepArg 4 (ascT between) (.slice (some ⟨w2.heap.size, 0, none⟩) 1 1) (w2.alloc (.cells #[.string (ascT between)] 9))) := .inr ⟨rfl, _, rfl, by simp [go_sem]⟩
  go_wp2_with fail
  go_at_call 5
  refine (H5b.out _).mono ?_
  rintro e w3 ⟨rfl, hb⟩
  have HB := Lib.hid (HB.out.trans (hb.mono HB.out.size))
  have SEP := Lib.hid (SEP.out.below hb)
  clear hb
  go_wp2_with fail
  go_at_call 6
  refine (H6.out _ _).mono ?_
  rintro e w4 ⟨rfl, hb⟩
  have HB := Lib.hid (HB.out.trans (hb.mono HB.out.size))
  have SEP := Lib.hid (SEP.out.below hb)
  clear hb
  have hb : Below w4.heap.size w4 (w4.alloc (.cells #[.int .i64 4, .bool false, .slice none 0 0, .int .u64 0, .string (ascT between), .slice none 0 0] 28)) := (Below.refl _ _).alloc (Nat.le_refl _) _
  have HB := Lib.hid (HB.out.trans (hb.mono HB.out.size))
  have SEP := Lib.hid (SEP.out.below hb)
  clear hb
  have CA : Hid (CellsAt w4.heap.size (cellsV 4 (ascT between) (.slice none 0 0)) (w4.alloc (.cells #[.int .i64 4, .bool false, .slice none 0 0, .int .u64 0, .string (ascT between), .slice none 0 0] 28))) := CellsAt.new _ _ _
  obtain ⟨Wm, Wn, u1, u2, u3, hb⟩ := names_made (w4.alloc (.cells #[.int .i64 4, .bool false, .slice none 0 0, .int .u64 0, .string (ascT between), .slice none 0 0] 28)) back
  rw [World.size_alloc] at u1 u2 u3
  have HB := Lib.hid (HB.out.trans (hb.mono HB.out.size))
  have SEP := Lib.hid (SEP.out.below hb)
  have CA := Lib.hid (CA.out.below hb)
  clear hb
  have HAR := Lib.hid (args_of1 CA.out)
  have H11 := Lib.hid (f11_args back (s := ascT text) HSA.out HSB.out (by omega) HAR.out)
  go_wp2_with fail
  go_at_call 11
  refine (H11.out).mono ?_
  rintro e w8 ⟨⟨r, rfl, hr⟩, hb⟩
  have HAR := 0
  have HB := Lib.hid (HB.out.trans (hb.mono HB.out.size))
  have SEP := Lib.hid (SEP.out.below hb)
  have CA := Lib.hid (CA.out.below hb)
  clear hb
  cases r with
  | false =>
    have HNO : Hid (¬ (back = true ∧ (4 : Int) = 4 ∧ Ov ((ascT between) : ByteArray).data.toList)) := by
      have h := hr rfl
      first | exact h | exact fun ⟨h1, _, h3⟩ => h ⟨h1, trivial, h3⟩
    clear hr
    have HSZ := HSA
    have HAR := Lib.hid (args_of1 CA.out)
    obtain ⟨O, hO⟩ : ∃ O, O = splitO back (ascT text).data.toList (sepOf 4 (ascT between)) (-1) := ⟨_, rfl⟩
    have H7 := Lib.hid (f7_split back (ascT text) HSZ.out (k := 4) (t := (ascT between)) HSB.out (by omega) (by first | exact HNO.out | exact fun ⟨h1, _, h3⟩ => HNO.out ⟨h1, trivial, h3⟩) HAR.out)
    have HM : Hid (MaxArg (.slice none 0 0) (-1) w8) := .inl ⟨rfl, rfl⟩
    have H12 := Lib.hid (fun W hT hs hm => im_split back (ascT text) (ascT_asc text) HSZ.out (k := 4) (t := (ascT between)) HSB.out (.slice (some ⟨w2.heap.size, 0, none⟩) 1 1) (.slice none 0 0) (-1) (by omega) W hT hs hm)
    rw [show boundZ none = (-1) from rfl] at H7
    rw [← hO] at H7 H12
    have HLO : Hid (∀ l, O = some l → l.length ≤ 1000000) := fun l hl => splitO_len back _ _ (-1) (by rw [← size_list0]; exact HSZ.out) (by omega) l (hO.symm.trans hl)
    clear hO
    cases O with
    | none =>
      go_wp2_with fail
      go_at_call 7
      refine (H7.out).mono ?_
      rintro e w9 ⟨rfl, hb⟩
      unfold aggV cellsV
      have HB := Lib.hid (HB.out.trans (hb.mono HB.out.size))
      have SEP := Lib.hid (SEP.out.below hb)
      have CA := Lib.hid (CA.out.below hb)
      have HM := Lib.hid (HM.out.below hb)
      clear hb
      have hb : Below w9.heap.size w9 (w9.alloc (.cells #[.int .i64 0, .bool false, .slice none 0 0, .int .u64 0, .string ⟨#[]⟩, .slice none 0 0] 28)) := (Below.refl _ _).alloc (Nat.le_refl _) _
      have HB := Lib.hid (HB.out.trans (hb.mono HB.out.size))
      have SEP := Lib.hid (SEP.out.below hb)
      have CA := Lib.hid (CA.out.below hb)
      have HM := Lib.hid (HM.out.below hb)
      clear hb
      go_wp2_with fail
      go_at_call 12
      refine (H12.out _ (tabs_below hT HB.out) SEP.out HM.out).mono ?_
      rintro e wx ⟨rfl, hb⟩
      have HB := Lib.hid (HB.out.trans (hb.mono HB.out.size))
      have SEP := Lib.hid (SEP.out.below hb)
      have CA := Lib.hid (CA.out.below hb)
      have HM := Lib.hid (HM.out.below hb)
      clear hb
      have H2 := im_split false ⟨#[97, 32, 98]⟩ asc_ab (by decide) (k := 0) (t := ⟨#[]⟩) (by decide) (.slice none 0 0) (.slice none 0 0) (-1) (by omega) wx (tabs_below hT HB.out) (.inl ⟨rfl, rfl⟩) (.inl ⟨rfl, rfl⟩)
      rw [show splitO false (⟨#[97, 32, 98]⟩ : ByteArray).data.toList (sepOf 0 ⟨#[]⟩) (-1) = some [[97], [98]] from two_words] at H2
      have H2 := Lib.hid H2
      go_wp2_with fail
      go_at_call 12
      refine (H2.out).mono ?_
      rintro e wy ⟨vy, rfl, hoy, hb⟩
      obtain ⟨yA, yc, rfl⟩ := own_len hoy
      clear hoy
      have HB := Lib.hid (HB.out.trans (hb.mono HB.out.size))
      have SEP := Lib.hid (SEP.out.below hb)
      have CA := Lib.hid (CA.out.below hb)
      have HM := Lib.hid (HM.out.below hb)
      clear hb
      rw [show [[(97 : UInt8)], [98]].length = 2 from rfl]
      go_wp2
      go_ret
      exact ⟨rfl, HB.out⟩
    | some l =>
      have HLL : Hid (l.length ≤ 1000000) := HLO.out l rfl
      go_wp2_with fail
      go_at_call 7
      refine (H7.out).mono ?_
      rintro e w9 ⟨v9, rA, rc, rfl, ho9, hb⟩
      unfold aggV cellsV
      have HB := Lib.hid (HB.out.trans (hb.mono HB.out.size))
      have SEP := Lib.hid (SEP.out.below hb)
      have CA := Lib.hid (CA.out.below hb)
      have HM := Lib.hid (HM.out.below hb)
      clear hb
      obtain ⟨oA, oc, rfl⟩ := own_len ho9
      have hb : Below w9.heap.size w9 (w9.alloc (.cells #[.int .i64 6, .bool false, .slice none 0 0, .int .u64 0, .string ⟨#[]⟩, .slice rA l.length rc] 28)) := (Below.refl _ _).alloc (Nat.le_refl _) _
      have HB := Lib.hid (HB.out.trans (hb.mono HB.out.size))
      have SEP := Lib.hid (SEP.out.below hb)
      have CA := Lib.hid (CA.out.below hb)
      have HM := Lib.hid (HM.out.below hb)
      clear hb
      have HO9 := Lib.hid (own_below ho9 ((Below.refl w9.heap.size w9).alloc (Nat.le_refl _) (.cells #[.int .i64 6, .bool false, .slice none 0 0, .int .u64 0, .string ⟨#[]⟩, .slice rA l.length rc] 28)))
      clear ho9
      go_wp2_with fail
      go_at_call 12
      refine (H12.out _ (tabs_below hT HB.out) SEP.out HM.out).mono ?_
      rintro e wx ⟨vx, rfl, hox, hb⟩
      obtain ⟨xA, xc, rfl⟩ := own_len hox
      have HOX := Lib.hid hox
      have HO9 := Lib.hid (own_below HO9.out hb)
      clear hox
      have HB := Lib.hid (HB.out.trans (hb.mono HB.out.size))
      have SEP := Lib.hid (SEP.out.below hb)
      have CA := Lib.hid (CA.out.below hb)
      have HM := Lib.hid (HM.out.below hb)
      clear hb
      have H2 := im_split false ⟨#[97, 32, 98]⟩ asc_ab (by decide) (k := 0) (t := ⟨#[]⟩) (by decide) (.slice none 0 0) (.slice none 0 0) (-1) (by omega) wx (tabs_below hT HB.out) (.inl ⟨rfl, rfl⟩) (.inl ⟨rfl, rfl⟩)
      rw [show splitO false (⟨#[97, 32, 98]⟩ : ByteArray).data.toList (sepOf 0 ⟨#[]⟩) (-1) = some [[97], [98]] from two_words] at H2
      have H2 := Lib.hid H2
      go_wp2_with fail
      go_at_call 12
      refine (H2.out).mono ?_
      rintro e wy ⟨vy, rfl, hoy, hb⟩
      obtain ⟨yA, yc, rfl⟩ := own_len hoy
      have HOX := Lib.hid (own_below HOX.out hb)
      have HO9 := Lib.hid (own_below HO9.out hb)
      clear hoy
      have HB := Lib.hid (HB.out.trans (hb.mono HB.out.size))
      have SEP := Lib.hid (SEP.out.below hb)
      have CA := Lib.hid (CA.out.below hb)
      have HM := Lib.hid (HM.out.below hb)
      clear hb
      rw [show [[(97 : UInt8)], [98]].length = 2 from rfl]
      go_wp2_with fail
      go_at_call 13
      refine (f13_same l HLL.out _ _ _ _ wy HOX.out HO9.out).mono ?_
      rintro e wz ⟨rfl, rfl⟩
      go_wp2
      go_ret
      exact ⟨rfl, HB.out⟩
  | true =>
    clear hr
    have HSZ : Hid ((⟨#[97, 32, 98, 32, 99]⟩ : ByteArray).size ≤ 100000) := by show _ ≤ _; decide
    clear CA SEP
    have hb : Below w8.heap.size w8 (w8.alloc (.cells #[.string ⟨#[32]⟩] 9)) := (Below.refl _ _).alloc (Nat.le_refl _) _
    have HB := Lib.hid (HB.out.trans (hb.mono HB.out.size))
    clear hb
    have SEP : Hid (SepArg 4 ⟨#[32]⟩ (.slice (some ⟨w8.heap.size, 0, none⟩) 1 1) (w8.alloc (.cells #[.string ⟨#[32]⟩] 9))) := .inr ⟨rfl, _, rfl, by simp [go_sem]⟩
    go_wp2_with fail
    go_at_call 6
    refine (H6.out _ _).mono ?_
    rintro e wb ⟨rfl, hb⟩
    have HB := Lib.hid (HB.out.trans (hb.mono HB.out.size))
    have SEP := Lib.hid (SEP.out.below hb)
    clear hb
    have hb : Below wb.heap.size wb (wb.alloc (.cells #[.int .i64 4, .bool false, .slice none 0 0, .int .u64 0, .string ⟨#[32]⟩, .slice none 0 0] 28)) := (Below.refl _ _).alloc (Nat.le_refl _) _
    have HB := Lib.hid (HB.out.trans (hb.mono HB.out.size))
    have SEP := Lib.hid (SEP.out.below hb)
    clear hb
    have CA : Hid (CellsAt wb.heap.size (cellsV 4 ⟨#[32]⟩ (.slice none 0 0)) (wb.alloc (.cells #[.int .i64 4, .bool false, .slice none 0 0, .int .u64 0, .string ⟨#[32]⟩, .slice none 0 0] 28))) := CellsAt.new _ _ _
    have HAR := Lib.hid (args_of1 CA.out)
    obtain ⟨O, hO⟩ : ∃ O, O = splitO back (⟨#[97, 32, 98, 32, 99]⟩ : ByteArray).data.toList (sepOf 4 ⟨#[32]⟩) (-1) := ⟨_, rfl⟩
    have H7 := Lib.hid (f7_split back ⟨#[97, 32, 98, 32, 99]⟩ HSZ.out (k := 4) (t := ⟨#[32]⟩) (by decide) (by omega) (fun h => ov_space h.2.2) HAR.out)
    have HM : Hid (MaxArg (.slice none 0 0) (-1) (wb.alloc (.cells #[.int .i64 4, .bool false, .slice none 0 0, .int .u64 0, .string ⟨#[32]⟩, .slice none 0 0] 28))) := .inl ⟨rfl, rfl⟩
    have H12 := Lib.hid (fun W hT hs hm => im_split back ⟨#[97, 32, 98, 32, 99]⟩ asc_abc HSZ.out (k := 4) (t := ⟨#[32]⟩) (by decide) (.slice (some ⟨w8.heap.size, 0, none⟩) 1 1) (.slice none 0 0) (-1) (by omega) W hT hs hm)
    rw [show boundZ none = (-1) from rfl] at H7
    rw [← hO] at H7 H12
    have HLO : Hid (∀ l, O = some l → l.length ≤ 1000000) := fun l hl => splitO_len back _ _ (-1) (by rw [← size_list0]; exact HSZ.out) (by omega) l (hO.symm.trans hl)
    clear hO
    cases O with
    | none =>
      go_wp2_with fail
      go_at_call 7
      refine (H7.out).mono ?_
      rintro e w9 ⟨rfl, hb⟩
      unfold aggV cellsV
      have HB := Lib.hid (HB.out.trans (hb.mono HB.out.size))
      have SEP := Lib.hid (SEP.out.below hb)
      have CA := Lib.hid (CA.out.below hb)
      have HM := Lib.hid (HM.out.below hb)
      clear hb
      have hb : Below w9.heap.size w9 (w9.alloc (.cells #[.int .i64 0, .bool false, .slice none 0 0, .int .u64 0, .string ⟨#[]⟩, .slice none 0 0] 28)) := (Below.refl _ _).alloc (Nat.le_refl _) _
      have HB := Lib.hid (HB.out.trans (hb.mono HB.out.size))
      have SEP := Lib.hid (SEP.out.below hb)
      have CA := Lib.hid (CA.out.below hb)
      have HM := Lib.hid (HM.out.below hb)
      clear hb
      go_wp2_with fail
      go_at_call 12
      refine (H12.out _ (tabs_below hT HB.out) SEP.out HM.out).mono ?_
      rintro e wx ⟨rfl, hb⟩
      have HB := Lib.hid (HB.out.trans (hb.mono HB.out.size))
      have SEP := Lib.hid (SEP.out.below hb)
      have CA := Lib.hid (CA.out.below hb)
      have HM := Lib.hid (HM.out.below hb)
      clear hb
      have H2 := im_split false ⟨#[97, 32, 98]⟩ asc_ab (by decide) (k := 0) (t := ⟨#[]⟩) (by decide) (.slice none 0 0) (.slice none 0 0) (-1) (by omega) wx (tabs_below hT HB.out) (.inl ⟨rfl, rfl⟩) (.inl ⟨rfl, rfl⟩)
      rw [show splitO false (⟨#[97, 32, 98]⟩ : ByteArray).data.toList (sepOf 0 ⟨#[]⟩) (-1) = some [[97], [98]] from two_words] at H2
      have H2 := Lib.hid H2
      go_wp2_with fail
      go_at_call 12
      refine (H2.out).mono ?_
      rintro e wy ⟨vy, rfl, hoy, hb⟩
      obtain ⟨yA, yc, rfl⟩ := own_len hoy
      clear hoy
      have HB := Lib.hid (HB.out.trans (hb.mono HB.out.size))
      have SEP := Lib.hid (SEP.out.below hb)
      have CA := Lib.hid (CA.out.below hb)
      have HM := Lib.hid (HM.out.below hb)
      clear hb
      rw [show [[(97 : UInt8)], [98]].length = 2 from rfl]
      go_wp2
      go_ret
      exact ⟨rfl, HB.out⟩
    | some l =>
      have HLL : Hid (l.length ≤ 1000000) := HLO.out l rfl
      go_wp2_with fail
      go_at_call 7
      refine (H7.out).mono ?_
      rintro e w9 ⟨v9, rA, rc, rfl, ho9, hb⟩
      unfold aggV cellsV
      have HB := Lib.hid (HB.out.trans (hb.mono HB.out.size))
      have SEP := Lib.hid (SEP.out.below hb)
      have CA := Lib.hid (CA.out.below hb)
      have HM := Lib.hid (HM.out.below hb)
      clear hb
      obtain ⟨oA, oc, rfl⟩ := own_len ho9
      have hb : Below w9.heap.size w9 (w9.alloc (.cells #[.int .i64 6, .bool false, .slice none 0 0, .int .u64 0, .string ⟨#[]⟩, .slice rA l.length rc] 28)) := (Below.refl _ _).alloc (Nat.le_refl _) _
      have HB := Lib.hid (HB.out.trans (hb.mono HB.out.size))
      have SEP := Lib.hid (SEP.out.below hb)
      have CA := Lib.hid (CA.out.below hb)
      have HM := Lib.hid (HM.out.below hb)
      clear hb
      have HO9 := Lib.hid (own_below ho9 ((Below.refl w9.heap.size w9).alloc (Nat.le_refl _) (.cells #[.int .i64 6, .bool false, .slice none 0 0, .int .u64 0, .string ⟨#[]⟩, .slice rA l.length rc] 28)))
      clear ho9
      go_wp2_with fail
      go_at_call 12
      refine (H12.out _ (tabs_below hT HB.out) SEP.out HM.out).mono ?_
      rintro e wx ⟨vx, rfl, hox, hb⟩
      obtain ⟨xA, xc, rfl⟩ := own_len hox
      have HOX := Lib.hid hox
      have HO9 := Lib.hid (own_below HO9.out hb)
      clear hox
      have HB := Lib.hid (HB.out.trans (hb.mono HB.out.size))
      have SEP := Lib.hid (SEP.out.below hb)
      have CA := Lib.hid (CA.out.below hb)
      have HM := Lib.hid (HM.out.below hb)
      clear hb
      have H2 := im_split false ⟨#[97, 32, 98]⟩ asc_ab (by decide) (k := 0) (t := ⟨#[]⟩) (by decide) (.slice none 0 0) (.slice none 0 0) (-1) (by omega) wx (tabs_below hT HB.out) (.inl ⟨rfl, rfl⟩) (.inl ⟨rfl, rfl⟩)
      rw [show splitO false (⟨#[97, 32, 98]⟩ : ByteArray).data.toList (sepOf 0 ⟨#[]⟩) (-1) = some [[97], [98]] from two_words] at H2
      have H2 := Lib.hid H2
      go_wp2_with fail
      go_at_call 12
      refine (H2.out).mono ?_
      rintro e wy ⟨vy, rfl, hoy, hb⟩
      obtain ⟨yA, yc, rfl⟩ := own_len hoy
      have HOX := Lib.hid (own_below HOX.out hb)
      have HO9 := Lib.hid (own_below HO9.out hb)
      clear hoy
      have HB := Lib.hid (HB.out.trans (hb.mono HB.out.size))
      have SEP := Lib.hid (SEP.out.below hb)
      have CA := Lib.hid (CA.out.below hb)
      have HM := Lib.hid (HM.out.below hb)
      clear hb
      rw [show [[(97 : UInt8)], [98]].length = 2 from rfl]
      go_wp2_with fail
      go_at_call 13
      refine (f13_same l HLL.out _ _ _ _ wy HOX.out HO9.out).mono ?_
      rintro e wz ⟨rfl, rfl⟩
      go_wp2
      go_ret
      exact ⟨rfl, HB.out⟩
set_option maxRecDepth 100000 in
set_option maxHeartbeats 8000000 in
theorem f4_sep_b (back : Bool) (text between : ByteArray) (ht : text.size ≤ 2147483647) (hb2 : between.size ≤ 2147483647) (most : Int) (hm0 : -128 ≤ most) (hm1 : most ≤ 127) (w : World) (hT : Lib.Utf8Tabs 1 2 w) :
    Calls Tryz.prog 4 #[.bool back, .string text, .string between, .bool true, .int .i8 most, .bool true] w (LawIs w) := by
  obtain ⟨i0, hi, hz0, hz1, hz2⟩ := info_parts infoVal28
  have H5 := Lib.hid (fun w => f5_txt text ht w)
  have t1 : ¬ (2147483647 : Int) < (text.size : Int) := by omega
  have t2 : ¬ (2147483647 : Int) < (between.size : Int) := by omega
  have hmm := @run_makeMap Tryz.prog
  have HMM : Hid (-256 < most ∧ most < 256) := ⟨by omega, by omega⟩
  have HSA : Hid ((ascT text).size ≤ 100000) := by show _ ≤ _; have := ascT_size text; omega
  have HSB : Hid ((ascT between).size ≤ 100000) := by show _ ≤ _; have := ascT_size between; omega
  have HB : Hid (Below w.heap.size w w) := Below.refl _ _
  have H5b := Lib.hid (fun w => f5_txt between hb2 w)
  have H6 := Lib.hid (fun s w => f6_any s w)
  go_enter Tryz.func4, Tryz.ntmps4
  go_wp2_with fail
  go_at_call 5
  refine (H5.out _).mono ?_
  rintro e w1 ⟨rfl, hb⟩
  have HB := Lib.hid (HB.out.trans (hb.mono HB.out.size))
  clear hb
  have hb : Below w1.heap.size w1 (w1.alloc (.cells #[.int .i64 0, .bool false, .slice none 0 0, .int .u64 0, .string ⟨#[]⟩, .slice none 0 0] 28)) := (Below.refl _ _).alloc (Nat.le_refl _) _
  have HB := Lib.hid (HB.out.trans (hb.mono HB.out.size))
  clear hb
  go_wp2_with fail
  go_at_call 5
  refine (H5b.out _).mono ?_
  rintro e w2 ⟨rfl, hb⟩
  have HB := Lib.hid (HB.out.trans (hb.mono HB.out.size))
  clear hb
  have hb : Below w2.heap.size w2 (w2.alloc (.cells #[.string (ascT between)] 9)) := (Below.refl _ _).alloc (Nat.le_refl _) _
  have HB := Lib.hid (HB.out.trans (hb.mono HB.out.size))
  clear hb
  have SEP : Hid (SepArg 4 (ascT between) (.slice (some ⟨w2.heap.size, 0, none⟩) 1 1) (w2.alloc (.cells #[.string (ascT between)] 9))) := .inr ⟨rfl, _, rfl, by simp [go_sem]⟩
  go_wp2_with fail
  go_at_call 5
  refine (H5b.out _).mono ?_
  rintro e w3 ⟨rfl, hb⟩
  have HB := Lib.hid (HB.out.trans (hb.mono HB.out.size))
  have SEP := Lib.hid (SEP.out.below hb)
  clear hb
  go_wp2_with fail
  go_at_call 6
  refine (H6.out _ _).mono ?_
  rintro e w4 ⟨rfl, hb⟩
  have HB := Lib.hid (HB.out.trans (hb.mono HB.out.size))
  have SEP := Lib.hid (SEP.out.below hb)
  clear hb
  have hb : Below w4.heap.size w4 (w4.alloc (.cells #[.int .i64 4, .bool false, .slice none 0 0, .int .u64 0, .string (ascT between), .slice none 0 0] 28)) := (Below.refl _ _).alloc (Nat.le_refl _) _
  have HB := Lib.hid (HB.out.trans (hb.mono HB.out.size))
  have SEP := Lib.hid (SEP.out.below hb)
  clear hb
  have CA : Hid (CellsAt w4.heap.size (cellsV 4 (ascT between) (.slice none 0 0)) (w4.alloc (.cells #[.int .i64 4, .bool false, .slice none 0 0, .int .u64 0, .string (ascT between), .slice none 0 0] 28))) := CellsAt.new _ _ _
  have H10 := Lib.hid (Z.f10_int most (by omega) (by omega) (w4.alloc (.cells #[.int .i64 4, .bool false, .slice none 0 0, .int .u64 0, .string (ascT between), .slice none 0 0] 28)))
  go_wp2_with fail
  go_at_call 10
  refine (H10.out).mono ?_
  rintro e w5 ⟨v5, rfl, hs5, hb⟩
  obtain ⟨d5, a5, n5, c5, rfl⟩ := hs5.shape
  have H9 := Lib.hid (Z.f9_any 8 (by omega) _ most w5 _ hs5)
  clear hs5
  have HB := Lib.hid (HB.out.trans (hb.mono HB.out.size))
  have SEP := Lib.hid (SEP.out.below hb)
  have CA := Lib.hid (CA.out.below hb)
  clear hb
  go_wp2_with fail
  go_at_call 9
  refine (H9.out).mono ?_
  rintro e w6 ⟨v6, rfl, hv6, hb⟩
  have HB := Lib.hid (HB.out.trans (hb.mono HB.out.size))
  have SEP := Lib.hid (SEP.out.below hb)
  have CA := Lib.hid (CA.out.below hb)
  clear hb
  have hv6 := vint_one hv6 HMM.out.1 HMM.out.2
  have hv7 := hv6
  obtain ⟨sl6, l6, rfl, hr6, _, _⟩ := hv6
  obtain ⟨ia, ic, rfl⟩ := hr6.len
  obtain ⟨d, hd⟩ : ∃ d, d = decide (most < 0) := ⟨_, rfl⟩
  rw [← hd] at hv7 ⊢
  obtain ⟨il, hil⟩ : ∃ il, il = l6.length := ⟨_, rfl⟩
  rw [← hil] at hv7 ⊢
  have HV : Hid (Z.VInt 0 1 w6 (VAgg d (.slice ia il ic)) most) := hv7
  clear hd hil hr6 hv7
  have hb : Below w6.heap.size w6 (w6.alloc (.cells #[.int .i64 2, .bool d, .slice ia il ic, .int .u64 0, .string ⟨#[]⟩, .slice none 0 0] 28)) := (Below.refl _ _).alloc (Nat.le_refl _) _
  have HB := Lib.hid (HB.out.trans (hb.mono HB.out.size))
  have SEP := Lib.hid (SEP.out.below hb)
  have CA := Lib.hid (CA.out.below hb)
  have HV := Lib.hid (HV.out.below hb (Nat.le_refl _))
  clear hb
  have CC : Hid (CellsAt w6.heap.size (intC d (.slice ia il ic)) (w6.alloc (.cells #[.int .i64 2, .bool d, .slice ia il ic, .int .u64 0, .string ⟨#[]⟩, .slice none 0 0] 28))) := CellsAt.new _ _ _
  obtain ⟨Wm, Wn, u1, u2, u3, hb⟩ := names_made (w6.alloc (.cells #[.int .i64 2, .bool d, .slice ia il ic, .int .u64 0, .string ⟨#[]⟩, .slice none 0 0] 28)) back
  rw [World.size_alloc] at u1 u2 u3
  have HB := Lib.hid (HB.out.trans (hb.mono HB.out.size))
  have SEP := Lib.hid (SEP.out.below hb)
  have CA := Lib.hid (CA.out.below hb)
  have HV := Lib.hid (HV.out.below hb (Nat.le_refl _))
  have CC := Lib.hid (CC.out.below hb)
  clear hb
  skip
  go_wp2_with (at_builtin; refine wpList_append_grows _ rfl (.tmp 59) (.tmp 60) 24 rfl 28 i0 (aggV 0 ⟨#[]⟩ (.slice none 0 0)) 6 88 Tryz.underlying24 hi hz0 hz1 hz2 rfl (by decide) (some ⟨w4.heap.size, 0, none⟩) 1 1 (cellsV 4 (ascT between) (.slice none 0 0)) rfl (by intro h; cases h) rfl (by intro b hb; cases hb; exact CA.out) ⟨w6.heap.size, 0, none⟩ 1 1 (intC d (.slice ia il ic)) rfl rfl CC.out (int_cells _ _ _ _) (by omega) (by unfold maxLen; omega) (by omega) ?_)
  intro va wa1 hown hgrow
  have hb := grown_none hgrow
  have HVx := HV.out.below hb (Nat.le_refl _)
  have HAR := Lib.hid (args_of2 hown HVx HMM.out.1 HMM.out.2)
  clear hgrow hown HVx
  have HB := Lib.hid (HB.out.trans (hb.mono HB.out.size))
  have SEP := Lib.hid (SEP.out.below hb)
  have CA := Lib.hid (CA.out.below hb)
  have HV := Lib.hid (HV.out.below hb (Nat.le_refl _))
  have CC := Lib.hid (CC.out.below hb)
  clear hb
  generalize hva : va = va2 at *
  clear hva
  have H11 := Lib.hid (f11_args back (s := ascT text) HSA.out HSB.out (by omega) HAR.out)
  go_wp2_with fail
  go_at_call 11
  refine (H11.out).mono ?_
  rintro e w8 ⟨⟨r, rfl, hr⟩, hb⟩
  have HAR := 0
  have HB := Lib.hid (HB.out.trans (hb.mono HB.out.size))
  have SEP := Lib.hid (SEP.out.below hb)
  have CA := Lib.hid (CA.out.below hb)
  have HV := Lib.hid (HV.out.below hb (Nat.le_refl _))
  have CC := Lib.hid (CC.out.below hb)
  clear hb
  cases r with
  | false =>
    have HNO : Hid (¬ (back = true ∧ (4 : Int) = 4 ∧ Ov ((ascT between) : ByteArray).data.toList)) := by
      have h := hr rfl
      first | exact h | exact fun ⟨h1, _, h3⟩ => h ⟨h1, trivial, h3⟩
    clear hr
    have HSZ := HSA
    go_wp2_with (at_builtin; refine wpList_append_grows _ rfl (.tmp 69) (.tmp 70) 24 rfl 28 i0 (aggV 0 ⟨#[]⟩ (.slice none 0 0)) 6 88 Tryz.underlying24 hi hz0 hz1 hz2 rfl (by decide) (some ⟨w4.heap.size, 0, none⟩) 1 1 (cellsV 4 (ascT between) (.slice none 0 0)) rfl (by intro h; cases h) rfl (by intro b hb; cases hb; exact CA.out) ⟨w6.heap.size, 0, none⟩ 1 1 (intC d (.slice ia il ic)) rfl rfl CC.out (int_cells _ _ _ _) (by omega) (by unfold maxLen; omega) (by omega) ?_)
    intro va wa2 hown hgrow
    have hb := grown_none hgrow
    have HVx := HV.out.below hb (Nat.le_refl _)
    have HAR := Lib.hid (args_of2 hown HVx HMM.out.1 HMM.out.2)
    clear hgrow hown HVx
    have HB := Lib.hid (HB.out.trans (hb.mono HB.out.size))
    have SEP := Lib.hid (SEP.out.below hb)
    have CA := Lib.hid (CA.out.below hb)
    have HV := Lib.hid (HV.out.below hb (Nat.le_refl _))
    have CC := Lib.hid (CC.out.below hb)
    clear hb
    generalize hva : va = va2 at *
    clear hva
    obtain ⟨O, hO⟩ : ∃ O, O = splitO back (ascT text).data.toList (sepOf 4 (ascT between)) most := ⟨_, rfl⟩
    have H7 := Lib.hid (f7_split back (ascT text) HSZ.out (k := 4) (t := (ascT between)) HSB.out (by omega) (by first | exact HNO.out | exact fun ⟨h1, _, h3⟩ => HNO.out ⟨h1, trivial, h3⟩) HAR.out)
    have HM := Lib.hid (max_of CC.out HV.out HMM.out.1 HMM.out.2)
    have H12 := Lib.hid (fun W hT hs hm => im_split back (ascT text) (ascT_asc text) HSZ.out (k := 4) (t := (ascT between)) HSB.out (.slice (some ⟨w2.heap.size, 0, none⟩) 1 1) (.slice (some ⟨w6.heap.size, 0, none⟩) 1 1) most (by have := HMM.out.2; omega) W hT hs hm)
    rw [show boundZ (some most) = most from rfl] at H7
    rw [← hO] at H7 H12
    have HLO : Hid (∀ l, O = some l → l.length ≤ 1000000) := fun l hl => splitO_len back _ _ most (by rw [← size_list0]; exact HSZ.out) (by have := HMM.out.2; omega) l (hO.symm.trans hl)
    clear hO
    cases O with
    | none =>
      go_wp2_with fail
      go_at_call 7
      refine (H7.out).mono ?_
      rintro e w9 ⟨rfl, hb⟩
      unfold aggV cellsV
      have HB := Lib.hid (HB.out.trans (hb.mono HB.out.size))
      have SEP := Lib.hid (SEP.out.below hb)
      have CA := Lib.hid (CA.out.below hb)
      have HV := Lib.hid (HV.out.below hb (Nat.le_refl _))
      have CC := Lib.hid (CC.out.below hb)
      have HM := Lib.hid (HM.out.below hb)
      clear hb
      have hb : Below w9.heap.size w9 (w9.alloc (.cells #[.int .i64 0, .bool false, .slice none 0 0, .int .u64 0, .string ⟨#[]⟩, .slice none 0 0] 28)) := (Below.refl _ _).alloc (Nat.le_refl _) _
      have HB := Lib.hid (HB.out.trans (hb.mono HB.out.size))
      have SEP := Lib.hid (SEP.out.below hb)
      have CA := Lib.hid (CA.out.below hb)
      have HV := Lib.hid (HV.out.below hb (Nat.le_refl _))
      have CC := Lib.hid (CC.out.below hb)
      have HM := Lib.hid (HM.out.below hb)
      clear hb
      go_wp2_with fail
      go_at_call 12
      refine (H12.out _ (tabs_below hT HB.out) SEP.out HM.out).mono ?_
      rintro e wx ⟨rfl, hb⟩
      have HB := Lib.hid (HB.out.trans (hb.mono HB.out.size))
      have SEP := Lib.hid (SEP.out.below hb)
      have CA := Lib.hid (CA.out.below hb)
      have HV := Lib.hid (HV.out.below hb (Nat.le_refl _))
      have CC := Lib.hid (CC.out.below hb)
      have HM := Lib.hid (HM.out.below hb)
      clear hb
      have H2 := im_split false ⟨#[97, 32, 98]⟩ asc_ab (by decide) (k := 0) (t := ⟨#[]⟩) (by decide) (.slice none 0 0) (.slice none 0 0) (-1) (by omega) wx (tabs_below hT HB.out) (.inl ⟨rfl, rfl⟩) (.inl ⟨rfl, rfl⟩)
      rw [show splitO false (⟨#[97, 32, 98]⟩ : ByteArray).data.toList (sepOf 0 ⟨#[]⟩) (-1) = some [[97], [98]] from two_words] at H2
      have H2 := Lib.hid H2
      go_wp2_with fail
      go_at_call 12
      refine (H2.out).mono ?_
      rintro e wy ⟨vy, rfl, hoy, hb⟩
      obtain ⟨yA, yc, rfl⟩ := own_len hoy
      clear hoy
      have HB := Lib.hid (HB.out.trans (hb.mono HB.out.size))
      have SEP := Lib.hid (SEP.out.below hb)
      have CA := Lib.hid (CA.out.below hb)
      have HV := Lib.hid (HV.out.below hb (Nat.le_refl _))
      have CC := Lib.hid (CC.out.below hb)
      have HM := Lib.hid (HM.out.below hb)
      clear hb
      rw [show [[(97 : UInt8)], [98]].length = 2 from rfl]
      go_wp2
      go_ret
      exact ⟨rfl, HB.out⟩
    | some l =>
      have HLL : Hid (l.length ≤ 1000000) := HLO.out l rfl
      go_wp2_with fail
      go_at_call 7
      refine (H7.out).mono ?_
      rintro e w9 ⟨v9, rA, rc, rfl, ho9, hb⟩
      unfold aggV cellsV
      have HB := Lib.hid (HB.out.trans (hb.mono HB.out.size))
      have SEP := Lib.hid (SEP.out.below hb)
      have CA := Lib.hid (CA.out.below hb)
      have HV := Lib.hid (HV.out.below hb (Nat.le_refl _))
      have CC := Lib.hid (CC.out.below hb)
      have HM := Lib.hid (HM.out.below hb)
      clear hb
      obtain ⟨oA, oc, rfl⟩ := own_len ho9
      have hb : Below w9.heap.size w9 (w9.alloc (.cells #[.int .i64 6, .bool false, .slice none 0 0, .int .u64 0, .string ⟨#[]⟩, .slice rA l.length rc] 28)) := (Below.refl _ _).alloc (Nat.le_refl _) _
      have HB := Lib.hid (HB.out.trans (hb.mono HB.out.size))
      have SEP := Lib.hid (SEP.out.below hb)
      have CA := Lib.hid (CA.out.below hb)
      have HV := Lib.hid (HV.out.below hb (Nat.le_refl _))
      have CC := Lib.hid (CC.out.below hb)
      have HM := Lib.hid (HM.out.below hb)
      clear hb
      have HO9 := Lib.hid (own_below ho9 ((Below.refl w9.heap.size w9).alloc (Nat.le_refl _) (.cells #[.int .i64 6, .bool false, .slice none 0 0, .int .u64 0, .string ⟨#[]⟩, .slice rA l.length rc] 28)))
      clear ho9
      go_wp2_with fail
      go_at_call 12
      refine (H12.out _ (tabs_below hT HB.out) SEP.out HM.out).mono ?_
      rintro e wx ⟨vx, rfl, hox, hb⟩
      obtain ⟨xA, xc, rfl⟩ := own_len hox
      have HOX := Lib.hid hox
      have HO9 := Lib.hid (own_below HO9.out hb)
      clear hox
      have HB := Lib.hid (HB.out.trans (hb.mono HB.out.size))
      have SEP := Lib.hid (SEP.out.below hb)
      have CA := Lib.hid (CA.out.below hb)
      have HV := Lib.hid (HV.out.below hb (Nat.le_refl _))
      have CC := Lib.hid (CC.out.below hb)
      have HM := Lib.hid (HM.out.below hb)
      clear hb
      have H2 := im_split false ⟨#[97, 32, 98]⟩ asc_ab (by decide) (k := 0) (t := ⟨#[]⟩) (by decide) (.slice none 0 0) (.slice none 0 0) (-1) (by omega) wx (tabs_below hT HB.out) (.inl ⟨rfl, rfl⟩) (.inl ⟨rfl, rfl⟩)
      rw [show splitO false (⟨#[97, 32, 98]⟩ : ByteArray).data.toList (sepOf 0 ⟨#[]⟩) (-1) = some [[97], [98]] from two_words] at H2
      have H2 := Lib.hid H2
      go_wp2_with fail
      go_at_call 12
      refine (H2.out).mono ?_
      rintro e wy ⟨vy, rfl, hoy, hb⟩
      obtain ⟨yA, yc, rfl⟩ := own_len hoy
      have HOX := Lib.hid (own_below HOX.out hb)
      have HO9 := Lib.hid (own_below HO9.out hb)
      clear hoy
      have HB := Lib.hid (HB.out.trans (hb.mono HB.out.size))
      have SEP := Lib.hid (SEP.out.below hb)
      have CA := Lib.hid (CA.out.below hb)
      have HV := Lib.hid (HV.out.below hb (Nat.le_refl _))
      have CC := Lib.hid (CC.out.below hb)
      have HM := Lib.hid (HM.out.below hb)
      clear hb
      rw [show [[(97 : UInt8)], [98]].length = 2 from rfl]
      go_wp2_with fail
      go_at_call 13
      refine (f13_same l HLL.out _ _ _ _ wy HOX.out HO9.out).mono ?_
      rintro e wz ⟨rfl, rfl⟩
      go_wp2
      go_ret
      exact ⟨rfl, HB.out⟩
  | true =>
    clear hr
    have HSZ : Hid ((⟨#[97, 32, 98, 32, 99]⟩ : ByteArray).size ≤ 100000) := by show _ ≤ _; decide
    clear CA SEP
    have hb : Below w8.heap.size w8 (w8.alloc (.cells #[.string ⟨#[32]⟩] 9)) := (Below.refl _ _).alloc (Nat.le_refl _) _
    have HB := Lib.hid (HB.out.trans (hb.mono HB.out.size))
    have HV := Lib.hid (HV.out.below hb (Nat.le_refl _))
    have CC := Lib.hid (CC.out.below hb)
    clear hb
    have SEP : Hid (SepArg 4 ⟨#[32]⟩ (.slice (some ⟨w8.heap.size, 0, none⟩) 1 1) (w8.alloc (.cells #[.string ⟨#[32]⟩] 9))) := .inr ⟨rfl, _, rfl, by simp [go_sem]⟩
    go_wp2_with fail
    go_at_call 6
    refine (H6.out _ _).mono ?_
    rintro e wb ⟨rfl, hb⟩
    have HB := Lib.hid (HB.out.trans (hb.mono HB.out.size))
    have HV := Lib.hid (HV.out.below hb (Nat.le_refl _))
    have CC := Lib.hid (CC.out.below hb)
    have SEP := Lib.hid (SEP.out.below hb)
    clear hb
    have hb : Below wb.heap.size wb (wb.alloc (.cells #[.int .i64 4, .bool false, .slice none 0 0, .int .u64 0, .string ⟨#[32]⟩, .slice none 0 0] 28)) := (Below.refl _ _).alloc (Nat.le_refl _) _
    have HB := Lib.hid (HB.out.trans (hb.mono HB.out.size))
    have HV := Lib.hid (HV.out.below hb (Nat.le_refl _))
    have CC := Lib.hid (CC.out.below hb)
    have SEP := Lib.hid (SEP.out.below hb)
    clear hb
    have CA : Hid (CellsAt wb.heap.size (cellsV 4 ⟨#[32]⟩ (.slice none 0 0)) (wb.alloc (.cells #[.int .i64 4, .bool false, .slice none 0 0, .int .u64 0, .string ⟨#[32]⟩, .slice none 0 0] 28))) := CellsAt.new _ _ _
    go_wp2_with (at_builtin; refine wpList_append_grows _ rfl (.tmp 69) (.tmp 70) 24 rfl 28 i0 (aggV 0 ⟨#[]⟩ (.slice none 0 0)) 6 88 Tryz.underlying24 hi hz0 hz1 hz2 rfl (by decide) (some ⟨wb.heap.size, 0, none⟩) 1 1 (cellsV 4 ⟨#[32]⟩ (.slice none 0 0)) rfl (by intro h; cases h) rfl (by intro b hb; cases hb; exact CA.out) ⟨w6.heap.size, 0, none⟩ 1 1 (intC d (.slice ia il ic)) rfl rfl CC.out (int_cells _ _ _ _) (by omega) (by unfold maxLen; omega) (by omega) ?_)
    intro va wa2 hown hgrow
    have hb := grown_none hgrow
    have HVx := HV.out.below hb (Nat.le_refl _)
    have HAR := Lib.hid (args_of2 hown HVx HMM.out.1 HMM.out.2)
    clear hgrow hown HVx
    have HB := Lib.hid (HB.out.trans (hb.mono HB.out.size))
    have HV := Lib.hid (HV.out.below hb (Nat.le_refl _))
    have CC := Lib.hid (CC.out.below hb)
    have SEP := Lib.hid (SEP.out.below hb)
    have CA := Lib.hid (CA.out.below hb)
    clear hb
    generalize hva : va = va2 at *
    clear hva
    obtain ⟨O, hO⟩ : ∃ O, O = splitO back (⟨#[97, 32, 98, 32, 99]⟩ : ByteArray).data.toList (sepOf 4 ⟨#[32]⟩) most := ⟨_, rfl⟩
    have H7 := Lib.hid (f7_split back ⟨#[97, 32, 98, 32, 99]⟩ HSZ.out (k := 4) (t := ⟨#[32]⟩) (by decide) (by omega) (fun h => ov_space h.2.2) HAR.out)
    have HM := Lib.hid (max_of CC.out HV.out HMM.out.1 HMM.out.2)
    have H12 := Lib.hid (fun W hT hs hm => im_split back ⟨#[97, 32, 98, 32, 99]⟩ asc_abc HSZ.out (k := 4) (t := ⟨#[32]⟩) (by decide) (.slice (some ⟨w8.heap.size, 0, none⟩) 1 1) (.slice (some ⟨w6.heap.size, 0, none⟩) 1 1) most (by have := HMM.out.2; omega) W hT hs hm)
    rw [show boundZ (some most) = most from rfl] at H7
    rw [← hO] at H7 H12
    have HLO : Hid (∀ l, O = some l → l.length ≤ 1000000) := fun l hl => splitO_len back _ _ most (by rw [← size_list0]; exact HSZ.out) (by have := HMM.out.2; omega) l (hO.symm.trans hl)
    clear hO
    cases O with
    | none =>
      go_wp2_with fail
      go_at_call 7
      refine (H7.out).mono ?_
      rintro e w9 ⟨rfl, hb⟩
      unfold aggV cellsV
      have HB := Lib.hid (HB.out.trans (hb.mono HB.out.size))
      have HV := Lib.hid (HV.out.below hb (Nat.le_refl _))
      have CC := Lib.hid (CC.out.below hb)
      have SEP := Lib.hid (SEP.out.below hb)
      have CA := Lib.hid (CA.out.below hb)
      have HM := Lib.hid (HM.out.below hb)
      clear hb
      have hb : Below w9.heap.size w9 (w9.alloc (.cells #[.int .i64 0, .bool false, .slice none 0 0, .int .u64 0, .string ⟨#[]⟩, .slice none 0 0] 28)) := (Below.refl _ _).alloc (Nat.le_refl _) _
      have HB := Lib.hid (HB.out.trans (hb.mono HB.out.size))
      have HV := Lib.hid (HV.out.below hb (Nat.le_refl _))
      have CC := Lib.hid (CC.out.below hb)
      have SEP := Lib.hid (SEP.out.below hb)
      have CA := Lib.hid (CA.out.below hb)
      have HM := Lib.hid (HM.out.below hb)
      clear hb
      go_wp2_with fail
      go_at_call 12
      refine (H12.out _ (tabs_below hT HB.out) SEP.out HM.out).mono ?_
      rintro e wx ⟨rfl, hb⟩
      have HB := Lib.hid (HB.out.trans (hb.mono HB.out.size))
      have HV := Lib.hid (HV.out.below hb (Nat.le_refl _))
      have CC := Lib.hid (CC.out.below hb)
      have SEP := Lib.hid (SEP.out.below hb)
      have CA := Lib.hid (CA.out.below hb)
      have HM := Lib.hid (HM.out.below hb)
      clear hb
      have H2 := im_split false ⟨#[97, 32, 98]⟩ asc_ab (by decide) (k := 0) (t := ⟨#[]⟩) (by decide) (.slice none 0 0) (.slice none 0 0) (-1) (by omega) wx (tabs_below hT HB.out) (.inl ⟨rfl, rfl⟩) (.inl ⟨rfl, rfl⟩)
      rw [show splitO false (⟨#[97, 32, 98]⟩ : ByteArray).data.toList (sepOf 0 ⟨#[]⟩) (-1) = some [[97], [98]] from two_words] at H2
      have H2 := Lib.hid H2
      go_wp2_with fail
      go_at_call 12
      refine (H2.out).mono ?_
      rintro e wy ⟨vy, rfl, hoy, hb⟩
      obtain ⟨yA, yc, rfl⟩ := own_len hoy
      clear hoy
      have HB := Lib.hid (HB.out.trans (hb.mono HB.out.size))
      have HV := Lib.hid (HV.out.below hb (Nat.le_refl _))
      have CC := Lib.hid (CC.out.below hb)
      have SEP := Lib.hid (SEP.out.below hb)
      have CA := Lib.hid (CA.out.below hb)
      have HM := Lib.hid (HM.out.below hb)
      clear hb
      rw [show [[(97 : UInt8)], [98]].length = 2 from rfl]
      go_wp2
      go_ret
      exact ⟨rfl, HB.out⟩
    | some l =>
      have HLL : Hid (l.length ≤ 1000000) := HLO.out l rfl
      go_wp2_with fail
      go_at_call 7
      refine (H7.out).mono ?_
      rintro e w9 ⟨v9, rA, rc, rfl, ho9, hb⟩
      unfold aggV cellsV
      have HB := Lib.hid (HB.out.trans (hb.mono HB.out.size))
      have HV := Lib.hid (HV.out.below hb (Nat.le_refl _))
      have CC := Lib.hid (CC.out.below hb)
      have SEP := Lib.hid (SEP.out.below hb)
      have CA := Lib.hid (CA.out.below hb)
      have HM := Lib.hid (HM.out.below hb)
      clear hb
      obtain ⟨oA, oc, rfl⟩ := own_len ho9
      have hb : Below w9.heap.size w9 (w9.alloc (.cells #[.int .i64 6, .bool false, .slice none 0 0, .int .u64 0, .string ⟨#[]⟩, .slice rA l.length rc] 28)) := (Below.refl _ _).alloc (Nat.le_refl _) _
      have HB := Lib.hid (HB.out.trans (hb.mono HB.out.size))
      have HV := Lib.hid (HV.out.below hb (Nat.le_refl _))
      have CC := Lib.hid (CC.out.below hb)
      have SEP := Lib.hid (SEP.out.below hb)
      have CA := Lib.hid (CA.out.below hb)
      have HM := Lib.hid (HM.out.below hb)
      clear hb
      have HO9 := Lib.hid (own_below ho9 ((Below.refl w9.heap.size w9).alloc (Nat.le_refl _) (.cells #[.int .i64 6, .bool false, .slice none 0 0, .int .u64 0, .string ⟨#[]⟩, .slice rA l.length rc] 28)))
      clear ho9
      go_wp2_with fail
      go_at_call 12
      refine (H12.out _ (tabs_below hT HB.out) SEP.out HM.out).mono ?_
      rintro e wx ⟨vx, rfl, hox, hb⟩
      obtain ⟨xA, xc, rfl⟩ := own_len hox
      have HOX := Lib.hid hox
      have HO9 := Lib.hid (own_below HO9.out hb)
      clear hox
      have HB := Lib.hid (HB.out.trans (hb.mono HB.out.size))
      have HV := Lib.hid (HV.out.below hb (Nat.le_refl _))
      have CC := Lib.hid (CC.out.below hb)
      have SEP := Lib.hid (SEP.out.below hb)
      have CA := Lib.hid (CA.out.below hb)
      have HM := Lib.hid (HM.out.below hb)
      clear hb
      have H2 := im_split false ⟨#[97, 32, 98]⟩ asc_ab (by decide) (k := 0) (t := ⟨#[]⟩) (by decide) (.slice none 0 0) (.slice none 0 0) (-1) (by omega) wx (tabs_below hT HB.out) (.inl ⟨rfl, rfl⟩) (.inl ⟨rfl, rfl⟩)
      rw [show splitO false (⟨#[97, 32, 98]⟩ : ByteArray).data.toList (sepOf 0 ⟨#[]⟩) (-1) = some [[97], [98]] from two_words] at H2
      have H2 := Lib.hid H2
      go_wp2_with fail
      go_at_call 12
      refine (H2.out).mono ?_
      rintro e wy ⟨vy, rfl, hoy, hb⟩
      obtain ⟨yA, yc, rfl⟩ := own_len hoy
      have HOX := Lib.hid (own_below HOX.out hb)
      have HO9 := Lib.hid (own_below HO9.out hb)
      clear hoy
      have HB := Lib.hid (HB.out.trans (hb.mono HB.out.size))
      have HV := Lib.hid (HV.out.below hb (Nat.le_refl _))
      have CC := Lib.hid (CC.out.below hb)
      have SEP := Lib.hid (SEP.out.below hb)
      have CA := Lib.hid (CA.out.below hb)
      have HM := Lib.hid (HM.out.below hb)
      clear hb
      rw [show [[(97 : UInt8)], [98]].length = 2 from rfl]
      go_wp2_with fail
      go_at_call 13
      refine (f13_same l HLL.out _ _ _ _ wy HOX.out HO9.out).mono ?_
      rintro e wz ⟨rfl, rfl⟩
      go_wp2
      go_ret
      exact ⟨rfl, HB.out⟩
set_option maxRecDepth 100000 in
theorem f4_long (back by_ bounded : Bool) (most : Int) (text between : ByteArray) (h : 2147483647 < text.size) (w : World) : Calls Tryz.prog 4 #[.bool back, .string text, .string between, .bool by_, .int .i8 most, .bool bounded] w (LawIs w) := by
  go_enter Tryz.func4, Tryz.ntmps4
  go_wp2
  go_ret
  exact ⟨rfl, Below.refl _ _⟩
set_option maxRecDepth 100000 in
theorem f4_long2 (back by_ bounded : Bool) (most : Int) (text between : ByteArray) (h0 : text.size ≤ 2147483647) (h : 2147483647 < between.size) (w : World) : Calls Tryz.prog 4 #[.bool back, .string text, .string between, .bool by_, .int .i8 most, .bool bounded] w (LawIs w) := by
  go_enter Tryz.func4, Tryz.ntmps4
  go_wp2
  go_ret
  exact ⟨rfl, Below.refl _ _⟩
theorem f4_any (back : Bool) (text between : ByteArray) (by_ : Bool) (most : Int) (hm0 : -128 ≤ most) (hm1 : most ≤ 127) (bounded : Bool) (w : World) (hT : Lib.Utf8Tabs 1 2 w) : Calls Tryz.prog 4 #[.bool back, .string text, .string between, .bool by_, .int .i8 most, .bool bounded] w (LawIs w) := by
  rcases Nat.lt_or_ge 2147483647 text.size with ht | ht
  · exact f4_long back by_ bounded most text between ht w
  rcases Nat.lt_or_ge 2147483647 between.size with hc | hc
  · exact f4_long2 back by_ bounded most text between ht hc w
  cases by_
  · cases bounded
    · exact f4_word_n back text between ht hc most hm0 hm1 w hT
    · exact f4_word_b back text between ht hc most hm0 hm1 w hT
  · cases bounded
    · exact f4_sep_n back text between ht hc most hm0 hm1 w hT
    · exact f4_sep_b back text between ht hc most hm0 hm1 w hT
end Go.Proofs.YtgcofpmhojplhaaGreatDoor
