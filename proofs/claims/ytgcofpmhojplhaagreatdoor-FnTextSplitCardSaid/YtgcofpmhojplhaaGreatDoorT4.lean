/- Walks of the package's Fields and splitspace. (Printed by mkt4.py.) -/
import Derived.Test.YtgcofpmhojplhaaGreatDoorT2
import Derived.Test.YtgcofpmhojplhaaGreatDoorMP
import Derived.Test.YtgcofpmhojplhaaGreatDoorR4
import Derived.Lib.OthersKept
import Derived.WalkSmall
namespace Go.Proofs.YtgcofpmhojplhaaGreatDoor
open Go.RowKit

set_option maxRecDepth 100000 in
theorem f65_true (x : Nat) (hv : blankN x = true) (w : World) : Calls Tryz.prog 65 #[.int .i32 x] w fun e w' => e = .returned (.bool true) ∧ w = w' := by
  have h : x ≤ 32 := by
    unfold blankN at hv
    simp at hv
    omega
  have t0 : decide ((x : Int) < 128) = true := decide_eq_true (by omega)
  by_cases h32 : x = 32
  · have t1 : ((x : Int) == 32) = true := by rw [h32]; rfl
    clear hv h32
    go_enter Tryz.func65, Tryz.ntmps65
    go_wp2
    go_ret
    exact ⟨rfl, rfl⟩
  · have t1 : ((x : Int) == 32) = false := int_ne _ _ (by omega)
    have h9 : 9 ≤ x ∧ x ≤ 13 := by
      unfold blankN at hv
      simp [h32] at hv
      exact hv
    have t13 : decide ((x : Int) ≤ 13) = true := decide_eq_true (by omega)
    have t9 : 9 ≤ x := h9.1
    clear hv h32 h9
    go_enter Tryz.func65, Tryz.ntmps65
    go_wp2
    go_ret
    exact ⟨rfl, rfl⟩
set_option maxRecDepth 100000 in
theorem f65_false (x : Nat) (h : x < 128) (hv : blankN x = false) (w : World) : Calls Tryz.prog 65 #[.int .i32 x] w fun e w' => e = .returned (.bool false) ∧ w = w' := by
  have t0 : decide ((x : Int) < 128) = true := decide_eq_true (by omega)
  have h32 : x ≠ 32 := by rintro rfl; cases hv
  have t1 : ((x : Int) == 32) = false := int_ne _ _ (by omega)
  by_cases h9 : 9 ≤ x
  · have h13 : ¬ x ≤ 13 := by
      intro h13
      unfold blankN at hv
      simp [h9, h13] at hv
    have t13 : decide ((x : Int) ≤ 13) = false := decide_eq_false (by omega)
    clear hv h32
    go_enter Tryz.func65, Tryz.ntmps65
    go_wp2
    go_ret
    exact ⟨rfl, rfl⟩
  · clear hv h32
    go_enter Tryz.func65, Tryz.ntmps65
    go_wp2
    go_ret
    exact ⟨rfl, rfl⟩
theorem rel_app2 {wr w0 w1 : World} {K e k : Nat} {v v' : Value} {xs ys : List Value} {o1 : Obj} {n : Nat} {s : ByteArray} {p : Nat} (hown : wr.ownsRow (K + 1) e 1 v k xs) (hb : Below K w0 wr) (hi : wr.heap[K]? = some (.stringIter s p))
    (hown' : w1.ownsRow (K + 1) e 1 v' n ys) (hgrow : (wr.alloc o1).grownBy w1 v.ownBlock) : w1.ownsRow (K + 1) e 1 v' n ys ∧ Below K w0 w1 ∧ w1.heap[K]? = some (.stringIter s p) := by
  have hlt : K < wr.heap.size := (Array.getElem?_eq_some_iff.1 hi).1
  refine ⟨hown', (hb.alloc (by omega) o1).grown hgrow (by simp; omega) (fun k' hk => by have := (hown.lt k' hk).1; omega), ?_⟩
  rw [hgrow.block K (by simp; omega) (fun h => by have := (hown.lt K h.symm).1; omega), ← hi]
  exact Below.heap_alloc wr o1 K hlt

/-- What a scan for words holds: pos bytes looked at, a the words that are laid, st where a word begins (below 0: in none). -/
def Scan (q : UInt8 → Bool) (m0 K : Nat) (s : ByteArray) (w : World) (o st : Value) (wr : World) : Prop :=
  ∃ (pos : Nat) (a : List (List UInt8)), pos ≤ s.size ∧ a.length ≤ pos ∧ a.length ≤ m0 ∧ wr.heap[K]? = some (.stringIter s pos) ∧ wr.ownsRow (K + 1) 9 1 o a.length (strs a) ∧ Below K w wr ∧
    ((st = .int .i64 (-1) ∧ wd q m0 s.data.toList = a ++ wd q (m0 - a.length) (s.data.toList.drop pos)) ∨
     (∃ k : Nat, k < pos ∧ a.length ≤ k ∧ st = .int .i64 k ∧ wd q m0 s.data.toList = a ++ wdIn q (m0 - a.length) ((s.data.toList.drop k).take (pos - k)) (s.data.toList.drop pos)))
theorem Scan.blank {q : UInt8 → Bool} {m p : Nat} {S : List UInt8} (hp : p < S.length) (hb : q (S.getD p 0) = true) : wd q m (S.drop p) = wd q m (S.drop (p + 1)) := by
  rw [drop_step S p hp, wd_blank _ _ _ _ hb]
theorem Scan.word {q : UInt8 → Bool} {m p : Nat} {S : List UInt8} (hp : p < S.length) (hb : q (S.getD p 0) = false) : wd q m (S.drop p) = wdIn q m ((S.drop p).take (p + 1 - p)) (S.drop (p + 1)) := by
  rw [drop_step S p hp, wd_word _ _ _ _ hb, show p + 1 - p = 1 by omega]
  rfl
theorem Scan.more {q : UInt8 → Bool} {m p k : Nat} {S : List UInt8} (hk : k < p) (hp : p < S.length) (hb : q (S.getD p 0) = false) : wdIn q m ((S.drop k).take (p - k)) (S.drop p) = wdIn q m ((S.drop k).take (p + 1 - k)) (S.drop (p + 1)) := by
  rw [drop_step S p hp, wdIn_word _ _ _ _ _ hb]
  congr 1
  rw [show p + 1 - k = (p - k) + 1 by omega, take_step _ _ (by rw [List.length_drop]; omega)]
  congr 2
  rw [List.getD_eq_getElem?_getD, List.getD_eq_getElem?_getD, List.getElem?_drop, show k + (p - k) = p by omega]
theorem Scan.cut {q : UInt8 → Bool} {m p k : Nat} {S : List UInt8} (hp : p < S.length) (hb : q (S.getD p 0) = true) : wdIn q (m + 1) ((S.drop k).take (p - k)) (S.drop p) = (S.drop k).take (p - k) :: wd q m (S.drop (p + 1)) := by
  rw [drop_step S p hp, wdIn_blank _ _ _ _ _ hb]
theorem Scan.rest {q : UInt8 → Bool} {p k : Nat} {S : List UInt8} (hk : k ≤ p) : wdIn q 0 ((S.drop k).take (p - k)) (S.drop p) = [S.drop k] := by
  show [(S.drop k).take (p - k) ++ S.drop p] = _
  have e : S.drop p = (S.drop k).drop (p - k) := by rw [List.drop_drop, show k + (p - k) = p by omega]
  rw [e, List.take_append_drop]
theorem Scan.last {q : UInt8 → Bool} {m p k : Nat} {S : List UInt8} (hk : k ≤ p) (hp : S.length ≤ p) : wdIn q m ((S.drop k).take (p - k)) (S.drop p) = [S.drop k] := by
  rw [List.drop_of_length_le hp, wdIn_nil, List.take_of_length_le (by rw [List.length_drop]; omega)]
theorem ext_end (s : ByteArray) (k : Nat) : s.extract k s.size = txt (s.data.toList.drop k) := by
  rw [ext_txt, List.take_of_length_le (by rw [List.length_drop, ← size_list0]; omega)]
theorem next_byte {s : ByteArray} {pos : Nat} (h : pos < s.size) : ((s[pos]'h).toNat : Int) = ((s.data.toList.getD pos 0).toNat : Int) := by rw [at_list s pos h _ rfl]
set_option maxRecDepth 100000 in
set_option maxHeartbeats 4000000 in
theorem f70_any (s : ByteArray) (ha : Asc s.data.toList) (hs : s.size ≤ 100000) (w : World) : Calls Tryz.prog 70 #[.string s] w (TextsMade (wd blankB s.size s.data.toList) w) := by
  obtain ⟨i0, hi, hz0, hz1, hz2⟩ := info_parts infoStr
  have HA := Lib.hid ha
  clear ha
  go_enter Tryz.func70, Tryz.ntmps70
  go_wp2
  go_loopw [2, 3] (fun o st wr => Scan blankB s.size w.heap.size s w o st wr) (fun _ _ wr => s.size - wr.iterPos w.heap.size)
  case atStart => exact ⟨0, [], Nat.zero_le _, Nat.zero_le _, Nat.zero_le _, World.iter_heap w s 0, World.ownsRow_nil _ _ _ _, iter_below w s 0, .inl ⟨rfl, by simp⟩⟩
  case round =>
    obtain ⟨pos, a, hp, hap, ham, hk0, hown, hb, hst⟩ := hrel
    have HK0 := Lib.hid hk0
    obtain ⟨oA, oc, rfl⟩ := own_len hown
    have K3 : Hid (a.length + 1 ≤ maxLen) := by show _ ≤ _; unfold maxLen; omega
    have K4 : Hid ((a.length + 1) * 16 ≤ 140737488355328) := by show _ ≤ _; omega
    by_cases hps : pos < s.size
    · have hpl : pos < s.data.toList.length := by rw [← size_list0]; exact hps
      have hnx : ∀ ty, (Instr.next (.pointer (some ⟨w.heap.size, 0, none⟩)) true ty).run Tryz.prog wr = _ := fun ty => Lib.run_next_ascii_at wr w.heap.size s pos ty hk0 hps (asc_at HA.out pos hps)
      rw [next_byte hps] at hnx
      have hlt : (s.data.toList.getD pos 0).toNat < 128 := by rw [← at_list s pos hps _ rfl]; exact asc_at HA.out pos hps
      have HI : Hid ((wr.iterAt w.heap.size s (pos + 1)).heap[w.heap.size]? = some (.stringIter s (pos + 1))) := Lib.iterAt_heap wr _ s pos (pos + 1) hk0
      have HO : Hid ((wr.iterAt w.heap.size s (pos + 1)).ownsRow (w.heap.size + 1) 9 1 _ a.length (strs a)) := ownsRow_iterAt hown (by omega) s (pos + 1)
      have HB : Hid (Below w.heap.size w (wr.iterAt w.heap.size s (pos + 1))) := Lib.below_iterAt hb (Nat.le_refl _) s (pos + 1)
      have K5 : ∀ u, Hid (w.heap.size + 1 ≤ ((wr.iterAt w.heap.size s (pos + 1)).alloc (.cells #[.string u] 9)).heap.size) := fun u => by
        show _ ≤ _
        have := (Array.getElem?_eq_some_iff.1 HI.out).1
        simp; omega
      have K5 := Lib.hid K5
      generalize wr.iterAt w.heap.size s (pos + 1) = wn at *
      have hlow := Lib.hid hlt
      clear hown hb hk0
      by_cases hbl : blankN (s.data.toList.getD pos 0).toNat = true
      · have HBL : Hid (blankB (s.data.toList.getD pos 0) = true) := hbl
        have H65 := Lib.hid (f65_true _ hbl wn)
        clear hbl hlt
        generalize ((s.data.toList.getD pos 0).toNat : Int) = x at *
        rcases hst with ⟨rfl, hw⟩ | ⟨k, hkp, hak, rfl, hw⟩
        · have HW := Lib.hid hw
          clear hw
          go_wp2_with fail
          go_at_call 65
          refine H65.out.mono ?_
          rintro e w' ⟨rfl, rfl⟩
          go_wp2
          go_roundw
          case rel => exact ⟨pos + 1, a, by omega, by omega, ham, HI.out, HO.out, HB.out, .inl ⟨rfl, by rw [HW.out, Scan.blank hpl HBL.out]⟩⟩
          case measure => rw [iterPos_of HI.out, iterPos_of HK0.out]; omega
        · have HW := Lib.hid hw
          have hk0 : (0 : Int) ≤ (k : Int) := by omega
          have hk1 : ((k : Int) == -1) = false := int_ne _ _ (by omega)
          clear hw
          go_wp2_with fail
          go_at_call 65
          refine H65.out.mono ?_
          rintro e w' ⟨rfl, rfl⟩
          go_wp2_with (at_builtin; refine wpList_append_own _ rfl (.tmp 22) (.tmp 27) 23 rfl (w.heap.size + 1) 9 i0 (.string ByteArray.empty) 1 16 Tryz.underlying23 hi hz0 hz1 hz2 rfl (by decide) _ a.length _ rfl (HO.out.alloc _) ⟨wn.heap.size, 0, none⟩ 1 1 [.string (s.extract k pos)] rfl rfl (one_new _ _ _) (one_cell _) K3.out K4.out (K5.out _).out ?_)
          intro v' w1 hown' hgrow _
          have R := rel_app2 HO.out HB.out HI.out hown' hgrow
          have HR := Lib.hid R
          clear hown' hgrow R
          go_wp2
          go_roundw
          case rel =>
            refine ⟨pos + 1, a ++ [(s.data.toList.drop k).take (pos - k)], by omega, by simp; omega, by simp; omega, HR.out.2.2, ?_, HR.out.2.1, .inl ⟨rfl, ?_⟩⟩
            · rw [strs_snoc, List.length_append]
              have := HR.out.1
              rw [ext_txt] at this
              exact this
            · obtain ⟨m, hm⟩ : ∃ m, s.size - a.length = m + 1 := ⟨s.size - a.length - 1, by omega⟩
              rw [HW.out, hm, Scan.cut hpl HBL.out, List.length_append, ← Nat.sub_sub, hm, List.append_assoc]
              rfl
          case measure => rw [iterPos_of HR.out.2.2, iterPos_of HK0.out]; omega
      · have hbl : blankN (s.data.toList.getD pos 0).toNat = false := by simpa using hbl
        have HBL : Hid (blankB (s.data.toList.getD pos 0) = false) := hbl
        have H65 := Lib.hid (f65_false _ hlt hbl wn)
        clear hbl hlt
        generalize ((s.data.toList.getD pos 0).toNat : Int) = x at *
        rcases hst with ⟨rfl, hw⟩ | ⟨k, hkp, hak, rfl, hw⟩
        · have HW := Lib.hid hw
          clear hw
          go_wp2_with fail
          go_at_call 65
          refine H65.out.mono ?_
          rintro e w' ⟨rfl, rfl⟩
          go_wp2
          go_roundw
          case rel => exact ⟨pos + 1, a, by omega, by omega, ham, HI.out, HO.out, HB.out, .inr ⟨pos, by omega, hap, rfl, by rw [HW.out, Scan.word hpl HBL.out]⟩⟩
          case measure => rw [iterPos_of HI.out, iterPos_of HK0.out]; omega
        · have HW := Lib.hid hw
          have hk0 : (0 : Int) ≤ (k : Int) := by omega
          have hk1 : ((k : Int) == -1) = false := int_ne _ _ (by omega)
          clear hw
          go_wp2_with fail
          go_at_call 65
          refine H65.out.mono ?_
          rintro e w' ⟨rfl, rfl⟩
          go_wp2
          go_roundw
          case rel => exact ⟨pos + 1, a, by omega, by omega, ham, HI.out, HO.out, HB.out, .inr ⟨k, by omega, hak, rfl, by rw [HW.out, Scan.more hkp hpl HBL.out]⟩⟩
          case measure => rw [iterPos_of HI.out, iterPos_of HK0.out]; omega
    · have hnx : ∀ ty, (Instr.next (.pointer (some ⟨w.heap.size, 0, none⟩)) true ty).run Tryz.prog wr = _ := fun ty => Lib.run_next_end_at wr w.heap.size s pos ty hk0 hps
      have HPS : Hid (s.data.toList.length ≤ pos) := by show _ ≤ _; rw [← size_list0]; omega
      have HO := Lib.hid hown
      have HB := Lib.hid hb
      have HI := Lib.hid hk0
      have K5 : ∀ u, Hid (w.heap.size + 1 ≤ (wr.alloc (.cells #[.string u] 9)).heap.size) := fun u => by
        show _ ≤ _
        have := (Array.getElem?_eq_some_iff.1 HI.out).1
        simp; omega
      have K5 := Lib.hid K5
      clear hown hb hk0
      rcases hst with ⟨rfl, hw⟩ | ⟨k, hkp, hak, rfl, hw⟩
      · have HW := Lib.hid hw
        clear hw
        go_wp2
        go_ret
        refine ⟨_, rfl, ?_, HB.out⟩
        rw [HW.out, List.drop_of_length_le HPS.out, wd_nil, List.append_nil]
        exact Joins.ownsRow_le HO.out (Nat.le_succ _)
      · have HW := Lib.hid hw
        have hk0 : (0 : Int) ≤ (k : Int) := by omega
        clear hw
        go_wp2_with (at_builtin; refine wpList_append_own _ rfl (.tmp 31) (.tmp 35) 23 rfl (w.heap.size + 1) 9 i0 (.string ByteArray.empty) 1 16 Tryz.underlying23 hi hz0 hz1 hz2 rfl (by decide) _ a.length _ rfl (HO.out.alloc _) ⟨wr.heap.size, 0, none⟩ 1 1 [.string (s.extract k s.size)] rfl rfl (one_new _ _ _) (one_cell _) K3.out K4.out (K5.out _).out ?_)
        intro v' w1 hown' hgrow _
        have R := rel_app2 HO.out HB.out HI.out hown' hgrow
        have HR := Lib.hid R
        clear hown' hgrow R
        go_wp2
        go_ret
        refine ⟨_, rfl, ?_, HR.out.2.1⟩
        rw [HW.out, Scan.last (by omega) HPS.out, strs_snoc, ← ext_end s k]
        simpa using Joins.ownsRow_le HR.out.1 (Nat.le_succ _)
set_option maxRecDepth 100000 in
set_option maxHeartbeats 4000000 in
theorem f71_any (s : ByteArray) (ha : Asc s.data.toList) (_hs : s.size ≤ 100000) (m0 : Nat) (hm0 : m0 ≤ 1000000) (w : World) : Calls Tryz.prog 71 #[.string s, .int .i64 (m0 : Int)] w (TextsMade (wd blankB m0 s.data.toList) w) := by
  obtain ⟨i0, hi, hz0, hz1, hz2⟩ := info_parts infoStr
  have HA := Lib.hid ha
  clear ha
  go_enter Tryz.func71, Tryz.ntmps71
  go_wp2
  go_loopw [5, 6] (fun o st wr => Scan blankB m0 w.heap.size s w o st wr) (fun _ _ wr => s.size - wr.iterPos w.heap.size)
  case atStart => exact ⟨0, [], Nat.zero_le _, Nat.zero_le _, Nat.zero_le _, World.iter_heap w s 0, World.ownsRow_nil _ _ _ _, iter_below w s 0, .inl ⟨rfl, by simp⟩⟩
  case round =>
    obtain ⟨pos, a, hp, hap, ham, hk0, hown, hb, hst⟩ := hrel
    have HK0 := Lib.hid hk0
    obtain ⟨oA, oc, rfl⟩ := own_len hown
    have K3 : Hid (a.length + 1 ≤ maxLen) := by show _ ≤ _; unfold maxLen; omega
    have K4 : Hid ((a.length + 1) * 16 ≤ 140737488355328) := by show _ ≤ _; omega
    by_cases hps : pos < s.size
    · have hpl : pos < s.data.toList.length := by rw [← size_list0]; exact hps
      have hnx : ∀ ty, (Instr.next (.pointer (some ⟨w.heap.size, 0, none⟩)) true ty).run Tryz.prog wr = _ := fun ty => Lib.run_next_ascii_at wr w.heap.size s pos ty hk0 hps (asc_at HA.out pos hps)
      rw [next_byte hps] at hnx
      have hlt : (s.data.toList.getD pos 0).toNat < 128 := by rw [← at_list s pos hps _ rfl]; exact asc_at HA.out pos hps
      have HI : Hid ((wr.iterAt w.heap.size s (pos + 1)).heap[w.heap.size]? = some (.stringIter s (pos + 1))) := Lib.iterAt_heap wr _ s pos (pos + 1) hk0
      have HO : Hid ((wr.iterAt w.heap.size s (pos + 1)).ownsRow (w.heap.size + 1) 9 1 _ a.length (strs a)) := ownsRow_iterAt hown (by omega) s (pos + 1)
      have HB : Hid (Below w.heap.size w (wr.iterAt w.heap.size s (pos + 1))) := Lib.below_iterAt hb (Nat.le_refl _) s (pos + 1)
      have K5 : ∀ u, Hid (w.heap.size + 1 ≤ ((wr.iterAt w.heap.size s (pos + 1)).alloc (.cells #[.string u] 9)).heap.size) := fun u => by
        show _ ≤ _
        have := (Array.getElem?_eq_some_iff.1 HI.out).1
        simp; omega
      have K5 := Lib.hid K5
      generalize wr.iterAt w.heap.size s (pos + 1) = wn at *
      have hlow := Lib.hid hlt
      clear hown hb hk0
      by_cases hbl : blankN (s.data.toList.getD pos 0).toNat = true
      · have HBL : Hid (blankB (s.data.toList.getD pos 0) = true) := hbl
        have H65 := Lib.hid (f65_true _ hbl wn)
        clear hbl hlt
        generalize ((s.data.toList.getD pos 0).toNat : Int) = x at *
        rcases hst with ⟨rfl, hw⟩ | ⟨k, hkp, hak, rfl, hw⟩
        · have HW := Lib.hid hw
          clear hw
          go_wp2_with fail
          go_at_call 65
          refine H65.out.mono ?_
          rintro e w' ⟨rfl, rfl⟩
          go_wp2
          go_roundw
          case rel => exact ⟨pos + 1, a, by omega, by omega, ham, HI.out, HO.out, HB.out, .inl ⟨rfl, by rw [HW.out, Scan.blank hpl HBL.out]⟩⟩
          case measure => rw [iterPos_of HI.out, iterPos_of HK0.out]; omega
        · have HW := Lib.hid hw
          have hk0 : (0 : Int) ≤ (k : Int) := by omega
          have hk1 : ((k : Int) == -1) = false := int_ne _ _ (by omega)
          clear hw
          by_cases hfull : a.length = m0
          · have hf : ((a.length : Int) == (m0 : Int)) = true := by rw [beq_iff_eq]; omega
            have HF := Lib.hid hfull
            clear hfull
            go_wp2_with fail
            go_at_call 65
            refine H65.out.mono ?_
            rintro e w' ⟨rfl, rfl⟩
            go_wp2_with (at_builtin; refine wpList_append_own _ rfl (.tmp 35) (.tmp 39) 23 rfl (w.heap.size + 1) 9 i0 (.string ByteArray.empty) 1 16 Tryz.underlying23 hi hz0 hz1 hz2 rfl (by decide) _ a.length _ rfl (HO.out.alloc _) ⟨wn.heap.size, 0, none⟩ 1 1 [.string (s.extract k s.size)] rfl rfl (one_new _ _ _) (one_cell _) K3.out K4.out (K5.out _).out ?_)
            intro v' w1 hown' hgrow _
            have R := rel_app2 HO.out HB.out HI.out hown' hgrow
            have HR := Lib.hid R
            clear hown' hgrow R
            go_wp2
            go_ret
            refine ⟨_, rfl, ?_, HR.out.2.1⟩
            rw [HW.out, show m0 - a.length = 0 by have := HF.out; omega, Scan.rest (by omega), strs_snoc, ← ext_end s k]
            simpa using Joins.ownsRow_le HR.out.1 (Nat.le_succ _)
          · have hf : ((a.length : Int) == (m0 : Int)) = false := int_ne _ _ (by omega)
            have HF := Lib.hid hfull
            clear hfull
            go_wp2_with fail
            go_at_call 65
            refine H65.out.mono ?_
            rintro e w' ⟨rfl, rfl⟩
            go_wp2_with (at_builtin; refine wpList_append_own _ rfl (.tmp 23) (.tmp 28) 23 rfl (w.heap.size + 1) 9 i0 (.string ByteArray.empty) 1 16 Tryz.underlying23 hi hz0 hz1 hz2 rfl (by decide) _ a.length _ rfl (HO.out.alloc _) ⟨wn.heap.size, 0, none⟩ 1 1 [.string (s.extract k pos)] rfl rfl (one_new _ _ _) (one_cell _) K3.out K4.out (K5.out _).out ?_)
            intro v' w1 hown' hgrow _
            have R := rel_app2 HO.out HB.out HI.out hown' hgrow
            have HR := Lib.hid R
            clear hown' hgrow R
            go_wp2
            go_roundw
            case rel =>
              have hF := HF.out
              refine ⟨pos + 1, a ++ [(s.data.toList.drop k).take (pos - k)], by omega, by simp; omega, by simp; omega, HR.out.2.2, ?_, HR.out.2.1, .inl ⟨rfl, ?_⟩⟩
              · rw [strs_snoc, List.length_append]
                have := HR.out.1
                rw [ext_txt] at this
                exact this
              · obtain ⟨m, hm⟩ : ∃ m, m0 - a.length = m + 1 := ⟨m0 - a.length - 1, by omega⟩
                rw [HW.out, hm, Scan.cut hpl HBL.out, List.length_append, ← Nat.sub_sub, hm, List.append_assoc]
                rfl
            case measure => rw [iterPos_of HR.out.2.2, iterPos_of HK0.out]; omega
      · have hbl : blankN (s.data.toList.getD pos 0).toNat = false := by simpa using hbl
        have HBL : Hid (blankB (s.data.toList.getD pos 0) = false) := hbl
        have H65 := Lib.hid (f65_false _ hlt hbl wn)
        clear hbl hlt
        generalize ((s.data.toList.getD pos 0).toNat : Int) = x at *
        rcases hst with ⟨rfl, hw⟩ | ⟨k, hkp, hak, rfl, hw⟩
        · have HW := Lib.hid hw
          clear hw
          go_wp2_with fail
          go_at_call 65
          refine H65.out.mono ?_
          rintro e w' ⟨rfl, rfl⟩
          go_wp2
          go_roundw
          case rel => exact ⟨pos + 1, a, by omega, by omega, ham, HI.out, HO.out, HB.out, .inr ⟨pos, by omega, hap, rfl, by rw [HW.out, Scan.word hpl HBL.out]⟩⟩
          case measure => rw [iterPos_of HI.out, iterPos_of HK0.out]; omega
        · have HW := Lib.hid hw
          have hk0 : (0 : Int) ≤ (k : Int) := by omega
          have hk1 : ((k : Int) == -1) = false := int_ne _ _ (by omega)
          clear hw
          go_wp2_with fail
          go_at_call 65
          refine H65.out.mono ?_
          rintro e w' ⟨rfl, rfl⟩
          go_wp2
          go_roundw
          case rel => exact ⟨pos + 1, a, by omega, by omega, ham, HI.out, HO.out, HB.out, .inr ⟨k, by omega, hak, rfl, by rw [HW.out, Scan.more hkp hpl HBL.out]⟩⟩
          case measure => rw [iterPos_of HI.out, iterPos_of HK0.out]; omega
    · have hnx : ∀ ty, (Instr.next (.pointer (some ⟨w.heap.size, 0, none⟩)) true ty).run Tryz.prog wr = _ := fun ty => Lib.run_next_end_at wr w.heap.size s pos ty hk0 hps
      have HPS : Hid (s.data.toList.length ≤ pos) := by show _ ≤ _; rw [← size_list0]; omega
      have HO := Lib.hid hown
      have HB := Lib.hid hb
      have HI := Lib.hid hk0
      have K5 : ∀ u, Hid (w.heap.size + 1 ≤ (wr.alloc (.cells #[.string u] 9)).heap.size) := fun u => by
        show _ ≤ _
        have := (Array.getElem?_eq_some_iff.1 HI.out).1
        simp; omega
      have K5 := Lib.hid K5
      clear hown hb hk0
      rcases hst with ⟨rfl, hw⟩ | ⟨k, hkp, hak, rfl, hw⟩
      · have HW := Lib.hid hw
        clear hw
        go_wp2
        go_ret
        refine ⟨_, rfl, ?_, HB.out⟩
        rw [HW.out, List.drop_of_length_le HPS.out, wd_nil, List.append_nil]
        exact Joins.ownsRow_le HO.out (Nat.le_succ _)
      · have HW := Lib.hid hw
        have hk0 : (0 : Int) ≤ (k : Int) := by omega
        clear hw
        go_wp2_with (at_builtin; refine wpList_append_own _ rfl (.tmp 35) (.tmp 39) 23 rfl (w.heap.size + 1) 9 i0 (.string ByteArray.empty) 1 16 Tryz.underlying23 hi hz0 hz1 hz2 rfl (by decide) _ a.length _ rfl (HO.out.alloc _) ⟨wr.heap.size, 0, none⟩ 1 1 [.string (s.extract k s.size)] rfl rfl (one_new _ _ _) (one_cell _) K3.out K4.out (K5.out _).out ?_)
        intro v' w1 hown' hgrow _
        have R := rel_app2 HO.out HB.out HI.out hown' hgrow
        have HR := Lib.hid R
        clear hown' hgrow R
        go_wp2
        go_ret
        refine ⟨_, rfl, ?_, HR.out.2.1⟩
        rw [HW.out, Scan.last (by omega) HPS.out, strs_snoc, ← ext_end s k]
        simpa using Joins.ownsRow_le HR.out.1 (Nat.le_succ _)
end Go.Proofs.YtgcofpmhojplhaaGreatDoor
