/- The walk of the package's zzSplitN. -/
import Derived.Test.YtgcofpmhojplhaaGreatDoorT2
namespace Go.Proofs.YtgcofpmhojplhaaGreatDoor
open Go.RowKit

theorem full_iff (t : ByteArray) (h : 0 < t.size) : t.toList.isEmpty = false := by
  rw [ByteArray.toList_eq]
  cases hl : t.data.toList with
  | nil => rw [size_list0, hl] at h; simp at h
  | cons b r => rfl
set_option maxRecDepth 100000 in
set_option maxHeartbeats 1000000 in
theorem f76_any (s p : ByteArray) (hs : s.size ≤ 100000) (hp : p.size ≤ 100000) (hp0 : 0 < p.size) (m0 : Nat) (hm0 : m0 ≤ 1000000) (w : World) : Calls Tryz.prog 76 #[.string s, .string p, .int .i64 ((m0 : Int) + 1)] w (TextsMade (pc p.data.toList m0 s.data.toList) w) := by
  obtain ⟨i0, hi, hz0, hz1, hz2⟩ := info_parts infoStr
  have hpe := full_iff p hp0
  have hn0 : ((m0 : Int) + 1 == 0) = false := by rw [beq_eq_false_iff_ne]; omega
  go_enter Tryz.func76, Tryz.ntmps76
  go_wp2
  clear hn0 hpe
  go_loopw [0, 2, 7] (fun v c o wr => ∃ (t : ByteArray) (a : List (List UInt8)) (m : Nat), v = .string t ∧ c = .int .i64 ((m : Int) + 1) ∧ m ≤ m0 ∧ t.size ≤ s.size ∧ a.length ≤ m0 - m ∧ Hid (wr.ownsRow w.heap.size 9 1 o a.length (strs a)) ∧ Hid (Below w.heap.size w wr) ∧ Hid (pc p.data.toList m0 s.data.toList = a ++ pc p.data.toList m t.data.toList)) (fun _ c _ _ => (RowKit.intOf c).toNat)
  case atStart => exact ⟨s, [], m0, rfl, rfl, Nat.le_refl _, Nat.le_refl _, by simp, World.ownsRow_nil _ _ _ _, Below.refl _ _, by show _ = _; simp⟩
  case round =>
    obtain ⟨t, a, m, rfl, rfl, hmm, hts, hal, HO, HB, HE⟩ := hrel
    have K3 : Hid (a.length + 1 ≤ maxLen) := by show _ ≤ _; unfold maxLen; omega
    have K4 : Hid ((a.length + 1) * 16 ≤ 140737488355328) := by show _ ≤ _; omega
    have K5 : ∀ u, Hid (w.heap.size ≤ (wr.alloc (.cells #[.string u] 9)).heap.size) := fun u => by show _ ≤ _; have := HB.out.size; simp; omega
    have K5 := Lib.hid K5
    by_cases hm1 : m = 0
    · subst hm1
      have hc : ((((0 : Nat) : Int) + 1) == 1) = true := rfl
      go_wp2_with (at_builtin; refine wpList_append_own _ rfl (.tmp 65) (.tmp 67) 23 rfl w.heap.size 9 i0 (.string ByteArray.empty) 1 16 Tryz.underlying23 hi hz0 hz1 hz2 rfl (by decide) _ a.length _ rfl (HO.out.alloc _) ⟨wr.heap.size, 0, none⟩ 1 1 [.string t] rfl rfl (one_new _ _ _) (one_cell _) K3.out K4.out (K5.out _).out ?_)
      intro v' w1 hown' hgrow _
      have R := rel_app1 HO.out HB.out HB.out.size hown' hgrow
      have HR := Lib.hid R
      clear hown' hgrow R
      go_wp2
      go_ret
      refine ⟨_, rfl, ?_, HR.out.2⟩
      rw [HE.out, show pc p.data.toList 0 t.data.toList = [t.data.toList] from rfl, strs_snoc, txt_of]
      simpa using HR.out.1
    · have hc : (((m : Int) + 1) == 1) = false := by rw [beq_eq_false_iff_ne]; omega
      have HM := Lib.hid hm1
      clear hm1
      cases hk : idx p.data.toList t.data.toList with
      | none =>
        have HK := Lib.hid hk
        have H93 := Lib.hid (f93_any t p (by omega) hp wr)
        rw [hk] at H93
        clear hk
        go_wp2_with fail
        go_at_call 93
        refine H93.out.mono ?_
        rintro e w' ⟨rfl, rfl⟩
        simp only [idxZ]
        go_wp2_with (at_builtin; refine wpList_append_own _ rfl (.tmp 65) (.tmp 67) 23 rfl w.heap.size 9 i0 (.string ByteArray.empty) 1 16 Tryz.underlying23 hi hz0 hz1 hz2 rfl (by decide) _ a.length _ rfl (HO.out.alloc _) ⟨wr.heap.size, 0, none⟩ 1 1 [.string t] rfl rfl (one_new _ _ _) (one_cell _) K3.out K4.out (K5.out _).out ?_)
        intro v' w1 hown' hgrow _
        have R := rel_app1 HO.out HB.out HB.out.size hown' hgrow
        have HR := Lib.hid R
        clear hown' hgrow R
        go_wp2
        go_ret
        refine ⟨_, rfl, ?_, HR.out.2⟩
        rw [HE.out, pc_none' _ _ _ HK.out, strs_snoc, txt_of]
        simpa using HR.out.1
      | some k =>
        have hle := (idx_le _ _ _ hk).1
        rw [← size_list0, ← size_list0] at hle
        have HK := Lib.hid hk
        have H93 := Lib.hid (f93_any t p (by omega) hp wr)
        rw [hk] at H93
        clear hk
        go_wp2_with fail
        go_at_call 93
        refine H93.out.mono ?_
        rintro e w' ⟨rfl, rfl⟩
        simp only [idxZ]
        go_wp2_with (at_builtin; refine wpList_append_own _ rfl (.tmp 53) (.tmp 57) 23 rfl w.heap.size 9 i0 (.string ByteArray.empty) 1 16 Tryz.underlying23 hi hz0 hz1 hz2 rfl (by decide) _ a.length _ rfl (HO.out.alloc _) ⟨wr.heap.size, 0, none⟩ 1 1 [.string (t.extract 0 k)] rfl rfl (one_new _ _ _) (one_cell _) K3.out K4.out (K5.out _).out ?_)
        intro v' w1 hown' hgrow _
        have R := rel_app1 HO.out HB.out HB.out.size hown' hgrow
        have HR := Lib.hid R
        clear hown' hgrow R
        go_wp2
        go_roundw
        case rel =>
          have hm := HM.out
          refine ⟨_, a ++ [t.data.toList.take k], m - 1, rfl, ?_, by omega, by rw [ByteArray.size_extract]; omega, by simp; omega, ?_, HR.out.2, ?_⟩
          · rw [show (m : Int) = ((m - 1 : Nat) : Int) + 1 by omega]
          · show World.ownsRow _ _ _ _ _ _ _
            rw [strs_snoc, List.length_append]
            have := HR.out.1
            rw [ext_txt, List.drop_zero, Nat.sub_zero] at this
            exact this
          · show _ = _
            rw [HE.out, ext_list, List.append_assoc]
            congr 1
            obtain ⟨m', hm'⟩ : ∃ m', m = m' + 1 := ⟨m - 1, by omega⟩
            have e1 : (t.data.toList.drop (k + p.size)).take (t.size - (k + p.size)) = t.data.toList.drop (k + p.size) := List.take_of_length_le (by rw [List.length_drop, ← size_list0]; omega)
            rw [e1, hm', pc_some _ _ _ _ HK.out, List.singleton_append, ← size_list0]
            rfl
        case measure =>
          have hm := HM.out
          simp [RowKit.intOf]
end Go.Proofs.YtgcofpmhojplhaaGreatDoor
