/- Joined texts: V5 V6 V7 V8. -/
import Derived.Test.YtgcofpmhojplhaaGreatDoorV4
import Derived.Test.YtgcofpmhojplhaaGreatDoorMP
/- Walks of the reference's pieces. (Printed by mkv5.py.) -/
namespace Go.Proofs.YtgcofpmhojplhaaGreatDoor
open Go.RowKit

theorem infoI64 : (Tryz.prog.info? 3).map (fun i => (i.zero, i.size, i.bytes)) = some (some (.int .i64 0), 1, 8) := by kernel_rfl
def ints (l : List Nat) : List Value := l.map fun (x : Nat) => .int .i64 x
theorem ints_len (l : List Nat) : (ints l).length = l.length := by simp [ints]
theorem ints_snoc (a : List Nat) (x : Nat) : ints (a ++ [x]) = ints a ++ [.int .i64 x] := by simp [ints]
theorem ints_at (l : List Nat) (j : Nat) (hj : j < l.length) : (ints l)[j]? = some (.int .i64 (l.getD j 0 : Nat)) := by simp [ints, hj]
theorem one_int (z : Int) : ∀ u ∈ [Value.int .i64 z], u.oneCell' = true := by intro u hu; simp at hu; subst hu; rfl
theorem ints_one (l : List Nat) : ∀ u ∈ ints l, u.oneCell' = true := by
  intro u hu
  obtain ⟨x, _, rfl⟩ := List.mem_map.1 hu
  rfl
theorem own_lit (w : World) (u : Value) (e : TypeId) : (w.alloc (.cells #[u] e)).ownsRow w.heap.size e 1 (.slice (some ⟨w.heap.size, 0, none⟩) 1 1) 1 [u] :=
  ⟨rfl, .inr ⟨_, 1, #[u], rfl, Nat.le_refl _, heap_alloc_new w _, Nat.le_refl _, by unfold maxLen; omega, rfl, rfl⟩⟩
set_option maxRecDepth 100000 in
set_option maxHeartbeats 4000000 in
theorem f52_fore (s p : ByteArray) (hs : s.size ≤ 100000) (hp : p.size ≤ 100000) (hp0 : 0 < p.size) (z : Int) (R : List (List UInt8)) (hR : R = pc p.data.toList (lim z s.size) s.data.toList) (w : World) : Calls Tryz.prog 52 #[.string s, .string p, .bool false, .int .i64 z] w (TextsMade R w) := by
  obtain ⟨i0, hi, hz0, hz1, hz2⟩ := info_parts infoStr
  obtain ⟨i1, ki, kz0, kz1, kz2⟩ := info_parts infoI64
  have HP : Hid (cutAt s.data.toList p.size 0 (pos p.data.toList (lim z s.size) s.data.toList 0) = R ∧ Ch p.size s.size 0 (pos p.data.toList (lim z s.size) s.data.toList 0)) := by
    have h1 := fore_all p.data.toList s.data.toList (lim z s.size)
    have h2 := ch_all p.data.toList s.data.toList (lim z s.size)
    rw [← size_list0] at h1 h2
    rw [← size_list0] at h2
    exact ⟨by rw [hR]; exact h1, h2⟩
  have HT := Lib.hid (hit_at s p)
  clear hR
  go_enter Tryz.func52, Tryz.ntmps52
  go_wp2
  go_loopw [9, 11] (fun v i wr => ∃ (k m : Nat) (cs : List Nat), i = .int .i64 k ∧ k ≤ s.size ∧ cs.length ≤ k ∧ Hid (wr.ownsRow w.heap.size 3 1 v cs.length (ints cs)) ∧ Hid (Below w.heap.size w wr) ∧ Hid (cs.length + m = lim z s.size) ∧ Hid (pos p.data.toList (lim z s.size) s.data.toList 0 = cs ++ pos p.data.toList m (s.data.toList.drop k) k)) (fun _ i _ => s.size - (RowKit.intOf i).toNat)
  case atStart => exact ⟨0, lim z s.size, [], rfl, Nat.zero_le _, Nat.zero_le _, World.ownsRow_nil _ _ _ _, Below.refl _ _, by show _ = _; simp, by show _ = _; simp⟩
  case round =>
    obtain ⟨k, m, cs, rfl, hk, hck, HO, HB, HM, HE⟩ := hrel
    obtain ⟨A9, c9, rfl⟩ := own_len HO.out
    by_cases hkp : k + p.size ≤ s.size
    · have hkp' : (k : Int) + (p.size : Int) ≤ (s.size : Int) := by omega
      cases m with
      | zero =>
        have hz := lim_zero HM.out hck (show k < s.size by omega)
        have t0 : ((cs.length : Int) == z) = true := by rw [hz]; exact beq_self_eq_true z
        have t1 : ((cs.length : Int) != z) = false := by rw [hz]; simp
        have HC : Hid (cutAt s.data.toList p.size 0 cs = R) := by
          have := HP.out.1
          rw [HE.out] at this
          show _ = _
          simpa [pos] using this
        have HCh : Hid (Ch p.size s.size 0 cs) := by
          have := HP.out.2
          rw [HE.out] at this
          show Ch _ _ _ _
          simpa [pos] using this
        have HCL : Hid (cs.length ≤ 100000) := by show _ ≤ _; omega
        clear hz HE HM HP
        have HSZ := Lib.hid HB.out.size
        generalize wr = w2 at *
        go_wp2
        go_loopw [12, 13, 14] (fun o f i wr => ∃ (j fr : Nat) (a : List (List UInt8)), i = .int .i64 j ∧ f = .int .i64 fr ∧ j ≤ cs.length ∧ fr ≤ s.size ∧ a.length = j ∧ Hid (wr.ownsRow w2.heap.size 9 1 o a.length (strs a)) ∧ Hid (Below w2.heap.size w2 wr) ∧ Hid (R = a ++ cutAt s.data.toList p.size fr (cs.drop j)) ∧ Hid (Ch p.size s.size fr (cs.drop j))) (fun _ _ i _ => cs.length - (RowKit.intOf i).toNat)
        case atStart => exact ⟨0, 0, [], rfl, rfl, Nat.zero_le _, Nat.zero_le _, rfl, World.ownsRow_nil _ _ _ _, Below.refl _ _, by show _ = _; rw [List.drop_zero]; exact HC.out.symm, by show Ch _ _ _ _; rw [List.drop_zero]; exact HCh.out⟩
        case round =>
          obtain ⟨j, fr, a, rfl, rfl, hj, hfr, haj, HO3, HB3, HR3, HCh3⟩ := hrel
          have K3 : Hid (a.length + 1 ≤ maxLen) := by show _ ≤ _; unfold maxLen; have := HCL.out; omega
          have K4 : Hid ((a.length + 1) * 16 ≤ 140737488355328) := by show _ ≤ _; have := HCL.out; omega
          have K5 : ∀ u, Hid (w2.heap.size ≤ (wr.alloc (.cells #[.string u] 9)).heap.size) := fun u => by
            show _ ≤ _
            have := HB3.out.size
            simp; omega
          have K5 := Lib.hid K5
          by_cases hlt : j < cs.length
          · obtain ⟨g9, rfl⟩ := own_form HO.out (by omega)
            have hlti : (j : Int) < (cs.length : Int) := by omega
            have hx := HO.out.cellAt j (by omega)
            rw [ints_at cs j hlt] at hx
            have hg := (own_cap HO.out).2.2
            obtain ⟨s1, s2, s3⟩ := HCh3.out.step hlt
            have HN3 : Hid (Ch p.size s.size (cs.getD j 0 + p.size) (cs.drop (j + 1))) := s3
            have HQ : Hid (R = (a ++ [(s.data.toList.drop fr).take (cs.getD j 0 - fr)]) ++ cutAt s.data.toList p.size (cs.getD j 0 + p.size) (cs.drop (j + 1))) := by
              show _ = _
              rw [HR3.out, cutAt_step _ _ _ _ _ hlt, List.append_assoc]
              rfl
            have hx3 := (HB3.out.cell (p := ⟨g9, j, none⟩) hg).trans hx
            obtain ⟨c, hc⟩ : ∃ c, c = cs.getD j 0 := ⟨_, rfl⟩
            rw [← hc] at hx3 s1 s2 HN3 HQ
            have HG := Lib.hid hg
            clear hc hx s3 hg
            have q1 : (fr : Int) ≤ (c : Int) := by omega
            have q2 : c ≤ s.size := by omega
            have q3 : c + p.size ≤ s.size := s2
            go_wp2_with (at_builtin; refine wpList_append_own _ rfl (.tmp 88) (.tmp 96) 23 rfl w2.heap.size 9 i0 (.string ByteArray.empty) 1 16 Tryz.underlying23 hi hz0 hz1 hz2 rfl (by decide) _ a.length _ rfl (HO3.out.alloc _) ⟨wr.heap.size, 0, none⟩ 1 1 [.string (s.extract fr c)] rfl rfl (one_new _ _ _) (one_cell _) K3.out K4.out (K5.out _).out ?_)
            intro v' w4 hown' hgrow _
            have R4 := rel_app1 HO3.out HB3.out HB3.out.size hown' hgrow
            have hx4 := (R4.2.cell (p := ⟨g9, j, none⟩) HG.out).trans ((HB3.out.cell (p := ⟨g9, j, none⟩) HG.out).symm.trans hx3)
            have HR4 := Lib.hid R4
            clear hown' hgrow R4 hx3
            go_wp2
            go_roundw
            case rel =>
              refine ⟨j + 1, c + p.size, a ++ [(s.data.toList.drop fr).take (c - fr)], by go_num, by go_num, by omega, by omega, by simp; omega, ?_, HR4.out.2, HQ.out, HN3.out⟩
              show World.ownsRow _ _ _ _ _ _ _
              rw [strs_snoc, List.length_append, haj]
              have := HR4.out.1
              rw [ext_txt] at this
              exact this
            case measure => simp [RowKit.intOf]; omega
          · have hlti : ¬ (j : Int) < (cs.length : Int) := by omega
            have HQ : Hid (R = a ++ [s.data.toList.drop fr]) := by show _ = _; rw [HR3.out, cutAt_done _ _ _ _ _ (by omega)]
            go_wp2_with (at_builtin; refine wpList_append_own _ rfl (.tmp 105) (.tmp 109) 23 rfl w2.heap.size 9 i0 (.string ByteArray.empty) 1 16 Tryz.underlying23 hi hz0 hz1 hz2 rfl (by decide) _ a.length _ rfl (HO3.out.alloc _) ⟨wr.heap.size, 0, none⟩ 1 1 [.string (s.extract fr s.size)] rfl rfl (one_new _ _ _) (one_cell _) K3.out K4.out (K5.out _).out ?_)
            intro v' w4 hown' hgrow _
            have R4 := rel_app1 HO3.out HB3.out HB3.out.size hown' hgrow
            have HR4 := Lib.hid R4
            clear hown' hgrow R4
            go_wp2
            go_ret
            refine ⟨_, rfl, ?_, HB.out.trans (HR4.out.2.mono HSZ.out)⟩
            rw [HQ.out, strs_snoc, List.length_append, haj]
            have := Joins.ownsRow_le HR4.out.1 HSZ.out
            rw [ext_end] at this
            exact this
      | succ m =>
        have hz := lim_pos HM.out
        have t0 : ((cs.length : Int) == z) = false := by simpa using hz
        have t1 : ((cs.length : Int) != z) = true := by simpa using hz
        have hlt : k < s.size := by omega
        clear hz
        by_cases hh : hit p.data.toList (s.data.toList.drop k) = true
        · have ht : ((s.extract k (k + p.size)).toList == p.toList) = true := by rw [HT.out]; exact hh
          have HE2 : Hid (pos p.data.toList (lim z s.size) s.data.toList 0 = (cs ++ [k]) ++ pos p.data.toList m (s.data.toList.drop (k + p.size)) (k + p.size)) := by
            show _ = _
            rw [HE.out, pos_take _ _ _ _ hh, ← size_list0, List.append_assoc]
            rfl
          have K3 : Hid (cs.length + 1 ≤ maxLen) := by show _ ≤ _; unfold maxLen; omega
          have K4 : Hid ((cs.length + 1) * 8 ≤ 140737488355328) := by show _ ≤ _; omega
          have K5 : Hid (w.heap.size ≤ (wr.alloc (.cells #[.int .i64 (k : Int)] 3)).heap.size) := by show _ ≤ _; have := HB.out.size; simp; omega
          have HM2 : Hid ((cs ++ [k]).length + m = lim z s.size) := by have := HM.out; show _ = _; rw [← this, List.length_append]; simp; omega
          clear hh HE HM
          go_wp2_with (at_builtin; refine wpList_append_own _ rfl (.tmp 73) (.tmp 75) 128 rfl w.heap.size 3 i1 (.int .i64 0) 1 8 Tryz.underlying128 ki kz0 kz1 kz2 rfl (by decide) _ cs.length _ rfl (HO.out.alloc _) ⟨wr.heap.size, 0, none⟩ 1 1 [.int .i64 k] rfl rfl (one_new _ _ _) (one_int _) K3.out K4.out K5.out ?_)
          intro v' w1 hown' hgrow _
          have R1 := rel_app1 HO.out HB.out HB.out.size hown' hgrow
          have HR1 := Lib.hid R1
          clear hown' hgrow R1
          go_wp2
          go_roundw
          case rel =>
            refine ⟨k + p.size, m, cs ++ [k], by go_num, by omega, by simp; omega, ?_, HR1.out.2, HM2.out, HE2.out⟩
            show World.ownsRow _ _ _ _ _ _ _
            rw [ints_snoc, List.length_append]
            exact HR1.out.1
          case measure => simp [RowKit.intOf]; omega
        · have hh : hit p.data.toList (s.data.toList.drop k) = false := by simpa using hh
          have ht : ((s.extract k (k + p.size)).toList == p.toList) = false := by rw [HT.out]; exact hh
          have HE2 : Hid (pos p.data.toList (lim z s.size) s.data.toList 0 = cs ++ pos p.data.toList (m + 1) (s.data.toList.drop (k + 1)) (k + 1)) := by
            show _ = _
            rw [HE.out, pos_skip _ _ _ _ (by rw [← size_list0]; exact hlt) hh]
          clear hh
          go_wp2
          go_roundw
          case rel => exact ⟨k + 1, m + 1, cs, by go_num, by omega, by omega, HO.out, HB.out, HM.out, HE2.out⟩
          case measure => simp [RowKit.intOf]; omega
    · have hkp' : ¬ (k : Int) + (p.size : Int) ≤ (s.size : Int) := by omega
      have HC : Hid (cutAt s.data.toList p.size 0 cs = R) := by
        have := HP.out.1
        rw [HE.out, pos_end _ _ _ _ (by rw [← size_list0, ← size_list0]; omega) (by rw [← size_list0]; omega), List.append_nil] at this
        exact this
      have HCh : Hid (Ch p.size s.size 0 cs) := by
        have := HP.out.2
        rw [HE.out, pos_end _ _ _ _ (by rw [← size_list0, ← size_list0]; omega) (by rw [← size_list0]; omega), List.append_nil] at this
        exact this
      have HCL : Hid (cs.length ≤ 100000) := by show _ ≤ _; omega
      clear HE HM HP
      have HSZ := Lib.hid HB.out.size
      generalize wr = w2 at *
      go_wp2
      go_loopw [12, 13, 14] (fun o f i wr => ∃ (j fr : Nat) (a : List (List UInt8)), i = .int .i64 j ∧ f = .int .i64 fr ∧ j ≤ cs.length ∧ fr ≤ s.size ∧ a.length = j ∧ Hid (wr.ownsRow w2.heap.size 9 1 o a.length (strs a)) ∧ Hid (Below w2.heap.size w2 wr) ∧ Hid (R = a ++ cutAt s.data.toList p.size fr (cs.drop j)) ∧ Hid (Ch p.size s.size fr (cs.drop j))) (fun _ _ i _ => cs.length - (RowKit.intOf i).toNat)
      case atStart => exact ⟨0, 0, [], rfl, rfl, Nat.zero_le _, Nat.zero_le _, rfl, World.ownsRow_nil _ _ _ _, Below.refl _ _, by show _ = _; rw [List.drop_zero]; exact HC.out.symm, by show Ch _ _ _ _; rw [List.drop_zero]; exact HCh.out⟩
      case round =>
        obtain ⟨j, fr, a, rfl, rfl, hj, hfr, haj, HO3, HB3, HR3, HCh3⟩ := hrel
        have K3 : Hid (a.length + 1 ≤ maxLen) := by show _ ≤ _; unfold maxLen; have := HCL.out; omega
        have K4 : Hid ((a.length + 1) * 16 ≤ 140737488355328) := by show _ ≤ _; have := HCL.out; omega
        have K5 : ∀ u, Hid (w2.heap.size ≤ (wr.alloc (.cells #[.string u] 9)).heap.size) := fun u => by
          show _ ≤ _
          have := HB3.out.size
          simp; omega
        have K5 := Lib.hid K5
        by_cases hlt : j < cs.length
        · obtain ⟨g9, rfl⟩ := own_form HO.out (by omega)
          have hlti : (j : Int) < (cs.length : Int) := by omega
          have hx := HO.out.cellAt j (by omega)
          rw [ints_at cs j hlt] at hx
          have hg := (own_cap HO.out).2.2
          obtain ⟨s1, s2, s3⟩ := HCh3.out.step hlt
          have HN3 : Hid (Ch p.size s.size (cs.getD j 0 + p.size) (cs.drop (j + 1))) := s3
          have HQ : Hid (R = (a ++ [(s.data.toList.drop fr).take (cs.getD j 0 - fr)]) ++ cutAt s.data.toList p.size (cs.getD j 0 + p.size) (cs.drop (j + 1))) := by
            show _ = _
            rw [HR3.out, cutAt_step _ _ _ _ _ hlt, List.append_assoc]
            rfl
          have hx3 := (HB3.out.cell (p := ⟨g9, j, none⟩) hg).trans hx
          obtain ⟨c, hc⟩ : ∃ c, c = cs.getD j 0 := ⟨_, rfl⟩
          rw [← hc] at hx3 s1 s2 HN3 HQ
          have HG := Lib.hid hg
          clear hc hx s3 hg
          have q1 : (fr : Int) ≤ (c : Int) := by omega
          have q2 : c ≤ s.size := by omega
          have q3 : c + p.size ≤ s.size := s2
          go_wp2_with (at_builtin; refine wpList_append_own _ rfl (.tmp 88) (.tmp 96) 23 rfl w2.heap.size 9 i0 (.string ByteArray.empty) 1 16 Tryz.underlying23 hi hz0 hz1 hz2 rfl (by decide) _ a.length _ rfl (HO3.out.alloc _) ⟨wr.heap.size, 0, none⟩ 1 1 [.string (s.extract fr c)] rfl rfl (one_new _ _ _) (one_cell _) K3.out K4.out (K5.out _).out ?_)
          intro v' w4 hown' hgrow _
          have R4 := rel_app1 HO3.out HB3.out HB3.out.size hown' hgrow
          have hx4 := (R4.2.cell (p := ⟨g9, j, none⟩) HG.out).trans ((HB3.out.cell (p := ⟨g9, j, none⟩) HG.out).symm.trans hx3)
          have HR4 := Lib.hid R4
          clear hown' hgrow R4 hx3
          go_wp2
          go_roundw
          case rel =>
            refine ⟨j + 1, c + p.size, a ++ [(s.data.toList.drop fr).take (c - fr)], by go_num, by go_num, by omega, by omega, by simp; omega, ?_, HR4.out.2, HQ.out, HN3.out⟩
            show World.ownsRow _ _ _ _ _ _ _
            rw [strs_snoc, List.length_append, haj]
            have := HR4.out.1
            rw [ext_txt] at this
            exact this
          case measure => simp [RowKit.intOf]; omega
        · have hlti : ¬ (j : Int) < (cs.length : Int) := by omega
          have HQ : Hid (R = a ++ [s.data.toList.drop fr]) := by show _ = _; rw [HR3.out, cutAt_done _ _ _ _ _ (by omega)]
          go_wp2_with (at_builtin; refine wpList_append_own _ rfl (.tmp 105) (.tmp 109) 23 rfl w2.heap.size 9 i0 (.string ByteArray.empty) 1 16 Tryz.underlying23 hi hz0 hz1 hz2 rfl (by decide) _ a.length _ rfl (HO3.out.alloc _) ⟨wr.heap.size, 0, none⟩ 1 1 [.string (s.extract fr s.size)] rfl rfl (one_new _ _ _) (one_cell _) K3.out K4.out (K5.out _).out ?_)
          intro v' w4 hown' hgrow _
          have R4 := rel_app1 HO3.out HB3.out HB3.out.size hown' hgrow
          have HR4 := Lib.hid R4
          clear hown' hgrow R4
          go_wp2
          go_ret
          refine ⟨_, rfl, ?_, HB.out.trans (HR4.out.2.mono HSZ.out)⟩
          rw [HQ.out, strs_snoc, List.length_append, haj]
          have := Joins.ownsRow_le HR4.out.1 HSZ.out
          rw [ext_end] at this
          exact this
end Go.Proofs.YtgcofpmhojplhaaGreatDoor

/- Walks of the reference's pieces, from the end on. (Printed by mkv6.py.) -/
namespace Go.Proofs.YtgcofpmhojplhaaGreatDoor
open Go.RowKit

theorem bk_ch {P cs : List Nat} {i : Int} {L n : Nat} (h : Bk P i cs) (hc : Ch L n 0 P) : Ch L n 0 cs := by
  obtain ⟨A, rfl, _, _⟩ := h
  have := hc.drop A.length
  rwa [List.drop_left] at this
theorem bk_len {P cs : List Nat} {i : Int} (h : Bk P i cs) : cs.length ≤ P.length := by
  obtain ⟨A, rfl, _, _⟩ := h
  simp
/-- The places of a text's cuts, all. -/
def allP (p S : List UInt8) : List Nat := pos p S.length (S.drop 0) 0
theorem rs_cut (p S : List UInt8) (e m : Nat) (he : e ≤ (allP p S).length) (h : (allP p S).length - e = m ∨ (e = 0 ∧ (allP p S).length ≤ m)) : cutAt S p.length 0 ((allP p S).drop e) = rs p m S := by
  have h0 : cutAt S p.length 0 (allP p S) = pc p S.length S := by have := cut_pos p S S.length 0; simpa [allP] using this
  have hl : (pc p S.length S).length = (allP p S).length + 1 := by rw [← h0, cutAt_len]
  have hA : ∀ e, e ≤ (allP p S).length → (allP p S).length - e = m → cutAt S p.length 0 ((allP p S).drop e) = rs p m S := by
    intro e he hm
    have hcj := cut_join p S e (allP p S) 0 he (pos_pair p S S.length 0) (fun x hx => ⟨Nat.zero_le _, (pos_hits p S S.length 0 x hx).2⟩)
    rw [h0] at hcj
    unfold rs
    rw [if_neg (by omega), hcj, show (pc p S.length S).length - m = e + 1 by omega]
    rfl
  rcases h with h | ⟨rfl, h⟩
  · exact hA e he h
  · by_cases h1 : (allP p S).length + 1 ≤ m
    · unfold rs
      rw [if_pos (by omega), List.drop_zero, h0]
    · exact hA 0 (Nat.zero_le _) (by omega)
/-- From the end on, so many cuts at most, or all. -/
def rsZ (p : List UInt8) (z : Int) (S : List UInt8) : List (List UInt8) := if z < 0 then pc p S.length S else rs p z.toNat S
theorem bk_full {p S : List UInt8} {i : Int} {cs : List Nat} {z : Int} (h : Bk (allP p S) i cs) (hz : (cs.length : Int) = z) : cutAt S p.length 0 cs = rsZ p z S := by
  have hl := bk_len h
  have hf := h.full
  unfold rsZ
  rw [if_neg (by omega)]
  rw [hf]
  exact rs_cut p S _ z.toNat (Nat.sub_le _ _) (.inl (by omega))
theorem bk_neg {p S : List UInt8} {i : Int} {cs : List Nat} {z : Int} (h : Bk (allP p S) i cs) (hi : i < 0) (hz : z < 0 ∨ cs.length ≤ z.toNat) : cutAt S p.length 0 cs = rsZ p z S := by
  have hf := h.neg hi
  unfold rsZ
  split
  · rw [hf]
    have := cut_pos p S S.length 0
    simpa [allP] using this
  · have h2 := rs_cut p S 0 z.toNat (Nat.zero_le _) (.inr ⟨rfl, by rw [← hf]; omega⟩)
    rw [List.drop_zero] at h2
    rw [hf, h2]
theorem ch_allP (p S : List UInt8) : Ch p.length S.length 0 (allP p S) := by
  have := ch_pos p S S.length 0 (Nat.zero_le _)
  simpa [allP] using this
set_option maxRecDepth 100000 in
set_option maxHeartbeats 4000000 in
theorem f52_back (s p : ByteArray) (hs : s.size ≤ 100000) (hp : p.size ≤ 100000) (hp0 : 0 < p.size) (hno : ¬ Ov p.data.toList) (z : Int) (R : List (List UInt8)) (hR : R = rsZ p.data.toList z s.data.toList) (w : World) : Calls Tryz.prog 52 #[.string s, .string p, .bool true, .int .i64 z] w (TextsMade R w) := by
  obtain ⟨i0, hi, hz0, hz1, hz2⟩ := info_parts infoStr
  obtain ⟨i1, ki, kz0, kz1, kz2⟩ := info_parts infoI64
  have HP : Hid (Ch p.size s.size 0 (allP p.data.toList s.data.toList)) := by
    have h2 := ch_allP p.data.toList s.data.toList
    rw [← size_list0, ← size_list0] at h2
    exact h2
  have HT := Lib.hid (hit_at s p)
  have HNO := Lib.hid hno
  have HRR := Lib.hid hR
  clear hR hno
  go_enter Tryz.func52, Tryz.ntmps52
  go_wp2
  go_loopw [9, 10] (fun v i wr => ∃ (k : Int) (cs : List Nat), i = .int .i64 k ∧ -100000 ≤ k ∧ k + p.size ≤ s.size ∧ Hid (wr.ownsRow w.heap.size 3 1 v cs.length (ints cs)) ∧ Hid (Below w.heap.size w wr) ∧ Hid (z < 0 ∨ cs.length ≤ z.toNat) ∧ Hid (Bk (allP p.data.toList s.data.toList) k cs)) (fun _ i _ => ((RowKit.intOf i) + 1).toNat)
  case atStart => exact ⟨(s.size : Int) - (p.size : Int), [], rfl, by omega, by omega, World.ownsRow_nil _ _ _ _, Below.refl _ _, by show _ ∨ _; right; simp, by show Bk _ _ _; rw [size_list0 s, size_list0 p]; exact Bk.start _ _ _⟩
  case round =>
    obtain ⟨i, cs, rfl, hi0, his, HO, HB, HL, HK⟩ := hrel
    obtain ⟨A9, c9, rfl⟩ := own_len HO.out
    have HCh : Hid (Ch p.size s.size 0 cs) := bk_ch HK.out HP.out
    have HCL : Hid (cs.length ≤ 100000) := by
      show _ ≤ _
      have := HCh.out.len hp0
      omega
    have hcl : cs.length ≤ 100000 := HCL.out
    by_cases hin : i < 0
    · have hin' : ¬ (0 : Int) ≤ i := by omega
      have t0 : decide ((0 : Int) ≤ i) = false := decide_eq_false hin'
      have HC : Hid (cutAt s.data.toList p.size 0 cs = R) := by
        show _ = _
        rw [HRR.out, size_list0 p]
        exact bk_neg HK.out hin HL.out
      clear HK
      have HSZ := Lib.hid HB.out.size
      generalize wr = w2 at *
      go_wp2
      go_loopw [12, 13, 14] (fun o f i wr => ∃ (j fr : Nat) (a : List (List UInt8)), i = .int .i64 j ∧ f = .int .i64 fr ∧ j ≤ cs.length ∧ fr ≤ s.size ∧ a.length = j ∧ Hid (wr.ownsRow w2.heap.size 9 1 o a.length (strs a)) ∧ Hid (Below w2.heap.size w2 wr) ∧ Hid (R = a ++ cutAt s.data.toList p.size fr (cs.drop j)) ∧ Hid (Ch p.size s.size fr (cs.drop j))) (fun _ _ i _ => cs.length - (RowKit.intOf i).toNat)
      case atStart => exact ⟨0, 0, [], rfl, rfl, Nat.zero_le _, Nat.zero_le _, rfl, World.ownsRow_nil _ _ _ _, Below.refl _ _, by show _ = _; rw [List.drop_zero]; exact HC.out.symm, by show Ch _ _ _ _; rw [List.drop_zero]; exact HCh.out⟩
      case round =>
        obtain ⟨j, fr, a, rfl, rfl, hj, hfr, haj, HO3, HB3, HR3, HCh3⟩ := hrel
        have K3 : Hid (a.length + 1 ≤ maxLen) := by show _ ≤ _; unfold maxLen; have := HCL.out; omega
        have K4 : Hid ((a.length + 1) * 16 ≤ 140737488355328) := by show _ ≤ _; have := HCL.out; omega
        have K5 : ∀ u, Hid (w2.heap.size ≤ (wr.alloc (.cells #[.string u] 9)).heap.size) := fun u => by
          show _ ≤ _
          have := HB3.out.size
          simp; omega
        have K5 := Lib.hid K5
        by_cases hlt : j < cs.length
        · obtain ⟨g9, rfl⟩ := own_form HO.out (by omega)
          have hlti : (j : Int) < (cs.length : Int) := by omega
          have hx := HO.out.cellAt j (by omega)
          rw [ints_at cs j hlt] at hx
          have hg := (own_cap HO.out).2.2
          obtain ⟨s1, s2, s3⟩ := HCh3.out.step hlt
          have HN3 : Hid (Ch p.size s.size (cs.getD j 0 + p.size) (cs.drop (j + 1))) := s3
          have HQ : Hid (R = (a ++ [(s.data.toList.drop fr).take (cs.getD j 0 - fr)]) ++ cutAt s.data.toList p.size (cs.getD j 0 + p.size) (cs.drop (j + 1))) := by
            show _ = _
            rw [HR3.out, cutAt_step _ _ _ _ _ hlt, List.append_assoc]
            rfl
          have hx3 := (HB3.out.cell (p := ⟨g9, j, none⟩) hg).trans hx
          obtain ⟨c, hc⟩ : ∃ c, c = cs.getD j 0 := ⟨_, rfl⟩
          rw [← hc] at hx3 s1 s2 HN3 HQ
          have HG := Lib.hid hg
          clear hc hx s3 hg
          have q1 : (fr : Int) ≤ (c : Int) := by omega
          have q2 : c ≤ s.size := by omega
          have q3 : c + p.size ≤ s.size := s2
          go_wp2_with (at_builtin; refine wpList_append_own _ rfl (.tmp 88) (.tmp 96) 23 rfl w2.heap.size 9 i0 (.string ByteArray.empty) 1 16 Tryz.underlying23 hi hz0 hz1 hz2 rfl (by decide) _ a.length _ rfl (HO3.out.alloc _) ⟨wr.heap.size, 0, none⟩ 1 1 [.string (s.extract fr c)] rfl rfl (one_new _ _ _) (one_cell _) K3.out K4.out (K5.out _).out ?_)
          intro v' w4 hown' hgrow _
          have R4 := rel_app1 HO3.out HB3.out HB3.out.size hown' hgrow
          have hx4 := (R4.2.cell (p := ⟨g9, j, none⟩) HG.out).trans ((HB3.out.cell (p := ⟨g9, j, none⟩) HG.out).symm.trans hx3)
          have HR4 := Lib.hid R4
          clear hown' hgrow R4 hx3
          go_wp2
          go_roundw
          case rel =>
            refine ⟨j + 1, c + p.size, a ++ [(s.data.toList.drop fr).take (c - fr)], by go_num, by go_num, by omega, by omega, by simp; omega, ?_, HR4.out.2, HQ.out, HN3.out⟩
            show World.ownsRow _ _ _ _ _ _ _
            rw [strs_snoc, List.length_append, haj]
            have := HR4.out.1
            rw [ext_txt] at this
            exact this
          case measure => simp [RowKit.intOf]; omega
        · have hlti : ¬ (j : Int) < (cs.length : Int) := by omega
          have HQ : Hid (R = a ++ [s.data.toList.drop fr]) := by show _ = _; rw [HR3.out, cutAt_done _ _ _ _ _ (by omega)]
          go_wp2_with (at_builtin; refine wpList_append_own _ rfl (.tmp 105) (.tmp 109) 23 rfl w2.heap.size 9 i0 (.string ByteArray.empty) 1 16 Tryz.underlying23 hi hz0 hz1 hz2 rfl (by decide) _ a.length _ rfl (HO3.out.alloc _) ⟨wr.heap.size, 0, none⟩ 1 1 [.string (s.extract fr s.size)] rfl rfl (one_new _ _ _) (one_cell _) K3.out K4.out (K5.out _).out ?_)
          intro v' w4 hown' hgrow _
          have R4 := rel_app1 HO3.out HB3.out HB3.out.size hown' hgrow
          have HR4 := Lib.hid R4
          clear hown' hgrow R4
          go_wp2
          go_ret
          refine ⟨_, rfl, ?_, HB.out.trans (HR4.out.2.mono HSZ.out)⟩
          rw [HQ.out, strs_snoc, List.length_append, haj]
          have := Joins.ownsRow_le HR4.out.1 HSZ.out
          rw [ext_end] at this
          exact this
    · obtain ⟨k, rfl⟩ : ∃ k : Nat, i = (k : Int) := ⟨i.toNat, by omega⟩
      have hkp : (k : Int) + (p.size : Int) ≤ (s.size : Int) := his
      have hkn : k + p.size ≤ s.size := by omega
      by_cases hz : (cs.length : Int) = z
      · have t0 : ((cs.length : Int) == z) = true := by rw [hz]; exact beq_self_eq_true z
        have t1 : ((cs.length : Int) != z) = false := by rw [hz]; simp
        have HC : Hid (cutAt s.data.toList p.size 0 cs = R) := by
          show _ = _
          rw [HRR.out, size_list0 p]
          exact bk_full HK.out hz
        clear HK hz
        have HSZ := Lib.hid HB.out.size
        generalize wr = w2 at *
        go_wp2
        go_loopw [12, 13, 14] (fun o f i wr => ∃ (j fr : Nat) (a : List (List UInt8)), i = .int .i64 j ∧ f = .int .i64 fr ∧ j ≤ cs.length ∧ fr ≤ s.size ∧ a.length = j ∧ Hid (wr.ownsRow w2.heap.size 9 1 o a.length (strs a)) ∧ Hid (Below w2.heap.size w2 wr) ∧ Hid (R = a ++ cutAt s.data.toList p.size fr (cs.drop j)) ∧ Hid (Ch p.size s.size fr (cs.drop j))) (fun _ _ i _ => cs.length - (RowKit.intOf i).toNat)
        case atStart => exact ⟨0, 0, [], rfl, rfl, Nat.zero_le _, Nat.zero_le _, rfl, World.ownsRow_nil _ _ _ _, Below.refl _ _, by show _ = _; rw [List.drop_zero]; exact HC.out.symm, by show Ch _ _ _ _; rw [List.drop_zero]; exact HCh.out⟩
        case round =>
          obtain ⟨j, fr, a, rfl, rfl, hj, hfr, haj, HO3, HB3, HR3, HCh3⟩ := hrel
          have K3 : Hid (a.length + 1 ≤ maxLen) := by show _ ≤ _; unfold maxLen; have := HCL.out; omega
          have K4 : Hid ((a.length + 1) * 16 ≤ 140737488355328) := by show _ ≤ _; have := HCL.out; omega
          have K5 : ∀ u, Hid (w2.heap.size ≤ (wr.alloc (.cells #[.string u] 9)).heap.size) := fun u => by
            show _ ≤ _
            have := HB3.out.size
            simp; omega
          have K5 := Lib.hid K5
          by_cases hlt : j < cs.length
          · obtain ⟨g9, rfl⟩ := own_form HO.out (by omega)
            have hlti : (j : Int) < (cs.length : Int) := by omega
            have hx := HO.out.cellAt j (by omega)
            rw [ints_at cs j hlt] at hx
            have hg := (own_cap HO.out).2.2
            obtain ⟨s1, s2, s3⟩ := HCh3.out.step hlt
            have HN3 : Hid (Ch p.size s.size (cs.getD j 0 + p.size) (cs.drop (j + 1))) := s3
            have HQ : Hid (R = (a ++ [(s.data.toList.drop fr).take (cs.getD j 0 - fr)]) ++ cutAt s.data.toList p.size (cs.getD j 0 + p.size) (cs.drop (j + 1))) := by
              show _ = _
              rw [HR3.out, cutAt_step _ _ _ _ _ hlt, List.append_assoc]
              rfl
            have hx3 := (HB3.out.cell (p := ⟨g9, j, none⟩) hg).trans hx
            obtain ⟨c, hc⟩ : ∃ c, c = cs.getD j 0 := ⟨_, rfl⟩
            rw [← hc] at hx3 s1 s2 HN3 HQ
            have HG := Lib.hid hg
            clear hc hx s3 hg
            have q1 : (fr : Int) ≤ (c : Int) := by omega
            have q2 : c ≤ s.size := by omega
            have q3 : c + p.size ≤ s.size := s2
            go_wp2_with (at_builtin; refine wpList_append_own _ rfl (.tmp 88) (.tmp 96) 23 rfl w2.heap.size 9 i0 (.string ByteArray.empty) 1 16 Tryz.underlying23 hi hz0 hz1 hz2 rfl (by decide) _ a.length _ rfl (HO3.out.alloc _) ⟨wr.heap.size, 0, none⟩ 1 1 [.string (s.extract fr c)] rfl rfl (one_new _ _ _) (one_cell _) K3.out K4.out (K5.out _).out ?_)
            intro v' w4 hown' hgrow _
            have R4 := rel_app1 HO3.out HB3.out HB3.out.size hown' hgrow
            have hx4 := (R4.2.cell (p := ⟨g9, j, none⟩) HG.out).trans ((HB3.out.cell (p := ⟨g9, j, none⟩) HG.out).symm.trans hx3)
            have HR4 := Lib.hid R4
            clear hown' hgrow R4 hx3
            go_wp2
            go_roundw
            case rel =>
              refine ⟨j + 1, c + p.size, a ++ [(s.data.toList.drop fr).take (c - fr)], by go_num, by go_num, by omega, by omega, by simp; omega, ?_, HR4.out.2, HQ.out, HN3.out⟩
              show World.ownsRow _ _ _ _ _ _ _
              rw [strs_snoc, List.length_append, haj]
              have := HR4.out.1
              rw [ext_txt] at this
              exact this
            case measure => simp [RowKit.intOf]; omega
          · have hlti : ¬ (j : Int) < (cs.length : Int) := by omega
            have HQ : Hid (R = a ++ [s.data.toList.drop fr]) := by show _ = _; rw [HR3.out, cutAt_done _ _ _ _ _ (by omega)]
            go_wp2_with (at_builtin; refine wpList_append_own _ rfl (.tmp 105) (.tmp 109) 23 rfl w2.heap.size 9 i0 (.string ByteArray.empty) 1 16 Tryz.underlying23 hi hz0 hz1 hz2 rfl (by decide) _ a.length _ rfl (HO3.out.alloc _) ⟨wr.heap.size, 0, none⟩ 1 1 [.string (s.extract fr s.size)] rfl rfl (one_new _ _ _) (one_cell _) K3.out K4.out (K5.out _).out ?_)
            intro v' w4 hown' hgrow _
            have R4 := rel_app1 HO3.out HB3.out HB3.out.size hown' hgrow
            have HR4 := Lib.hid R4
            clear hown' hgrow R4
            go_wp2
            go_ret
            refine ⟨_, rfl, ?_, HB.out.trans (HR4.out.2.mono HSZ.out)⟩
            rw [HQ.out, strs_snoc, List.length_append, haj]
            have := Joins.ownsRow_le HR4.out.1 HSZ.out
            rw [ext_end] at this
            exact this
      · have t0 : ((cs.length : Int) == z) = false := by simpa using hz
        have t1 : ((cs.length : Int) != z) = true := by simpa using hz
        have HZ : Hid (¬ (cs.length : Int) = z) := hz
        clear hz
        by_cases hh : hit p.data.toList (s.data.toList.drop k) = true
        · have ht : ((s.extract k (k + p.size)).toList == p.toList) = true := by rw [HT.out]; exact hh
          have HK2 : Hid (Bk (allP p.data.toList s.data.toList) ((k : Int) - p.size) (k :: cs)) := by
            show Bk _ _ _
            rw [size_list0 p]
            exact Bk.take HNO.out (by rw [← size_list0]; exact hp0) (Nat.le_refl _) HK.out hh
          have K3 : Hid (1 + cs.length ≤ maxLen) := by show _ ≤ _; unfold maxLen; have := HCL.out; omega
          have K4 : Hid ((1 + cs.length) * 8 ≤ 140737488355328) := by show _ ≤ _; have := HCL.out; omega
          have K5 : Hid (wr.heap.size ≤ (wr.alloc (.cells #[.int .i64 (k : Int)] 3)).heap.size) := by show _ ≤ _; simp
          have HL2 : Hid (z < 0 ∨ (k :: cs).length ≤ z.toNat) := by have h1 := HL.out; have h2 := HZ.out; show _ ∨ _; simp; omega
          have HD := Lib.hid (own_lit wr (.int .i64 (k : Int)) 3)
          clear hh HK
          go_wp2_with (at_builtin; refine wpList_append_rowv rfl (.tmp 41) (.tmp 42) 128 rfl wr.heap.size 3 i1 (.int .i64 0) 8 Tryz.underlying128 ki kz0 kz1 kz2 rfl _ 1 _ rfl HD.out A9 cs.length c9 (ints cs) rfl w.heap.size (HO.out.alloc _) (ints_one cs) K3.out K4.out K5.out ?_)
          intro v' w1 hown' hgrow
          have HR1 : Hid (w1.ownsRow w.heap.size 3 1 v' (1 + cs.length) ([.int .i64 (k : Int)] ++ ints cs) ∧ Below w.heap.size w w1) :=
            ⟨Joins.ownsRow_le hown' HB.out.size, (HB.out.alloc HB.out.size _).grown hgrow (by have := HB.out.size; simp; omega) (fun k' hk => by cases hk; exact HB.out.size)⟩
          clear hown' hgrow
          go_wp2
          go_roundw
          case rel =>
            refine ⟨(k : Int) - p.size, k :: cs, by go_num, by omega, by omega, ?_, HR1.out.2, HL2.out, HK2.out⟩
            show World.ownsRow _ _ _ _ _ _ _
            have := HR1.out.1
            rw [Nat.add_comm] at this
            exact this
          case measure => simp [RowKit.intOf]; omega
        · have hh : hit p.data.toList (s.data.toList.drop k) = false := by simpa using hh
          have ht : ((s.extract k (k + p.size)).toList == p.toList) = false := by rw [HT.out]; exact hh
          have HK2 : Hid (Bk (allP p.data.toList s.data.toList) ((k : Int) - 1) cs) := Bk.miss HK.out hh
          clear hh HK
          go_wp2
          go_roundw
          case rel => exact ⟨(k : Int) - 1, cs, by go_num, by omega, by omega, HO.out, HB.out, HL.out, HK2.out⟩
          case measure => (simp [RowKit.intOf]; try omega)
end Go.Proofs.YtgcofpmhojplhaaGreatDoor

/- Walks of the reference's words. (Printed by mkv7.py.) -/
namespace Go.Proofs.YtgcofpmhojplhaaGreatDoor
open Go.RowKit

theorem size_pos_list {t : ByteArray} (h : 0 < t.size) : t.data.toList ≠ [] := fun e => by rw [size_list0, e] at h; simp at h
theorem nil_of_size {t : ByteArray} (h : t.size = 0) : t.data.toList = [] := List.length_eq_zero_iff.1 (by rw [← size_list0]; exact h)
theorem ext_tail (t : ByteArray) (k : Nat) : (t.extract k t.size).data.toList = t.data.toList.drop k := by
  rw [ext_list, List.take_of_length_le (by rw [List.length_drop, ← size_list0]; omega)]
theorem at_get {t : ByteArray} {k : Nat} (h : k < t.size) : t.data.toList.getD k 0 = t[k]'h := (at_list t k h _ rfl).symm
theorem wdIn_zero (q : UInt8 → Bool) (l : List UInt8) (i : Nat) : wdIn q 0 (l.take i) (l.drop i) = [l] := by
  show [l.take i ++ l.drop i] = _
  rw [List.take_append_drop]
theorem wd_head (q : UInt8 → Bool) (m : Nat) (l : List UInt8) (b : UInt8) (r : List UInt8) (h : l = b :: r) (hb : q b = false) : wd q m l = wdIn q m (l.take 0) (l.drop 0) := by
  subst h
  cases m <;> simp [wd, wdIn, hb]
theorem wdIn_step (q : UInt8 → Bool) (m : Nat) (l : List UInt8) (i : Nat) (hi : i < l.length) (hb : q (l.getD i 0) = false) : wdIn q m (l.take i) (l.drop i) = wdIn q m (l.take (i + 1)) (l.drop (i + 1)) := by
  rw [drop_step l i hi, wdIn_word _ _ _ _ _ hb, take_step _ _ hi]
theorem wdIn_cut (q : UInt8 → Bool) (m : Nat) (l : List UInt8) (i : Nat) (hi : i < l.length) (hb : q (l.getD i 0) = true) : wdIn q (m + 1) (l.take i) (l.drop i) = l.take i :: wd q m (l.drop i) := by
  rw [drop_step l i hi, wdIn_blank _ _ _ _ _ hb, wd_blank _ _ _ _ hb]
theorem wdIn_end (q : UInt8 → Bool) (m m' : Nat) (l : List UInt8) (i : Nat) (hi : l.length ≤ i) : wdIn q m (l.take i) (l.drop i) = l.take i :: wd q m' (l.drop i) := by
  rw [List.drop_of_length_le hi, wdIn_nil, wd_nil]
theorem f21_q (b : UInt8) (w : World) : Calls Tryz.prog 21 #[.int .u8 b.toNat] w fun e w' => e = .returned (.bool (blankB b)) ∧ w = w' := (f21_any b w).mono fun _ _ ⟨h1, h2⟩ => ⟨h1, h2.symm⟩
set_option maxRecDepth 100000 in
set_option maxHeartbeats 4000000 in
theorem f51_fore (s : ByteArray) (hs : s.size ≤ 100000) (z : Int) (w : World) : Calls Tryz.prog 51 #[.string s, .bool false, .int .i64 z] w (TextsMade (wd blankB (lim z s.size) s.data.toList) w) := by
  obtain ⟨i0, hi, hz0, hz1, hz2⟩ := info_parts infoStr
  have H21 := Lib.hid (fun b w => f21_q b w)
  go_enter Tryz.func51, Tryz.ntmps51
  go_wp2
  go_loopw [0, 7] (fun v o wr => ∃ (t : ByteArray) (a : List (List UInt8)) (m : Nat), v = .string t ∧ t.size + a.length ≤ s.size ∧ Hid (wr.ownsRow w.heap.size 9 1 o a.length (strs a)) ∧ Hid (Below w.heap.size w wr) ∧ Hid (a.length + m = lim z s.size ∨ t.size = 0) ∧ Hid (wd blankB (lim z s.size) s.data.toList = a ++ wd blankB m t.data.toList)) (fun v _ _ => strSize v)
  case atStart => exact ⟨s, [], lim z s.size, rfl, Nat.le_refl _, World.ownsRow_nil _ _ _ _, Below.refl _ _, by show _ ∨ _; left; simp, by show _ = _; simp⟩
  case round =>
    obtain ⟨t, a, m, rfl, hta, HO, HB, HM, HE⟩ := hrel
    obtain ⟨oA, oc, rfl⟩ := own_len HO.out
    go_wp2
    go_loop [0] (fun v => ∃ u : ByteArray, v = .string u ∧ u.size ≤ t.size ∧ Hid (wd blankB m t.data.toList = wd blankB m u.data.toList)) (fun v => strSize v)
    case atStart => exact ⟨t, rfl, Nat.le_refl _, rfl⟩
    case round =>
      obtain ⟨u, rfl, hut, HWT⟩ := hrel
      by_cases hu0 : u.size = 0
      · have e0 : u.toList = [] := by rw [ByteArray.toList_eq]; exact nil_of_size hu0
        have e1 : u.toList.isEmpty = true := by rw [e0]; rfl
        have hu1 : ¬ (0 : Int) < (u.size : Int) := by omega
        have HQ : Hid (wd blankB (lim z s.size) s.data.toList = a) := by show _ = _; rw [HE.out, HWT.out, nil_of_size hu0, wd_nil, List.append_nil]
        go_wp2
        go_ret
        refine ⟨_, rfl, ?_, HB.out⟩
        rw [HQ.out]
        exact HO.out
      · have hu1 : (0 : Int) < (u.size : Int) := by omega
        have hu2 : 0 < u.size := by omega
        have hul : u.data.toList = u[0]'hu2 :: u.data.toList.drop 1 := by
          have := drop_step u.data.toList 0 (by rw [← size_list0]; exact hu2)
          rw [List.drop_zero, at_get hu2] at this
          exact this
        have HUL := Lib.hid hul
        have e0 : u.toList.isEmpty = false := by
          rw [ByteArray.toList_eq, HUL.out]
          rfl
        have e1 : ¬ u.toList = [] := by
          rw [ByteArray.toList_eq, HUL.out]
          simp
        clear hul
        go_wp2_with fail
        go_at_call 21
        refine (H21.out _ _).mono ?_
        rintro e w' ⟨rfl, rfl⟩
        cases hb : blankB (u[0]'hu2)
        · have HB0 := Lib.hid hb
          clear hb
          have HX : Hid (wd blankB m u.data.toList = wdIn blankB m (u.data.toList.take 0) (u.data.toList.drop 0)) := wd_head _ _ _ _ _ HUL.out HB0.out
          go_wp2
          go_loop [9] (fun i => ∃ k : Nat, i = .int .i64 k ∧ k ≤ u.size ∧ Hid (wd blankB m u.data.toList = wdIn blankB m (u.data.toList.take k) (u.data.toList.drop k))) (fun i => u.size - (RowKit.intOf i).toNat)
          case atStart => exact ⟨0, rfl, Nat.zero_le _, HX.out⟩
          case round =>
            obtain ⟨k, rfl, hk, HWU⟩ := hrel
            have HM2 : Hid (a.length + m = lim z s.size) := by
              have := HM.out
              show _ = _
              omega
            by_cases hku : k < u.size
            · have hkn : (k : Int) < (u.size : Int) := by omega
              obtain ⟨m0, hm0⟩ : ∃ m0, m0 = m := ⟨_, rfl⟩
              cases m0 with
              | zero =>
                have hz := lim_zero (c := a.length) (i := a.length) (by rw [hm0]; exact HM2.out) (Nat.le_refl _) (by omega)
                have t0 : ((a.length : Int) == z) = true := by rw [hz]; exact beq_self_eq_true z
                have HWV : Hid (wd blankB m u.data.toList = wdIn blankB m (u.data.toList.take (k + 1)) (u.data.toList.drop (k + 1))) := by
                  have := HWU.out
                  show _ = _
                  rw [← hm0, wdIn_zero] at this ⊢
                  exact this
                clear hz hm0
                go_wp2
                go_round
                case rel => exact ⟨k + 1, by go_num, by omega, HWV.out⟩
                case measure => simp [RowKit.intOf]; omega
              | succ m0 =>
                have hz := lim_pos (c := a.length) (m := m0) (by rw [hm0]; exact HM2.out)
                have t0 : ((a.length : Int) == z) = false := by simpa using hz
                have HM0 := Lib.hid hm0
                clear hz hm0
                go_wp2_with fail
                go_at_call 21
                refine (H21.out _ _).mono ?_
                rintro e w' ⟨rfl, rfl⟩
                cases hb : blankB (u[k]'hku)
                · have HWV : Hid (wd blankB m u.data.toList = wdIn blankB m (u.data.toList.take (k + 1)) (u.data.toList.drop (k + 1))) := by
                    show _ = _
                    rw [HWU.out]
                    exact wdIn_step _ _ _ _ (by rw [← size_list0]; exact hku) (by rw [at_get hku]; exact hb)
                  clear hb
                  go_wp2
                  go_round
                  case rel => exact ⟨k + 1, by go_num, by omega, HWV.out⟩
                  case measure => simp [RowKit.intOf]; omega
                · have HBK := Lib.hid hb
                  clear hb
                  have HW2 : Hid (wd blankB m u.data.toList = u.data.toList.take k :: wd blankB (m - 1) (u.data.toList.drop k)) := by
                    show _ = _
                    rw [HWU.out]
                    exact by rw [← HM0.out]; exact wdIn_cut _ _ _ _ (by rw [← size_list0]; exact hku) (by rw [at_get hku]; exact HBK.out)
                  have hk1 : 0 < k := by
                      rcases Nat.eq_zero_or_pos k with h | h
                      · subst h; have h1 := HBK.out; have h2 := HB0.out; rw [h1] at h2; cases h2
                      · exact h
                  have K3 : Hid (a.length + 1 ≤ maxLen) := by show _ ≤ _; unfold maxLen; omega
                  have K4 : Hid ((a.length + 1) * 16 ≤ 140737488355328) := by show _ ≤ _; omega
                  have K5 : Hid (w.heap.size ≤ (wr.alloc (.cells #[.string (u.extract 0 k)] 9)).heap.size) := by show _ ≤ _; have := HB.out.size; simp; omega
                  go_wp2_with (at_builtin; refine wpList_append_own _ rfl (.tmp 91) (.tmp 95) 23 rfl w.heap.size 9 i0 (.string ByteArray.empty) 1 16 Tryz.underlying23 hi hz0 hz1 hz2 rfl (by decide) _ a.length _ rfl (HO.out.alloc _) ⟨wr.heap.size, 0, none⟩ 1 1 [.string (u.extract 0 k)] rfl rfl (one_new _ _ _) (one_cell _) K3.out K4.out K5.out ?_)
                  intro v' w1 hown' hgrow _
                  have R1 := rel_app1 HO.out HB.out HB.out.size hown' hgrow
                  have HR1 := Lib.hid R1
                  clear hown' hgrow R1
                  go_wp2
                  go_roundw
                  case rel =>
                    refine ⟨u.extract k u.size, a ++ [u.data.toList.take k], m - 1, rfl, by rw [ByteArray.size_extract, List.length_append]; simp; omega, ?_, HR1.out.2, ?_, ?_⟩
                    · show World.ownsRow _ _ _ _ _ _ _
                      rw [strs_snoc, List.length_append]
                      have := HR1.out.1
                      rw [ext_txt, List.drop_zero, Nat.sub_zero] at this
                      exact this
                    · show _ ∨ _
                      have := HM.out
                      try (have hmm := HM0.out)
                      rw [ByteArray.size_extract, List.length_append]
                      simp
                      omega
                    · show _ = _
                      rw [HE.out, HWT.out, HW2.out, ext_tail, List.append_assoc]
                      rfl
                  case measure => simp [strSize]; omega
            · have hkn : ¬ (k : Int) < (u.size : Int) := by omega
              have HW2 : Hid (wd blankB m u.data.toList = u.data.toList.take k :: wd blankB (m - 1) (u.data.toList.drop k)) := by
                show _ = _
                rw [HWU.out]
                exact wdIn_end _ _ _ _ _ (by rw [← size_list0]; omega)
              have hk1 : 0 < k := by omega
              have K3 : Hid (a.length + 1 ≤ maxLen) := by show _ ≤ _; unfold maxLen; omega
              have K4 : Hid ((a.length + 1) * 16 ≤ 140737488355328) := by show _ ≤ _; omega
              have K5 : Hid (w.heap.size ≤ (wr.alloc (.cells #[.string (u.extract 0 k)] 9)).heap.size) := by show _ ≤ _; have := HB.out.size; simp; omega
              go_wp2_with (at_builtin; refine wpList_append_own _ rfl (.tmp 91) (.tmp 95) 23 rfl w.heap.size 9 i0 (.string ByteArray.empty) 1 16 Tryz.underlying23 hi hz0 hz1 hz2 rfl (by decide) _ a.length _ rfl (HO.out.alloc _) ⟨wr.heap.size, 0, none⟩ 1 1 [.string (u.extract 0 k)] rfl rfl (one_new _ _ _) (one_cell _) K3.out K4.out K5.out ?_)
              intro v' w1 hown' hgrow _
              have R1 := rel_app1 HO.out HB.out HB.out.size hown' hgrow
              have HR1 := Lib.hid R1
              clear hown' hgrow R1
              go_wp2
              go_roundw
              case rel =>
                refine ⟨u.extract k u.size, a ++ [u.data.toList.take k], m - 1, rfl, by rw [ByteArray.size_extract, List.length_append]; simp; omega, ?_, HR1.out.2, ?_, ?_⟩
                · show World.ownsRow _ _ _ _ _ _ _
                  rw [strs_snoc, List.length_append]
                  have := HR1.out.1
                  rw [ext_txt, List.drop_zero, Nat.sub_zero] at this
                  exact this
                · show _ ∨ _
                  have := HM.out
                  try (have hmm := HM0.out)
                  rw [ByteArray.size_extract, List.length_append]
                  simp
                  omega
                · show _ = _
                  rw [HE.out, HWT.out, HW2.out, ext_tail, List.append_assoc]
                  rfl
              case measure => simp [strSize]; omega
        · have HWV : Hid (wd blankB m t.data.toList = wd blankB m (u.extract 1 u.size).data.toList) := by
            show _ = _
            rw [HWT.out, ext_tail]
            conv => lhs; rw [HUL.out]
            exact wd_blank _ _ _ _ hb
          clear hb
          go_wp2
          go_round
          case rel => exact ⟨u.extract 1 u.size, rfl, by rw [ByteArray.size_extract]; omega, HWV.out⟩
          case measure => simp [strSize]; omega
end Go.Proofs.YtgcofpmhojplhaaGreatDoor

/- Walks of the reference's words, from the end on. (Printed by mkv8.py.) -/
namespace Go.Proofs.YtgcofpmhojplhaaGreatDoor
open Go.RowKit

theorem mir_snoc (A : List (List UInt8)) (x : List UInt8) : mir (A ++ [x]) = x.reverse :: mir A := by simp [mir]
theorem mir_len (A : List (List UInt8)) : (mir A).length = A.length := by simp [mir]
theorem mir_cells (A : List (List UInt8)) : ∀ u ∈ strs (mir A), u.oneCell' = true := by
  intro u hu
  obtain ⟨x, _, rfl⟩ := List.mem_map.1 hu
  rfl
theorem rev_at {u : ByteArray} {k : Nat} (hk : 0 < k) (h : k - 1 < u.size) (hku : k ≤ u.size) : u.data.toList.reverse.getD (u.size - k) 0 = u[k - 1]'h := by
  rw [← at_get h, List.getD_eq_getElem?_getD, List.getD_eq_getElem?_getD, List.getElem?_reverse (by rw [← size_list0]; omega), ← size_list0, show u.size - 1 - (u.size - k) = k - 1 by omega]
theorem rev_cons {u : ByteArray} (h : u.size - 1 < u.size) : u.data.toList.reverse = u[u.size - 1]'h :: (u.extract 0 (u.size - 1)).data.toList.reverse := by
  have hl : 0 < u.data.toList.reverse.length := by rw [List.length_reverse, ← size_list0]; omega
  have e := drop_step u.data.toList.reverse 0 hl
  have e2 := rev_at (u := u) (k := u.size) (by omega) h (Nat.le_refl _)
  rw [Nat.sub_self] at e2
  rw [List.drop_zero, e2] at e
  rw [ext_list, List.drop_zero, Nat.sub_zero, List.reverse_take, ← size_list0, show u.size - (u.size - 1) = 1 by omega]
  exact e
theorem rev_rest (u : ByteArray) (k : Nat) : (u.extract 0 k).data.toList.reverse = u.data.toList.reverse.drop (u.size - k) := by
  rw [ext_list, List.drop_zero, Nat.sub_zero, List.reverse_take, ← size_list0]
theorem rev_word (u : ByteArray) (k : Nat) : (u.data.toList.reverse.take (u.size - k)).reverse = u.data.toList.drop k := by
  rw [List.reverse_take, List.reverse_reverse, List.length_reverse, ← size_list0]
  by_cases h : k ≤ u.size
  · rw [show u.size - (u.size - k) = k by omega]
  · rw [show u.size - (u.size - k) = u.size by omega, List.drop_of_length_le (by rw [← size_list0]; omega), List.drop_of_length_le (by rw [← size_list0]; omega)]
set_option maxRecDepth 100000 in
set_option maxHeartbeats 4000000 in
theorem f51_back (s : ByteArray) (hs : s.size ≤ 100000) (z : Int) (w : World) : Calls Tryz.prog 51 #[.string s, .bool true, .int .i64 z] w (TextsMade (wdB blankB (lim z s.size) s.data.toList) w) := by
  obtain ⟨i0, hi, hz0, hz1, hz2⟩ := info_parts infoStr
  have H21 := Lib.hid (fun b w => f21_q b w)
  go_enter Tryz.func51, Tryz.ntmps51
  go_wp2
  go_loopw [0, 7] (fun v o wr => ∃ (t : ByteArray) (A : List (List UInt8)) (m : Nat), v = .string t ∧ t.size + A.length ≤ s.size ∧ Hid (wr.ownsRow w.heap.size 9 1 o A.length (strs (mir A))) ∧ Hid (Below w.heap.size w wr) ∧ Hid (A.length + m = lim z s.size ∨ t.size = 0) ∧ Hid (wd blankB (lim z s.size) s.data.toList.reverse = A ++ wd blankB m t.data.toList.reverse)) (fun v _ _ => strSize v)
  case atStart => exact ⟨s, [], lim z s.size, rfl, Nat.le_refl _, World.ownsRow_nil _ _ _ _, Below.refl _ _, by show _ ∨ _; left; simp, by show _ = _; simp⟩
  case round =>
    obtain ⟨t, A, m, rfl, hta, HO, HB, HM, HE⟩ := hrel
    obtain ⟨oA, oc, rfl⟩ := own_len HO.out
    go_wp2
    go_loop [0] (fun v => ∃ u : ByteArray, v = .string u ∧ u.size ≤ t.size ∧ Hid (wd blankB m t.data.toList.reverse = wd blankB m u.data.toList.reverse)) (fun v => strSize v)
    case atStart => exact ⟨t, rfl, Nat.le_refl _, rfl⟩
    case round =>
      obtain ⟨u, rfl, hut, HWT⟩ := hrel
      by_cases hu0 : u.size = 0
      · have e0 : u.toList = [] := by rw [ByteArray.toList_eq]; exact nil_of_size hu0
        have e1 : u.toList.isEmpty = true := by rw [e0]; rfl
        have hu1 : ¬ (0 : Int) < (u.size : Int) := by omega
        have HQ : Hid (wd blankB (lim z s.size) s.data.toList.reverse = A) := by show _ = _; rw [HE.out, HWT.out, nil_of_size hu0, List.reverse_nil, wd_nil, List.append_nil]
        go_wp2
        go_ret
        refine ⟨_, rfl, ?_, HB.out⟩
        unfold wdB
        rw [HQ.out, mir_len]
        exact HO.out
      · have hu1 : (0 : Int) < (u.size : Int) := by omega
        have hu2 : u.size - 1 < u.size := by omega
        have hu3 : ((u.size : Nat) : Int) - 1 = ((u.size - 1 : Nat) : Int) := by omega
        have HUL := Lib.hid (rev_cons hu2)
        have HUN : Hid (u.data.toList ≠ []) := size_pos_list (by omega)
        have e0 : u.toList.isEmpty = false := by
          rw [ByteArray.toList_eq]
          cases h : u.data.toList with
          | nil => exact absurd h HUN.out
          | cons b r => rfl
        have e1 : ¬ u.toList = [] := by
          rw [ByteArray.toList_eq]
          exact HUN.out
        go_wp2_with fail
        go_at_call 21
        refine (H21.out _ _).mono ?_
        rintro e w' ⟨rfl, rfl⟩
        cases hb : blankB (u[u.size - 1]'hu2)
        · have HB0 := Lib.hid hb
          clear hb
          have HX : Hid (wd blankB m u.data.toList.reverse = wdIn blankB m (u.data.toList.reverse.take (u.size - u.size)) (u.data.toList.reverse.drop (u.size - u.size))) := by
            show _ = _
            rw [Nat.sub_self]
            exact wd_head _ _ _ _ _ HUL.out HB0.out
          clear hu3
          go_wp2
          go_loop [8] (fun i => ∃ k : Nat, i = .int .i64 k ∧ k ≤ u.size ∧ Hid (wd blankB m u.data.toList.reverse = wdIn blankB m (u.data.toList.reverse.take (u.size - k)) (u.data.toList.reverse.drop (u.size - k)))) (fun i => (RowKit.intOf i).toNat)
          case atStart => exact ⟨u.size, rfl, Nat.le_refl _, HX.out⟩
          case round =>
            obtain ⟨k, rfl, hk, HWU⟩ := hrel
            have HM2 : Hid (A.length + m = lim z s.size) := by
              have := HM.out
              show _ = _
              omega
            by_cases hku : 0 < k
            · have hkn : (0 : Int) < (k : Int) := by omega
              have hk3 : ((k : Nat) : Int) - 1 = ((k - 1 : Nat) : Int) := by omega
              have hk4 : k - 1 < u.size := by omega
              have HK5 : Hid (u.size - (k - 1) = u.size - k + 1) := by show _ = _; omega
              obtain ⟨m0, hm0⟩ : ∃ m0, m0 = m := ⟨_, rfl⟩
              cases m0 with
              | zero =>
                have hz := lim_zero (c := A.length) (i := A.length) (by rw [hm0]; exact HM2.out) (Nat.le_refl _) (by omega)
                have t0 : ((A.length : Int) == z) = true := by rw [hz]; exact beq_self_eq_true z
                have HWV : Hid (wd blankB m u.data.toList.reverse = wdIn blankB m (u.data.toList.reverse.take (u.size - (k - 1))) (u.data.toList.reverse.drop (u.size - (k - 1)))) := by
                  have := HWU.out
                  show _ = _
                  rw [← hm0, wdIn_zero] at this ⊢
                  exact this
                clear hz hm0
                go_wp2
                go_round
                case rel => exact ⟨k - 1, by go_num, by omega, HWV.out⟩
                case measure => simp [RowKit.intOf]; omega
              | succ m0 =>
                have hz := lim_pos (c := A.length) (m := m0) (by rw [hm0]; exact HM2.out)
                have t0 : ((A.length : Int) == z) = false := by simpa using hz
                have HM0 := Lib.hid hm0
                clear hz hm0
                go_wp2_with fail
                go_at_call 21
                refine (H21.out _ _).mono ?_
                rintro e w' ⟨rfl, rfl⟩
                cases hb : blankB (u[k - 1]'hk4)
                · have HWV : Hid (wd blankB m u.data.toList.reverse = wdIn blankB m (u.data.toList.reverse.take (u.size - (k - 1))) (u.data.toList.reverse.drop (u.size - (k - 1)))) := by
                    show _ = _
                    rw [HWU.out, HK5.out]
                    exact wdIn_step _ _ _ _ (by rw [List.length_reverse, ← size_list0]; omega) (by rw [rev_at hku hk4 hk]; exact hb)
                  clear hb
                  go_wp2
                  go_round
                  case rel => exact ⟨k - 1, by go_num, by omega, HWV.out⟩
                  case measure => simp [RowKit.intOf]; omega
                · have HBK := Lib.hid hb
                  clear hb hk3
                  have HW2 : Hid (wd blankB m u.data.toList.reverse = u.data.toList.reverse.take (u.size - k) :: wd blankB (m - 1) (u.data.toList.reverse.drop (u.size - k))) := by
                    show _ = _
                    rw [HWU.out]
                    exact by rw [← HM0.out]; exact wdIn_cut _ _ _ _ (by rw [List.length_reverse, ← size_list0]; omega) (by rw [rev_at hku hk4 hk]; exact HBK.out)
                  have hk1 : k < u.size := by
                      rcases Nat.lt_or_ge k u.size with h | h
                      · exact h
                      · obtain rfl : k = u.size := by omega
                        have h1 := HBK.out; have h2 := HB0.out; rw [h1] at h2; cases h2
                  have K3 : Hid (1 + A.length ≤ maxLen) := by show _ ≤ _; unfold maxLen; omega
                  have K4 : Hid ((1 + A.length) * 16 ≤ 140737488355328) := by show _ ≤ _; omega
                  have K5 : Hid (wr.heap.size ≤ (wr.alloc (.cells #[.string (u.extract k u.size)] 9)).heap.size) := by show _ ≤ _; simp
                  have HD := Lib.hid (own_lit wr (.string (u.extract k u.size)) 9)
                  go_wp2_with (at_builtin; refine wpList_append_rowv rfl (.tmp 53) (.tmp 54) 23 rfl wr.heap.size 9 i0 (.string ByteArray.empty) 16 Tryz.underlying23 hi hz0 hz1 hz2 rfl _ 1 _ rfl HD.out oA A.length oc (strs (mir A)) rfl w.heap.size (HO.out.alloc _) (mir_cells A) K3.out K4.out K5.out ?_)
                  intro v' w1 hown' hgrow
                  have HR1 : Hid (w1.ownsRow w.heap.size 9 1 v' (1 + A.length) ([.string (u.extract k u.size)] ++ strs (mir A)) ∧ Below w.heap.size w w1) :=
                    ⟨Joins.ownsRow_le hown' HB.out.size, (HB.out.alloc HB.out.size _).grown hgrow (by have := HB.out.size; simp; omega) (fun k' hk => by cases hk; exact HB.out.size)⟩
                  clear hown' hgrow
                  go_wp2
                  go_roundw
                  case rel =>
                    refine ⟨u.extract 0 k, A ++ [u.data.toList.reverse.take (u.size - k)], m - 1, rfl, by rw [ByteArray.size_extract, List.length_append]; simp; omega, ?_, HR1.out.2, ?_, ?_⟩
                    · show World.ownsRow _ _ _ _ _ _ _
                      rw [mir_snoc, rev_word, List.length_append]
                      have := HR1.out.1
                      rw [ext_end, Nat.add_comm] at this
                      exact this
                    · show _ ∨ _
                      have := HM.out
                      try (have hmm := HM0.out)
                      rw [ByteArray.size_extract, List.length_append]
                      simp
                      omega
                    · show _ = _
                      rw [HE.out, HWT.out, HW2.out, rev_rest, List.append_assoc]
                      rfl
                  case measure => simp [strSize]; omega
            · have hkn : ¬ (0 : Int) < (k : Int) := by omega
              have HW2 : Hid (wd blankB m u.data.toList.reverse = u.data.toList.reverse.take (u.size - k) :: wd blankB (m - 1) (u.data.toList.reverse.drop (u.size - k))) := by
                show _ = _
                rw [HWU.out]
                exact wdIn_end _ _ _ _ _ (by rw [List.length_reverse, ← size_list0]; omega)
              have hk1 : k < u.size := by omega
              have K3 : Hid (1 + A.length ≤ maxLen) := by show _ ≤ _; unfold maxLen; omega
              have K4 : Hid ((1 + A.length) * 16 ≤ 140737488355328) := by show _ ≤ _; omega
              have K5 : Hid (wr.heap.size ≤ (wr.alloc (.cells #[.string (u.extract k u.size)] 9)).heap.size) := by show _ ≤ _; simp
              have HD := Lib.hid (own_lit wr (.string (u.extract k u.size)) 9)
              go_wp2_with (at_builtin; refine wpList_append_rowv rfl (.tmp 53) (.tmp 54) 23 rfl wr.heap.size 9 i0 (.string ByteArray.empty) 16 Tryz.underlying23 hi hz0 hz1 hz2 rfl _ 1 _ rfl HD.out oA A.length oc (strs (mir A)) rfl w.heap.size (HO.out.alloc _) (mir_cells A) K3.out K4.out K5.out ?_)
              intro v' w1 hown' hgrow
              have HR1 : Hid (w1.ownsRow w.heap.size 9 1 v' (1 + A.length) ([.string (u.extract k u.size)] ++ strs (mir A)) ∧ Below w.heap.size w w1) :=
                ⟨Joins.ownsRow_le hown' HB.out.size, (HB.out.alloc HB.out.size _).grown hgrow (by have := HB.out.size; simp; omega) (fun k' hk => by cases hk; exact HB.out.size)⟩
              clear hown' hgrow
              go_wp2
              go_roundw
              case rel =>
                refine ⟨u.extract 0 k, A ++ [u.data.toList.reverse.take (u.size - k)], m - 1, rfl, by rw [ByteArray.size_extract, List.length_append]; simp; omega, ?_, HR1.out.2, ?_, ?_⟩
                · show World.ownsRow _ _ _ _ _ _ _
                  rw [mir_snoc, rev_word, List.length_append]
                  have := HR1.out.1
                  rw [ext_end, Nat.add_comm] at this
                  exact this
                · show _ ∨ _
                  have := HM.out
                  try (have hmm := HM0.out)
                  rw [ByteArray.size_extract, List.length_append]
                  simp
                  omega
                · show _ = _
                  rw [HE.out, HWT.out, HW2.out, rev_rest, List.append_assoc]
                  rfl
              case measure => simp [strSize]; omega
        · have HWV : Hid (wd blankB m t.data.toList.reverse = wd blankB m (u.extract 0 (u.size - 1)).data.toList.reverse) := by
            show _ = _
            rw [HWT.out]
            conv => lhs; rw [HUL.out]
            exact wd_blank _ _ _ _ hb
          clear hb
          go_wp2
          go_round
          case rel => exact ⟨u.extract 0 (u.size - 1), rfl, by rw [ByteArray.size_extract]; omega, HWV.out⟩
          case measure => simp [strSize]; omega
end Go.Proofs.YtgcofpmhojplhaaGreatDoor
