/- Walks of the package's cuts: zzSplit, zzSplitN. -/
import Derived.Test.YtgcofpmhojplhaaGreatDoorT1
namespace Go.Proofs.YtgcofpmhojplhaaGreatDoor
open Go.RowKit

theorem infoStr : (Tryz.prog.info? 9).map (fun i => (i.zero, i.size, i.bytes)) = some (some (.string ByteArray.empty), 1, 16) := by kernel_rfl
/-- A new slice of these texts. -/
def TextsMade (l : List (List UInt8)) (w : World) (e : Ending) (w' : World) : Prop := ∃ v, e = .returned v ∧ w'.ownsRow w.heap.size 9 1 v l.length (strs l) ∧ Below w.heap.size w w'
theorem rel_app1 {wr w0 w1 : World} {B e k : Nat} {v v' : Value} {xs ys : List Value} {o1 : Obj} {n : Nat} (hown : wr.ownsRow B e 1 v k xs) (hb : Below B w0 wr) (hsz : B ≤ wr.heap.size)
    (hown' : w1.ownsRow B e 1 v' n ys) (hgrow : (wr.alloc o1).grownBy w1 v.ownBlock) : w1.ownsRow B e 1 v' n ys ∧ Below B w0 w1 :=
  ⟨hown', (hb.alloc hsz o1).grown hgrow (by simp; omega) fun k' hk => (hown.lt k' hk).1⟩
theorem own_len {w : World} {base : Nat} {e : TypeId} {size : Nat} {v : Value} {n : Nat} {xs : List Value} (h : w.ownsRow base e size v n xs) : ∃ A c, v = .slice A n c := by
  rcases h.2 with ⟨rfl, h0⟩ | ⟨g, cap, cur, rfl, _⟩
  · exact ⟨none, 0, by rw [h0]⟩
  · exact ⟨_, _, rfl⟩
theorem strs_snoc (a : List (List UInt8)) (x : List UInt8) : strs (a ++ [x]) = strs a ++ [.string (txt x)] := by simp [strs]
theorem one_new (w : World) (u : Value) (t : TypeId) : ∀ (j : Nat) (x : Value), [u][j]? = some x → (w.alloc (.cells #[u] t)).cell? ((⟨w.heap.size, 0, none⟩ : Addr).add j) = some x := by
  intro j x hj
  match j, hj with
  | 0, hj => simp at hj; subst hj; simp [Addr.add, go_sem]
  | j + 1, hj => simp at hj
theorem one_cell (b : ByteArray) : ∀ u ∈ [Value.string b], u.oneCell' = true := by intro u hu; simp at hu; subst hu; rfl
theorem pc_none' (p : List UInt8) (m : Nat) (s : List UInt8) (h : idx p s = none) (a : List (List UInt8)) : a ++ pc p m s = a ++ [s] := by rw [pc_none _ _ _ h]

set_option maxRecDepth 100000 in
set_option maxHeartbeats 1000000 in
theorem f75_any (s p : ByteArray) (hs : s.size ≤ 100000) (hp : p.size ≤ 100000) (hp0 : 0 < p.size) (w : World) : Calls Tryz.prog 75 #[.string s, .string p] w (TextsMade (pc p.data.toList s.size s.data.toList) w) := by
  obtain ⟨i0, hi, hz0, hz1, hz2⟩ := info_parts infoStr
  go_enter Tryz.func75, Tryz.ntmps75
  go_wp2
  go_loopw [0, 5] (fun v o wr => ∃ (t : ByteArray) (a : List (List UInt8)), v = .string t ∧ t.size ≤ s.size ∧ a.length ≤ s.size - t.size ∧ Hid (wr.ownsRow w.heap.size 9 1 o a.length (strs a)) ∧ Hid (Below w.heap.size w wr) ∧ Hid (pc p.data.toList s.size s.data.toList = a ++ pc p.data.toList t.size t.data.toList)) (fun v _ _ => strSize v)
  case atStart => exact ⟨s, [], rfl, Nat.le_refl _, by simp, World.ownsRow_nil _ _ _ _, Below.refl _ _, by show _ = _; simp⟩
  case round =>
    obtain ⟨t, a, rfl, hts, hal, HO, HB, HE⟩ := hrel
    have hbsz := HB.out.size
    cases hk : idx p.data.toList t.data.toList with
    | none =>
      have HK := Lib.hid hk
      have K3 : Hid (a.length + 1 ≤ maxLen) := by show _ ≤ _; unfold maxLen; omega
      have K4 : Hid ((a.length + 1) * 16 ≤ 140737488355328) := by show _ ≤ _; omega
      have K5 : Hid (w.heap.size ≤ (wr.alloc (.cells #[.string t] 9)).heap.size) := by show _ ≤ _; simp; omega
      have H93 := Lib.hid (f93_any t p (by omega) hp wr)
      rw [hk] at H93
      clear hk hbsz
      go_wp2_with fail
      go_at_call 93
      refine H93.out.mono ?_
      rintro e w' ⟨rfl, rfl⟩
      simp only [idxZ]
      go_wp2_with (at_builtin; refine wpList_append_own _ rfl (.tmp 12) (.tmp 14) 23 rfl w.heap.size 9 i0 (.string ByteArray.empty) 1 16 Tryz.underlying23 hi hz0 hz1 hz2 rfl (by decide) _ a.length _ rfl (HO.out.alloc _) ⟨wr.heap.size, 0, none⟩ 1 1 [.string t] rfl rfl (one_new _ _ _) (one_cell _) K3.out K4.out K5.out ?_)
      intro v' w1 hown' hgrow _
      have R := rel_app1 HO.out HB.out HB.out.size hown' hgrow
      have HR := Lib.hid R
      clear hown' hgrow R
      go_wp2
      go_ret
      refine ⟨_, rfl, ?_, HR.out.2⟩
      rw [HE.out, pc_none' _ _ _ HK.out, strs_snoc, txt_of]
      simpa using HR.out.1
    | some k =>
      have hle := (idx_le _ _ _ hk).1
      rw [← size_list0, ← size_list0] at hle
      have HK := Lib.hid hk
      have K3 : Hid (a.length + 1 ≤ maxLen) := by show _ ≤ _; unfold maxLen; omega
      have K4 : Hid ((a.length + 1) * 16 ≤ 140737488355328) := by show _ ≤ _; omega
      have K5 : Hid (w.heap.size ≤ (wr.alloc (.cells #[.string (t.extract 0 k)] 9)).heap.size) := by show _ ≤ _; simp; omega
      have H93 := Lib.hid (f93_any t p (by omega) hp wr)
      rw [hk] at H93
      clear hk hbsz
      go_wp2_with fail
      go_at_call 93
      refine H93.out.mono ?_
      rintro e w' ⟨rfl, rfl⟩
      simp only [idxZ]
      go_wp2_with (at_builtin; refine wpList_append_own _ rfl (.tmp 16) (.tmp 20) 23 rfl w.heap.size 9 i0 (.string ByteArray.empty) 1 16 Tryz.underlying23 hi hz0 hz1 hz2 rfl (by decide) _ a.length _ rfl (HO.out.alloc _) ⟨wr.heap.size, 0, none⟩ 1 1 [.string (t.extract 0 k)] rfl rfl (one_new _ _ _) (one_cell _) K3.out K4.out K5.out ?_)
      intro v' w1 hown' hgrow _
      have R := rel_app1 HO.out HB.out HB.out.size hown' hgrow
      have HR := Lib.hid R
      clear hown' hgrow R
      go_wp2
      go_roundw
      case rel =>
        refine ⟨_, a ++ [t.data.toList.take k], rfl, by rw [ByteArray.size_extract]; omega, by rw [ByteArray.size_extract]; simp; omega, ?_, HR.out.2, ?_⟩
        · show World.ownsRow _ _ _ _ _ _ _
          rw [strs_snoc, List.length_append]
          have := HR.out.1
          rw [ext_txt, List.drop_zero, Nat.sub_zero] at this
          exact this
        · show _ = _
          rw [HE.out, ext_list, List.append_assoc]
          congr 1
          obtain ⟨m, hm⟩ : ∃ m, t.size = m + 1 := ⟨t.size - 1, by omega⟩
          have e1 : (t.data.toList.drop (k + p.size)).take (t.size - (k + p.size)) = t.data.toList.drop (k + p.size) := List.take_of_length_le (by rw [List.length_drop, ← size_list0]; omega)
          rw [e1]
          conv => lhs; rw [hm, pc_some _ _ _ _ HK.out]
          rw [List.singleton_append, ← size_list0]
          congr 1
          refine pc_more _ ?_ _ _ _ ?_ ?_
          · rw [← size_list0]; exact hp0
          · rw [List.length_drop, ← size_list0]; omega
          · rw [List.length_drop, ← size_list0, ByteArray.size_extract]; omega
      case measure => simp [strSize]; omega
end Go.Proofs.YtgcofpmhojplhaaGreatDoor
