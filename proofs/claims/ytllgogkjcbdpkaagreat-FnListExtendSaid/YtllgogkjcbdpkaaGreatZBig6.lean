/- Written by wip/tools/port2.py out of the text Big6 of seat Ytidkdjnfpepnfaa. -/
/- Walks of the package's great numbers: set, Set, Neg. -/
import Derived.Test.YtllgogkjcbdpkaaGreatZBig5
namespace Go.Proofs.YtllgogkjcbdpkaaGreat.Z
open Go.RowKit

theorem splice_take {α : Type} (L X C : List α) (n q m : Nat) (hC : C.length = m) (hfit : q + m ≤ n) (hn : n ≤ L.length) (hX : L.take n = X) (R : List α) (hR : R = X.take q ++ (C ++ X.drop (q + m))) :
    (L.take q ++ (C ++ L.drop (q + m))).toArray.toList.take (n * 1) = R := by
  subst hX
  subst hR
  subst hC
  have h1 : (L.take q).length = q := by simp; omega
  have h2 : (L.take q ++ (C ++ L.drop (q + C.length))).take n = L.take q ++ (C ++ (L.drop (q + C.length)).take (n - q - C.length)) := by
    rw [List.take_append, h1, List.take_of_length_le (l := L.take q) (by omega), List.take_append, List.take_of_length_le (l := C) (by omega)]
  rw [Nat.mul_one, show (L.take q ++ (C ++ L.drop (q + C.length))).toArray.toList = L.take q ++ (C ++ L.drop (q + C.length)) from rfl, h2, List.take_take, Nat.min_eq_left (by omega), List.drop_take]
  congr 3
  omega

/-- 'copy(own[o:..], src)': the words go over. -/
theorem wp_copy_row {w : World} {o : Oper} {a : Act} {K : Act → World → Prop} {Q : Exit → Act → World → Prop} (d s : Operand) (dT sT : TypeId)
    (ho : o.op = .call { callee := .builtin .copy, args := #[d, s], argTypes := #[dT, sT] }) (hu : Tryz.prog.underlying dT = some (.slice 164))
    (dp : Option Addr) (dLen dCap : Nat) (hd : a.eval d = .slice dp dLen dCap) (vs : Value) (hs : a.eval s = vs) (B g n c : Nat) (xs : List Nat) (hown : OwnW B w g n c xs) (B' : Nat) (ys : List Nat) (hrow : Row B' .u64 w vs ys)
    (q : Nat) (hdp : 0 < ys.length → dp = some ⟨g, q, none⟩) (hlen : ys.length = dLen) (hfit : q + ys.length ≤ n)
    (h : ∀ w', OwnW B w' g n c (xs.take q ++ (ys ++ xs.drop (q + ys.length))) → w.grownBy w' (some g) → K (a.put o.dst (goInt ys.length)) w') : o.wp Tryz.prog a w K Q := by
  obtain ⟨i0, hi, hz0, hz1, hz2⟩ := info_parts info164
  have hsz : (Tryz.prog.info? 164).map (·.size) = some 1 := by rw [hi]; simp [hz1]
  rcases hrow with ⟨rfl, hv⟩ | ⟨h0, g', off, c', rfl, hc, _, hg, hcell⟩
  · have hn0 : ∃ sp sl sc, vs = .slice sp sl sc ∧ Nat.min sl dLen = 0 := by
      rcases hv with rfl | ⟨x, c, rfl⟩
      · exact ⟨none, 0, 0, rfl, by simp⟩
      · exact ⟨some x, 0, c, rfl, by simp⟩
    obtain ⟨sp, sl, sc, rfl, hmin⟩ := hn0
    have hrun := run_copy_none (P := Tryz.prog) w dT sT o.type 164 dp sp dLen dCap sl sc hu hsz hmin
    unfold Oper.wp
    simp [execOp, ho, resolve, invoke, builtin, hd, hs, hrun, Result.andThen]
    exact h w (by simpa using hown) (World.grownBy.refl _ _)
  · obtain rfl := hdp h0
    subst hlen
    rcases hown.2 with ⟨h', _⟩ | ⟨g2, c2, cur, h', hB, hgg, hnc, hcm, hcs, ht⟩
    · cases h'
    · cases h'
      have hxs := hown.1
      have hrun := run_copy_row (P := Tryz.prog) w dT sT o.type 164 g q ys.length dCap ⟨g', off, none⟩ ys.length c' cur 164 (ys.map fun x => Value.int .u64 (x : Nat)) hu hsz hgg (by simp)
        (by
          intro j u hu
          have hj : j < ys.length := by have := List.getElem?_eq_some_iff.1 hu; simpa using this.1
          have := hcell j hj
          rw [show (⟨g', off, none⟩ : Addr).add j = ⟨g', off + j, none⟩ from by unfold Addr.add; split <;> simp_all, this]
          simp [hj] at hu ⊢
          exact hu) (by simp; omega) (by intro u hu; obtain ⟨y, _, rfl⟩ := List.mem_map.1 hu; rfl)
      unfold Oper.wp
      simp [execOp, ho, resolve, invoke, builtin, hd, hs, hrun, Result.andThen]
      refine h _ ?_ ?_
      · refine ⟨?_, .inr ⟨g, c, _, rfl, hB, setRow_heap w g _ _ 164 _ hgg, hnc, hcm, ?_, ?_⟩⟩
        · have := hown.len; simp; omega
        · have : cur.toList.length = c := by simpa using hcs
          simp; omega
        · have hcl : cur.toList.length = c := by simpa using hcs
          exact splice_take cur.toList (xs.map fun x => Value.int .u64 (x : Nat)) (ys.map fun x => Value.int .u64 (x : Nat)) n q ys.length (by simp) (by omega) (by omega) (by simpa using ht) _ (by simp)
      · exact ⟨rfl, rfl, rfl, by simp [World.setRow], fun k _ hk => setRow_other w g k _ (fun e => hk (by rw [e]))⟩

theorem wpList_copy_row {w : World} {ops : Array Oper} {rest : List Oper} {o : Oper} {a : Act} {Q : Exit → Act → World → Prop} (hgd : o.guard = none) (d s : Operand) (dT sT : TypeId)
    (ho : o.op = .call { callee := .builtin .copy, args := #[d, s], argTypes := #[dT, sT] }) (hu : Tryz.prog.underlying dT = some (.slice 164))
    (dp : Option Addr) (dLen dCap : Nat) (hd : a.eval d = .slice dp dLen dCap) (vs : Value) (hs : a.eval s = vs) (B g n c : Nat) (xs : List Nat) (hown : OwnW B w g n c xs) (B' : Nat) (ys : List Nat) (hrow : Row B' .u64 w vs ys)
    (q : Nat) (hdp : 0 < ys.length → dp = some ⟨g, q, none⟩) (hlen : ys.length = dLen) (hfit : q + ys.length ≤ n)
    (h : ∀ w', OwnW B w' g n c (xs.take q ++ (ys ++ xs.drop (q + ys.length))) → w.grownBy w' (some g) → wpList Tryz.prog ops Q rest (a.put o.dst (goInt ys.length)) w') : wpList Tryz.prog ops Q (o :: rest) a w :=
  wpList_plain hgd fun _ hK => wp_copy_row d s dT sT ho hu dp dLen dCap hd vs hs B g n c xs hown B' ys hrow q hdp hlen hfit fun w' h1 h2 => hK _ _ (h w' h1 h2)

theorem size93 : (Tryz.prog.info? 164).map (·.size) = some 1 := by kernel_rfl

/-- A row of words in memory, fresh. -/
def MakesWords (xs : List Nat) (w : World) (e : Ending) (w' : World) : Prop := ∃ v, e = .returned v ∧ Row w.heap.size .u64 w' v xs ∧ Below w.heap.size w w'

set_option maxRecDepth 100000 in
set_option maxHeartbeats 1000000 in
theorem f76_any (B : Nat) (v : Value) (xs : List Nat) (hn : xs.length ≤ 1000) (w : World) (hr : Row B .u64 w v xs) : Calls Tryz.prog 76 #[.slice none 0 0, v] w (MakesWords xs w) := by
  by_cases h0 : xs.length = 0
  · obtain rfl : xs = [] := List.eq_nil_of_length_eq_zero h0
    rcases hr with ⟨_, rfl | ⟨a, c, rfl⟩⟩ | ⟨h, _⟩
    · go_enter Tryz.func76, Tryz.ntmps76
      go_wp2_with (first | (go_at_call 73; refine (f73_zero _).mono ?_; rintro e w' ⟨rfl, rfl⟩) | (refine wpList_copy_nothing rfl (.tmp 9) (.tmp 10) 102 102 rfl 164 Tryz.underlying102 size93 _ _ _ _ _ _ rfl rfl rfl ?_))
      go_ret
      exact ⟨_, rfl, .inl ⟨rfl, .inl rfl⟩, Below.refl _ _⟩
    · go_enter Tryz.func76, Tryz.ntmps76
      go_wp2_with (first | (go_at_call 73; refine (f73_zero _).mono ?_; rintro e w' ⟨rfl, rfl⟩) | (refine wpList_copy_nothing rfl (.tmp 9) (.tmp 10) 102 102 rfl 164 Tryz.underlying102 size93 _ _ _ _ _ _ rfl rfl rfl ?_))
      go_ret
      exact ⟨_, rfl, .inl ⟨rfl, .inl rfl⟩, Below.refl _ _⟩
    · simp at h
  · obtain ⟨a, c, rfl⟩ := hr.len
    have HR := Lib.hid hr
    clear hr
    go_enter Tryz.func76, Tryz.ntmps76
    go_wp2_with fail
    refine (f73_any xs.length (by omega) (by omega) _).mono ?_
    rintro e w1 ⟨g, c1, rfl, ho, hb⟩
    have hlow := ho.low
    have HR1 := Lib.hid (HR.out.below hb (Nat.le_refl _))
    have HO := Lib.hid ho
    have HB := Lib.hid hb
    have HZ : Hid (xs ++ (List.replicate xs.length 0).drop xs.length = xs) := by show _ = _; simp
    clear hb ho
    generalize List.replicate xs.length 0 = Z at *
    have K1 : Hid (0 + xs.length ≤ xs.length) := by show _ ≤ _; omega
    go_wp2_with (refine wpList_copy_row rfl (.tmp 9) (.tmp 10) 102 102 rfl Tryz.underlying102 (some ⟨g, 0, none⟩) xs.length c1 rfl _ rfl w.heap.size g xs.length c1 Z HO.out B xs HR1.out 0 (fun _ => rfl) rfl K1.out ?_)
    intro w2 ho2 hg2
    rw [HZ.out] at ho2
    have HR2 := Lib.hid ho2.row
    have HB2 : Hid (Below w.heap.size w w2) := HB.out.grown hg2 (by omega) (by intro k hk; cases hk; exact hlow.1)
    clear ho2 hg2
    go_wp2_with fail
    go_ret
    exact ⟨_, rfl, HR2.out, HB2.out⟩
end Go.Proofs.YtllgogkjcbdpkaaGreat.Z
