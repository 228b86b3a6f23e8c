/- Walks of the package's great numbers: add of natural numbers. -/
import Derived.Test.YtidkdjnfpepnfaaBig17
namespace Go.Proofs.Ytidkdjnfpepnfaa
open Go.RowKit

theorem Row.cellsOf {B g off c : Nat} {k : IntKind} {w : World} {xs : List Nat} (h : Row B k w (.slice (some ⟨g, off, none⟩) xs.length c) xs) (h0 : 0 < xs.length) :
    xs.length ≤ c ∧ g < w.heap.size ∧ ∀ i, i < xs.length → w.cell? ⟨g, off + i, none⟩ = some (.int k ((xs.getD i 0 : Nat) : Int)) := by
  rcases h with ⟨h, _⟩ | ⟨_, g', o', c', h, h1, _, h2, h3⟩
  · simp [h] at h0
  · cases h; exact ⟨h1, h2, h3⟩
theorem take_getD (xs : List Nat) (n i : Nat) (h : i < n) : (xs.take n).getD i 0 = xs.getD i 0 := by
  simp [List.getD_eq_getElem?_getD, h]
theorem drop_getD (xs : List Nat) (n i : Nat) : (xs.drop n).getD i 0 = xs.getD (n + i) 0 := by
  simp [List.getD_eq_getElem?_getD, List.getElem?_drop]
theorem rep_drop (n k : Nat) : (List.replicate n 0).drop k = List.replicate (n - k) (0 : Nat) := by simp
theorem grown_far {w w1 w2 : World} {g g' : Nat} (hb : Below w.heap.size w w1) (hg : w1.grownBy w2 (some g')) (h : g < w.heap.size) (hg' : w.heap.size ≤ g') {o : Nat} {v : Value} (hc : w.cell? ⟨g, o, none⟩ = some v) : w2.cell? ⟨g, o, none⟩ = some v := by
  rw [hg.cell_far ⟨g, o, none⟩ (Nat.lt_of_lt_of_le h hb.size) (by simp; omega), hb.cell (p := ⟨g, o, none⟩) h]
  exact hc

theorem set_join (V1 V2 : List Nat) (n m c : Nat) (h1 : V1.length = n) (h2 : V2.length = m - n) (h : n ≤ m) :
    ((V1 ++ List.replicate (m + 1 - n) 0).take n ++ (V2 ++ (V1 ++ List.replicate (m + 1 - n) 0).drop m)).set m c = V1 ++ (V2 ++ [c]) := by
  subst h1
  rw [List.take_left', List.drop_append, List.drop_of_length_le (by omega), List.nil_append, List.drop_replicate, show m + 1 - V1.length - (m - V1.length) = 1 from by omega]
  · rw [List.set_append_right _ _ (by omega), List.set_append_right _ _ (by omega), h2]
    simp
  · rfl

set_option maxRecDepth 100000 in
set_option maxHeartbeats 4000000 in
theorem f64_core (gx offx cx gy offy cy B1 B2 : Nat) (xs ys : List Nat) (h0 : 0 < ys.length) (hxy : ys.length ≤ xs.length) (hl : xs.length ≤ 900) (nx ny : Nat) (hx : IsW nx xs) (hy : IsW ny ys) (w : World)
    (hrx : Row B1 .u64 w (.slice (some ⟨gx, offx, none⟩) xs.length cx) xs) (hry : Row B2 .u64 w (.slice (some ⟨gy, offy, none⟩) ys.length cy) ys) :
    Calls Try.prog 64 #[.slice none 0 0, .slice (some ⟨gx, offx, none⟩) xs.length cx, .slice (some ⟨gy, offy, none⟩) ys.length cy] w (MakesNat (nx + ny) w) := by
  obtain ⟨hcx, hgx, hcellx⟩ := hrx.cellsOf (by omega)
  obtain ⟨hcy, hgy, hcelly⟩ := hry.cellsOf h0
  have HCX := Lib.hid hcellx
  have HCY := Lib.hid hcelly
  have HX := Lib.hid hx
  have HY := Lib.hid hy
  have HV := Lib.hid (addAll_val xs ys hxy)
  have HLow := Lib.hid (addAll_low xs ys hx.low hy.low)
  have eT : (xs.take ys.length).length = ys.length := by simp; omega
  have eD : (xs.drop ys.length).length = xs.length - ys.length := by simp
  have hx1 : ∀ d ∈ xs.take ys.length, d < W := fun d h => hx.low d (List.mem_of_mem_take h)
  have hx2 : ∀ d ∈ xs.drop ys.length, d < W := fun d h => hx.low d (List.mem_of_mem_drop h)
  have hc1 : cry addHi (xs.take ys.length) ys 0 ys.length ≤ 1 := cry_add_le _ _ hx1 hy.low 0 (by omega) _
  have HF : Hid (∀ (w1 : World) (g c1 : Nat), OwnW w.heap.size w1 g (xs.length + 1) c1 (List.replicate (xs.length + 1) 0) → Below w.heap.size w w1 → w.heap.size ≤ g →
      Calls Try.prog 81 #[.slice (some ⟨g, 0, none⟩) ys.length c1, .slice (some ⟨gx, offx, none⟩) ys.length cx, .slice (some ⟨gy, offy, none⟩) ys.length cy] w1
        fun e w2 => e = .returned (.int .u64 ((cry addHi (xs.take ys.length) ys 0 ys.length : Nat) : Int)) ∧ OwnW w.heap.size w2 g (xs.length + 1) c1 (vvL addLo addHi (xs.take ys.length) ys 0 ys.length ++ List.replicate (xs.length + 1 - ys.length) 0) ∧ w1.grownBy w2 (some g)) := fun w1 g c1 ho hb hg => by
    have := f81_any w.heap.size g (xs.length + 1) c1 (xs.take ys.length) ys (List.replicate (xs.length + 1) 0) gx offx cx gy offy cy c1 (by rw [eT]) (by rw [eT]; omega) hx1 hy.low w1 ho (by rw [eT]; omega) (by omega) (Nat.lt_of_lt_of_le hgx hb.size) (by omega) (Nat.lt_of_lt_of_le hgy hb.size)
      (fun i hi => by rw [eT] at hi; rw [take_getD xs _ i hi, hb.cell (p := ⟨gx, offx + i, none⟩) hgx]; exact hcellx i (by omega))
      (fun i hi => by rw [eT] at hi; rw [hb.cell (p := ⟨gy, offy + i, none⟩) hgy]; exact hcelly i hi)
    unfold VecPost at this
    rw [eT] at this
    simpa using this
  have HF2 : Hid (∀ (w1 w2 : World) (g c1 : Nat) (Z : List Nat) (cin : Nat), cin ≤ 1 → OwnW w.heap.size w2 g (xs.length + 1) c1 Z → Below w.heap.size w w1 → w1.grownBy w2 (some g) → w.heap.size ≤ g → xs.length + 1 ≤ c1 → ys.length < xs.length →
      Calls Try.prog 82 #[.slice (some ⟨g, ys.length, none⟩) (xs.length - ys.length) (c1 - ys.length), .slice (some ⟨gx, offx + ys.length, none⟩) (xs.length - ys.length) (cx - ys.length), .int .u64 (cin : Int)] w2
        fun e w3 => e = .returned (.int .u64 ((cry addHi (xs.drop ys.length) [] cin (xs.length - ys.length) : Nat) : Int)) ∧ OwnW w.heap.size w3 g (xs.length + 1) c1 (Z.take ys.length ++ (vvL addLo addHi (xs.drop ys.length) [] cin (xs.length - ys.length) ++ Z.drop xs.length)) ∧ w2.grownBy w3 (some g)) := fun w1 w2 g c1 Z cin hcin ho hb hgr hg hc1 hlt => by
    have := f82_any w.heap.size g (xs.length + 1) c1 ys.length (xs.drop ys.length) Z gx (offx + ys.length) (cx - ys.length) (c1 - ys.length) cin (by rw [eD]; omega) (by rw [eD]; omega) hx2 hcin w2 ho (by rw [eD]; omega) (by rw [eD]; omega) (by rw [eD]; omega) (by omega) (Nat.lt_of_lt_of_le (Nat.lt_of_lt_of_le hgx hb.size) hgr.size)
      (fun i hi => by rw [eD] at hi; rw [drop_getD, Nat.add_assoc]; exact grown_far hb hgr hgx hg (hcellx _ (by omega)))
    unfold VecPost at this
    rw [eD, show ys.length + (xs.length - ys.length) = xs.length from by omega] at this
    exact this
  have hne1 : ((xs.length : Int) == 0) = false := by rw [beq_eq_false_iff_ne]; omega
  have hne2 : ((ys.length : Int) == 0) = false := by rw [beq_eq_false_iff_ne]; omega
  have hn3 : (ys.length : Int) ≤ xs.length := by omega
  clear hrx hry hcellx hcelly hx hy hx1 hx2 eT eD
  go_enter Try.func64, Try.ntmps64
  go_wp2_with fail
  refine (f73_int _ (by omega) (by omega) _).mono ?_
  rintro e w1 ⟨g, c1, rfl, ho, hb⟩
  have eN : ((xs.length : Int) + 1).toNat = xs.length + 1 := by omega
  rw [eN] at ho
  rw [eN]
  have hcap := ho.cap
  have hg := ho.low
  have HO := Lib.hid ho
  have HB := Lib.hid hb
  clear ho hb eN
  have hs1 : (ys.length : Int) ≤ c1 := by omega
  have hs2 : (ys.length : Int) ≤ cx := by omega
  have hs3 : (ys.length : Int) ≤ cy := by omega
  have hz1 : ¬ c1 = 0 := by omega
  have hz2 : ¬ cx = 0 := by omega
  have hz3 : ¬ cy = 0 := by omega
  have HBd : Hid (Below w.heap.size w w1.drew) := ⟨HB.out.os, HB.out.tape, HB.out.output, HB.out.size, HB.out.block⟩
  have HF1 := Lib.hid (HF.out w1.drew g c1 HO.out HBd.out hg.1)
  go_wp2_with fail
  go_still_tail 9, (by kernel_rfl)
  change wpList Try.prog _ _ _ _ (World.drew w1)
  generalize w1.drew = w1d at *
  go_wp2_with fail
  refine HF1.out.mono ?_
  rintro e w2 ⟨rfl, ho2, hg2⟩
  obtain ⟨c, hcd⟩ : ∃ c, c = cry addHi (xs.take ys.length) ys 0 ys.length := ⟨_, rfl⟩
  rw [← hcd] at hc1
  rw [← hcd]
  have HCD := Lib.hid hcd
  have HO2 := Lib.hid ho2
  have HG2 := Lib.hid hg2
  clear hcd ho2 hg2 HF1 HF HO HB
  by_cases hmn : ys.length < xs.length
  · have hz4 : ¬ c1 = ys.length := by omega
    have hz5 : ¬ cx = ys.length := by omega
    have hs4 : (xs.length : Int) ≤ c1 := by omega
    have HF3 := Lib.hid (HF2.out w1d w2.drew g c1 _ c hc1 (show OwnW _ w2.drew _ _ _ _ from HO2.out) HBd.out ⟨HG2.out.os, HG2.out.tape, HG2.out.output, HG2.out.size, HG2.out.block⟩ hg.1 hcap hmn)
    have HG2d : Hid (w1d.grownBy w2.drew (some g)) := ⟨HG2.out.os, HG2.out.tape, HG2.out.output, HG2.out.size, HG2.out.block⟩
    clear HF2
    go_wp2_with fail
    go_still_tail 8, (by kernel_rfl)
    change wpList Try.prog _ _ _ _ (World.drew w2)
    generalize w2.drew = w2d at *
    go_wp2_with fail
    refine HF3.out.mono ?_
    rintro e w3 ⟨rfl, ho3, hg3⟩
    have HO3 := Lib.hid (ho3.stored xs.length (cry addHi (xs.drop ys.length) [] c (xs.length - ys.length)))
    have HE : Hid ((List.take ys.length (vvL addLo addHi (List.take ys.length xs) ys 0 ys.length ++ List.replicate (xs.length + 1 - ys.length) 0) ++ (vvL addLo addHi (List.drop ys.length xs) [] c (xs.length - ys.length) ++ List.drop xs.length (vvL addLo addHi (List.take ys.length xs) ys 0 ys.length ++ List.replicate (xs.length + 1 - ys.length) 0))).set xs.length (cry addHi (xs.drop ys.length) [] c (xs.length - ys.length)) = addAll xs ys) := by
      show _ = _
      rw [set_join _ _ _ _ _ (vvL_len _ _ _ _ _ _) (vvL_len _ _ _ _ _ _) hxy, HCD.out]; rfl
    rw [HE.out] at HO3
    have zc := ho3.cell xs.length (by omega)
    have zf := ho3.free xs.length
    have HB3 := Lib.hid ((HBd.out.grown (HG2d.out) (by have := HBd.out.size; omega) (by intro q hq; cases hq; exact hg.1)).grown hg3 (by have := HBd.out.size; have := HG2d.out.size; omega) (by intro q hq; cases hq; exact hg.1))
    have HB4 := Lib.hid (HB3.out.setCell (p := ⟨g, xs.length, none⟩) hg.1 (.int .u64 ((cry addHi (xs.drop ys.length) [] c (xs.length - ys.length) : Nat) : Int)))
    generalize (List.take ys.length (vvL addLo addHi (List.take ys.length xs) ys 0 ys.length ++ List.replicate (xs.length + 1 - ys.length) 0) ++ (vvL addLo addHi (List.drop ys.length xs) [] c (xs.length - ys.length) ++ List.drop xs.length (vvL addLo addHi (List.take ys.length xs) ys 0 ys.length ++ List.replicate (xs.length + 1 - ys.length) 0))).getD xs.length 0 = z0 at *
    generalize cry addHi (xs.drop ys.length) [] c (xs.length - ys.length) = c2 at *
    clear ho3 hg3 HE HF3 HO2 HG2 HG2d HBd HCD HB3
    go_wp2_with fail
    refine (f75_any w.heap.size g (xs.length + 1) c1 (addAll xs ys) (by omega) _ HO3.out).mono ?_
    rintro e w4 ⟨rfl, rfl⟩
    go_wp2_with fail
    go_ret
    refine ⟨_, trim (addAll xs ys), rfl, ?_, ?_, HB4.out⟩
    · have := Row.take (trim (addAll xs ys)).length (by rw [← HO3.out.len]; exact trim_len _) HO3.out.row
      rwa [trim_take_len] at this
    · rw [← HX.out.val, ← HY.out.val, ← HV.out]; exact IsW.ofTrim _ HLow.out
  · have hEq : ys.length = xs.length := by omega
    have HO3 := Lib.hid (HO2.out.stored xs.length c)
    have HE : Hid ((vvL addLo addHi (List.take ys.length xs) ys 0 ys.length ++ List.replicate (xs.length + 1 - ys.length) 0).set xs.length c = addAll xs ys) := by
      show _ = _
      have := set_join (vvL addLo addHi (List.take ys.length xs) ys 0 ys.length) [] ys.length xs.length c (vvL_len _ _ _ _ _ _) (by simp; omega) (by omega)
      unfold addAll
      rw [← HCD.out, hEq, Nat.sub_self]
      rw [hEq, show xs.length + 1 - xs.length = 1 from by omega] at *
      rw [List.set_append_right _ _ (by rw [vvL_len]; omega), vvL_len, Nat.sub_self]
      simp [vvL, cry]
    rw [HE.out] at HO3
    have zc := HO2.out.cell xs.length (by omega)
    have zf := HO2.out.free xs.length
    have HB3 := Lib.hid (HBd.out.grown (HG2.out) (by have := HBd.out.size; omega) (by intro q hq; cases hq; exact hg.1))
    have HB4 := Lib.hid (HB3.out.setCell (p := ⟨g, xs.length, none⟩) hg.1 (.int .u64 (c : Int)))
    generalize (vvL addLo addHi (List.take ys.length xs) ys 0 ys.length ++ List.replicate (xs.length + 1 - ys.length) 0).getD xs.length 0 = z0 at *
    clear HE HF2 HO2 HG2 HBd HCD HB3 hEq
    go_wp2_with fail
    refine (f75_any w.heap.size g (xs.length + 1) c1 (addAll xs ys) (by omega) _ HO3.out).mono ?_
    rintro e w4 ⟨rfl, rfl⟩
    go_wp2_with fail
    go_ret
    refine ⟨_, trim (addAll xs ys), rfl, ?_, ?_, HB4.out⟩
    · have := Row.take (trim (addAll xs ys)).length (by rw [← HO3.out.len]; exact trim_len _) HO3.out.row
      rwa [trim_take_len] at this
    · rw [← HX.out.val, ← HY.out.val, ← HV.out]; exact IsW.ofTrim _ HLow.out
end Go.Proofs.Ytidkdjnfpepnfaa
