/- Walks of the package's great numbers: sub and cmp of natural numbers. -/
import Derived.Test.YtidkdjnfpepnfaaBig18
namespace Go.Proofs.Ytidkdjnfpepnfaa
open Go.RowKit

set_option maxRecDepth 100000 in
theorem f64_ge (B1 B2 : Nat) (v1 v2 : Value) (xs ys : List Nat) (hxy : ys.length ≤ xs.length) (hl : xs.length ≤ 900) (nx ny : Nat) (hx : IsW nx xs) (hy : IsW ny ys) (w : World) (h1 : Row B1 .u64 w v1 xs) (h2 : Row B2 .u64 w v2 ys) :
    Calls Try.prog 64 #[.slice none 0 0, v1, v2] w (MakesNat (nx + ny) w) := by
  by_cases hy0 : ys.length = 0
  · have ey : ys = [] := List.eq_nil_of_length_eq_zero hy0
    have hny : ny = 0 := by rw [← hy.val, ey]; rfl
    subst hny
    obtain ⟨a2, c2, rfl⟩ := h2.len
    by_cases hx0 : xs.length = 0
    · have ex : xs = [] := List.eq_nil_of_length_eq_zero hx0
      have hnx : nx = 0 := by rw [← hx.val, ex]; rfl
      subst hnx
      obtain ⟨a1, c1, rfl⟩ := h1.len
      rw [hx0, hy0]
      clear h1 h2 hx hy ex ey hxy hl hx0 hy0
      go_enter Try.func64, Try.ntmps64
      go_wp2
      go_ret
      exact ⟨_, [], rfl, .inl ⟨rfl, .inl rfl⟩, isW_nil, Below.refl _ _⟩
    · have HF := Lib.hid (f71_any B1 v1 xs (by omega) w h1)
      obtain ⟨a1, c1, rfl⟩ := h1.len
      have HX := Lib.hid hx
      have hne1 : ((xs.length : Int) == 0) = false := by rw [beq_eq_false_iff_ne]; omega
      rw [hy0]
      clear h1 h2 hx hy ey
      go_enter Try.func64, Try.ntmps64
      go_wp2_with fail
      refine HF.out.mono ?_
      rintro e w2 ⟨v2, rfl, hr, hb⟩
      have HR := Lib.hid hr
      have HB := Lib.hid hb
      clear hr hb
      go_wp2_with fail
      go_ret
      exact ⟨v2, xs, rfl, HR.out, HX.out, HB.out⟩
  · have hx0 : 0 < xs.length := by omega
    rcases h1 with ⟨h, _⟩ | ⟨p, gx, ox, cx, rfl, q⟩
    · simp [h] at hx0
    rcases h2 with ⟨h, _⟩ | ⟨p', gy, oy, cy, rfl, q'⟩
    · simp [h] at hy0
    exact f64_core gx ox cx gy oy cy B1 B2 xs ys (by omega) hxy hl nx ny hx hy w (.inr ⟨p, gx, ox, cx, rfl, q⟩) (.inr ⟨p', gy, oy, cy, rfl, q'⟩)
set_option maxRecDepth 100000 in
theorem f64_any (B1 B2 : Nat) (v1 v2 : Value) (xs ys : List Nat) (hl : xs.length ≤ 900) (hl2 : ys.length ≤ 900) (nx ny : Nat) (hx : IsW nx xs) (hy : IsW ny ys) (w : World) (h1 : Row B1 .u64 w v1 xs) (h2 : Row B2 .u64 w v2 ys) :
    Calls Try.prog 64 #[.slice none 0 0, v1, v2] w (MakesNat (nx + ny) w) := by
  by_cases hxy : ys.length ≤ xs.length
  · exact f64_ge B1 B2 v1 v2 xs ys hxy hl nx ny hx hy w h1 h2
  · have HF := Lib.hid (f64_ge B2 B1 v2 v1 ys xs (by omega) hl2 ny nx hy hx w h2 h1)
    obtain ⟨a1, c1, rfl⟩ := h1.len
    obtain ⟨a2, c2, rfl⟩ := h2.len
    rw [Nat.add_comm nx ny]
    have hlt : (xs.length : Int) < ys.length := by omega
    clear h1 h2 hx hy
    go_enter Try.func64, Try.ntmps64
    go_wp2_with fail
    refine HF.out.mono ?_
    rintro e w2 ⟨v2, zs, rfl, hr, hn, hb⟩
    have HR := Lib.hid hr
    have HN := Lib.hid hn
    have HB := Lib.hid hb
    clear hr hb hn HF
    go_wp2_with fail
    go_ret
    exact ⟨v2, zs, rfl, HR.out, HN.out, HB.out⟩

theorem set_join2 (V1 V2 : List Nat) (n m : Nat) (h1 : V1.length = n) (h2 : V2.length = m - n) (h : n ≤ m) :
    ((V1 ++ List.replicate (m - n) 0).take n ++ (V2 ++ (V1 ++ List.replicate (m - n) 0).drop m)) = V1 ++ V2 := by
  subst h1
  rw [List.take_left', List.drop_append, List.drop_of_length_le (by omega), List.nil_append, List.drop_replicate, Nat.sub_self]
  · simp
  · rfl

set_option maxRecDepth 100000 in
set_option maxHeartbeats 4000000 in
theorem f66_core (gx offx cx gy offy cy B1 B2 : Nat) (xs ys : List Nat) (h0 : 0 < ys.length) (hl : xs.length ≤ 900) (nx ny : Nat) (hx : IsW nx xs) (hy : IsW ny ys) (hge : ny ≤ nx) (w : World)
    (hrx : Row B1 .u64 w (.slice (some ⟨gx, offx, none⟩) xs.length cx) xs) (hry : Row B2 .u64 w (.slice (some ⟨gy, offy, none⟩) ys.length cy) ys) :
    Calls Try.prog 66 #[.slice none 0 0, .slice (some ⟨gx, offx, none⟩) xs.length cx, .slice (some ⟨gy, offy, none⟩) ys.length cy] w (MakesNat (nx - ny) w) := by
  have hxy : ys.length ≤ xs.length := by
    by_cases h : ys.length ≤ xs.length
    · exact h
    · have := hx.len_less hy (by omega); omega
  obtain ⟨hcx, hgx, hcellx⟩ := hrx.cellsOf (by omega)
  obtain ⟨hcy, hgy, hcelly⟩ := hry.cellsOf h0
  have HCX := Lib.hid hcellx
  have HCY := Lib.hid hcelly
  have HX := Lib.hid hx
  have HY := Lib.hid hy
  have HEnd := Lib.hid (subEnd_zero xs ys hx.low hy.low hxy (by rw [hx.val, hy.val]; exact hge))
  have HV := Lib.hid (subAll_val xs ys hx.low hy.low hxy)
  have HLow := Lib.hid (subAll_low xs ys)
  have HLen := Lib.hid (subAll_len xs ys hxy)
  have eT : (xs.take ys.length).length = ys.length := by simp; omega
  have eD : (xs.drop ys.length).length = xs.length - ys.length := by simp
  have hx2 : ∀ d ∈ xs.drop ys.length, d < W := fun d h => hx.low d (List.mem_of_mem_drop h)
  have HF : Hid (∀ (w1 : World) (g c1 : Nat), OwnW w.heap.size w1 g xs.length c1 (List.replicate xs.length 0) → Below w.heap.size w w1 → w.heap.size ≤ g →
      Calls Try.prog 83 #[.slice (some ⟨g, 0, none⟩) ys.length c1, .slice (some ⟨gx, offx, none⟩) ys.length cx, .slice (some ⟨gy, offy, none⟩) ys.length cy] w1
        fun e w2 => e = .returned (.int .u64 ((cry subHi (xs.take ys.length) ys 0 ys.length : Nat) : Int)) ∧ OwnW w.heap.size w2 g xs.length c1 (vvL subLo subHi (xs.take ys.length) ys 0 ys.length ++ List.replicate (xs.length - ys.length) 0) ∧ w1.grownBy w2 (some g)) := fun w1 g c1 ho hb hg => by
    have := f83_any w.heap.size g xs.length c1 (xs.take ys.length) ys (List.replicate xs.length 0) gx offx cx gy offy cy c1 (by rw [eT]) (by rw [eT]; omega) w1 ho (by rw [eT]; omega) (by omega) (Nat.lt_of_lt_of_le hgx hb.size) (by omega) (Nat.lt_of_lt_of_le hgy hb.size)
      (fun i hi => by rw [eT] at hi; rw [take_getD xs _ i hi, hb.cell (p := ⟨gx, offx + i, none⟩) hgx]; exact hcellx i (by omega))
      (fun i hi => by rw [eT] at hi; rw [hb.cell (p := ⟨gy, offy + i, none⟩) hgy]; exact hcelly i hi)
    unfold VecPost at this
    rw [eT] at this
    simpa using this
  have HF2 : Hid (∀ (w1 w2 : World) (g c1 : Nat) (Z : List Nat) (cin : Nat), OwnW w.heap.size w2 g xs.length c1 Z → Below w.heap.size w w1 → w1.grownBy w2 (some g) → w.heap.size ≤ g → xs.length ≤ c1 → ys.length < xs.length →
      Calls Try.prog 84 #[.slice (some ⟨g, ys.length, none⟩) (xs.length - ys.length) (c1 - ys.length), .slice (some ⟨gx, offx + ys.length, none⟩) (xs.length - ys.length) (cx - ys.length), .int .u64 (cin : Int)] w2
        fun e w3 => e = .returned (.int .u64 ((cry subHi (xs.drop ys.length) [] cin (xs.length - ys.length) : Nat) : Int)) ∧ OwnW w.heap.size w3 g xs.length c1 (Z.take ys.length ++ (vvL subLo subHi (xs.drop ys.length) [] cin (xs.length - ys.length) ++ Z.drop xs.length)) ∧ w2.grownBy w3 (some g)) := fun w1 w2 g c1 Z cin ho hb hgr hg hc1 hlt => by
    have := f84_any w.heap.size g xs.length c1 ys.length (xs.drop ys.length) Z gx (offx + ys.length) (cx - ys.length) (c1 - ys.length) cin (by rw [eD]; omega) (by rw [eD]; omega) hx2 w2 ho (by rw [eD]; omega) (by rw [eD]; omega) (by rw [eD]; omega) (by omega) (Nat.lt_of_lt_of_le (Nat.lt_of_lt_of_le hgx hb.size) hgr.size)
      (fun i hi => by rw [eD] at hi; rw [drop_getD, Nat.add_assoc]; exact grown_far hb hgr hgx hg (hcellx _ (by omega)))
    unfold VecPost at this
    rw [eD, show ys.length + (xs.length - ys.length) = xs.length from by omega] at this
    exact this
  have hne1 : ((xs.length : Int) == 0) = false := by rw [beq_eq_false_iff_ne]; omega
  have hne2 : ((ys.length : Int) == 0) = false := by rw [beq_eq_false_iff_ne]; omega
  have hn3 : (ys.length : Int) ≤ xs.length := by omega
  clear hrx hry hcellx hcelly hx hy hx2 eT eD
  go_enter Try.func66, Try.ntmps66
  go_wp2_with fail
  refine (f73_int _ (by omega) (by omega) _).mono ?_
  rintro e w1 ⟨g, c1, rfl, ho, hb⟩
  rw [Int.toNat_natCast] at ho
  rw [Int.toNat_natCast]
  have hcap := ho.cap
  have hg := ho.low
  have HO := Lib.hid ho
  have HB := Lib.hid hb
  clear ho hb
  have hs1 : (ys.length : Int) ≤ c1 := by omega
  have hs2 : (ys.length : Int) ≤ cx := by omega
  have hs3 : (ys.length : Int) ≤ cy := by omega
  have hz1 : ¬ c1 = 0 := by omega
  have hz2 : ¬ cx = 0 := by omega
  have hz3 : ¬ cy = 0 := by omega
  have HBd : Hid (Below w.heap.size w w1.drew) := ⟨HB.out.os, HB.out.tape, HB.out.output, HB.out.size, HB.out.block⟩
  have HF1 := Lib.hid (HF.out w1.drew g c1 HO.out HBd.out hg.1)
  go_wp2_with fail
  go_still_tail 9, (by kernel_rfl)
  change wpList Try.prog _ _ _ _ (World.drew w1)
  generalize w1.drew = w1d at *
  go_wp2_with fail
  refine HF1.out.mono ?_
  rintro e w2 ⟨rfl, ho2, hg2⟩
  obtain ⟨c, hcd⟩ : ∃ c, c = cry subHi (xs.take ys.length) ys 0 ys.length := ⟨_, rfl⟩
  rw [← hcd]
  have HCD := Lib.hid hcd
  have HO2 := Lib.hid ho2
  have HG2 := Lib.hid hg2
  clear hcd ho2 hg2 HF1 HF HO HB
  have HVV : Hid (IsW (nx - ny) (trim (subAll xs ys))) := by
    have h1 := HV.out
    rw [HEnd.out, HX.out.val, HY.out.val] at h1
    have h2 : wv (subAll xs ys) = nx - ny := by simp only [Nat.mul_zero, Nat.add_zero] at h1; omega
    show IsW _ _
    rw [← h2]; exact IsW.ofTrim _ HLow.out
  clear HV
  by_cases hmn : ys.length < xs.length
  · have hz4 : ¬ c1 = ys.length := by omega
    have hz5 : ¬ cx = ys.length := by omega
    have hs4 : (xs.length : Int) ≤ c1 := by omega
    have HF3 := Lib.hid (HF2.out w1d w2.drew g c1 _ c (show OwnW _ w2.drew _ _ _ _ from HO2.out) HBd.out ⟨HG2.out.os, HG2.out.tape, HG2.out.output, HG2.out.size, HG2.out.block⟩ hg.1 hcap hmn)
    have HG2d : Hid (w1d.grownBy w2.drew (some g)) := ⟨HG2.out.os, HG2.out.tape, HG2.out.output, HG2.out.size, HG2.out.block⟩
    clear HF2
    go_wp2_with fail
    go_still_tail 7, (by kernel_rfl)
    change wpList Try.prog _ _ _ _ (World.drew w2)
    generalize w2.drew = w2d at *
    go_wp2_with fail
    refine HF3.out.mono ?_
    rintro e w3 ⟨rfl, ho3, hg3⟩
    have HZ : Hid (cry subHi (xs.drop ys.length) [] c (xs.length - ys.length) = 0) := by
      show _ = _
      have := HEnd.out
      unfold subEnd at this
      rwa [← HCD.out] at this
    rw [HZ.out]
    rw [set_join2 _ _ _ _ (vvL_len _ _ _ _ _ _) (vvL_len _ _ _ _ _ _) hxy, HCD.out] at ho3
    have HO3 : Hid (OwnW w.heap.size w3 g xs.length c1 (subAll xs ys)) := ho3
    have HB3 := Lib.hid ((HBd.out.grown (HG2d.out) (by have := HBd.out.size; omega) (by intro q hq; cases hq; exact hg.1)).grown hg3 (by have := HBd.out.size; have := HG2d.out.size; omega) (by intro q hq; cases hq; exact hg.1))
    clear ho3 hg3 HF3 HO2 HG2 HG2d HBd HCD HZ HEnd
    go_wp2_with fail
    refine (f75_any w.heap.size g xs.length c1 (subAll xs ys) (by omega) _ HO3.out).mono ?_
    rintro e w4 ⟨rfl, rfl⟩
    go_wp2_with fail
    go_ret
    refine ⟨_, trim (subAll xs ys), rfl, ?_, HVV.out, HB3.out⟩
    have := Row.take (trim (subAll xs ys)).length (by rw [← HO3.out.len]; exact trim_len _) HO3.out.row
    rwa [trim_take_len] at this
  · have hEq : ys.length = xs.length := by omega
    have hE0 : xs.length - ys.length = 0 := by omega
    have HZ : Hid (c = 0) := by
      show _ = _
      have := HEnd.out
      unfold subEnd at this
      rw [← HCD.out, hE0] at this
      exact this
    have HO3 : Hid (OwnW w.heap.size w2 g xs.length c1 (subAll xs ys)) := by
      have := HO2.out
      show OwnW _ _ _ _ _ _
      unfold subAll
      rw [hE0] at *
      simpa [vvL] using this
    have HB3 := Lib.hid (HBd.out.grown (HG2.out) (by have := HBd.out.size; omega) (by intro q hq; cases hq; exact hg.1))
    rw [HZ.out]
    clear HF2 HO2 HG2 HBd HCD hEq hE0 HZ HEnd
    go_wp2_with fail
    refine (f75_any w.heap.size g xs.length c1 (subAll xs ys) (by omega) _ HO3.out).mono ?_
    rintro e w4 ⟨rfl, rfl⟩
    go_wp2_with fail
    go_ret
    refine ⟨_, trim (subAll xs ys), rfl, ?_, HVV.out, HB3.out⟩
    have := Row.take (trim (subAll xs ys)).length (by rw [← HO3.out.len]; exact trim_len _) HO3.out.row
    rwa [trim_take_len] at this
end Go.Proofs.Ytidkdjnfpepnfaa
