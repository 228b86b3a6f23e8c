/- Walks of the package's great numbers: a borrow goes on. -/
import Derived.Test.YtidkdjnfpepnfaaBig16
namespace Go.Proofs.Ytidkdjnfpepnfaa
open Go.RowKit

set_option maxRecDepth 100000 in
set_option maxHeartbeats 4000000 in
theorem f84_any (B g N c q : Nat) (xs Z : List Nat) (gx off cx cz cin : Nat) (h0 : 0 < xs.length) (hl : xs.length ≤ 1000) (hxlow : ∀ d ∈ xs, d < W) (w : World) (ho : OwnW B w g N c Z) (hq : q + xs.length ≤ N)
    (hcz : xs.length ≤ cz) (hcx : xs.length ≤ cx) (hne : gx ≠ g) (hgx : gx < w.heap.size)
    (hcell : ∀ i, i < xs.length → w.cell? ⟨gx, off + i, none⟩ = some (.int .u64 ((xs.getD i 0 : Nat) : Int))) :
    Calls Try.prog 84 #[.slice (some ⟨g, q, none⟩) xs.length cz, .slice (some ⟨gx, off, none⟩) xs.length cx, .int .u64 cin] w (VecPost subLo subHi B g N c q xs [] cin Z w) := by
  have HC := Lib.hid hcell
  have HD := Lib.hid hxlow
  have HQ := Lib.hid hq
  have HL := Lib.hid ho.len
  have hne0 : ((xs.length : Int) == 0) = false := by rw [beq_eq_false_iff_ne]; omega
  have hp0 : (0 : Int) < xs.length := by omega
  have hp1 : (1 : Int) ≤ xs.length := by omega
  have ci := hcell 0 h0
  rw [Nat.add_zero] at ci
  have zc := ho.cell q (by omega)
  have zf := ho.free q
  have HS0 : Hid (Z.set q (subLo (xs.getD 0 0) 0 cin) = Part subLo subHi q xs cin Z 1) := by
    show _ = _
    have := Part.step subLo subHi q xs cin Z 0 (by rw [HL.out]; omega) (subLo (xs.getD 0 0) 0 cin) rfl
    rwa [Part.start, Nat.add_zero] at this
  have HO' := Lib.hid (ho.stored q (subLo (xs.getD 0 0) 0 cin))
  rw [HS0.out] at HO'
  have HP := Lib.hid (fun m => ptr_words HO'.out (set_other (p := ⟨g, q, none⟩) (u := .int .u64 ((subLo (xs.getD 0 0) 0 cin : Nat) : Int)) ci hne) hne q m)
  have HE1 : Hid (cry subHi xs [] cin 1 = subHi (xs.getD 0 0) 0 cin) := rfl
  have HG' := Lib.hid ((World.grownBy.refl w (some g)).setCell g q (.int .u64 ((subLo (xs.getD 0 0) 0 cin : Nat) : Int)))
  have HH : Hid (subHi (xs.getD 0 0) 0 cin ≤ 1) := subHi_le _ _ _
  have hgs : w.heap.size ≤ (w.setCell ⟨g, q, none⟩ (.int .u64 ((subLo (xs.getD 0 0) 0 cin : Nat) : Int))).heap.size := HG'.out.size
  clear hcell hxlow ho HS0
  generalize Z.getD q 0 = z0 at *
  generalize xs.getD 0 0 = x at *
  have HF := Lib.hid (fun w => f92_zero x cin w)
  generalize subLo x 0 cin = l at *
  generalize subHi x 0 cin = h at *
  by_cases hh : h = 0
  · subst hh
    have HE : Hid (CarryEnd subLo subHi B g N c q xs cin Z w (w.setCell ⟨g, q, none⟩ (.int .u64 (l : Int))) 1) := ⟨HO'.out, HE1.out, h0, HG'.out⟩
    by_cases h1 : xs.length = 1
    · have HN1 : Hid (1 = xs.length) := h1.symm
      have hc : (cz = 1 ∨ ¬ cz = 1) ∧ (cx = 1 ∨ ¬ cx = 1) := by omega
      obtain ⟨hz1 | hz1, hx1 | hx1⟩ := hc
      all_goals
        clear h1
        go_enter Try.func84, Try.ntmps84
        go_wp2_with fail
        refine (HF.out _).mono ?_
        rintro e w' ⟨rfl, rfl⟩
        have hp := HP.out
        go_wp2_with fail
        go_quiet (fail)
        go_wp2_with fail
        clear hp
        go_still_tail 4, (by kernel_rfl)
        change wpList Try.prog _ _ _ _ (World.drewN _ nq).drew
        refine wpList_copy_nothing rfl (.tmp 40) (.tmp 42) 68 68 rfl 93 Try.underlying68 size93 _ _ _ _ _ _ rfl rfl (by have := HN1.out; simp [← this]) ?_
        have HV := Lib.hid (HE.out.post0 HN1.out nq)
        go_wp2_with fail
        go_ret
        exact HV.out
    · have hz1 : ¬ cz = 1 := by omega
      have hx1 : ¬ cx = 1 := by omega
      have HR := Lib.hid (cell_row (B := 0) (k := 1) (w := w.setCell ⟨g, q, none⟩ (.int .u64 (l : Int))) (Nat.zero_le _) (Nat.lt_of_lt_of_le hgx hgs) hcx (by omega) (fun i hi => set_other (p := ⟨g, q, none⟩) (u := .int .u64 (l : Int)) (HC.out i hi) hne))
      clear h1
      go_enter Try.func84, Try.ntmps84
      go_wp2_with fail
      refine (HF.out _).mono ?_
      rintro e w' ⟨rfl, rfl⟩
      have hp := HP.out
      go_wp2_with fail
      go_quiet (fail)
      go_wp2_with fail
      clear hp
      go_still_tail 4, (by kernel_rfl)
      change wpList Try.prog _ _ _ _ (World.drewN _ nq).drew
      refine wpList_copy_row rfl (.tmp 40) (.tmp 42) 68 68 rfl Try.underlying68 (some ⟨g, q + 1, none⟩) (xs.length - 1) (cz - 1) rfl _ rfl B g N c _ HO'.out 0 (xs.drop 1) HR.out (q + 1) (fun _ => rfl) (by simp) (by have := HQ.out; simp; omega) ?_
      intro w2 ho2 hg2
      have HV := Lib.hid (HE.out.post subHi_zero subLo_zero HD.out (by rw [HL.out]; exact HQ.out) ho2 ⟨hg2.os, hg2.tape, hg2.output, hg2.size, hg2.block⟩)
      clear ho2 hg2
      go_wp2_with fail
      go_ret
      exact HV.out
  · obtain rfl : h = 1 := by have := HH.out; omega
    go_enter Try.func84, Try.ntmps84
    go_wp2_with fail
    refine (HF.out _).mono ?_
    rintro e w' ⟨rfl, rfl⟩
    clear HP HF HH hh
    go_wp2_with fail
    go_loopw [9] (fun vi wr => ∃ i : Nat, vi = .int .i64 i ∧ i ≤ xs.length ∧ 1 ≤ i ∧ Hid (cry subHi xs [] cin i = 1) ∧ Hid (OwnW B wr g N c (Part subLo subHi q xs cin Z i)) ∧ Hid (w.grownBy wr (some g))) (fun vi _ => xs.length - (intOf vi).toNat)
    case atStart => exact ⟨1, rfl, by omega, Nat.le_refl _, HE1.out, HO'.out, HG'.out⟩
    case round =>
      clear HE1 HO' HG' hgs ci zc zf
      obtain ⟨i, rfl, hi, hi1, HCI, HOr, HG⟩ := hrel
      by_cases hlt : i < xs.length
      · have ci := (HG.out.cell_far ⟨gx, off + i, none⟩ hgx (by simpa using hne)).trans (HC.out i hlt)
        have c0 := (HG.out.cell_far ⟨gx, off + 0, none⟩ hgx (by simpa using hne)).trans (HC.out 0 h0)
        rw [Nat.add_zero] at c0
        have zc := HOr.out.cell (q + i) (by have := HQ.out; omega)
        have zf := HOr.out.free (q + i)
        have HLo : Hid (xs.getD i 0 < W) := getD_lt xs HD.out i
        have HCS : Hid (cry subHi xs [] cin (i + 1) = subHi (xs.getD i 0) 0 1) := by show subHi _ _ _ = _; rw [HCI.out]; rfl
        have HST : Hid (∀ v, v = subLo (xs.getD i 0) 0 1 → OwnW B (wr.setCell ⟨g, q + i, none⟩ (.int .u64 (v : Int))) g N c (Part subLo subHi q xs cin Z (i + 1))) := fun v hv => by
          have := HOr.out.stored (q + i) v
          rwa [Part.step subLo subHi q xs cin Z i (by rw [HL.out]; have := HQ.out; omega) v (by rw [HCI.out]; exact hv)] at this
        have HGS : Hid (∀ v : Nat, w.grownBy (wr.setCell ⟨g, q + i, none⟩ (.int .u64 (v : Int))) (some g)) := fun v => HG.out.setCell g (q + i) _
        generalize (Part subLo subHi q xs cin Z i).getD (q + i) 0 = z1 at *
        by_cases hm : xs.getD i 0 = 0
        · have hmb : ((xs.getD i 0 : Int) != 0) = false := by rw [hm]; rfl
          have HCS1 : Hid (cry subHi xs [] cin (i + 1) = 1) := by show _ = _; rw [HCS.out, hm]; decide
          have HO2 := Lib.hid (HST.out 18446744073709551615 (by rw [hm]; decide))
          have HG2 := Lib.hid (HGS.out 18446744073709551615)
          clear hm HCS HST HGS
          generalize xs.getD i 0 = y at *
          go_wp2
          go_roundw
          case rel => exact ⟨i + 1, by go_num, by omega, by omega, HCS1, HO2, HG2⟩
          case measure => simp [intOf]; omega
        · have hmb : ((xs.getD i 0 : Int) != 0) = true := by
            rw [bne_iff_ne]; omega
          have hyW := HLo.out
          unfold W at hyW
          have hy1 : (1 : Int) ≤ (xs.getD i 0 : Int) := by omega
          have hy2 : (xs.getD i 0 : Int) < 18446744073709551616 := by omega
          have hyc : Hid (((xs.getD i 0 - 1 : Nat) : Int) = (xs.getD i 0 : Int) - 1) := by show _ = _; omega
          have HV1 : Hid (subLo (xs.getD i 0) 0 1 = xs.getD i 0 - 1) := by show _ = _; unfold subLo W; omega
          have HCS0 : Hid (cry subHi xs [] cin (i + 1) = 0) := by show _ = _; rw [HCS.out]; unfold subHi; rw [if_neg (by omega)]
          have HO2 : Hid (OwnW B (wr.setCell ⟨g, q + i, none⟩ (.int .u64 ((xs.getD i 0 : Int) - 1))) g N c (Part subLo subHi q xs cin Z (i + 1))) := by
            have := HST.out (xs.getD i 0 - 1) HV1.out.symm
            rwa [hyc.out] at this
          have HG2 : Hid (w.grownBy (wr.setCell ⟨g, q + i, none⟩ (.int .u64 ((xs.getD i 0 : Int) - 1))) (some g)) := by
            have := HGS.out (xs.getD i 0 - 1)
            rwa [hyc.out] at this
          have HP := Lib.hid (fun m => ptr_words HO2.out (set_other (p := ⟨g, q + i, none⟩) (u := .int .u64 ((xs.getD i 0 : Int) - 1)) c0 hne) hne q m)
          have HE : Hid (CarryEnd subLo subHi B g N c q xs cin Z w (wr.setCell ⟨g, q + i, none⟩ (.int .u64 ((xs.getD i 0 : Int) - 1))) (i + 1)) := ⟨HO2.out, HCS0.out, hlt, HG2.out⟩
          have HCC : Hid (∀ j, j < xs.length → (wr.setCell ⟨g, q + i, none⟩ (.int .u64 ((xs.getD i 0 : Int) - 1))).cell? ⟨gx, off + j, none⟩ = some (.int .u64 ((xs.getD j 0 : Nat) : Int))) := fun j hj =>
            set_other (p := ⟨g, q + i, none⟩) (u := .int .u64 ((xs.getD i 0 : Int) - 1)) ((HG.out.cell_far ⟨gx, off + j, none⟩ hgx (by simpa using hne)).trans (HC.out j hj)) hne
          have hgs : gx < (wr.setCell ⟨g, q + i, none⟩ (.int .u64 ((xs.getD i 0 : Int) - 1))).heap.size := Nat.lt_of_lt_of_le hgx HG2.out.size
          clear hyc hyW HV1 HCS0 HGS HST HCS HLo HG HOr hm
          generalize xs.getD i 0 = y at *
          by_cases h1 : i + 1 = xs.length
          · have HN1 := Lib.hid h1
            have hc : (cz = i + 1 ∨ ¬ cz = i + 1) ∧ (cx = i + 1 ∨ ¬ cx = i + 1) := by omega
            have ew : IntKind.i64.wrap ((i : Int) + 1) = (i : Int) + 1 := by rw [IntKind.wrap_i64]; omega
            have et : ((i : Int) + 1).toNat = i + 1 := by omega
            have e0 : (0 : Int) ≤ (i : Int) + 1 := by omega
            have el : (i : Int) + 1 ≤ xs.length := by omega
            obtain ⟨hz1 | hz1, hx1 | hx1⟩ := hc
            all_goals
              clear h1
              have hp := HP.out
              go_wp2_with fail
              go_quiet (fail)
              go_wp2_with fail
              clear hp
              go_still_tail 8, (by kernel_rfl)
              change wpList Try.prog _ _ _ _ (World.drewN _ nq).drew
              refine wpList_copy_nothing rfl (.tmp 69) (.tmp 73) 68 68 rfl 93 Try.underlying68 size93 _ _ _ _ _ _ rfl rfl (by have := HN1.out; simp [← this]) ?_
              have HV := Lib.hid (HE.out.post0 HN1.out nq)
              clear ew et e0 el
              go_wp2_with fail
              go_ret
              exact HV.out
          · have hz1 : ¬ cz = i + 1 := by omega
            have hx1 : ¬ cx = i + 1 := by omega
            have HR := Lib.hid (cell_row (B := 0) (k := i + 1) (Nat.zero_le _) hgs hcx (by omega) HCC.out)
            have ew : IntKind.i64.wrap ((i : Int) + 1) = (i : Int) + 1 := by rw [IntKind.wrap_i64]; omega
            have et : ((i : Int) + 1).toNat = i + 1 := by omega
            have e0 : (0 : Int) ≤ (i : Int) + 1 := by omega
            have el : (i : Int) + 1 ≤ xs.length := by omega
            clear h1
            have hp := HP.out
            go_wp2_with fail
            go_quiet (fail)
            go_wp2_with fail
            clear hp
            go_still_tail 8, (by kernel_rfl)
            change wpList Try.prog _ _ _ _ (World.drewN _ nq).drew
            refine wpList_copy_row rfl (.tmp 69) (.tmp 73) 68 68 rfl Try.underlying68 (some ⟨g, q + (i + 1), none⟩) (xs.length - (i + 1)) (cz - (i + 1)) rfl _ rfl B g N c _ HO2.out 0 (xs.drop (i + 1)) HR.out (q + (i + 1)) (fun _ => rfl) (by simp) (by have := HQ.out; simp; omega) ?_
            intro w2 ho2 hg2
            have HV := Lib.hid (HE.out.post subHi_zero subLo_zero HD.out (by rw [HL.out]; exact HQ.out) ho2 ⟨hg2.os, hg2.tape, hg2.output, hg2.size, hg2.block⟩)
            clear ho2 hg2 ew et e0 el
            go_wp2_with fail
            go_ret
            exact HV.out
      · obtain rfl : i = xs.length := by omega
        go_wp2
        go_ret
        exact ⟨by rw [HCI.out]; rfl, HOr.out, HG.out⟩
end Go.Proofs.Ytidkdjnfpepnfaa
