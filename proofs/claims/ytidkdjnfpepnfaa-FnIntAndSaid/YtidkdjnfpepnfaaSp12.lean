/- The walks of the reference's back and And. -/
import Derived.Test.YtidkdjnfpepnfaaSp11
import Derived.Test.YtidkdjnfpepnfaaBig18
import Derived.BigRegion
namespace Go.Proofs.Ytidkdjnfpepnfaa
open Go.RowKit

/-- The number whose bytes stand in two's complement's answer. -/
def uOf (z : Int) : Nat := if z < 0 then z.natAbs - 1 else z.natAbs

theorem f36_any (k n : Nat) (hk : k ≤ 90000) (hk8 : 8 ≤ k) (hn : n ≤ 100000) (z : Int) (B : Nat) (w : World) (v : Value) (hx : SInt B k w v z) (hpos : z.natAbs < 256 ^ (n - 1)) (hn1 : 1 ≤ n) :
    Calls Try.prog 36 #[v, .int .i64 n] w fun e w' => ∃ l, IsB (uOf z) l ∧ l.length + 1 ≤ n ∧ MakesPlain n (plainL (decide (z < 0)) n l) w e w' := by
  by_cases hz : z < 0
  · rw [show decide (z < 0) = true from by simpa using hz, show uOf z = z.natAbs - 1 from by unfold uOf; rw [if_pos hz]]
    exact f36_neg k n hk hk8 hn z hz B w v hx hpos hn1
  · rw [show decide (z < 0) = false from by simpa using hz, show uOf z = z.natAbs from by unfold uOf; rw [if_neg hz]]
    obtain ⟨s1, l, rfl, r1, b1, hl1⟩ := hx
    obtain ⟨a1, c1, rfl⟩ := r1.len
    have hln : l.length ≤ n - 1 := b1.len_le hpos
    obtain ⟨p, hp⟩ : ∃ p, n = p + l.length := ⟨n - l.length, by omega⟩
    subst hp
    rw [show decide (z < 0) = false from by simpa using hz]
    refine (f36_pos p (by omega) B w a1 c1 l hn r1).mono fun e w' h => ⟨l, b1, by omega, ?_⟩
    have e1 : plainL false (p + l.length) l = List.replicate p 0 ++ l := by unfold plainL; simp
    rw [e1]; exact h

set_option maxRecDepth 100000 in
set_option maxHeartbeats 2000000 in
theorem f37_low (B g off c : Nat) (l : List Nat) (h0 : 0 < l.length) (hl : l.length ≤ 1000) (hd : ∀ d ∈ l, d < 256) (w : World) (hr : Row B .u8 w (.slice (some ⟨g, off, none⟩) l.length c) l) (ht : l.getD 0 0 < 128) :
    Calls Try.prog 37 #[.slice (some ⟨g, off, none⟩) l.length c] w (MakesS (l.length + 9) (bv l) w) := by
  obtain ⟨hc, hg, hcell⟩ := hr.cellsOf h0
  have c0 := hcell 0 h0
  rw [Nat.add_zero] at c0
  have hA : Below w.heap.size w (w.alloc (.cells #[.bool false, .slice none 0 0] 30)) := (Below.refl _ _).alloc (Nat.le_refl _) _
  have HA := Lib.hid hA
  have HR := Lib.hid (hr.below hA (Nat.le_refl _))
  have c0' := (hA.cell (p := ⟨g, off, none⟩) hg).trans c0
  have HD := Lib.hid hd
  have hne : ((l.length : Int) == 0) = false := by rw [beq_eq_false_iff_ne]; omega
  have hp0 : (0 : Int) < l.length := by omega
  have HS : Hid ((strip l).length ≤ l.length + 9) := Nat.le_trans (strip_len l) (by omega)
  clear hr hcell c0 hA hd
  generalize l.getD 0 0 = y at *
  have hy : (y : Int) < 128 := by omega
  go_enter Try.func37, Try.ntmps37
  go_wp2_with fail
  refine (f22_any false _ l (by omega) HD.out _ _ HR.out).mono ?_
  rintro e w1 ⟨v1, rfl, hs, hb⟩
  obtain ⟨d2, a2, k2, c2, rfl⟩ := hs.shape
  have HS1 := Lib.hid (hs.le (B' := w.heap.size + 1) (by simp) HS.out)
  have HB : Hid (Below (w.heap.size + 1) _ w1) := hb.mono (by simp)
  obtain ⟨x0, y0⟩ := later HB.out (Nat.le_refl _)
  clear hs hb
  go_wp2_with fail
  refine bodyPost_ret (v := .agg #[.bool d2, .slice a2 k2 c2]) (by simp [results, Try.results37, go_sem, x0]) rfl ?_
  refine ⟨_, rfl, ?_, ?_⟩
  · refine SInt.le (B := w.heap.size + 1) (n := l.length + 9) ?_ (by omega) (Nat.le_refl _)
    iterate 2 (refine SInt.setOld ?_ (show w.heap.size < w.heap.size + 1 by omega) _)
    exact HS1.out
  · iterate 2 (refine Below.setCell ?_ (show w.heap.size ≤ w.heap.size by omega) _)
    exact HA.out.trans (HB.out.mono (by omega))
set_option maxRecDepth 100000 in
set_option maxHeartbeats 4000000 in
theorem f37_high (B g off c : Nat) (l : List Nat) (h0 : 0 < l.length) (hl : l.length ≤ 1000) (hd : ∀ d ∈ l, d < 256) (w : World) (hr : Row B .u8 w (.slice (some ⟨g, off, none⟩) l.length c) l) (ht : ¬ l.getD 0 0 < 128) :
    Calls Try.prog 37 #[.slice (some ⟨g, off, none⟩) l.length c] w (MakesS (l.length + 9) (-((bv (l.map fun d => 255 - d) : Nat) : Int) - 1) w) := by
  obtain ⟨i0, hi, hz0, hz1, hz2⟩ := info_parts info5
  obtain ⟨hc, hg, hcell⟩ := hr.cellsOf h0
  have c0 := hcell 0 h0
  rw [Nat.add_zero] at c0
  have hA : Below w.heap.size w (w.alloc (.cells #[.bool false, .slice none 0 0] 30)) := (Below.refl _ _).alloc (Nat.le_refl _) _
  have HA := Lib.hid hA
  have c0' := (hA.cell (p := ⟨g, off, none⟩) hg).trans c0
  have HC : Hid (∀ i, i < l.length → ((w.alloc (.cells #[.bool false, .slice none 0 0] 30)).alloc (.cells (madeCells #[.int .u8 0] l.length) 5)).cell? ⟨g, off + i, none⟩ = some (.int .u8 ((l.getD i 0 : Nat) : Int))) := fun i hi =>
    (((hA.trans ((Below.refl w.heap.size _).alloc (by simp) _))).cell (p := ⟨g, off + i, none⟩) hg).trans (hcell i hi)
  have HD := Lib.hid hd
  have hne : ((l.length : Int) == 0) = false := by rw [beq_eq_false_iff_ne]; omega
  have hp0 : (0 : Int) < l.length := by omega
  have hmk := fun w : World => run_make (P := Try.prog) w 24 5 i0 (.int .u8 0) Try.underlying24 hi hz0 .i64 .i64 (l.length : Int) (l.length : Int) (by omega) (by omega) (by rw [hz2]; omega) (by omega)
  simp only [hz1, Int.toNat_natCast, Nat.mul_one] at hmk
  have HO : Hid (OwnB (w.heap.size + 1) ((w.alloc (.cells #[.bool false, .slice none 0 0] 30)).alloc (.cells (madeCells #[.int .u8 0] l.length) 5)) (w.heap.size + 1) l.length l.length (List.replicate l.length 0)) := by
    have := ownB_made (w.alloc (.cells #[.bool false, .slice none 0 0] 30)) l.length l.length (Nat.le_refl _) (by simp [maxLen]; omega)
    show OwnB _ _ _ _ _ _
    simpa using this
  have HB1 : Hid (Below (w.heap.size + 1) (w.alloc (.cells #[.bool false, .slice none 0 0] 30)) ((w.alloc (.cells #[.bool false, .slice none 0 0] 30)).alloc (.cells (madeCells #[.int .u8 0] l.length) 5))) := (Below.refl _ _).alloc (by simp) _
  have HZL : Hid ((List.replicate l.length 0).length = l.length) := by show _ = _; simp
  have HM8 : Hid (∀ d ∈ l.map (fun d => 255 - d), d < 256) := fun d hd => by obtain ⟨x, _, rfl⟩ := List.mem_map.1 hd; omega
  clear hr hcell c0 hA hd
  generalize List.replicate l.length 0 = Z at *
  generalize l.getD 0 0 = y at *
  have hy : ¬ (y : Int) < 128 := by omega
  go_enter Try.func37, Try.ntmps37
  go_wp2_with fail
  go_loopw [4] (fun vi wr => ∃ i : Nat, vi = .int .i64 i ∧ i ≤ l.length ∧ Hid (OwnB (w.heap.size + 1) wr (w.heap.size + 1) l.length l.length (cpZ l Z i)) ∧ Hid (((w.alloc (.cells #[.bool false, .slice none 0 0] 30)).alloc (.cells (madeCells #[.int .u8 0] l.length) 5)).grownBy wr (some (w.heap.size + 1)))) (fun vi _ => l.length - (intOf vi).toNat)
  case atStart => exact ⟨0, rfl, Nat.zero_le _, by show OwnB _ _ _ _ _ _; rw [cpZ_start]; exact HO.out, World.grownBy.refl _ _⟩
  case round =>
    clear c0'
    obtain ⟨i, rfl, hi, HOr, HG⟩ := hrel
    by_cases hil : i < l.length
    · have ci := (HG.out.cell_far ⟨g, off + i, none⟩ (by simp; omega) (by simp; omega)).trans (HC.out i hil)
      have zc := HOr.out.cell i hil
      have zf := HOr.out.free i
      have HO' := Lib.hid (HOr.out.stored i (255 - l.getD i 0))
      rw [cpZ_set l Z i _ hil (by rw [HZL.out]; exact hil) rfl] at HO'
      have HG' := Lib.hid (HG.out.setCell (w.heap.size + 1) i (.int .u8 ((255 - l.getD i 0 : Nat) : Int)))
      have hy8 := getD_lt8 l HD.out i
      generalize (cpZ l Z i).getD i 0 = z0 at *
      generalize l.getD i 0 = u at *
      go_wp2
      rw [xor_u8 u hy8]
      exact ⟨⟨i + 1, by go_num, by omega, HO'.out, HG'.out⟩, by simp [intOf]; omega⟩
    · obtain rfl : i = l.length := by omega
      have HE := Lib.hid (cpZ_done l Z HZL.out)
      have HOm : Hid (Row (w.heap.size + 1) .u8 wr (.slice (some ⟨w.heap.size + 1, 0, none⟩) (l.map fun d => 255 - d).length l.length) (l.map fun d => 255 - d)) := by
        have := HOr.out.row
        rw [HE.out] at this
        show Row _ _ _ _ _
        simpa using this
      have HML : Hid ((l.map fun d => 255 - d).length = l.length) := by show _ = _; simp
      have HB2 := Lib.hid (HB1.out.grown HG.out (by simp) (by intro q hq; cases hq; omega))
      have L2 : w.heap.size + 2 ≤ wr.heap.size := by have := HG.out.size; simpa using this
      clear HOr HG HO HB1 HE HC
      have HF := Lib.hid (f22_any false _ (l.map fun d => 255 - d) (by have := HML.out; omega) HM8.out wr _ HOm.out)
      rw [HML.out] at HF
      have HSL : Hid ((strip (l.map fun d => 255 - d)).length ≤ l.length + 8) := Nat.le_trans (strip_len _) (by have := HML.out; omega)
      generalize hMM : (l.map fun d => 255 - d) = M at *
      have HMM := Lib.hid hMM
      clear hMM
      go_wp2_with fail
      refine HF.out.mono ?_
      rintro e w3 ⟨v3, rfl, hs3, hb3⟩
      have HS3 := Lib.hid (hs3.le (Nat.zero_le _) HSL.out)
      have HB3 := Lib.hid (HB2.out.trans (hb3.mono (by omega)))
      have L3 : w.heap.size + 2 ≤ w3.heap.size := Nat.le_trans L2 hb3.size
      clear hs3 hb3 HF HB2
      go_wp2_with fail
      refine (f55_any (l.length + 8) (by omega) (by omega) _ _ 0 w3 HS3.out).mono ?_
      rintro e w4 ⟨v4, rfl, hs4, hb4⟩
      obtain ⟨d4, a4, k4, c4, rfl⟩ := hs4.shape
      have HS4 := Lib.hid (hs4.le (B' := w.heap.size + 1) (by omega) (Nat.le_refl _))
      have HB4 := Lib.hid (HB3.out.trans (hb4.mono (by omega)))
      obtain ⟨x0, y0⟩ := later HB4.out (Nat.le_refl _)
      clear hs4 hb4
      go_wp2_with fail
      refine bodyPost_ret (v := .agg #[.bool d4, .slice a4 k4 c4]) (by simp [results, Try.results37, go_sem, x0]) rfl ?_
      refine ⟨_, rfl, ?_, ?_⟩
      · refine SInt.le (B := w.heap.size + 1) (n := l.length + 9) ?_ (by omega) (Nat.le_refl _)
        iterate 2 (refine SInt.setOld ?_ (show w.heap.size < w.heap.size + 1 by omega) _)
        rw [HMM.out]
        have := HS4.out
        simpa [signed] using this
      · iterate 2 (refine Below.setCell ?_ (show w.heap.size ≤ w.heap.size by omega) _)
        exact HA.out.trans (HB4.out.mono (by omega))

theorem f37_any (B g off c : Nat) (l : List Nat) (h0 : 0 < l.length) (hl : l.length ≤ 1000) (hd : ∀ d ∈ l, d < 256) (w : World) (hr : Row B .u8 w (.slice (some ⟨g, off, none⟩) l.length c) l) :
    Calls Try.prog 37 #[.slice (some ⟨g, off, none⟩) l.length c] w (MakesS (l.length + 9) (backZ (8 * l.length) (bv l)) w) := by
  by_cases ht : l.getD 0 0 < 128
  · rw [← back_low l hd h0 ht]; exact f37_low B g off c l h0 hl hd w hr ht
  · rw [← back_high l hd h0 ht]; exact f37_high B g off c l h0 hl hd w hr ht
end Go.Proofs.Ytidkdjnfpepnfaa
