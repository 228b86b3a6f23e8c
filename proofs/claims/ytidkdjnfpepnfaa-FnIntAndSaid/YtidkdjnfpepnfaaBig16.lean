/- Walks of the package's great numbers: a carry goes on. -/
import Derived.Test.YtidkdjnfpepnfaaBig15
import Derived.StillTailTactics
namespace Go.Proofs.Ytidkdjnfpepnfaa
open Go.RowKit

theorem f90_zero (x y : Nat) (w : World) : Calls Try.prog 90 #[.int .u64 x, .int .u64 y, .int .u64 0] w fun e w' => e = .returned (.tuple #[.int .u64 ((addLo x 0 y : Nat) : Int), .int .u64 ((addHi x 0 y : Nat) : Int)]) ∧ w = w' := by
  have h := f90_any x y 0 (by omega) w
  rw [show addLo x y 0 = addLo x 0 y from by unfold addLo; rw [Nat.add_zero, Nat.add_zero], show addHi x y 0 = addHi x 0 y from by unfold addHi; rw [Nat.add_zero, Nat.add_zero]] at h
  exact h.mono fun _ _ ⟨a, b⟩ => ⟨a, b.symm⟩
theorem f92_zero (x y : Nat) (w : World) : Calls Try.prog 92 #[.int .u64 x, .int .u64 y, .int .u64 0] w fun e w' => e = .returned (.tuple #[.int .u64 ((subLo x 0 y : Nat) : Int), .int .u64 ((subHi x 0 y : Nat) : Int)]) ∧ w = w' := by
  have h := f92_any x y 0 (by omega) w
  rw [show subLo x y 0 = subLo x 0 y from by unfold subLo; rw [Nat.sub_zero, Nat.sub_zero], show subHi x y 0 = subHi x 0 y from by unfold subHi; rw [Nat.add_zero, Nat.zero_add]] at h
  exact h.mono fun _ _ ⟨a, b⟩ => ⟨a, b.symm⟩

theorem ptr_words {w : World} {B g N c : Nat} {Z : List Nat} (ho : OwnW B w g N c Z) {gx o : Nat} {v : Value} (hc : w.cell? ⟨gx, o, none⟩ = some v) (hne : gx ≠ g) (q m : Nat) :
    (binOp .neq 105 (.pointer (some ⟨g, q, none⟩)) (.pointer (some ⟨gx, o, none⟩))).run Try.prog (w.drewN m) = .ok (.bool true) (w.drewN m) := by
  obtain ⟨j, hj, hs⟩ := Option.map_eq_some_iff.1 size93
  obtain ⟨cur, hg⟩ : ∃ cur : Array Value, w.heap[g]? = some (.cells cur 93 (0, 0)) := by
    rcases ho.2 with ⟨h', _⟩ | ⟨g2, c2, cur, h', _, hgg, _⟩
    · cases h'
    · cases h'; exact ⟨cur, hgg⟩
  obtain ⟨cb, tb, fb, hb, hcb⟩ : ∃ (cb : Array Value) (tb : TypeId) (fb : Nat × Nat), w.heap[gx]? = some (.cells cb tb fb) ∧ cb.size ≠ 0 := by
    unfold World.cell? at hc
    split at hc
    · rename_i cb tb fb h
      refine ⟨cb, tb, fb, h, fun h0 => ?_⟩
      simp [h0] at hc
    · cases hc
  have hgd : (w.drewN m).heap[g]? = some (.cells cur 93 (0, 0)) := hg
  have hbd : (w.drewN m).heap[gx]? = some (.cells cb tb fb) := hb
  have hbl : ¬ g = gx := fun h => hne h.symm
  have hsame : (sameAddr ⟨g, q, none⟩ ⟨gx, o, none⟩).run Try.prog (w.drewN m) = .ok false (w.drewN m) := by
    generalize w.drewN m = W at *
    obtain ⟨k2, hk2⟩ := Nat.exists_eq_succ_of_ne_zero hcb
    simp [sameAddr, hbl, World.frozen?, hgd, hbd, noView, viewAt, World.shape?, mayBeOne, stringish, hk2]
  have h : ∀ d : Nat, (Op.equalIn (d + 1) 105 (.pointer (some ⟨g, q, none⟩)) (.pointer (some ⟨gx, o, none⟩))).run Try.prog (w.drewN m) = .ok false (w.drewN m) := fun d => by
    simp [Op.equalIn, run_underlying Try.underlying105, sizeOf, typeInfo, hj, hs, hsame]
  simp only [binOp]
  simp [Op.equal, Op.maxDepth, h 9999]

/-- The words that are left go over. -/
theorem copy_lay (A V R ys : List Nat) (p : Nat) (hp : p = A.length + V.length) : (A ++ (V ++ R)).take p ++ (ys ++ (A ++ (V ++ R)).drop (p + ys.length)) = A ++ ((V ++ ys) ++ R.drop ys.length) := by
  subst hp
  rw [show (A ++ (V ++ R)).take (A.length + V.length) = A ++ V from by rw [← List.append_assoc, ← List.length_append, List.take_left'] <;> rfl]
  rw [show (A ++ (V ++ R)).drop (A.length + V.length + ys.length) = R.drop ys.length from by rw [← List.append_assoc, ← List.length_append, ← List.drop_drop, List.drop_left']; rfl]
  simp
theorem cell_row {B k : Nat} {w : World} {gx off c : Nat} {xs : List Nat} (hb : B ≤ gx) (hgx : gx < w.heap.size) (hc : xs.length ≤ c) (hk : k < xs.length)
    (hcell : ∀ i, i < xs.length → w.cell? ⟨gx, off + i, none⟩ = some (.int .u64 ((xs.getD i 0 : Nat) : Int))) : Row B .u64 w (.slice (some ⟨gx, off + k, none⟩) (xs.length - k) (c - k)) (xs.drop k) := by
  refine .inr ⟨by simp; omega, gx, off + k, c - k, by simp, by simp; omega, hb, hgx, fun i hi => ?_⟩
  simp at hi
  rw [Nat.add_assoc, hcell (k + i) (by omega)]
  simp

/-- The words so far, and what stood behind them. -/
def Part (lo hi : Nat → Nat → Nat → Nat) (q : Nat) (xs : List Nat) (cin : Nat) (Z : List Nat) (i : Nat) : List Nat := Z.take q ++ (vvL lo hi xs [] cin i ++ Z.drop (q + i))
theorem Part.start (lo hi : Nat → Nat → Nat → Nat) (q : Nat) (xs : List Nat) (cin : Nat) (Z : List Nat) : Part lo hi q xs cin Z 0 = Z := by simp [Part, vvL]
theorem Part.step (lo hi : Nat → Nat → Nat → Nat) (q : Nat) (xs : List Nat) (cin : Nat) (Z : List Nat) (i : Nat) (h : q + i < Z.length) (v : Nat) (hv : v = lo (xs.getD i 0) 0 (cry hi xs [] cin i)) :
    (Part lo hi q xs cin Z i).set (q + i) v = Part lo hi q xs cin Z (i + 1) := by
  subst hv
  unfold Part
  rw [lay_step _ _ _ _ _ (by simp [vvL_len]; omega) (by simp [vvL_len]; omega), vvL_succ, drop_one]
  simp [Nat.add_assoc]
theorem Part.rest {lo hi : Nat → Nat → Nat → Nat} (h0 : ∀ x, x < W → hi x 0 0 = 0) (l0 : ∀ x, x < W → lo x 0 0 = x) (q : Nat) (xs : List Nat) (hx : ∀ d ∈ xs, d < W) (cin : Nat) (Z : List Nat) (i : Nat) (hz : cry hi xs [] cin i = 0) (hil : i ≤ xs.length) (h : q + xs.length ≤ Z.length) :
    (Part lo hi q xs cin Z i).take (q + i) ++ (xs.drop i ++ (Part lo hi q xs cin Z i).drop (q + i + (xs.drop i).length)) = Part lo hi q xs cin Z xs.length := by
  unfold Part
  rw [copy_lay _ _ _ _ _ (by simp [vvL_len]; omega), ← vvL_rest h0 l0 xs hx cin i hz hil, List.drop_drop]
  simp
  rw [show q + i + (xs.length - i) = q + xs.length from by omega]
theorem cry_end {hi : Nat → Nat → Nat → Nat} (h0 : ∀ x, x < W → hi x 0 0 = 0) (xs : List Nat) (hx : ∀ d ∈ xs, d < W) (cin i : Nat) (hz : cry hi xs [] cin i = 0) (hil : i ≤ xs.length) : cry hi xs [] cin xs.length = 0 := by
  have := cry_zero h0 xs hx cin i hz (xs.length - i)
  rwa [show i + (xs.length - i) = xs.length from by omega] at this

/-- The last part of a carry's way: from word i on the words go over. -/
structure CarryEnd (lo hi : Nat → Nat → Nat → Nat) (B g N c q : Nat) (xs : List Nat) (cin : Nat) (Z : List Nat) (w w1 : World) (i : Nat) : Prop where
  own : OwnW B w1 g N c (Part lo hi q xs cin Z i)
  zero : cry hi xs [] cin i = 0
  low : i ≤ xs.length
  grown : w.grownBy w1 (some g)
theorem CarryEnd.post {lo hi : Nat → Nat → Nat → Nat} {B g N c q : Nat} {xs : List Nat} {cin : Nat} {Z : List Nat} {w w1 : World} {i : Nat} (h : CarryEnd lo hi B g N c q xs cin Z w w1 i)
    (h0 : ∀ x, x < W → hi x 0 0 = 0) (l0 : ∀ x, x < W → lo x 0 0 = x) (hx : ∀ d ∈ xs, d < W) (hq : q + xs.length ≤ Z.length) {w2 : World}
    (ho : OwnW B w2 g N c ((Part lo hi q xs cin Z i).take (q + i) ++ (xs.drop i ++ (Part lo hi q xs cin Z i).drop (q + i + (xs.drop i).length)))) (hg : w1.grownBy w2 (some g)) :
    VecPost lo hi B g N c q xs [] cin Z w (.returned (.int .u64 0)) w2 := by
  rw [Part.rest h0 l0 q xs hx cin Z i h.zero h.low hq] at ho
  refine ⟨?_, ho, World.grownBy.trans h.grown hg⟩
  rw [cry_end h0 xs hx cin i h.zero h.low]; rfl

theorem CarryEnd.post0 {lo hi : Nat → Nat → Nat → Nat} {B g N c q : Nat} {xs : List Nat} {cin : Nat} {Z : List Nat} {w w1 : World} {i : Nat} (h : CarryEnd lo hi B g N c q xs cin Z w w1 i) (hil : i = xs.length) (m : Nat) :
    VecPost lo hi B g N c q xs [] cin Z w (.returned (.int .u64 0)) (w1.drewN m).drew := by
  subst hil
  exact ⟨by rw [h.zero]; rfl, h.own, ⟨h.grown.os, h.grown.tape, h.grown.output, h.grown.size, h.grown.block⟩⟩

set_option maxRecDepth 100000 in
set_option maxHeartbeats 4000000 in
theorem f82_any (B g N c q : Nat) (xs Z : List Nat) (gx off cx cz cin : Nat) (h0 : 0 < xs.length) (hl : xs.length ≤ 1000) (hxlow : ∀ d ∈ xs, d < W) (hcin : cin ≤ 1) (w : World) (ho : OwnW B w g N c Z) (hq : q + xs.length ≤ N)
    (hcz : xs.length ≤ cz) (hcx : xs.length ≤ cx) (hne : gx ≠ g) (hgx : gx < w.heap.size)
    (hcell : ∀ i, i < xs.length → w.cell? ⟨gx, off + i, none⟩ = some (.int .u64 ((xs.getD i 0 : Nat) : Int))) :
    Calls Try.prog 82 #[.slice (some ⟨g, q, none⟩) xs.length cz, .slice (some ⟨gx, off, none⟩) xs.length cx, .int .u64 cin] w (VecPost addLo addHi B g N c q xs [] cin Z w) := by
  have HC := Lib.hid hcell
  have HD := Lib.hid hxlow
  have HQ := Lib.hid hq
  have HL := Lib.hid ho.len
  have hne0 : ((xs.length : Int) == 0) = false := by rw [beq_eq_false_iff_ne]; omega
  have hp0 : (0 : Int) < xs.length := by omega
  have hp1 : (1 : Int) ≤ xs.length := by omega
  have ci := hcell 0 h0
  rw [Nat.add_zero] at ci
  have zc := ho.cell q (by omega)
  have zf := ho.free q
  have HS0 : Hid (Z.set q (addLo (xs.getD 0 0) 0 cin) = Part addLo addHi q xs cin Z 1) := by
    show _ = _
    have := Part.step addLo addHi q xs cin Z 0 (by rw [HL.out]; omega) (addLo (xs.getD 0 0) 0 cin) rfl
    rwa [Part.start, Nat.add_zero] at this
  have HO' := Lib.hid (ho.stored q (addLo (xs.getD 0 0) 0 cin))
  rw [HS0.out] at HO'
  have HP := Lib.hid (fun m => ptr_words HO'.out (set_other (p := ⟨g, q, none⟩) (u := .int .u64 ((addLo (xs.getD 0 0) 0 cin : Nat) : Int)) ci hne) hne q m)
  have HE1 : Hid (cry addHi xs [] cin 1 = addHi (xs.getD 0 0) 0 cin) := rfl
  have HG' := Lib.hid ((World.grownBy.refl w (some g)).setCell g q (.int .u64 ((addLo (xs.getD 0 0) 0 cin : Nat) : Int)))
  have HH : Hid (addHi (xs.getD 0 0) 0 cin ≤ 1) := addHi_le _ _ _ (getD_lt xs hxlow 0) W_pos hcin
  have hgs : w.heap.size ≤ (w.setCell ⟨g, q, none⟩ (.int .u64 ((addLo (xs.getD 0 0) 0 cin : Nat) : Int))).heap.size := HG'.out.size
  clear hcell hxlow ho HS0
  generalize Z.getD q 0 = z0 at *
  generalize xs.getD 0 0 = x at *
  have HF := Lib.hid (fun w => f90_zero x cin w)
  generalize addLo x 0 cin = l at *
  generalize addHi x 0 cin = h at *
  by_cases hh : h = 0
  · subst hh
    have HE : Hid (CarryEnd addLo addHi B g N c q xs cin Z w (w.setCell ⟨g, q, none⟩ (.int .u64 (l : Int))) 1) := ⟨HO'.out, HE1.out, h0, HG'.out⟩
    by_cases h1 : xs.length = 1
    · have HN1 : Hid (1 = xs.length) := h1.symm
      have hc : (cz = 1 ∨ ¬ cz = 1) ∧ (cx = 1 ∨ ¬ cx = 1) := by omega
      obtain ⟨hz1 | hz1, hx1 | hx1⟩ := hc
      all_goals
        clear h1
        go_enter Try.func82, Try.ntmps82
        go_wp2_with fail
        refine (HF.out _).mono ?_
        rintro e w' ⟨rfl, rfl⟩
        have hp := HP.out
        go_wp2_with fail
        go_quiet (fail)
        go_wp2_with fail
        clear hp
        go_still_tail 4, (by kernel_rfl)
        change wpList Try.prog _ _ _ _ (World.drewN _ nq).drew
        refine wpList_copy_nothing rfl (.tmp 40) (.tmp 42) 68 68 rfl 93 Try.underlying68 size93 _ _ _ _ _ _ rfl rfl (by have := HN1.out; simp [← this]) ?_
        have HV := Lib.hid (HE.out.post0 HN1.out nq)
        go_wp2_with fail
        go_ret
        exact HV.out
    · have hz1 : ¬ cz = 1 := by omega
      have hx1 : ¬ cx = 1 := by omega
      have HR := Lib.hid (cell_row (B := 0) (k := 1) (w := w.setCell ⟨g, q, none⟩ (.int .u64 (l : Int))) (Nat.zero_le _) (Nat.lt_of_lt_of_le hgx hgs) hcx (by omega) (fun i hi => set_other (p := ⟨g, q, none⟩) (u := .int .u64 (l : Int)) (HC.out i hi) hne))
      clear h1
      go_enter Try.func82, Try.ntmps82
      go_wp2_with fail
      refine (HF.out _).mono ?_
      rintro e w' ⟨rfl, rfl⟩
      have hp := HP.out
      go_wp2_with fail
      go_quiet (fail)
      go_wp2_with fail
      clear hp
      go_still_tail 4, (by kernel_rfl)
      change wpList Try.prog _ _ _ _ (World.drewN _ nq).drew
      refine wpList_copy_row rfl (.tmp 40) (.tmp 42) 68 68 rfl Try.underlying68 (some ⟨g, q + 1, none⟩) (xs.length - 1) (cz - 1) rfl _ rfl B g N c _ HO'.out 0 (xs.drop 1) HR.out (q + 1) (fun _ => rfl) (by simp) (by have := HQ.out; simp; omega) ?_
      intro w2 ho2 hg2
      have HV := Lib.hid (HE.out.post addHi_zero addLo_zero HD.out (by rw [HL.out]; exact HQ.out) ho2 ⟨hg2.os, hg2.tape, hg2.output, hg2.size, hg2.block⟩)
      clear ho2 hg2
      go_wp2_with fail
      go_ret
      exact HV.out
  · obtain rfl : h = 1 := by have := HH.out; omega
    go_enter Try.func82, Try.ntmps82
    go_wp2_with fail
    refine (HF.out _).mono ?_
    rintro e w' ⟨rfl, rfl⟩
    clear HP HF HH hh
    go_wp2_with fail
    go_loopw [9] (fun vi wr => ∃ i : Nat, vi = .int .i64 i ∧ i ≤ xs.length ∧ 1 ≤ i ∧ Hid (cry addHi xs [] cin i = 1) ∧ Hid (OwnW B wr g N c (Part addLo addHi q xs cin Z i)) ∧ Hid (w.grownBy wr (some g))) (fun vi _ => xs.length - (intOf vi).toNat)
    case atStart => exact ⟨1, rfl, by omega, Nat.le_refl _, HE1.out, HO'.out, HG'.out⟩
    case round =>
      clear HE1 HO' HG' hgs ci zc zf
      obtain ⟨i, rfl, hi, hi1, HCI, HOr, HG⟩ := hrel
      by_cases hlt : i < xs.length
      · have ci := (HG.out.cell_far ⟨gx, off + i, none⟩ hgx (by simpa using hne)).trans (HC.out i hlt)
        have c0 := (HG.out.cell_far ⟨gx, off + 0, none⟩ hgx (by simpa using hne)).trans (HC.out 0 h0)
        rw [Nat.add_zero] at c0
        have zc := HOr.out.cell (q + i) (by have := HQ.out; omega)
        have zf := HOr.out.free (q + i)
        have HLo : Hid (xs.getD i 0 < W) := getD_lt xs HD.out i
        have HCS : Hid (cry addHi xs [] cin (i + 1) = addHi (xs.getD i 0) 0 1) := by show addHi _ _ _ = _; rw [HCI.out]; rfl
        have HST : Hid (∀ v, v = addLo (xs.getD i 0) 0 1 → OwnW B (wr.setCell ⟨g, q + i, none⟩ (.int .u64 (v : Int))) g N c (Part addLo addHi q xs cin Z (i + 1))) := fun v hv => by
          have := HOr.out.stored (q + i) v
          rwa [Part.step addLo addHi q xs cin Z i (by rw [HL.out]; have := HQ.out; omega) v (by rw [HCI.out]; exact hv)] at this
        have HGS : Hid (∀ v : Nat, w.grownBy (wr.setCell ⟨g, q + i, none⟩ (.int .u64 (v : Int))) (some g)) := fun v => HG.out.setCell g (q + i) _
        generalize (Part addLo addHi q xs cin Z i).getD (q + i) 0 = z1 at *
        by_cases hm : xs.getD i 0 = 18446744073709551615
        · have hmb : ((xs.getD i 0 : Int) != 18446744073709551615) = false := by rw [hm]; rfl
          have HCS1 : Hid (cry addHi xs [] cin (i + 1) = 1) := by show _ = _; rw [HCS.out, hm]; decide
          have HO2 := Lib.hid (HST.out 0 (by rw [hm]; decide))
          have HG2 := Lib.hid (HGS.out 0)
          clear hm HCS HST HGS
          generalize xs.getD i 0 = y at *
          go_wp2
          go_roundw
          case rel => exact ⟨i + 1, by go_num, by omega, by omega, HCS1, HO2, HG2⟩
          case measure => simp [intOf]; omega
        · have hmb : ((xs.getD i 0 : Int) != 18446744073709551615) = true := by
            rw [bne_iff_ne]; omega
          have hyW := HLo.out
          unfold W at hyW
          have hy1 : (xs.getD i 0 : Int) + 1 < 18446744073709551616 := by omega
          have HV1 : Hid (addLo (xs.getD i 0) 0 1 = xs.getD i 0 + 1) := by show _ = _; unfold addLo W; omega
          have HCS0 : Hid (cry addHi xs [] cin (i + 1) = 0) := by show _ = _; rw [HCS.out]; unfold addHi W; omega
          have HO2 : Hid (OwnW B (wr.setCell ⟨g, q + i, none⟩ (.int .u64 ((xs.getD i 0 : Int) + 1))) g N c (Part addLo addHi q xs cin Z (i + 1))) := HST.out (xs.getD i 0 + 1) HV1.out.symm
          have HG2 : Hid (w.grownBy (wr.setCell ⟨g, q + i, none⟩ (.int .u64 ((xs.getD i 0 : Int) + 1))) (some g)) := HGS.out (xs.getD i 0 + 1)
          have HP := Lib.hid (fun m => ptr_words HO2.out (set_other (p := ⟨g, q + i, none⟩) (u := .int .u64 ((xs.getD i 0 : Int) + 1)) c0 hne) hne q m)
          have HE : Hid (CarryEnd addLo addHi B g N c q xs cin Z w (wr.setCell ⟨g, q + i, none⟩ (.int .u64 ((xs.getD i 0 : Int) + 1))) (i + 1)) := ⟨HO2.out, HCS0.out, hlt, HG2.out⟩
          have HCC : Hid (∀ j, j < xs.length → (wr.setCell ⟨g, q + i, none⟩ (.int .u64 ((xs.getD i 0 : Int) + 1))).cell? ⟨gx, off + j, none⟩ = some (.int .u64 ((xs.getD j 0 : Nat) : Int))) := fun j hj =>
            set_other (p := ⟨g, q + i, none⟩) (u := .int .u64 ((xs.getD i 0 : Int) + 1)) ((HG.out.cell_far ⟨gx, off + j, none⟩ hgx (by simpa using hne)).trans (HC.out j hj)) hne
          have hgs : gx < (wr.setCell ⟨g, q + i, none⟩ (.int .u64 ((xs.getD i 0 : Int) + 1))).heap.size := Nat.lt_of_lt_of_le hgx HG2.out.size
          clear hyW HV1 HCS0 HGS HST HCS HLo HG HOr hm
          generalize xs.getD i 0 = y at *
          by_cases h1 : i + 1 = xs.length
          · have HN1 := Lib.hid h1
            have hc : (cz = i + 1 ∨ ¬ cz = i + 1) ∧ (cx = i + 1 ∨ ¬ cx = i + 1) := by omega
            have ew : IntKind.i64.wrap ((i : Int) + 1) = (i : Int) + 1 := by rw [IntKind.wrap_i64]; omega
            have et : ((i : Int) + 1).toNat = i + 1 := by omega
            have e0 : (0 : Int) ≤ (i : Int) + 1 := by omega
            have el : (i : Int) + 1 ≤ xs.length := by omega
            obtain ⟨hz1 | hz1, hx1 | hx1⟩ := hc
            all_goals
              clear h1
              have hp := HP.out
              go_wp2_with fail
              go_quiet (fail)
              go_wp2_with fail
              clear hp
              go_still_tail 8, (by kernel_rfl)
              change wpList Try.prog _ _ _ _ (World.drewN _ nq).drew
              refine wpList_copy_nothing rfl (.tmp 69) (.tmp 73) 68 68 rfl 93 Try.underlying68 size93 _ _ _ _ _ _ rfl rfl (by have := HN1.out; simp [← this]) ?_
              have HV := Lib.hid (HE.out.post0 HN1.out nq)
              clear ew et e0 el
              go_wp2_with fail
              go_ret
              exact HV.out
          · have hz1 : ¬ cz = i + 1 := by omega
            have hx1 : ¬ cx = i + 1 := by omega
            have HR := Lib.hid (cell_row (B := 0) (k := i + 1) (Nat.zero_le _) hgs hcx (by omega) HCC.out)
            have ew : IntKind.i64.wrap ((i : Int) + 1) = (i : Int) + 1 := by rw [IntKind.wrap_i64]; omega
            have et : ((i : Int) + 1).toNat = i + 1 := by omega
            have e0 : (0 : Int) ≤ (i : Int) + 1 := by omega
            have el : (i : Int) + 1 ≤ xs.length := by omega
            clear h1
            have hp := HP.out
            go_wp2_with fail
            go_quiet (fail)
            go_wp2_with fail
            clear hp
            go_still_tail 8, (by kernel_rfl)
            change wpList Try.prog _ _ _ _ (World.drewN _ nq).drew
            refine wpList_copy_row rfl (.tmp 69) (.tmp 73) 68 68 rfl Try.underlying68 (some ⟨g, q + (i + 1), none⟩) (xs.length - (i + 1)) (cz - (i + 1)) rfl _ rfl B g N c _ HO2.out 0 (xs.drop (i + 1)) HR.out (q + (i + 1)) (fun _ => rfl) (by simp) (by have := HQ.out; simp; omega) ?_
            intro w2 ho2 hg2
            have HV := Lib.hid (HE.out.post addHi_zero addLo_zero HD.out (by rw [HL.out]; exact HQ.out) ho2 ⟨hg2.os, hg2.tape, hg2.output, hg2.size, hg2.block⟩)
            clear ho2 hg2 ew et e0 el
            go_wp2_with fail
            go_ret
            exact HV.out
      · obtain rfl : i = xs.length := by omega
        go_wp2
        go_ret
        exact ⟨by rw [HCI.out]; rfl, HOr.out, HG.out⟩
end Go.Proofs.Ytidkdjnfpepnfaa
