/- The walk of the reference's And. -/
import Derived.Test.YtidkdjnfpepnfaaSp12
import Derived.BigRegion
namespace Go.Proofs.Ytidkdjnfpepnfaa
open Go.RowKit

theorem u8_and_nat' (a b : Nat) (ha : a < 256) (hb : b < 256) : bits BinOp.and IntKind.u8 (a : Int) (b : Int) = ((a &&& b : Nat) : Int) := u8_and_nat a b ha hb
theorem bw_set' (F : Nat → Nat → Nat) (A Bl : List Nat) (i v : Nat) (hi : i < A.length) (hv : v = F (A.getD i 0) (Bl.getD i 0)) : (bwL F A Bl i ++ A.drop i).set i v = bwL F A Bl (i + 1) ++ A.drop (i + 1) := by
  subst hv
  rw [bwL_succ, List.set_append_right _ _ (by rw [bwL_len]; exact Nat.le_refl _), bwL_len, Nat.sub_self, List.drop_eq_getElem_cons hi, List.set_cons_zero, List.append_assoc]
  rfl
theorem bw_get (F : Nat → Nat → Nat) (A Bl : List Nat) (i : Nat) : (bwL F A Bl i ++ A.drop i).getD i 0 = A.getD i 0 := by
  rw [List.getD_eq_getElem?_getD, List.getElem?_append_right (by rw [bwL_len]; exact Nat.le_refl _), bwL_len, List.getElem?_drop, Nat.sub_self, Nat.add_zero, List.getD_eq_getElem?_getD]
theorem uOf_pow {z : Int} {n : Nat} (hn : 1 ≤ n) (h : z.natAbs < 256 ^ (n - 1)) : (if z < 0 then z.natAbs - 1 else z.natAbs) < 2 ^ (8 * n - 1) := by
  have h1 : 256 ^ (n - 1) ≤ 2 ^ (8 * n - 1) := by
    rw [show (256 : Nat) = 2 ^ 8 from rfl, ← Nat.pow_mul]
    exact Nat.pow_le_pow_right (by decide) (by omega)
  exact uOf_lt z _ (Nat.lt_of_lt_of_le h h1)
theorem and_back (x y : Int) (n : Nat) (hn : 1 ≤ n) (hx : x.natAbs < 256 ^ (n - 1)) (hy : y.natAbs < 256 ^ (n - 1)) (lx ly : List Nat) (bx : IsB (uOf x) lx) (by' : IsB (uOf y) ly) (h1 : lx.length + 1 ≤ n) (h2 : ly.length + 1 ≤ n) :
    backZ (8 * n) (bv (bwL (fun a b => a &&& b) (plainL (decide (x < 0)) n lx) (plainL (decide (y < 0)) n ly) n)) = andZ x y := by
  have e1 := plainL_len (decide (x < 0)) n lx (by omega)
  have e2 := plainL_len (decide (y < 0)) n ly (by omega)
  rw [bv_bw bitAnd _ _ (plainL_low _ n lx bx.low) (plainL_low _ n ly by'.low) n (by omega) (by omega)]
  rw [List.take_of_length_le (by omega), List.take_of_length_le (by omega), plainL_val _ n lx bx.low (by omega), plainL_val _ n ly by'.low (by omega), bx.val, by'.val]
  exact back_and (8 * n) (by omega) x y (uOf_pow hn hx) (uOf_pow hn hy)

set_option maxRecDepth 100000 in
set_option maxHeartbeats 4000000 in
theorem f19_any (k : Nat) (hk : k ≤ 900) (hk8 : 8 ≤ k) (v1 v2 : Value) (z1 z2 : Int) (B : Nat) (w : World) (hx : SInt B k w v1 z1) (hy : SInt B k w v2 z2) :
    Calls Try.prog 19 #[v1, v2] w (MakesS (k + 10) (andZ z1 z2) w) := by
  obtain ⟨s1, l1, rfl, r1, b1, hl1⟩ := id hx
  obtain ⟨s2, l2, rfl, r2, b2, hl2⟩ := id hy
  obtain ⟨a1, c1, rfl⟩ := r1.len
  obtain ⟨a2, c2, rfl⟩ := r2.len
  obtain ⟨n, hn⟩ : ∃ n, n = max l1.length l2.length + 1 := ⟨_, rfl⟩
  have hmax : max (l1.length : Int) (l2.length : Int) + 1 = (n : Int) := by omega
  have HP : Hid ((1 ≤ n ∧ n ≤ 1000 ∧ n ≤ k + 1) ∧ z1.natAbs < 256 ^ (n - 1) ∧ z2.natAbs < 256 ^ (n - 1)) := ⟨by omega, b1.lt_pow (by omega), b2.lt_pow (by omega)⟩
  have HFX := Lib.hid (fun (W : World) (v : Value) (h : SInt 0 k W v z1) => f36_any k n (by omega) hk8 (by omega) z1 0 W v h HP.out.2.1 HP.out.1.1)
  have HFY := Lib.hid (fun (W : World) (v : Value) (h : SInt 0 k W v z2) => f36_any k n (by omega) hk8 (by omega) z2 0 W v h HP.out.2.2 HP.out.1.1)
  have HQ := Lib.hid (fun lx ly => and_back z1 z2 n HP.out.1.1 HP.out.2.1 HP.out.2.2 lx ly)
  have hn0 : n ≤ 1000 := HP.out.1.2.1
  clear r1 r2 b1 b2 hl1 hl2 hn
  generalize decide (z1 < 0) = d1 at *
  generalize decide (z2 < 0) = d2 at *
  have hA : Below w.heap.size w (((w.alloc (.cells #[.bool d1, .slice a1 l1.length c1] 30)).alloc (.cells #[.bool d2, .slice a2 l2.length c2] 30)).alloc (.cells #[.bool false, .slice none 0 0] 30)) := (((Below.refl _ _).alloc (Nat.le_refl _) _).alloc (by simp) _).alloc (by simp; omega) _
  have HA := Lib.hid hA
  have HX := Lib.hid ((hx.below hA (Nat.le_refl _)).le (Nat.zero_le _) (Nat.le_refl _))
  have HY := Lib.hid ((hy.below hA (Nat.le_refl _)).le (Nat.zero_le _) (Nat.le_refl _))
  have HB2 := Lib.hid (Below.refl (w.heap.size + 3) (((w.alloc (.cells #[.bool d1, .slice a1 l1.length c1] 30)).alloc (.cells #[.bool d2, .slice a2 l2.length c2] 30)).alloc (.cells #[.bool false, .slice none 0 0] 30)))
  clear hx hy hA hk hk8
  have S2 : _ ∧ _ ∧ _ ∧ _ := (fun (h : Below _ _ _) => (fun (p : _ ∧ _) => (⟨p.1.1 0, p.1.1 1, p.1.2.1 0, p.1.2.1 1⟩ : _ ∧ _ ∧ _ ∧ _)) (later3 h (Nat.le_refl _))) HB2.out
  have S2d : _ ∧ _ ∧ _ ∧ _ := (fun (h : Below _ _ _) => (fun (p : _ ∧ _) => (⟨p.1.1 0, p.1.1 1, p.1.2.1 0, p.1.2.1 1⟩ : _ ∧ _ ∧ _ ∧ _)) (later3 h (Nat.le_refl _))) HB2.out.drew
  go_enter Try.func19, Try.ntmps19
  go_wp2_with fail
  go_region_held3 (fun w' => w'.cell? ⟨w.heap.size, 0, none⟩ = some (.bool d1) ∧ w'.cell? ⟨w.heap.size, 1, none⟩ = some (.slice a1 l1.length c1) ∧ w'.cell? ⟨w.heap.size + 1, 0, none⟩ = some (.bool d2) ∧ w'.cell? ⟨w.heap.size + 1, 1, none⟩ = some (.slice a2 l2.length c2))
    (first
      | with_reducible exact S6
      | with_reducible exact S5
      | with_reducible exact S2
      | with_reducible exact S2d
      | go_keep)
    (first
      | (go_at_call_of 36 (Value.agg #[.bool d1, .slice a1 l1.length c1]); refine (HFX.out _ _ (by exact HX.out)).mono ?_; rintro e w5 ⟨lx, ilx, hlx, gx, rfl, hox, hbx⟩; have ILX := Lib.hid ilx; have HLX := Lib.hid hlx; have HOX := Lib.hid (hox.le (B' := w.heap.size + 3) (by simp)); have HB5 := Lib.hid (HB2.out.drew.trans (hbx.mono (by simp))); have L5 : w.heap.size + 3 ≤ w5.heap.size := (by have := hbx.size; simpa using this); have S5 : _ ∧ _ ∧ _ ∧ _ := (fun (h : Below _ _ _) => (fun (p : _ ∧ _) => (⟨p.1.1 0, p.1.1 1, p.1.2.1 0, p.1.2.1 1⟩ : _ ∧ _ ∧ _ ∧ _)) (later3 h (Nat.le_refl _))) HB5.out; have HY5 := Lib.hid (HY.out.below (show Below _ _ _ from HB5.out) (by simp)); clear hox hbx ilx hlx)
      | (go_at_call 36; refine (HFY.out w5 _ HY5.out).mono ?_; rintro e w6 ⟨ly, ily, hly, gy, rfl, hoy, hby⟩; have ILY := Lib.hid ily; have HLY := Lib.hid hly; have HOY := Lib.hid (hoy.le (B' := w.heap.size + 3) L5); have HNE := Lib.hid (show gy ≠ gx from by have h1 := hoy.low.1; have h2 := HOX.out.low.2; omega); have HOX6 := Lib.hid (HOX.out.below hby (Nat.le_refl _)); have HB6 := Lib.hid (HB5.out.trans (hby.mono L5)); have L6 : w.heap.size + 3 ≤ w6.heap.size := Nat.le_trans L5 hby.size; have S6 : _ ∧ _ ∧ _ ∧ _ := (fun (h : Below _ _ _) => (fun (p : _ ∧ _) => (⟨p.1.1 0, p.1.1 1, p.1.2.1 0, p.1.2.1 1⟩ : _ ∧ _ ∧ _ ∧ _)) (later3 h (Nat.le_refl _))) HB6.out; clear hoy hby ily hly))
  clear S2 S2d S5 S6 HX HY HY5 HFX HFY HOX HB2 HB5
  have HQ2 := Lib.hid (HQ.out lx ly ILX.out ILY.out HLX.out HLY.out)
  have HPX := Lib.hid (plainL_low d1 n lx ILX.out.low)
  have HPY := Lib.hid (plainL_low d2 n ly ILY.out.low)
  have HLA := Lib.hid (plainL_len d1 n lx (by have := HLX.out; omega))
  clear HQ ILX ILY HLX HLY
  generalize plainL d1 n lx = X at *
  generalize plainL d2 n ly = Y at *
  have HE2 := Lib.hid (fun u1 u2 => fun (w3 : World) (v : Value) (B3 : Nat) (h4 : Below (w.heap.size + 3) _ w3) (hx : SInt B3 (n + 9) w3 v (andZ z1 z2)) (hB : w.heap.size + 3 ≤ B3) => add_end (k := k + 10) HA.out h4 hx hB (by have := HP.out.1.2.2; omega) u1 u2)
  go_wp2_with fail
  go_loopw [8] (fun vi wr => ∃ i : Nat, vi = .int .i64 i ∧ i ≤ n ∧ Hid (OwnB (w.heap.size + 3) wr gx n n (bwL (fun a b => a &&& b) X Y i ++ X.drop i)) ∧ Hid (w6.grownBy wr (some gx))) (fun vi _ => n - (intOf vi).toNat)
  case atStart => exact ⟨0, rfl, Nat.zero_le _, by show OwnB _ _ _ _ _ _; simpa [bwL] using HOX6.out, World.grownBy.refl _ _⟩
  case round =>
    obtain ⟨i, rfl, hi, HOr, HG⟩ := hrel
    by_cases hil : i < n
    · have cx := HOr.out.cell i hil
      have cf := HOr.out.free i
      rw [bw_get] at cx
      have cy := (HG.out.cell_far ⟨gy, i, none⟩ (by have := HOY.out.low.2; simpa using this) (by have := HNE.out; simp; omega)).trans (HOY.out.cell i hil)
      have hbv := u8_and_nat' _ _ (getD_lt8 X HPX.out i) (getD_lt8 Y HPY.out i)
      have HO' := Lib.hid (HOr.out.stored i (X.getD i 0 &&& Y.getD i 0))
      rw [bw_set' (fun a b => a &&& b) X Y i _ (by rw [HLA.out]; exact hil) rfl] at HO'
      have HG' := Lib.hid (HG.out.setCell gx i (.int .u8 ((X.getD i 0 &&& Y.getD i 0 : Nat) : Int)))
      generalize X.getD i 0 &&& Y.getD i 0 = v at *
      generalize X.getD i 0 = x at *
      generalize Y.getD i 0 = y at *
      go_wp2_with fail
      go_region
      all_goals
        go_wp2_with fail
        exact ⟨⟨i + 1, by go_num, by omega, HO'.out, ⟨HG'.out.os, HG'.out.tape, HG'.out.output, HG'.out.size, HG'.out.block⟩⟩, by simp [intOf]; omega⟩
    · obtain rfl : i = n := by omega
      have HR := HOr
      rw [List.drop_of_length_le (by have := HLA.out; omega), List.append_nil] at HR
      have hbw := bwL_low8 bitAnd X Y HPX.out HPY.out i
      have HF := Lib.hid (f37_any (w.heap.size + 3) gx 0 i (bwL (fun a b => a &&& b) X Y i) (by rw [bwL_len]; exact HP.out.1.1) (by rw [bwL_len]; exact hn0) hbw wr (by rw [bwL_len]; exact HR.out.row))
      rw [bwL_len, HQ2.out] at HF
      have HB7 := Lib.hid (HB6.out.grown HG.out L6 (by intro q hq; cases hq; exact HR.out.low.1))
      have L7 : w.heap.size + 3 ≤ wr.heap.size := Nat.le_trans L6 HG.out.size
      clear HOr HG HB6 HR hbw HOX6 HOY
      go_wp2_with fail
      refine HF.out.mono ?_
      rintro e w8 ⟨v8, rfl, hs8, hb8⟩
      obtain ⟨d8, a8, k8, c8, rfl⟩ := hs8.shape
      have HS8 := Lib.hid hs8
      have HB8 := Lib.hid (HB7.out.trans (hb8.mono L7))
      obtain ⟨⟨p0, p1, p2⟩, q0, q1, q2⟩ := later3 HB8.out (Nat.le_refl _)
      clear hs8 hb8 p0 p1 q0 q1
      have HE := Lib.hid (fun u1 u2 => HE2.out u1 u2 w8 _ _ HB8.out HS8.out L7)
      go_wp2
      refine bodyPost_ret (v := .agg #[.bool d8, .slice a8 k8 c8]) (by simp [results, Try.results19, go_sem, p2]) rfl ?_
      exact ⟨_, rfl, (HE.out _ _).1, (HE.out _ _).2⟩
end Go.Proofs.Ytidkdjnfpepnfaa
