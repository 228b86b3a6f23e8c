/- The reference's division of magnitudes, bit by bit. -/
import Derived.Test.YtllgogkjcbdpkaaGreatDoorRb
import Derived.Test.YtllgogkjcbdpkaaGreatDoorZSp10
namespace Go.Proofs.YtllgogkjcbdpkaaGreatDoor.Z
open Go.RowKit

def GeIs (w : World) (e : Ending) (w' : World) : Prop := ∃ c : Int, 0 ≤ c ∧ e = .returned (.int .i64 c) ∧ ∃ m, w' = w.drewN m
def LtIs (w : World) (e : Ending) (w' : World) : Prop := e = .returned (.int .i64 (-1)) ∧ ∃ m, w' = w.drewN m
theorem f36_ge (v1 v2 : Value) (l1 l2 : List Nat) (n1 n2 : Nat) (h1 : IsB n1 l1) (h2 : IsB n2 l2) (hl1 : l1.length ≤ 100000) (hl2 : l2.length ≤ 100000) (w : World) (hr1 : Row 0 .u8 w v1 l1) (hr2 : Row 0 .u8 w v2 l2) (h : n2 ≤ n1) :
    Calls Tryz.prog 36 #[v1, v2] w (GeIs w) :=
  (f36_any v1 v2 l1 l2 n1 n2 h1 h2 hl1 hl2 0 w hr1 hr2).mono fun e w' ⟨he, hw⟩ => ⟨ord3 n1 n2, by unfold ord3; split <;> (try split) <;> omega, he, hw⟩
theorem f36_lt (v1 v2 : Value) (l1 l2 : List Nat) (n1 n2 : Nat) (h1 : IsB n1 l1) (h2 : IsB n2 l2) (hl1 : l1.length ≤ 100000) (hl2 : l2.length ≤ 100000) (w : World) (hr1 : Row 0 .u8 w v1 l1) (hr2 : Row 0 .u8 w v2 l2) (h : n1 < n2) :
    Calls Tryz.prog 36 #[v1, v2] w (LtIs w) :=
  (f36_any v1 v2 l1 l2 n1 n2 h1 h2 hl1 hl2 0 w hr1 hr2).mono fun e w' ⟨he, hw⟩ => ⟨by rw [he]; unfold ord3; rw [if_pos h], hw⟩
theorem or_u8 (a b : Nat) (ha : a < 256) (hb : b < 256) : bits BinOp.or IntKind.u8 (a : Int) (b : Int) = ((a ||| b : Nat) : Int) :=
  (bits_nat .u8 8 (by decide) wraps_u8 a b (by omega) (by omega)).2
theorem OwnB.below {B : Nat} {w w' : World} {g n c : Nat} {xs : List Nat} {B' : Nat} (h : OwnB B w g n c xs) (hb : Below B' w w') (hB : w.heap.size ≤ B') : OwnB B w' g n c xs :=
  World.ownsRow.kept (row := none) h ⟨hb.os, hb.tape, hb.output, hb.size, fun k hk _ => hb.block k (by omega)⟩ (.inr (by simp [Value.ownBlock]))
/-- What the division's loop holds. -/
structure SplitAt (A D : Nat) (n k : Nat) (w : World) (lv : Value) (wr : World) : Prop where
  quo : ∃ ys Q L ll, OwnB w.heap.size wr w.heap.size n n ys ∧ (∀ d ∈ ys, d < 256) ∧ bv ys = Q ∧ Divs A D k Q L ∧ Row (w.heap.size + 1) .u8 wr lv ll ∧ IsB L ll
  bel : Below w.heap.size w wr
  size : w.heap.size + 1 ≤ wr.heap.size
theorem isB_nil : IsB 0 [] := ⟨rfl, by simp, rfl⟩
theorem isB_one : IsB 1 [1] := ⟨rfl, by simp, rfl⟩
def SplitIs (A D : Nat) (w : World) (e : Ending) (w' : World) : Prop := ∃ v1 v2 l1 l2, e = .returned (.tuple #[v1, v2]) ∧ Row w.heap.size .u8 w' v1 l1 ∧ IsB (A / D) l1 ∧ Row w.heap.size .u8 w' v2 l2 ∧ IsB (A % D) l2 ∧ Below w.heap.size w w'
set_option maxRecDepth 100000 in
set_option maxHeartbeats 4000000 in
theorem f49_any (v1 v2 : Value) (l1 l2 : List Nat) (A D : Nat) (h1 : IsB A l1) (h2 : IsB D l2) (hl1 : l1.length ≤ 1000) (hl2 : l2.length ≤ 1000) (hD : 0 < D) (w : World) (hr1 : Row 0 .u8 w v1 l1) (hr2 : Row 0 .u8 w v2 l2) :
    Calls Tryz.prog 49 #[v1, v2] w (SplitIs A D w) := by
  obtain ⟨i0, hi, hz0, hz1, hz2⟩ := info_parts info5
  obtain ⟨a1, c1, rfl⟩ := hr1.len
  have H18 := Lib.hid (fun w1 (hb : Below w.heap.size w w1) i (hi : i ≤ 100000) => f18_any _ l1 (by omega) h1.low 0 i hi w1 (hr1.below hb (Nat.le_refl _)))
  rw [h1.val] at H18
  have HR2 := Lib.hid (fun w1 (hb : Below w.heap.size w w1) => hr2.below hb (Nat.le_refl _))
  have HI2 := Lib.hid h2
  have HA := Lib.hid h1.lt
  clear h1 h2 hr1 hr2
  generalize l1.length = n at *
  have hmk := fun w : World => run_make (P := Tryz.prog) w 22 5 i0 (.int .u8 0) Tryz.underlying22 hi hz0 .i64 .i64 (n : Int) (n : Int) (by omega) (by omega) (by rw [hz2]; omega) (by omega)
  simp only [hz1, Int.toNat_natCast, Nat.mul_one] at hmk
  have HO := Lib.hid (ownB_made w n n (Nat.le_refl _) (by simp [maxLen]; omega))
  go_enter Tryz.func49, Tryz.ntmps49
  go_wp2_with fail
  go_loopw [7, 8] (fun lv vi wr => ∃ i : Int, vi = .int .i64 i ∧ -1 ≤ i ∧ i < 8 * (n : Int) ∧ Hid (SplitAt A D n (i + 1).toNat w lv wr)) (fun _ vi _ => (intOf vi + 1).toNat)
  case atStart =>
    refine ⟨8 * (n : Int) - 1, by go_num, by omega, by omega, ⟨⟨List.replicate n 0, 0, 0, [], ?_, ?_, bv_zeros n, ?_, .inl ⟨rfl, .inr ⟨_, _, rfl⟩⟩, isB_nil⟩, ((Below.refl _ _).alloc (Nat.le_refl _) _).alloc (by simp) _, by simp⟩⟩
    · exact (HO.out.below ((Below.refl _ _).alloc (Nat.le_refl _) (.cells #[] 5)) (Nat.le_refl _))
    · intro d hd; have := (List.mem_replicate.1 hd).2; omega
    · rw [show (8 * (n : Int) - 1 + 1).toNat = 8 * n by omega]
      refine ⟨?_, hD, by simp⟩
      have := HA.out
      rw [p8] at this
      rw [Nat.div_eq_of_lt this]; simp
  case round =>
    obtain ⟨i, rfl, hi1, hi2, HT⟩ := hrel
    by_cases h0 : 0 ≤ i
    · obtain ⟨j, rfl⟩ : ∃ j : Nat, i = (j : Int) := ⟨i.toNat, by omega⟩
      obtain ⟨⟨ys, Q, L, ll, ho, hd, hq, hdv, hrow, hib⟩, hbel, hsz⟩ := HT.out
      rw [show ((j : Int) + 1).toNat = j + 1 by omega] at hdv
      obtain ⟨la, lc, rfl⟩ := hrow.len
      have hll : ll.length ≤ l2.length := hib.len_le (Nat.lt_trans hdv.low HI2.out.lt)
      have H38 := Lib.hid (f38_any _ _ ll ll 1001 (by omega) (by omega) (by omega) hib.low hib.low _ wr hrow hrow)
      rw [hib.val] at H38
      have HO1 := Lib.hid ho
      have HD1 := Lib.hid hd
      have HQ1 := Lib.hid hq
      have hdv := Lib.hid hdv
      have HBL := Lib.hid hbel
      have HSZ := Lib.hid hsz
      have hj : j < 8 * n := by omega
      clear ho hd hq hrow hib hbel hsz hll HT hi1
      go_wp2_with fail
      go_at_call 38
      refine H38.out.mono ?_
      rintro e w1 ⟨lv1, m1, rfl, hr1, hi1, hb1⟩
      obtain ⟨la1, lc1, rfl⟩ := hr1.len
      have HR1 := Lib.hid (hr1.le HSZ.out)
      have HI1 := Lib.hid hi1
      have HB1 := Lib.hid (HBL.out.trans (hb1.mono HBL.out.size))
      have HO1' := Lib.hid (HO1.out.below hb1 (Nat.le_refl _))
      have HZ1 : Hid (w.heap.size + 1 ≤ w1.heap.size) := Nat.le_trans HSZ.out hb1.size
      have H18' := Lib.hid (H18.out w1 HB1.out j (by omega))
      have hbt := bt_lt A j
      have HDone := Lib.hid (fun h => hdv.out.one (i := j) h)
      have HDzero := Lib.hid (fun h => hdv.out.zero (i := j) h)
      generalize bt A j = b at *
      clear hr1 hi1 hb1 H38
      have hb2 : b = 0 ∨ b = 1 := by omega
      clear hbt
      go_wp2_with fail
      go_at_call 18
      refine H18'.out.mono ?_
      rintro e w' ⟨rfl, rfl⟩
      clear H18'
      rcases hb2 with rfl | rfl
      · have HIX : Hid (IsB (2 * L + 0) m1) := by have := HI1.out; rwa [show L + L = 2 * L + 0 by omega] at this
        have HRX := HR1
        have HLX : Hid (m1.length ≤ 100000) := by
          have := HIX.out.len_le (k := l2.length + 1) (by have h1 := hdv.out.low; have h2 := HI2.out.lt; rw [Nat.pow_succ]; omega)
          show _ ≤ _; omega
        have HBX := HB1
        have HOX := HO1'
        have HZX := HZ1
        by_cases hge : D ≤ 2 * L + 0
        · have H36 := Lib.hid (f36_ge _ _ _ l2 _ D HIX.out HI2.out HLX.out (by omega) w1 (HRX.out.le (Nat.zero_le _)) (HR2.out _ HBX.out) hge)
          have H39 := Lib.hid (fun q => f39_any _ _ _ l2 _ D HIX.out HI2.out hge HLX.out 0 (w1.drewN q) ((HRX.out.le (Nat.zero_le _)).draws q) ((HR2.out _ HBX.out).draws q))
          have HDV : Hid (Divs A D ((j : Int) - 1 + 1).toNat (Q + 2 ^ j) (2 * L + 0 - D)) := by
            show Divs _ _ _ _ _
            rw [show ((j : Int) - 1 + 1).toNat = j by omega]
            exact HDone.out hge
          clear hge
          go_wp2_with fail
          go_at_call 36
          refine H36.out.mono ?_
          rintro e w3 ⟨c, hc0, rfl, m, rfl⟩
          go_wp2_with fail
          go_at_call 39
          refine (H39.out m).mono ?_
          rintro e w4 ⟨lv4, m4, rfl, hr4, hi4, hb4⟩
          obtain ⟨la4, lc4, rfl⟩ := hr4.len
          have HO4 := Lib.hid (OwnB.below (w := w1.drewN m) HOX.out hb4 (Nat.le_refl _))
          have HB4 := Lib.hid ((below_drewN HBX.out m).trans (hb4.mono HBX.out.size))
          have HR4 := Lib.hid (hr4.le (B' := w.heap.size + 1) HZX.out)
          have HI4 := Lib.hid hi4
          have HZ4 : Hid (w.heap.size + 1 ≤ w4.heap.size) := Nat.le_trans HZX.out hb4.size
          have hyl : ys.length = n := HO1.out.len
          obtain ⟨s1, s2, s3⟩ := set_bit ys HD1.out j (by omega) (by rw [HQ1.out]; exact hdv.out.whole)
          have zc := HO4.out.cell (n - 1 - j / 8) (by omega)
          have zf := HO4.out.free (n - 1 - j / 8)
          have HO5 := Lib.hid (HO4.out.stored (n - 1 - j / 8) (ys.getD (n - 1 - j / 8) 0 + 2 ^ (j % 8)))
          rw [hyl] at s1 s2 s3
          have HD5 : Hid (∀ d ∈ ys.set (n - 1 - j / 8) (ys.getD (n - 1 - j / 8) 0 + 2 ^ (j % 8)), d < 256) := fun d hd => by
            rcases List.mem_or_eq_of_mem_set hd with h | h
            · exact HD1.out d h
            · rw [h]; exact s1
          have HS3 := Lib.hid s3
          have mo : bits BinOp.or IntKind.u8 ((ys.getD (n - 1 - j / 8) 0 : Nat) : Int) ((2 : Int) ^ (j % 8) % 256) = ((ys.getD (n - 1 - j / 8) 0 + 2 ^ (j % 8) : Nat) : Int) := by
            have e : ((2 : Int) ^ (j % 8) % 256) = ((2 ^ (j % 8) : Nat) : Int) := by
              have : 2 ^ (j % 8) < 256 := by omega
              have h2 : ((2 : Int) ^ (j % 8)) = ((2 ^ (j % 8) : Nat) : Int) := by simp
              rw [h2]
              generalize 2 ^ (j % 8) = p at *
              omega
            rw [e, or_u8 _ _ (by omega) (by omega), s2]
          have e8 : (j : Int) / 8 = ((j / 8 : Nat) : Int) := by omega
          have er : (j : Int) % 8 = ((j % 8 : Nat) : Int) := by omega
          have hr8 : j % 8 < 8 := by omega
          have eq : (n : Int) - 1 - ((j / 8 : Nat) : Int) = ((n - 1 - j / 8 : Nat) : Int) := by omega
          have hq : n - 1 - j / 8 < n := by omega
          clear hr4 hi4 hb4 s1 s2 s3 hyl
          generalize n - 1 - j / 8 = q at *
          generalize j % 8 = r at *
          generalize j / 8 = j8 at *
          generalize ys.getD q 0 = y0 at *
          go_wp2_with fail
          exact ⟨⟨(j : Int) - 1, by go_num, by omega, by omega, ⟨⟨_, Q + 2 ^ j, _, m4, by show OwnB _ _ _ _ _ _; simpa using HO5.out, HD5.out, by rw [HS3.out, HQ1.out], HDV.out, HR4.out.setOld (by show w.heap.size < w.heap.size + 1; omega) _, HI4.out⟩, HB4.out.setCell (p := ⟨w.heap.size, q, none⟩) (Nat.le_refl _) _, by simpa using HZ4.out⟩⟩, by (try simp [intOf]); (try omega)⟩
        · have H36 := Lib.hid (f36_lt _ _ _ l2 _ D HIX.out HI2.out HLX.out (by omega) w1 (HRX.out.le (Nat.zero_le _)) (HR2.out _ HBX.out) (by omega))
          have HDV : Hid (Divs A D ((j : Int) - 1 + 1).toNat Q (2 * L + 0)) := by
            show Divs _ _ _ _ _
            rw [show ((j : Int) - 1 + 1).toNat = j by omega]
            exact HDzero.out (by omega)
          clear hge
          go_wp2_with fail
          go_at_call 36
          refine H36.out.mono ?_
          rintro e w3 ⟨rfl, m, rfl⟩
          go_wp2_with fail
          exact ⟨⟨(j : Int) - 1, by go_num, by omega, by omega, ⟨⟨ys, Q, _, _, HOX.out, HD1.out, HQ1.out, HDV.out, HRX.out.draws m, HIX.out⟩, below_drewN HBX.out m, HZX.out⟩⟩, by (try simp [intOf]); (try omega)⟩
      · have bel2 : Below w1.heap.size w1 (w1.alloc (.cells #[.int .u8 1] 5)) := (Below.refl _ _).alloc (Nat.le_refl _) _
        have hone : Row (w.heap.size + 1) .u8 (w1.alloc (.cells #[.int .u8 1] 5)) (.slice (some ⟨w1.heap.size, 0, none⟩) 1 1) [1] := .inr ⟨by simp, _, 0, 1, rfl, by simp, HZ1.out, by simp, fun i hi => by obtain rfl : i = 0 := (by simpa using hi); simp [go_sem]⟩
        have hm1 : m1.length ≤ l2.length + 1 := HI1.out.len_le (by have h1 := hdv.out.low; have h2 := HI2.out.lt; rw [Nat.pow_succ]; omega)
        have H38b := Lib.hid (f38_any _ _ m1 [1] 1002 (by omega) (by omega) (by simp) HI1.out.low isB_one.low _ (w1.alloc (.cells #[.int .u8 1] 5)) (HR1.out.below bel2 (Nat.le_refl _)) hone)
        rw [HI1.out.val, show bv [1] = 1 from rfl] at H38b
        have HB1b := Lib.hid (HB1.out.trans (bel2.mono HB1.out.size))
        have HO1b := Lib.hid (HO1'.out.below bel2 (Nat.le_refl _))
        have HZ1b : Hid (w.heap.size + 1 ≤ (w1.alloc (.cells #[.int .u8 1] 5)).heap.size) := Nat.le_trans HZ1.out bel2.size
        clear bel2 hone hm1
        go_wp2_with fail
        go_at_call 38
        refine H38b.out.mono ?_
        rintro e w2 ⟨lv2, m2, rfl, hr2, hi2', hb2⟩
        obtain ⟨la2, lc2, rfl⟩ := hr2.len
        have HIX : Hid (IsB (2 * L + 1) m2) := by rwa [show L + L + 1 = 2 * L + 1 by omega] at hi2'
        have HRX := Lib.hid (hr2.le HZ1b.out)
        have HLX : Hid (m2.length ≤ 100000) := by
          have := HIX.out.len_le (k := l2.length + 1) (by have h1 := hdv.out.low; have h2 := HI2.out.lt; rw [Nat.pow_succ]; omega)
          show _ ≤ _; omega
        have HBX := Lib.hid (HB1b.out.trans (hb2.mono HB1b.out.size))
        have HOX := Lib.hid (HO1b.out.below hb2 (Nat.le_refl _))
        have HZX : Hid (w.heap.size + 1 ≤ w2.heap.size) := Nat.le_trans HZ1b.out hb2.size
        clear hr2 hi2' hb2 H38b
        by_cases hge : D ≤ 2 * L + 1
        · have H36 := Lib.hid (f36_ge _ _ _ l2 _ D HIX.out HI2.out HLX.out (by omega) w2 (HRX.out.le (Nat.zero_le _)) (HR2.out _ HBX.out) hge)
          have H39 := Lib.hid (fun q => f39_any _ _ _ l2 _ D HIX.out HI2.out hge HLX.out 0 (w2.drewN q) ((HRX.out.le (Nat.zero_le _)).draws q) ((HR2.out _ HBX.out).draws q))
          have HDV : Hid (Divs A D ((j : Int) - 1 + 1).toNat (Q + 2 ^ j) (2 * L + 1 - D)) := by
            show Divs _ _ _ _ _
            rw [show ((j : Int) - 1 + 1).toNat = j by omega]
            exact HDone.out hge
          clear hge
          go_wp2_with fail
          go_at_call 36
          refine H36.out.mono ?_
          rintro e w3 ⟨c, hc0, rfl, m, rfl⟩
          go_wp2_with fail
          go_at_call 39
          refine (H39.out m).mono ?_
          rintro e w4 ⟨lv4, m4, rfl, hr4, hi4, hb4⟩
          obtain ⟨la4, lc4, rfl⟩ := hr4.len
          have HO4 := Lib.hid (OwnB.below (w := w2.drewN m) HOX.out hb4 (Nat.le_refl _))
          have HB4 := Lib.hid ((below_drewN HBX.out m).trans (hb4.mono HBX.out.size))
          have HR4 := Lib.hid (hr4.le (B' := w.heap.size + 1) HZX.out)
          have HI4 := Lib.hid hi4
          have HZ4 : Hid (w.heap.size + 1 ≤ w4.heap.size) := Nat.le_trans HZX.out hb4.size
          have hyl : ys.length = n := HO1.out.len
          obtain ⟨s1, s2, s3⟩ := set_bit ys HD1.out j (by omega) (by rw [HQ1.out]; exact hdv.out.whole)
          have zc := HO4.out.cell (n - 1 - j / 8) (by omega)
          have zf := HO4.out.free (n - 1 - j / 8)
          have HO5 := Lib.hid (HO4.out.stored (n - 1 - j / 8) (ys.getD (n - 1 - j / 8) 0 + 2 ^ (j % 8)))
          rw [hyl] at s1 s2 s3
          have HD5 : Hid (∀ d ∈ ys.set (n - 1 - j / 8) (ys.getD (n - 1 - j / 8) 0 + 2 ^ (j % 8)), d < 256) := fun d hd => by
            rcases List.mem_or_eq_of_mem_set hd with h | h
            · exact HD1.out d h
            · rw [h]; exact s1
          have HS3 := Lib.hid s3
          have mo : bits BinOp.or IntKind.u8 ((ys.getD (n - 1 - j / 8) 0 : Nat) : Int) ((2 : Int) ^ (j % 8) % 256) = ((ys.getD (n - 1 - j / 8) 0 + 2 ^ (j % 8) : Nat) : Int) := by
            have e : ((2 : Int) ^ (j % 8) % 256) = ((2 ^ (j % 8) : Nat) : Int) := by
              have : 2 ^ (j % 8) < 256 := by omega
              have h2 : ((2 : Int) ^ (j % 8)) = ((2 ^ (j % 8) : Nat) : Int) := by simp
              rw [h2]
              generalize 2 ^ (j % 8) = p at *
              omega
            rw [e, or_u8 _ _ (by omega) (by omega), s2]
          have e8 : (j : Int) / 8 = ((j / 8 : Nat) : Int) := by omega
          have er : (j : Int) % 8 = ((j % 8 : Nat) : Int) := by omega
          have hr8 : j % 8 < 8 := by omega
          have eq : (n : Int) - 1 - ((j / 8 : Nat) : Int) = ((n - 1 - j / 8 : Nat) : Int) := by omega
          have hq : n - 1 - j / 8 < n := by omega
          clear hr4 hi4 hb4 s1 s2 s3 hyl
          generalize n - 1 - j / 8 = q at *
          generalize j % 8 = r at *
          generalize j / 8 = j8 at *
          generalize ys.getD q 0 = y0 at *
          go_wp2_with fail
          exact ⟨⟨(j : Int) - 1, by go_num, by omega, by omega, ⟨⟨_, Q + 2 ^ j, _, m4, by show OwnB _ _ _ _ _ _; simpa using HO5.out, HD5.out, by rw [HS3.out, HQ1.out], HDV.out, HR4.out.setOld (by show w.heap.size < w.heap.size + 1; omega) _, HI4.out⟩, HB4.out.setCell (p := ⟨w.heap.size, q, none⟩) (Nat.le_refl _) _, by simpa using HZ4.out⟩⟩, by (try simp [intOf]); (try omega)⟩
        · have H36 := Lib.hid (f36_lt _ _ _ l2 _ D HIX.out HI2.out HLX.out (by omega) w2 (HRX.out.le (Nat.zero_le _)) (HR2.out _ HBX.out) (by omega))
          have HDV : Hid (Divs A D ((j : Int) - 1 + 1).toNat Q (2 * L + 1)) := by
            show Divs _ _ _ _ _
            rw [show ((j : Int) - 1 + 1).toNat = j by omega]
            exact HDzero.out (by omega)
          clear hge
          go_wp2_with fail
          go_at_call 36
          refine H36.out.mono ?_
          rintro e w3 ⟨rfl, m, rfl⟩
          go_wp2_with fail
          exact ⟨⟨(j : Int) - 1, by go_num, by omega, by omega, ⟨⟨ys, Q, _, _, HOX.out, HD1.out, HQ1.out, HDV.out, HRX.out.draws m, HIX.out⟩, below_drewN HBX.out m, HZX.out⟩⟩, by (try simp [intOf]); (try omega)⟩
    · obtain rfl : i = -1 := by omega
      obtain ⟨⟨ys, Q, L, ll, ho, hd, hq, hdv, hrow, hib⟩, hbel, hsz⟩ := HT.out
      rw [show ((-1 : Int) + 1).toNat = 0 by decide] at hdv
      obtain ⟨hQ, hL⟩ := hdv.done
      obtain ⟨la, lc, rfl⟩ := hrow.len
      have H30 := Lib.hid (f30_any _ ys (by have := ho.len; omega) wr _ ho.row)
      have HRW := Lib.hid (hrow.le (B' := w.heap.size) (by omega))
      have HIB : Hid (IsB (A % D) ll) := hL ▸ hib
      have HQB : Hid (IsB (A / D) (strip ys)) := by have := IsB.ofStrip ys hd; rw [hq, hQ] at this; exact this
      have HBL := Lib.hid hbel
      clear ho hd hq hdv hrow hib hbel hsz hQ hL HT
      go_wp2_with fail
      go_at_call 30
      refine H30.out.mono ?_
      rintro e w1 ⟨v3, rfl, hr3, hb3⟩
      obtain ⟨la3, lc3, rfl⟩ := hr3.len
      have HR3 := Lib.hid (hr3.le (B' := w.heap.size) HBL.out.size)
      have HRW3 := Lib.hid (HRW.out.below hb3 (Nat.le_refl _))
      have HB3 := Lib.hid (HBL.out.trans (hb3.mono HBL.out.size))
      clear hr3 hb3
      go_wp2_with fail
      go_ret2
      exact ⟨_, _, _, _, rfl, HR3.out, HQB.out, HRW3.out, HIB.out, HB3.out⟩
end Go.Proofs.YtllgogkjcbdpkaaGreatDoor.Z
