import Derived.Test.YtabeokminikfdaaGreatQBf
import Derived.Test.YtabeokminikfdaaGreatQA1
set_option linter.all false
set_option maxRecDepth 100000
set_option maxHeartbeats 8000000
namespace Go.Proofs.YtabeokminikfdaaGreat
open Go.RowKit
theorem f30_any (W : World) (X : EV → Tr → Prop) (Y : EV → Prop) (hF : FitE W X Y) (hY : YS W Y) (v : Value) (len : Nat) (gf : Nat) (n deep : Int) (w : World) (hv : SlAt W 11 v len fun _ cs => ∃ k : EV, cs = k.cells ∧ Y k) (hp : FitPre W gf n w) (h0 : 0 ≤ deep) (h1 : deep ≤ 1000) :
  Calls Tryz.prog 30 #[.pointer (some ⟨gf, 0, none⟩), v, .int .i64 deep] w (FitPost gf n (fun m => ∃ ts, ts.length = len ∧ RowOf W 11 (fun _ cs t => ∃ k : EV, cs = k.cells ∧ AX W X k t) v ts ∧ (sizes ts : Int) + ts.length ≤ 3 * m) w) := by
 obtain ⟨a, c, rfl, hc, hcm, hrow⟩ := hv
 have hlen : len ≤ 9223372036854775807 := by unfold maxLen at hcm; omega
 have HF := Lib.hid hF
 have HP := Lib.hid hp
 have HR := Lib.hid hrow
 have HC := Lib.hid hc
 have HM := Lib.hid hcm
 have HY := Lib.hid hY
 clear hF hp hrow hc hcm hY
 go_enter Tryz.func30, Tryz.ntmps30
 go_wp2
 go_loopw [11] (fun i wr => ∃ k : Nat, k ≤ len ∧ i = .int .i64 k ∧ Sofar2 W 11 (fun _ cs t => ∃ k : EV, cs = k.cells ∧ AX W X k t) a gf n w k wr) (fun i _ => len - (intOf i).toNat)
 case atStart => exact ⟨0, Nat.zero_le _, rfl, Sofar2.start HP.out⟩
 case round =>
  obtain ⟨k, hk, rfl, hS⟩ := hrel
  have HS := Lib.hid hS
  clear hS
  by_cases hlt : k < len
  ·have hk' : k < len := by omega
   obtain ⟨g, off, rfl, hel⟩ := HR.out (Nat.lt_of_le_of_lt (Nat.zero_le k) hk')
   obtain ⟨cs, hsz, hcs, x, rfl, hx⟩ := hel k hk'
   obtain ⟨n', ts, hl, hw, hn0, hn1, hz, hall⟩ := HS.out
   have hb := hw.below HP.out.bel HP.out.low
   have hsh := HY.out.sh x hx
   obtain ⟨nK, hkids⟩ := HY.out.kids x hx
   have htx := HY.out.text x hx
   obtain ⟨xk, xo, xt, vk, vn, vm, vb, vt, vs, ks, ps⟩ := x
   obtain ⟨⟨a1, n1, m1, rfl⟩, ⟨a2, n2, m2, rfl⟩, ⟨a3, n3, m3, rfl⟩, ⟨a4, n4, m4, rfl⟩⟩ := hsh
   obtain rfl : n3 = nK := by obtain ⟨_, _, h⟩ := hkids.val; cases h; rfl
   obtain ⟨c0, c1, c2, c3, c4, c5, c6, c7, c8, c9, c10⟩ := ev_cells hb hcs
   dsimp only at c0 c1 c2 c3 c4 c5 c6 c7 c8 c9 c10 htx hkids
   have hPk := HP.out.next hw hn0 hn1
   have hne : ¬ wr.heap.size = gf := by have := hPk.left.lt; omega
   have HPk := Lib.hid hPk
   have HW := Lib.hid hw
   have HX := Lib.hid hx
   have HE : Hid (El W 11 g off k _) := Lib.hid ⟨rfl, hcs⟩
   have HA := Lib.hid hall
   have HL := Lib.hid hl
   have HK := Lib.hid hkids
   have HT := Lib.hid htx
   have HLim := Lib.hid hPk.left.lt
   clear hel hcs hall hx hl hw hb hsz HR HS hPk hkids htx
   by_cases h15 : xk = 15
   ·subst h15
    go_wp2_with fail
    refine (f28_any ⟨15, xo, xt, vk, vn, _, vb, vt, _, _, _⟩ ⟨⟨_, _, _, rfl⟩, ⟨_, _, _, rfl⟩, ⟨_, _, _, rfl⟩, ⟨_, _, _, rfl⟩⟩ _).mono ?_
    rintro e w1 ⟨b, rfl, hb1⟩
    have F1 : FW gf n' (wr.alloc (.cells #[.int .i64 15, .int .i64 xo, .string xt, .int .i64 vk, .bool vn, .slice a1 n1 m1, .int .u64 vb, .string vt, .slice a2 n2 m2, .slice a3 n3 m3, .slice a4 n4 m4] 164)) w1 := FW.of_below (HPk.out.left.alloc _) hb1
    have b0 : w1.cell? ⟨wr.heap.size, 0, none⟩ = some (.int .i64 15) := F1.box hne 0 _ rfl
    have b2 : w1.cell? ⟨wr.heap.size, 2, none⟩ = some (.string xt) := F1.box hne 2 _ rfl
    have b9 : w1.cell? ⟨wr.heap.size, 9, none⟩ = some (.slice a3 n3 m3) := F1.box hne 9 _ rfl
    have HF1 := Lib.hid F1
    have HP1 := Lib.hid ((HPk.out.after bA).next F1 hn0 (Int.le_refl _))
    clear hb1 F1 c0 c1 c2 c3 c4 c5 c6 c7 c8 c9 c10
    cases b
    ·go_wp2
     go_ret
     exact fit_no rfl (HW.out.trans (FW.after bA HF1.out))
    ·by_cases hn3 : n3 = 1
     ·obtain rfl : 1 = n3 := hn3.symm
      clear hn3
      obtain ⟨ka, kc, hka, hk1, hk2, hk3⟩ := HK.out
      obtain ⟨g3, o3, rfl, hk4⟩ := hk3 (by omega)
      cases hka
      obtain ⟨cs0, hs0, he0, y, rfl, hy⟩ := hk4 0 (by omega)
      have hsh0 := HY.out.sh y hy
      obtain ⟨yk, yo, yt, zk, zn, zm, zb, zt, zs, ys', yp⟩ := y
      obtain ⟨⟨p1, q1, r1, rfl⟩, ⟨p2, q2, r2, rfl⟩, ⟨p3, q3, r3, rfl⟩, ⟨p4, q4, r4, rfl⟩⟩ := hsh0
      clear hs0 hk4 hk3
      have HY0 := Lib.hid hy
      have HE0 : Hid (El W 11 g3 o3 0 _) := Lib.hid ⟨rfl, he0⟩
      clear hy he0
      go_wp2_with fail
      refine (f19_any xt HT.out w1).mono ?_
      rintro e w' ⟨b, rfl, rfl⟩
      cases b
      ·go_wp2
       go_ret
       exact fit_no rfl (HW.out.trans (FW.after bA HF1.out))
      ·go_wp2_with fail
       refine (f12_fw W gf n' deep w1 HP1.out).mono ?_
       rintro e w2 ⟨b, rfl, F2, hq⟩
       have F := HF1.out.trans F2
       have b0 : w2.cell? ⟨wr.heap.size, 0, none⟩ = some (.int .i64 15) := F.box hne 0 _ rfl
       have b9 : w2.cell? ⟨wr.heap.size, 9, none⟩ = some (.slice (some ⟨g3, o3, none⟩) 1 m3) := F.box hne 9 _ rfl
       have HF2 := Lib.hid F
       have HQ := Lib.hid hq
       have HB2 := Lib.hid (F.below (HPk.out.after bA).bel HPk.out.low)
       obtain ⟨c0, c1, c2, c3, c4, c5, c6, c7, c8, c9, c10⟩ := ev_cells0 HB2.out HE0.out.2
       dsimp only at c0 c1 c2 c3 c4 c5 c6 c7 c8 c9 c10
       clear F F2 hq
       cases b
       ·go_wp2
        go_ret
        exact fit_no rfl (HW.out.trans (FW.after bA HF2.out))
       ·obtain ⟨hn', hdeep⟩ := HQ.out rfl
        clear HQ
        have HP2 := Lib.hid (HP1.out.next' HF2.out HB2.out (by omega) (by omega))
        go_wp2_with fail
        refine (HF.out _ gf (n' - 1) (deep + 1) w2 HY0.out HP2.out (by omega) (by omega)).mono ?_
        rintro e w3 ⟨b, n2, rfl, F3, hq3⟩
        have HF3 := Lib.hid (HF2.out.trans F3)
        have HQ3 := Lib.hid hq3
        clear F3 hq3
        cases b
        ·go_wp2
         go_ret
         exact fit_no rfl (HW.out.trans (FW.after bA HF3.out))
        ·have HQ4 := Lib.hid (HQ3.out rfl)
         clear HQ3
         go_wp2
         go_roundw
         case rel =>
          obtain ⟨q0, q1, t, ht, hts⟩ := HQ4.out
          refine ⟨k + 1, by omega, by go_num, ?_⟩
          refine Sofar2.snoc HL.out hz hn1 HA.out HE.out (t := .mk none [idt xt, t]) ⟨_, rfl, ?_⟩ (HW.out.trans (FW.after bA HF3.out)) q0 (by omega) (by simp only [Tr.size, sizes, idt]; omega)
          exact ⟨⟨⟨_, _, _, rfl⟩, ⟨_, _, _, rfl⟩, ⟨_, _, _, rfl⟩, ⟨_, _, _, rfl⟩⟩, Or.inl ⟨rfl, t, SlAt.one rfl HK.out rfl HE0.out ⟨_, rfl, ht⟩, rfl⟩⟩
         case measure =>
          simp [intOf]
          omega
     ·go_wp2
      go_ret
      exact fit_no rfl (HW.out.trans (FW.after bA HF1.out))
   by_cases h16 : xk = 16
   ·subst h16
    clear h15
    go_wp2_with fail
    refine (f28_any ⟨16, xo, xt, vk, vn, _, vb, vt, _, _, _⟩ ⟨⟨_, _, _, rfl⟩, ⟨_, _, _, rfl⟩, ⟨_, _, _, rfl⟩, ⟨_, _, _, rfl⟩⟩ _).mono ?_
    rintro e w1 ⟨b, rfl, hb1⟩
    have F1 : FW gf n' (wr.alloc (.cells #[.int .i64 16, .int .i64 xo, .string xt, .int .i64 vk, .bool vn, .slice a1 n1 m1, .int .u64 vb, .string vt, .slice a2 n2 m2, .slice a3 n3 m3, .slice a4 n4 m4] 164)) w1 := FW.of_below (HPk.out.left.alloc _) hb1
    have b0 : w1.cell? ⟨wr.heap.size, 0, none⟩ = some (.int .i64 16) := F1.box hne 0 _ rfl
    have b2 : w1.cell? ⟨wr.heap.size, 2, none⟩ = some (.string xt) := F1.box hne 2 _ rfl
    have b9 : w1.cell? ⟨wr.heap.size, 9, none⟩ = some (.slice a3 n3 m3) := F1.box hne 9 _ rfl
    have HF1 := Lib.hid F1
    have HP1 := Lib.hid ((HPk.out.after bA).next F1 hn0 (Int.le_refl _))
    clear hb1 F1 c0 c1 c2 c3 c4 c5 c6 c7 c8 c9 c10
    cases b
    ·go_wp2
     go_ret
     exact fit_no rfl (HW.out.trans (FW.after bA HF1.out))
    ·by_cases hn3 : n3 = 1
     ·obtain rfl : 1 = n3 := hn3.symm
      clear hn3
      obtain ⟨ka, kc, hka, hk1, hk2, hk3⟩ := HK.out
      obtain ⟨g3, o3, rfl, hk4⟩ := hk3 (by omega)
      cases hka
      obtain ⟨cs0, hs0, he0, y, rfl, hy⟩ := hk4 0 (by omega)
      have hsh0 := HY.out.sh y hy
      obtain ⟨yk, yo, yt, zk, zn, zm, zb, zt, zs, ys', yp⟩ := y
      obtain ⟨⟨p1, q1, r1, rfl⟩, ⟨p2, q2, r2, rfl⟩, ⟨p3, q3, r3, rfl⟩, ⟨p4, q4, r4, rfl⟩⟩ := hsh0
      clear hs0 hk4 hk3
      have HY0 := Lib.hid hy
      have HE0 : Hid (El W 11 g3 o3 0 _) := Lib.hid ⟨rfl, he0⟩
      clear hy he0
      go_wp2_with fail
      refine (f12_fw W gf n' deep w1 HP1.out).mono ?_
      rintro e w2 ⟨b, rfl, F2, hq⟩
      have F := HF1.out.trans F2
      have b0 : w2.cell? ⟨wr.heap.size, 0, none⟩ = some (.int .i64 16) := F.box hne 0 _ rfl
      have b9 : w2.cell? ⟨wr.heap.size, 9, none⟩ = some (.slice (some ⟨g3, o3, none⟩) 1 m3) := F.box hne 9 _ rfl
      have HF2 := Lib.hid F
      have HQ := Lib.hid hq
      have HB2 := Lib.hid (F.below (HPk.out.after bA).bel HPk.out.low)
      obtain ⟨c0, c1, c2, c3, c4, c5, c6, c7, c8, c9, c10⟩ := ev_cells0 HB2.out HE0.out.2
      dsimp only at c0 c1 c2 c3 c4 c5 c6 c7 c8 c9 c10
      clear F F2 hq
      cases b
      ·go_wp2
       go_ret
       exact fit_no rfl (HW.out.trans (FW.after bA HF2.out))
      ·obtain ⟨hn', hdeep⟩ := HQ.out rfl
       clear HQ
       have HP2 := Lib.hid (HP1.out.next' HF2.out HB2.out (by omega) (by omega))
       go_wp2_with fail
       refine (HF.out _ gf (n' - 1) (deep + 1) w2 HY0.out HP2.out (by omega) (by omega)).mono ?_
       rintro e w3 ⟨b, n2, rfl, F3, hq3⟩
       have HF3 := Lib.hid (HF2.out.trans F3)
       have HQ3 := Lib.hid hq3
       clear F3 hq3
       cases b
       ·go_wp2
        go_ret
        exact fit_no rfl (HW.out.trans (FW.after bA HF3.out))
       ·have HQ4 := Lib.hid (HQ3.out rfl)
        clear HQ3
        go_wp2
        go_roundw
        case rel =>
         obtain ⟨q0, q1, t, ht, hts⟩ := HQ4.out
         refine ⟨k + 1, by omega, by go_num, ?_⟩
         refine Sofar2.snoc HL.out hz hn1 HA.out HE.out (t := .mk none [t]) ⟨_, rfl, ?_⟩ (HW.out.trans (FW.after bA HF3.out)) q0 (by omega) (by simp only [Tr.size, sizes, idt]; omega)
         exact ⟨⟨⟨_, _, _, rfl⟩, ⟨_, _, _, rfl⟩, ⟨_, _, _, rfl⟩, ⟨_, _, _, rfl⟩⟩, Or.inr (Or.inl ⟨Or.inl rfl, t, SlAt.one rfl HK.out rfl HE0.out ⟨_, rfl, ht⟩, rfl⟩)⟩
        case measure =>
         simp [intOf]
         omega
     ·go_wp2
      go_ret
      exact fit_no rfl (HW.out.trans (FW.after bA HF1.out))
   by_cases h17 : xk = 17
   ·subst h17
    clear h15 h16
    go_wp2_with fail
    refine (f28_any ⟨17, xo, xt, vk, vn, _, vb, vt, _, _, _⟩ ⟨⟨_, _, _, rfl⟩, ⟨_, _, _, rfl⟩, ⟨_, _, _, rfl⟩, ⟨_, _, _, rfl⟩⟩ _).mono ?_
    rintro e w1 ⟨b, rfl, hb1⟩
    have F1 : FW gf n' (wr.alloc (.cells #[.int .i64 17, .int .i64 xo, .string xt, .int .i64 vk, .bool vn, .slice a1 n1 m1, .int .u64 vb, .string vt, .slice a2 n2 m2, .slice a3 n3 m3, .slice a4 n4 m4] 164)) w1 := FW.of_below (HPk.out.left.alloc _) hb1
    have b0 : w1.cell? ⟨wr.heap.size, 0, none⟩ = some (.int .i64 17) := F1.box hne 0 _ rfl
    have b2 : w1.cell? ⟨wr.heap.size, 2, none⟩ = some (.string xt) := F1.box hne 2 _ rfl
    have b9 : w1.cell? ⟨wr.heap.size, 9, none⟩ = some (.slice a3 n3 m3) := F1.box hne 9 _ rfl
    have HF1 := Lib.hid F1
    have HP1 := Lib.hid ((HPk.out.after bA).next F1 hn0 (Int.le_refl _))
    clear hb1 F1 c0 c1 c2 c3 c4 c5 c6 c7 c8 c9 c10
    cases b
    ·go_wp2
     go_ret
     exact fit_no rfl (HW.out.trans (FW.after bA HF1.out))
    ·by_cases hn3 : n3 = 1
     ·obtain rfl : 1 = n3 := hn3.symm
      clear hn3
      obtain ⟨ka, kc, hka, hk1, hk2, hk3⟩ := HK.out
      obtain ⟨g3, o3, rfl, hk4⟩ := hk3 (by omega)
      cases hka
      obtain ⟨cs0, hs0, he0, y, rfl, hy⟩ := hk4 0 (by omega)
      have hsh0 := HY.out.sh y hy
      obtain ⟨yk, yo, yt, zk, zn, zm, zb, zt, zs, ys', yp⟩ := y
      obtain ⟨⟨p1, q1, r1, rfl⟩, ⟨p2, q2, r2, rfl⟩, ⟨p3, q3, r3, rfl⟩, ⟨p4, q4, r4, rfl⟩⟩ := hsh0
      clear hs0 hk4 hk3
      have HY0 := Lib.hid hy
      have HE0 : Hid (El W 11 g3 o3 0 _) := Lib.hid ⟨rfl, he0⟩
      clear hy he0
      go_wp2_with fail
      refine (f12_fw W gf n' deep w1 HP1.out).mono ?_
      rintro e w2 ⟨b, rfl, F2, hq⟩
      have F := HF1.out.trans F2
      have b0 : w2.cell? ⟨wr.heap.size, 0, none⟩ = some (.int .i64 17) := F.box hne 0 _ rfl
      have b9 : w2.cell? ⟨wr.heap.size, 9, none⟩ = some (.slice (some ⟨g3, o3, none⟩) 1 m3) := F.box hne 9 _ rfl
      have HF2 := Lib.hid F
      have HQ := Lib.hid hq
      have HB2 := Lib.hid (F.below (HPk.out.after bA).bel HPk.out.low)
      obtain ⟨c0, c1, c2, c3, c4, c5, c6, c7, c8, c9, c10⟩ := ev_cells0 HB2.out HE0.out.2
      dsimp only at c0 c1 c2 c3 c4 c5 c6 c7 c8 c9 c10
      clear F F2 hq
      cases b
      ·go_wp2
       go_ret
       exact fit_no rfl (HW.out.trans (FW.after bA HF2.out))
      ·obtain ⟨hn', hdeep⟩ := HQ.out rfl
       clear HQ
       have HP2 := Lib.hid (HP1.out.next' HF2.out HB2.out (by omega) (by omega))
       go_wp2_with fail
       refine (HF.out _ gf (n' - 1) (deep + 1) w2 HY0.out HP2.out (by omega) (by omega)).mono ?_
       rintro e w3 ⟨b, n2, rfl, F3, hq3⟩
       have HF3 := Lib.hid (HF2.out.trans F3)
       have HQ3 := Lib.hid hq3
       clear F3 hq3
       cases b
       ·go_wp2
        go_ret
        exact fit_no rfl (HW.out.trans (FW.after bA HF3.out))
       ·have HQ4 := Lib.hid (HQ3.out rfl)
        clear HQ3
        go_wp2
        go_roundw
        case rel =>
         obtain ⟨q0, q1, t, ht, hts⟩ := HQ4.out
         refine ⟨k + 1, by omega, by go_num, ?_⟩
         refine Sofar2.snoc HL.out hz hn1 HA.out HE.out (t := .mk none [t]) ⟨_, rfl, ?_⟩ (HW.out.trans (FW.after bA HF3.out)) q0 (by omega) (by simp only [Tr.size, sizes, idt]; omega)
         exact ⟨⟨⟨_, _, _, rfl⟩, ⟨_, _, _, rfl⟩, ⟨_, _, _, rfl⟩, ⟨_, _, _, rfl⟩⟩, Or.inr (Or.inl ⟨Or.inr rfl, t, SlAt.one rfl HK.out rfl HE0.out ⟨_, rfl, ht⟩, rfl⟩)⟩
        case measure =>
         simp [intOf]
         omega
     ·go_wp2
      go_ret
      exact fit_no rfl (HW.out.trans (FW.after bA HF1.out))
   have b15 := int_ne _ _ h15
   have b16 := int_ne _ _ h16
   have b17 := int_ne _ _ h17
   have H3 := Lib.hid (show xk ≠ 15 ∧ xk ≠ 16 ∧ xk ≠ 17 from ⟨h15, h16, h17⟩)
   clear h15 h16 h17
   go_wp2_with fail
   refine (HF.out _ gf n' deep _ HX.out (HPk.out.after bA) h0 h1).mono ?_
   rintro e w3 ⟨b, n2, rfl, F3, hq3⟩
   have HF3 := Lib.hid F3
   have HQ3 := Lib.hid hq3
   clear F3 hq3
   cases b
   ·go_wp2
    go_ret
    exact fit_no rfl (HW.out.trans (FW.after bA HF3.out))
   ·have HQ4 := Lib.hid (HQ3.out rfl)
    clear HQ3
    go_wp2
    go_roundw
    case rel =>
     obtain ⟨q0, q1, t, ht, hts⟩ := HQ4.out
     refine ⟨k + 1, by omega, by go_num, ?_⟩
     refine Sofar2.snoc HL.out hz hn1 HA.out HE.out (t := t) ⟨_, rfl, ?_⟩ (HW.out.trans (FW.after bA HF3.out)) q0 (by omega) (by omega)
     exact ⟨⟨⟨_, _, _, rfl⟩, ⟨_, _, _, rfl⟩, ⟨_, _, _, rfl⟩, ⟨_, _, _, rfl⟩⟩, Or.inr (Or.inr ⟨H3.out.1, H3.out.2.1, H3.out.2.2, ht⟩)⟩
    case measure =>
     simp [intOf]
     omega
  ·go_wp2
   go_ret
   obtain rfl : k = len := by omega
   exact HS.out.done HC.out HM.out fun h => by
    obtain ⟨g, off, ha, _⟩ := HR.out h
    exact ⟨g, off, ha⟩
end Go.Proofs.YtabeokminikfdaaGreat
