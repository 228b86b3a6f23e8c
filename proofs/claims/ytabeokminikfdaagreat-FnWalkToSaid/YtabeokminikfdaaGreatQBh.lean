import Derived.Test.YtabeokminikfdaaGreatQBf
import Derived.Test.YtabeokminikfdaaGreatQA1
set_option linter.all false
set_option maxRecDepth 100000
set_option maxHeartbeats 8000000
namespace Go.Proofs.YtabeokminikfdaaGreat
open Go.RowKit
theorem f31_any (W : World) (X : EV → Tr → Prop) (Y : EV → Prop) (hF : FitE W X Y) (hY : YS W Y) (v : Value) (len : Nat) (gf : Nat) (n deep : Int) (w : World) (hv : SlAt W 11 v len fun _ cs => ∃ k : EV, cs = k.cells ∧ Y k) (hp : FitPre W gf n w) (h0 : 0 ≤ deep) (h1 : deep ≤ 1000) :
  Calls Tryz.prog 31 #[.pointer (some ⟨gf, 0, none⟩), v, .int .i64 deep] w (FitPost gf n (fun m => ∃ ts, ts.length = len ∧ RowOf W 11 (fun i cs t => ∃ k : EV, cs = k.cells ∧ CX W X k t ∧ (i = 0 → k.kind = 21)) v ts ∧ (sizes ts : Int) + ts.length ≤ 3 * m) w) := by
 obtain ⟨a, c, rfl, hc, hcm, hrow⟩ := hv
 have hlen : len ≤ 9223372036854775807 := by unfold maxLen at hcm; omega
 have HF := Lib.hid hF
 have HP := Lib.hid hp
 have HR := Lib.hid hrow
 have HC := Lib.hid hc
 have HM := Lib.hid hcm
 have HY := Lib.hid hY
 clear hF hp hrow hc hcm hY
 go_enter Tryz.func31, Tryz.ntmps31
 go_wp2
 go_loopw [12] (fun i wr => ∃ k : Nat, k ≤ len ∧ i = .int .i64 k ∧ Sofar2 W 11 (fun i cs t => ∃ k : EV, cs = k.cells ∧ CX W X k t ∧ (i = 0 → k.kind = 21)) a gf n w k wr) (fun i _ => len - (intOf i).toNat)
 case atStart => exact ⟨0, Nat.zero_le _, rfl, Sofar2.start HP.out⟩
 case round =>
  obtain ⟨k, hk, rfl, hS⟩ := hrel
  have HS := Lib.hid hS
  clear hS
  by_cases hlt : k < len
  ·have hk' : k < len := by omega
   obtain ⟨g, off, rfl, hel⟩ := HR.out (Nat.lt_of_le_of_lt (Nat.zero_le k) hk')
   obtain ⟨cs, hsz, hcs, x, rfl, hx⟩ := hel k hk'
   obtain ⟨n', ts, hl, hw, hn0, hn1, hz, hall⟩ := HS.out
   have hb := hw.below HP.out.bel HP.out.low
   have hsh := HY.out.sh x hx
   obtain ⟨nK, hkids⟩ := HY.out.kids x hx
   have htx := HY.out.text x hx
   obtain ⟨xk, xo, xt, vk, vn, vm, vb, vt, vs, ks, ps⟩ := x
   obtain ⟨⟨a1, n1, m1, rfl⟩, ⟨a2, n2, m2, rfl⟩, ⟨a3, n3, m3, rfl⟩, ⟨a4, n4, m4, rfl⟩⟩ := hsh
   obtain rfl : n3 = nK := by obtain ⟨_, _, h⟩ := hkids.val; cases h; rfl
   obtain ⟨c0, c1, c2, c3, c4, c5, c6, c7, c8, c9, c10⟩ := ev_cells hb hcs
   dsimp only at c0 c1 c2 c3 c4 c5 c6 c7 c8 c9 c10 htx hkids
   have hPk := HP.out.next hw hn0 hn1
   have hne : ¬ wr.heap.size = gf := by have := hPk.left.lt; omega
   have HPk := Lib.hid hPk
   have HW := Lib.hid hw
   have HX := Lib.hid hx
   have HE : Hid (El W 11 g off k _) := Lib.hid ⟨rfl, hcs⟩
   have HA := Lib.hid hall
   have HL := Lib.hid hl
   have HK := Lib.hid hkids
   have HT := Lib.hid htx
   have HLim := Lib.hid hPk.left.lt
   clear hel hcs hall hx hl hw hb hsz HR HS hPk hkids htx
   by_cases h21 : xk = 21
   ·subst h21
    go_wp2_with fail
    refine (f28_any ⟨21, xo, xt, vk, vn, _, vb, vt, _, _, _⟩ ⟨⟨_, _, _, rfl⟩, ⟨_, _, _, rfl⟩, ⟨_, _, _, rfl⟩, ⟨_, _, _, rfl⟩⟩ _).mono ?_
    rintro e w1 ⟨b, rfl, hb1⟩
    have F1 : FW gf n' (wr.alloc (.cells #[.int .i64 21, .int .i64 xo, .string xt, .int .i64 vk, .bool vn, .slice a1 n1 m1, .int .u64 vb, .string vt, .slice a2 n2 m2, .slice a3 n3 m3, .slice a4 n4 m4] 164)) w1 := FW.of_below (HPk.out.left.alloc _) hb1
    have b0 : w1.cell? ⟨wr.heap.size, 0, none⟩ = some (.int .i64 21) := F1.box hne 0 _ rfl
    have b9 : w1.cell? ⟨wr.heap.size, 9, none⟩ = some (.slice a3 n3 m3) := F1.box hne 9 _ rfl
    have HF1 := Lib.hid F1
    have HP1 := Lib.hid ((HPk.out.after bA).next F1 hn0 (Int.le_refl _))
    clear hb1 F1 c0 c1 c2 c3 c4 c5 c6 c7 c8 c9 c10
    cases b
    ·go_wp2
     go_ret
     exact fit_no rfl (HW.out.trans (FW.after bA HF1.out))
    ·by_cases hn3 : n3 = 2
     ·obtain rfl : 2 = n3 := hn3.symm
      clear hn3
      go_wp2_with fail
      refine (f12_fw W gf n' deep w1 HP1.out).mono ?_
      rintro e w2 ⟨b, rfl, F2, hq⟩
      have F := HF1.out.trans F2
      have b9 : w2.cell? ⟨wr.heap.size, 9, none⟩ = some (.slice a3 2 m3) := F.box hne 9 _ rfl
      have HF2 := Lib.hid F
      have HQ := Lib.hid hq
      have HB2 := Lib.hid (F.below (HPk.out.after bA).bel HPk.out.low)
      clear F F2 hq
      cases b
      ·go_wp2
       go_ret
       exact fit_no rfl (HW.out.trans (FW.after bA HF2.out))
      ·obtain ⟨hn', hdeep⟩ := HQ.out rfl
       clear HQ
       have HP2 := Lib.hid (HP1.out.next' HF2.out HB2.out (by omega) (by omega))
       go_wp2_with fail
       refine (f18_any W X Y HF.out HY.out.sh _ 2 gf (n' - 1) (deep + 1) w2 HK.out HP2.out (by omega) (by omega)).mono ?_
       rintro e w3 ⟨b, n2, rfl, F3, hq3⟩
       have HF3 := Lib.hid (HF2.out.trans F3)
       have HQ3 := Lib.hid hq3
       clear F3 hq3
       cases b
       ·go_wp2
        go_ret
        exact fit_no rfl (HW.out.trans (FW.after bA HF3.out))
       ·have HQ4 := Lib.hid (HQ3.out rfl)
        clear HQ3
        go_wp2
        go_roundw
        case rel =>
         obtain ⟨q0, q1, us, hus, hrow, hts⟩ := HQ4.out
         refine ⟨k + 1, by omega, by go_num, ?_⟩
         refine Sofar2.snoc HL.out hz hn1 HA.out HE.out (t := .mk none us) ⟨_, rfl, ?_, ?_⟩ (HW.out.trans (FW.after bA HF3.out)) q0 (by omega) (by simp only [Tr.size]; omega)
         ·match us, hus, hrow with
          | [p, q], _, hrow => exact ⟨⟨⟨_, _, _, rfl⟩, ⟨_, _, _, rfl⟩, ⟨_, _, _, rfl⟩, ⟨_, _, _, rfl⟩⟩, Or.inl ⟨rfl, p, q, hrow, rfl⟩⟩
         ·exact fun _ => rfl
        case measure =>
         simp [intOf]
         omega
     ·go_wp2
      go_ret
      exact fit_no rfl (HW.out.trans (FW.after bA HF1.out))
   have b21 := int_ne _ _ h21
   by_cases h22 : xk = 22
   ·subst h22
    clear h21 b21
    by_cases hk0 : k = 0
    ·have hkb : ((k : Int) == 0) = true := by simp [hk0]
     clear hk0
     go_wp2
     go_ret
     exact fit_no rfl (HW.out.trans (FW.of_below HPk.out.left bA))
    ·have hkb := int_ne (k : Int) 0 (by omega)
     go_wp2_with fail
     refine (f28_any ⟨22, xo, xt, vk, vn, _, vb, vt, _, _, _⟩ ⟨⟨_, _, _, rfl⟩, ⟨_, _, _, rfl⟩, ⟨_, _, _, rfl⟩, ⟨_, _, _, rfl⟩⟩ _).mono ?_
     rintro e w1 ⟨b, rfl, hb1⟩
     have F1 : FW gf n' (wr.alloc (.cells #[.int .i64 22, .int .i64 xo, .string xt, .int .i64 vk, .bool vn, .slice a1 n1 m1, .int .u64 vb, .string vt, .slice a2 n2 m2, .slice a3 n3 m3, .slice a4 n4 m4] 164)) w1 := FW.of_below (HPk.out.left.alloc _) hb1
     have b0 : w1.cell? ⟨wr.heap.size, 0, none⟩ = some (.int .i64 22) := F1.box hne 0 _ rfl
     have b9 : w1.cell? ⟨wr.heap.size, 9, none⟩ = some (.slice a3 n3 m3) := F1.box hne 9 _ rfl
     have HF1 := Lib.hid F1
     have HP1 := Lib.hid ((HPk.out.after bA).next F1 hn0 (Int.le_refl _))
     clear hb1 F1 c0 c1 c2 c3 c4 c5 c6 c7 c8 c9 c10
     cases b
     ·go_wp2
      go_ret
      exact fit_no rfl (HW.out.trans (FW.after bA HF1.out))
     ·by_cases hn3 : n3 = 1
      ·obtain rfl : 1 = n3 := hn3.symm
       clear hn3
       go_wp2_with fail
       refine (f12_fw W gf n' deep w1 HP1.out).mono ?_
       rintro e w2 ⟨b, rfl, F2, hq⟩
       have F := HF1.out.trans F2
       have b9 : w2.cell? ⟨wr.heap.size, 9, none⟩ = some (.slice a3 1 m3) := F.box hne 9 _ rfl
       have HF2 := Lib.hid F
       have HQ := Lib.hid hq
       have HB2 := Lib.hid (F.below (HPk.out.after bA).bel HPk.out.low)
       clear F F2 hq
       cases b
       ·go_wp2
        go_ret
        exact fit_no rfl (HW.out.trans (FW.after bA HF2.out))
       ·obtain ⟨hn', hdeep⟩ := HQ.out rfl
        clear HQ
        have HP2 := Lib.hid (HP1.out.next' HF2.out HB2.out (by omega) (by omega))
        go_wp2_with fail
        refine (f18_any W X Y HF.out HY.out.sh _ 1 gf (n' - 1) (deep + 1) w2 HK.out HP2.out (by omega) (by omega)).mono ?_
        rintro e w3 ⟨b, n2, rfl, F3, hq3⟩
        have HF3 := Lib.hid (HF2.out.trans F3)
        have HQ3 := Lib.hid hq3
        clear F3 hq3
        cases b
        ·go_wp2
         go_ret
         exact fit_no rfl (HW.out.trans (FW.after bA HF3.out))
        ·have HQ4 := Lib.hid (HQ3.out rfl)
         clear HQ3
         go_wp2
         go_roundw
         case rel =>
          obtain ⟨q0, q1, us, hus, hrow, hts⟩ := HQ4.out
          refine ⟨k + 1, by omega, by go_num, ?_⟩
          refine Sofar2.snoc HL.out hz hn1 HA.out HE.out (t := .mk none us) ⟨_, rfl, ?_, ?_⟩ (HW.out.trans (FW.after bA HF3.out)) q0 (by omega) (by simp only [Tr.size]; omega)
          ·match us, hus, hrow with
           | [p], _, hrow => exact ⟨⟨⟨_, _, _, rfl⟩, ⟨_, _, _, rfl⟩, ⟨_, _, _, rfl⟩, ⟨_, _, _, rfl⟩⟩, Or.inr ⟨rfl, p, hrow, rfl⟩⟩
          ·exact fun h => absurd h hk0
         case measure =>
          simp [intOf]
          omega
      ·go_wp2
       go_ret
       exact fit_no rfl (HW.out.trans (FW.after bA HF1.out))
   have b22 := int_ne _ _ h22
   clear h21 h22
   go_wp2
   go_ret
   exact fit_no rfl (HW.out.trans (FW.of_below HPk.out.left bA))
  ·go_wp2
   go_ret
   obtain rfl : k = len := by omega
   exact HS.out.done HC.out HM.out fun h => by
    obtain ⟨g, off, ha, _⟩ := HR.out h
    exact ⟨g, off, ha⟩
end Go.Proofs.YtabeokminikfdaaGreat
