import Derived.Test.YtabeokminikfdaaGreatQBo
import Derived.Test.YtabeokminikfdaaGreatQA1
set_option linter.all false
set_option maxRecDepth 100000
set_option maxHeartbeats 8000000
namespace Go.Proofs.YtabeokminikfdaaGreat
open Go.RowKit
theorem f13_4 (W : World) (X : EV → Tr → Prop) (Y : EV → Prop) (S : SV → Tr → Prop) (Z : SV → Prop) (hF : FitE W X Y) (hY : YS W Y) (hS : FitL W S Z) (xo : Int) (xt : ByteArray) (a1 a2 a3 a4 a5 : Option Addr) (n1 n2 n3 n4 n5 m1 m2 m3 m4 m5 : Nat) (gf : Nat) (n deep : Int) (w : World)
  (hN : ∃ l, Strs W (.slice a1 n1 m1) l ∧ l.length ≤ maxLen) (hE : SlAt W 11 (.slice a2 n2 m2) n2 fun _ cs => ∃ k : EV, cs = k.cells ∧ Y k) (hPs : SlAt W 3 (.slice a3 n3 m3) n3 fun _ cs => ∃ p : PV, cs = p.cells ∧ p.name.size ≤ maxLen ∧ ∃ m, SlAt W 11 p.dflt m fun _ cs' => ∃ k : EV, cs' = k.cells ∧ Y k)
  (hB : SlAt W 8 (.slice a4 n4 m4) n4 fun _ cs => ∃ k : SV, cs = k.cells ∧ Z k) (hL : SlAt W 8 (.slice a5 n5 m5) n5 fun _ cs => ∃ k : SV, cs = k.cells ∧ Z k) (ht : xt.size ≤ maxLen) (hp : FitPre W gf n w) (h0 : 0 ≤ deep) (h1 : deep ≤ 24) :
  Calls Tryz.prog 13 #[.pointer (some ⟨gf, 0, none⟩), (SV.mk 4 xo xt (.slice a1 n1 m1) (.slice a2 n2 m2) (.slice a3 n3 m3) (.slice a4 n4 m4) (.slice a5 n5 m5)).val, .int .i64 deep] w (FitPost gf n (fun m => ∃ t, ShS true W X S (SV.mk 4 xo xt (.slice a1 n1 m1) (.slice a2 n2 m2) (.slice a3 n3 m3) (.slice a4 n4 m4) (.slice a5 n5 m5)) t ∧ (t.size : Int) + 1 ≤ 3 * m + 3) w) := by
 have hne : ¬ w.heap.size = gf := by have := hp.left.lt; omega
 have HF := Lib.hid hF
 have HY := Lib.hid hY
 have HS := Lib.hid hS
 have HNm := Lib.hid hN
 have HE := Lib.hid hE
 have HPs := Lib.hid hPs
 have HB := Lib.hid hB
 have HL := Lib.hid hL
 have HT := Lib.hid ht
 have HP := Lib.hid hp
 have hn0 := hp.n0
 have hn300 := hp.n1
 have hl1 : n1 ≤ 9223372036854775807 := by obtain ⟨l, h, hl⟩ := hN; exact strs_le h hl
 have hl2 : n2 ≤ 9223372036854775807 := slat_le hE
 have hl3 : n3 ≤ 9223372036854775807 := slat_le hPs
 have hl4 : n4 ≤ 9223372036854775807 := slat_le hB
 have hl5 : n5 ≤ 9223372036854775807 := slat_le hL
 clear hF hY hS hN hE hPs hB hL ht hp
 unfold SV.val SV.cells
 go_enter Tryz.func13, Tryz.ntmps13
 go_wp2_with fail
 refine (f17_4 _).mono ?_
 rintro e w' ⟨rfl, rfl⟩
 by_cases hne2 : n2 = 1
 ·obtain rfl : 1 = n2 := hne2.symm
  clear hne2
  go_wp2_with fail
  refine (f18_any W X Y HF.out HY.out.sh _ 1 gf n (deep + 1) _ HE.out (HP.out.after bA) (by omega) (by omega)).mono ?_
  rintro e w1 ⟨b, na, rfl, F1, hq⟩
  have b0 : w1.cell? ⟨w.heap.size, 0, none⟩ = some (.int .i64 4) := F1.box hne 0 _ rfl
  have b1 : w1.cell? ⟨w.heap.size, 1, none⟩ = some (.int .i64 xo) := F1.box hne 1 _ rfl
  have b2 : w1.cell? ⟨w.heap.size, 2, none⟩ = some (.string xt) := F1.box hne 2 _ rfl
  have b3 : w1.cell? ⟨w.heap.size, 3, none⟩ = some (.slice a1 n1 m1) := F1.box hne 3 _ rfl
  have b4 : w1.cell? ⟨w.heap.size, 4, none⟩ = some (.slice a2 1 m2) := F1.box hne 4 _ rfl
  have b5 : w1.cell? ⟨w.heap.size, 5, none⟩ = some (.slice a3 n3 m3) := F1.box hne 5 _ rfl
  have b6 : w1.cell? ⟨w.heap.size, 6, none⟩ = some (.slice a4 n4 m4) := F1.box hne 6 _ rfl
  have b7 : w1.cell? ⟨w.heap.size, 7, none⟩ = some (.slice a5 n5 m5) := F1.box hne 7 _ rfl
  have HF1 : Hid (FW gf na (w.alloc (.cells #[.int .i64 4, .int .i64 xo, .string xt, .slice a1 n1 m1, .slice a2 1 m2, .slice a3 n3 m3, .slice a4 n4 m4, .slice a5 n5 m5] 43)) w1) := Lib.hid F1
  have HQ := Lib.hid hq
  have HB1 := Lib.hid (F1.below (HP.out.after bA).bel HP.out.low)
  clear F1 hq
  cases b
  ·go_wp2
   go_ret
   exact fit_no rfl (FW.after bA HF1.out)
  ·have HQ1 := Lib.hid (HQ.out rfl)
   clear HQ
   have HP1 := Lib.hid (HP.out.next' HF1.out HB1.out HQ1.out.1 HQ1.out.2.1)
   by_cases hb : 0 < n4
   ·have hbZ : (0 : Int) < (n4 : Int) := by omega
    by_cases hpp : n3 = 0
    ·obtain rfl : 0 = n3 := hpp.symm
     clear hpp
     by_cases hnn : n1 = 0
     ·obtain rfl : 0 = n1 := hnn.symm
      clear hnn
      by_cases hxo : xo = 0
      ·have hxo2 : (xo != 0) = false := by simp [hxo]
       have HXO := Lib.hid hxo
       clear hxo
       by_cases hxt : xt.toList = []
       ·have hxt2 : (!xt.toList.isEmpty) = false := by simp [hxt]
        go_wp2_with fail
        refine (HS.out _ n4 gf na (deep + 1) w1 HB.out HP1.out (by omega) (by omega)).mono ?_
        rintro e w8 ⟨b, nx, rfl, F8, hq⟩
        have F8' := HF1.out.trans F8
        have b7 : w8.cell? ⟨w.heap.size, 7, none⟩ = some (.slice a5 n5 m5) := F8'.box hne 7 _ rfl
        have HF8 : Hid (FW gf nx (w.alloc (.cells #[.int .i64 4, .int .i64 xo, .string xt, .slice a1 0 m1, .slice a2 1 m2, .slice a3 0 m3, .slice a4 n4 m4, .slice a5 n5 m5] 43)) w8) := Lib.hid F8'
        have HQ8 := Lib.hid hq
        have HB8 := Lib.hid (F8'.below (HP.out.after bA).bel HP.out.low)
        clear F8 F8' hq
        cases b
        ·go_wp2
         go_ret
         exact fit_no rfl (FW.after bA HF8.out)
        ·have HQ9 := Lib.hid (HQ8.out rfl)
         clear HQ8
         have HP8 := Lib.hid (HP1.out.next' HF8.out HB8.out HQ9.out.1 HQ9.out.2.1)
         go_wp2_with fail
         refine (HS.out _ n5 gf nx (deep + 1) w8 HL.out HP8.out (by omega) (by omega)).mono ?_
         rintro e w9 ⟨b, ny, rfl, F9, hq⟩
         have HF9 := Lib.hid (HF8.out.trans F9)
         have HQL := Lib.hid hq
         clear F9 hq
         go_wp2
         go_ret
         refine ⟨b, ny, rfl, FW.after bA HF9.out, fun hb => ?_⟩
         obtain ⟨q0, q1, us, hus, hrow, hts⟩ := HQ1.out
         obtain ⟨q2, q3, bs, hbs, hbrow, hbts⟩ := HQ9.out
         obtain ⟨q4, q5, ls, hls, hlrow, hlts⟩ := HQL.out hb
         obtain ⟨p, rfl⟩ : ∃ p, us = [p] := by match us, hus with | [p], _ => exact ⟨p, rfl⟩
         simp only [sizes, List.length_cons, List.length_nil] at hts
         exact ⟨by omega, by omega, _, .if_ _ p bs ls rfl hrow hbrow (by omega) hlrow, by simp only [Tr.size, sizes, sizes_append, List.append_nil, idt]; omega⟩
       ·have hxt2 : (!xt.toList.isEmpty) = true := by simpa using hxt
        go_wp2
        go_ret
        exact fit_no rfl (FW.after bA HF1.out)
      ·have hxo2 : (xo != 0) = true := by simpa using hxo
       go_wp2
       go_ret
       exact fit_no rfl (FW.after bA HF1.out)
     ·have hnN : 0 < n1 := by omega
      have hnZ : (0 : Int) < (n1 : Int) := by omega
      go_wp2
      go_ret
      exact fit_no rfl (FW.after bA HF1.out)
    ·have hpN : 0 < n3 := by omega
     have hpZ : (0 : Int) < (n3 : Int) := by omega
     go_wp2
     go_ret
     exact fit_no rfl (FW.after bA HF1.out)
   ·have hbN : n4 = 0 := by omega
    obtain rfl : 0 = n4 := hbN.symm
    clear hb hbN
    go_wp2
    go_ret
    exact fit_no rfl (FW.after bA HF1.out)
 ·go_wp2
  go_ret
  exact fit_no rfl (FW.of_below HP.out.left bA)
theorem f13_5 (W : World) (X : EV → Tr → Prop) (Y : EV → Prop) (S : SV → Tr → Prop) (Z : SV → Prop) (hF : FitE W X Y) (hY : YS W Y) (hS : FitL W S Z) (xo : Int) (xt : ByteArray) (a1 a2 a3 a4 a5 : Option Addr) (n1 n2 n3 n4 n5 m1 m2 m3 m4 m5 : Nat) (gf : Nat) (n deep : Int) (w : World)
  (hN : ∃ l, Strs W (.slice a1 n1 m1) l ∧ l.length ≤ maxLen) (hE : SlAt W 11 (.slice a2 n2 m2) n2 fun _ cs => ∃ k : EV, cs = k.cells ∧ Y k) (hPs : SlAt W 3 (.slice a3 n3 m3) n3 fun _ cs => ∃ p : PV, cs = p.cells ∧ p.name.size ≤ maxLen ∧ ∃ m, SlAt W 11 p.dflt m fun _ cs' => ∃ k : EV, cs' = k.cells ∧ Y k)
  (hB : SlAt W 8 (.slice a4 n4 m4) n4 fun _ cs => ∃ k : SV, cs = k.cells ∧ Z k) (hL : SlAt W 8 (.slice a5 n5 m5) n5 fun _ cs => ∃ k : SV, cs = k.cells ∧ Z k) (ht : xt.size ≤ maxLen) (hp : FitPre W gf n w) (h0 : 0 ≤ deep) (h1 : deep ≤ 24) :
  Calls Tryz.prog 13 #[.pointer (some ⟨gf, 0, none⟩), (SV.mk 5 xo xt (.slice a1 n1 m1) (.slice a2 n2 m2) (.slice a3 n3 m3) (.slice a4 n4 m4) (.slice a5 n5 m5)).val, .int .i64 deep] w (FitPost gf n (fun m => ∃ t, ShS true W X S (SV.mk 5 xo xt (.slice a1 n1 m1) (.slice a2 n2 m2) (.slice a3 n3 m3) (.slice a4 n4 m4) (.slice a5 n5 m5)) t ∧ (t.size : Int) + 1 ≤ 3 * m + 3) w) := by
 have hne : ¬ w.heap.size = gf := by have := hp.left.lt; omega
 have HF := Lib.hid hF
 have HY := Lib.hid hY
 have HS := Lib.hid hS
 have HNm := Lib.hid hN
 have HE := Lib.hid hE
 have HPs := Lib.hid hPs
 have HB := Lib.hid hB
 have HL := Lib.hid hL
 have HT := Lib.hid ht
 have HP := Lib.hid hp
 have hn0 := hp.n0
 have hn300 := hp.n1
 have hl1 : n1 ≤ 9223372036854775807 := by obtain ⟨l, h, hl⟩ := hN; exact strs_le h hl
 have hl2 : n2 ≤ 9223372036854775807 := slat_le hE
 have hl3 : n3 ≤ 9223372036854775807 := slat_le hPs
 have hl4 : n4 ≤ 9223372036854775807 := slat_le hB
 have hl5 : n5 ≤ 9223372036854775807 := slat_le hL
 clear hF hY hS hN hE hPs hB hL ht hp
 unfold SV.val SV.cells
 go_enter Tryz.func13, Tryz.ntmps13
 go_wp2_with fail
 refine (f17_5 _).mono ?_
 rintro e w' ⟨rfl, rfl⟩
 by_cases hne2 : n2 = 2
 ·obtain rfl : 2 = n2 := hne2.symm
  clear hne2
  go_wp2_with fail
  refine (f18_any W X Y HF.out HY.out.sh _ 2 gf n (deep + 1) _ HE.out (HP.out.after bA) (by omega) (by omega)).mono ?_
  rintro e w1 ⟨b, na, rfl, F1, hq⟩
  have b0 : w1.cell? ⟨w.heap.size, 0, none⟩ = some (.int .i64 5) := F1.box hne 0 _ rfl
  have b1 : w1.cell? ⟨w.heap.size, 1, none⟩ = some (.int .i64 xo) := F1.box hne 1 _ rfl
  have b2 : w1.cell? ⟨w.heap.size, 2, none⟩ = some (.string xt) := F1.box hne 2 _ rfl
  have b3 : w1.cell? ⟨w.heap.size, 3, none⟩ = some (.slice a1 n1 m1) := F1.box hne 3 _ rfl
  have b4 : w1.cell? ⟨w.heap.size, 4, none⟩ = some (.slice a2 2 m2) := F1.box hne 4 _ rfl
  have b5 : w1.cell? ⟨w.heap.size, 5, none⟩ = some (.slice a3 n3 m3) := F1.box hne 5 _ rfl
  have b6 : w1.cell? ⟨w.heap.size, 6, none⟩ = some (.slice a4 n4 m4) := F1.box hne 6 _ rfl
  have b7 : w1.cell? ⟨w.heap.size, 7, none⟩ = some (.slice a5 n5 m5) := F1.box hne 7 _ rfl
  have HF1 : Hid (FW gf na (w.alloc (.cells #[.int .i64 5, .int .i64 xo, .string xt, .slice a1 n1 m1, .slice a2 2 m2, .slice a3 n3 m3, .slice a4 n4 m4, .slice a5 n5 m5] 43)) w1) := Lib.hid F1
  have HQ := Lib.hid hq
  have HB1 := Lib.hid (F1.below (HP.out.after bA).bel HP.out.low)
  clear F1 hq
  cases b
  ·go_wp2
   go_ret
   exact fit_no rfl (FW.after bA HF1.out)
  ·have HQ1 := Lib.hid (HQ.out rfl)
   clear HQ
   have HP1 := Lib.hid (HP.out.next' HF1.out HB1.out HQ1.out.1 HQ1.out.2.1)
   by_cases hb : 0 < n4
   ·have hbZ : (0 : Int) < (n4 : Int) := by omega
    by_cases hl : n5 = 0
    ·obtain rfl : 0 = n5 := hl.symm
     clear hl
     by_cases hpp : n3 = 0
     ·obtain rfl : 0 = n3 := hpp.symm
      clear hpp
      by_cases hnn : n1 = 0
      ·obtain rfl : 0 = n1 := hnn.symm
       clear hnn
       by_cases hxo : xo = 0
       ·have hxo2 : (xo != 0) = false := by simp [hxo]
        have HXO := Lib.hid hxo
        clear hxo
        by_cases hxt : xt.toList = []
        ·have hxt2 : (!xt.toList.isEmpty) = false := by simp [hxt]
         go_wp2_with fail
         refine (HS.out _ n4 gf na (deep + 1) w1 HB.out HP1.out (by omega) (by omega)).mono ?_
         rintro e w8 ⟨b, nx, rfl, F8, hq⟩
         have F8' := HF1.out.trans F8
         have b7 : w8.cell? ⟨w.heap.size, 7, none⟩ = some (.slice a5 0 m5) := F8'.box hne 7 _ rfl
         have HF8 : Hid (FW gf nx (w.alloc (.cells #[.int .i64 5, .int .i64 xo, .string xt, .slice a1 0 m1, .slice a2 2 m2, .slice a3 0 m3, .slice a4 n4 m4, .slice a5 0 m5] 43)) w8) := Lib.hid F8'
         have HQ8 := Lib.hid hq
         have HB8 := Lib.hid (F8'.below (HP.out.after bA).bel HP.out.low)
         clear F8 F8' hq
         cases b
         ·go_wp2
          go_ret
          exact fit_no rfl (FW.after bA HF8.out)
         ·have HQ9 := Lib.hid (HQ8.out rfl)
          clear HQ8
          have HP8 := Lib.hid (HP1.out.next' HF8.out HB8.out HQ9.out.1 HQ9.out.2.1)
          go_wp2_with fail
          refine (HS.out _ 0 gf nx (deep + 1) w8 HL.out HP8.out (by omega) (by omega)).mono ?_
          rintro e w9 ⟨b, ny, rfl, F9, hq⟩
          have HF9 := Lib.hid (HF8.out.trans F9)
          have HQL := Lib.hid hq
          clear F9 hq
          go_wp2
          go_ret
          refine ⟨b, ny, rfl, FW.after bA HF9.out, fun hb => ?_⟩
          obtain ⟨q0, q1, us, hus, hrow, hts⟩ := HQ1.out
          obtain ⟨q2, q3, bs, hbs, hbrow, hbts⟩ := HQ9.out
          obtain ⟨q4, q5, ls, hls, hlrow, hlts⟩ := HQL.out hb
          obtain ⟨p, q, rfl⟩ : ∃ p q, us = [p, q] := by match us, hus with | [p, q], _ => exact ⟨p, q, rfl⟩
          simp only [sizes, List.length_cons, List.length_nil] at hts
          exact ⟨by omega, by omega, _, .for_ _ p q bs rfl hrow hbrow (by omega), by simp only [Tr.size, sizes, sizes_append, List.append_nil, idt]; omega⟩
        ·have hxt2 : (!xt.toList.isEmpty) = true := by simpa using hxt
         go_wp2
         go_ret
         exact fit_no rfl (FW.after bA HF1.out)
       ·have hxo2 : (xo != 0) = true := by simpa using hxo
        go_wp2
        go_ret
        exact fit_no rfl (FW.after bA HF1.out)
      ·have hnN : 0 < n1 := by omega
       have hnZ : (0 : Int) < (n1 : Int) := by omega
       go_wp2
       go_ret
       exact fit_no rfl (FW.after bA HF1.out)
     ·have hpN : 0 < n3 := by omega
      have hpZ : (0 : Int) < (n3 : Int) := by omega
      go_wp2
      go_ret
      exact fit_no rfl (FW.after bA HF1.out)
    ·have hlN : 0 < n5 := by omega
     have hlZ : (0 : Int) < (n5 : Int) := by omega
     go_wp2
     go_ret
     exact fit_no rfl (FW.after bA HF1.out)
   ·have hbN : n4 = 0 := by omega
    obtain rfl : 0 = n4 := hbN.symm
    clear hb hbN
    go_wp2
    go_ret
    exact fit_no rfl (FW.after bA HF1.out)
 ·go_wp2
  go_ret
  exact fit_no rfl (FW.of_below HP.out.left bA)
theorem f13_6 (W : World) (X : EV → Tr → Prop) (Y : EV → Prop) (S : SV → Tr → Prop) (Z : SV → Prop) (hF : FitE W X Y) (hY : YS W Y) (hS : FitL W S Z) (xo : Int) (xt : ByteArray) (a1 a2 a3 a4 a5 : Option Addr) (n1 n2 n3 n4 n5 m1 m2 m3 m4 m5 : Nat) (gf : Nat) (n deep : Int) (w : World)
  (hN : ∃ l, Strs W (.slice a1 n1 m1) l ∧ l.length ≤ maxLen) (hE : SlAt W 11 (.slice a2 n2 m2) n2 fun _ cs => ∃ k : EV, cs = k.cells ∧ Y k) (hPs : SlAt W 3 (.slice a3 n3 m3) n3 fun _ cs => ∃ p : PV, cs = p.cells ∧ p.name.size ≤ maxLen ∧ ∃ m, SlAt W 11 p.dflt m fun _ cs' => ∃ k : EV, cs' = k.cells ∧ Y k)
  (hB : SlAt W 8 (.slice a4 n4 m4) n4 fun _ cs => ∃ k : SV, cs = k.cells ∧ Z k) (hL : SlAt W 8 (.slice a5 n5 m5) n5 fun _ cs => ∃ k : SV, cs = k.cells ∧ Z k) (ht : xt.size ≤ maxLen) (hp : FitPre W gf n w) (h0 : 0 ≤ deep) (h1 : deep ≤ 24) :
  Calls Tryz.prog 13 #[.pointer (some ⟨gf, 0, none⟩), (SV.mk 6 xo xt (.slice a1 n1 m1) (.slice a2 n2 m2) (.slice a3 n3 m3) (.slice a4 n4 m4) (.slice a5 n5 m5)).val, .int .i64 deep] w (FitPost gf n (fun m => ∃ t, ShS true W X S (SV.mk 6 xo xt (.slice a1 n1 m1) (.slice a2 n2 m2) (.slice a3 n3 m3) (.slice a4 n4 m4) (.slice a5 n5 m5)) t ∧ (t.size : Int) + 1 ≤ 3 * m + 3) w) := by
 have hne : ¬ w.heap.size = gf := by have := hp.left.lt; omega
 have HF := Lib.hid hF
 have HY := Lib.hid hY
 have HS := Lib.hid hS
 have HNm := Lib.hid hN
 have HE := Lib.hid hE
 have HPs := Lib.hid hPs
 have HB := Lib.hid hB
 have HL := Lib.hid hL
 have HT := Lib.hid ht
 have HP := Lib.hid hp
 have hn0 := hp.n0
 have hn300 := hp.n1
 have hl1 : n1 ≤ 9223372036854775807 := by obtain ⟨l, h, hl⟩ := hN; exact strs_le h hl
 have hl2 : n2 ≤ 9223372036854775807 := slat_le hE
 have hl3 : n3 ≤ 9223372036854775807 := slat_le hPs
 have hl4 : n4 ≤ 9223372036854775807 := slat_le hB
 have hl5 : n5 ≤ 9223372036854775807 := slat_le hL
 clear hF hY hS hN hE hPs hB hL ht hp
 unfold SV.val SV.cells
 go_enter Tryz.func13, Tryz.ntmps13
 go_wp2_with fail
 refine (f17_6 _).mono ?_
 rintro e w' ⟨rfl, rfl⟩
 by_cases hne2 : n2 = 1
 ·obtain rfl : 1 = n2 := hne2.symm
  clear hne2
  go_wp2_with fail
  refine (f18_any W X Y HF.out HY.out.sh _ 1 gf n (deep + 1) _ HE.out (HP.out.after bA) (by omega) (by omega)).mono ?_
  rintro e w1 ⟨b, na, rfl, F1, hq⟩
  have b0 : w1.cell? ⟨w.heap.size, 0, none⟩ = some (.int .i64 6) := F1.box hne 0 _ rfl
  have b1 : w1.cell? ⟨w.heap.size, 1, none⟩ = some (.int .i64 xo) := F1.box hne 1 _ rfl
  have b2 : w1.cell? ⟨w.heap.size, 2, none⟩ = some (.string xt) := F1.box hne 2 _ rfl
  have b3 : w1.cell? ⟨w.heap.size, 3, none⟩ = some (.slice a1 n1 m1) := F1.box hne 3 _ rfl
  have b4 : w1.cell? ⟨w.heap.size, 4, none⟩ = some (.slice a2 1 m2) := F1.box hne 4 _ rfl
  have b5 : w1.cell? ⟨w.heap.size, 5, none⟩ = some (.slice a3 n3 m3) := F1.box hne 5 _ rfl
  have b6 : w1.cell? ⟨w.heap.size, 6, none⟩ = some (.slice a4 n4 m4) := F1.box hne 6 _ rfl
  have b7 : w1.cell? ⟨w.heap.size, 7, none⟩ = some (.slice a5 n5 m5) := F1.box hne 7 _ rfl
  have HF1 : Hid (FW gf na (w.alloc (.cells #[.int .i64 6, .int .i64 xo, .string xt, .slice a1 n1 m1, .slice a2 1 m2, .slice a3 n3 m3, .slice a4 n4 m4, .slice a5 n5 m5] 43)) w1) := Lib.hid F1
  have HQ := Lib.hid hq
  have HB1 := Lib.hid (F1.below (HP.out.after bA).bel HP.out.low)
  clear F1 hq
  cases b
  ·go_wp2
   go_ret
   exact fit_no rfl (FW.after bA HF1.out)
  ·have HQ1 := Lib.hid (HQ.out rfl)
   clear HQ
   have HP1 := Lib.hid (HP.out.next' HF1.out HB1.out HQ1.out.1 HQ1.out.2.1)
   by_cases hb : 0 < n4
   ·have hbZ : (0 : Int) < (n4 : Int) := by omega
    by_cases hl : n5 = 0
    ·obtain rfl : 0 = n5 := hl.symm
     clear hl
     by_cases hpp : n3 = 0
     ·obtain rfl : 0 = n3 := hpp.symm
      clear hpp
      by_cases hnn : n1 = 0
      ·obtain rfl : 0 = n1 := hnn.symm
       clear hnn
       by_cases hxo : xo = 0
       ·have hxo2 : (xo != 0) = false := by simp [hxo]
        have HXO := Lib.hid hxo
        clear hxo
        by_cases hxt : xt.toList = []
        ·have hxt2 : (!xt.toList.isEmpty) = false := by simp [hxt]
         go_wp2_with fail
         refine (HS.out _ n4 gf na (deep + 1) w1 HB.out HP1.out (by omega) (by omega)).mono ?_
         rintro e w8 ⟨b, nx, rfl, F8, hq⟩
         have F8' := HF1.out.trans F8
         have b7 : w8.cell? ⟨w.heap.size, 7, none⟩ = some (.slice a5 0 m5) := F8'.box hne 7 _ rfl
         have HF8 : Hid (FW gf nx (w.alloc (.cells #[.int .i64 6, .int .i64 xo, .string xt, .slice a1 0 m1, .slice a2 1 m2, .slice a3 0 m3, .slice a4 n4 m4, .slice a5 0 m5] 43)) w8) := Lib.hid F8'
         have HQ8 := Lib.hid hq
         have HB8 := Lib.hid (F8'.below (HP.out.after bA).bel HP.out.low)
         clear F8 F8' hq
         cases b
         ·go_wp2
          go_ret
          exact fit_no rfl (FW.after bA HF8.out)
         ·have HQ9 := Lib.hid (HQ8.out rfl)
          clear HQ8
          have HP8 := Lib.hid (HP1.out.next' HF8.out HB8.out HQ9.out.1 HQ9.out.2.1)
          go_wp2_with fail
          refine (HS.out _ 0 gf nx (deep + 1) w8 HL.out HP8.out (by omega) (by omega)).mono ?_
          rintro e w9 ⟨b, ny, rfl, F9, hq⟩
          have HF9 := Lib.hid (HF8.out.trans F9)
          have HQL := Lib.hid hq
          clear F9 hq
          go_wp2
          go_ret
          refine ⟨b, ny, rfl, FW.after bA HF9.out, fun hb => ?_⟩
          obtain ⟨q0, q1, us, hus, hrow, hts⟩ := HQ1.out
          obtain ⟨q2, q3, bs, hbs, hbrow, hbts⟩ := HQ9.out
          obtain ⟨q4, q5, ls, hls, hlrow, hlts⟩ := HQL.out hb
          obtain ⟨p, rfl⟩ : ∃ p, us = [p] := by match us, hus with | [p], _ => exact ⟨p, rfl⟩
          simp only [sizes, List.length_cons, List.length_nil] at hts
          exact ⟨by omega, by omega, _, .while_ _ p bs rfl hrow hbrow (by omega), by simp only [Tr.size, sizes, sizes_append, List.append_nil, idt]; omega⟩
        ·have hxt2 : (!xt.toList.isEmpty) = true := by simpa using hxt
         go_wp2
         go_ret
         exact fit_no rfl (FW.after bA HF1.out)
       ·have hxo2 : (xo != 0) = true := by simpa using hxo
        go_wp2
        go_ret
        exact fit_no rfl (FW.after bA HF1.out)
      ·have hnN : 0 < n1 := by omega
       have hnZ : (0 : Int) < (n1 : Int) := by omega
       go_wp2
       go_ret
       exact fit_no rfl (FW.after bA HF1.out)
     ·have hpN : 0 < n3 := by omega
      have hpZ : (0 : Int) < (n3 : Int) := by omega
      go_wp2
      go_ret
      exact fit_no rfl (FW.after bA HF1.out)
    ·have hlN : 0 < n5 := by omega
     have hlZ : (0 : Int) < (n5 : Int) := by omega
     go_wp2
     go_ret
     exact fit_no rfl (FW.after bA HF1.out)
   ·have hbN : n4 = 0 := by omega
    obtain rfl : 0 = n4 := hbN.symm
    clear hb hbN
    go_wp2
    go_ret
    exact fit_no rfl (FW.after bA HF1.out)
 ·go_wp2
  go_ret
  exact fit_no rfl (FW.of_below HP.out.left bA)
theorem f13_7 (W : World) (X : EV → Tr → Prop) (Y : EV → Prop) (S : SV → Tr → Prop) (Z : SV → Prop) (hF : FitE W X Y) (hY : YS W Y) (hS : FitL W S Z) (xo : Int) (xt : ByteArray) (a1 a2 a3 a4 a5 : Option Addr) (n1 n2 n3 n4 n5 m1 m2 m3 m4 m5 : Nat) (gf : Nat) (n deep : Int) (w : World)
  (hN : ∃ l, Strs W (.slice a1 n1 m1) l ∧ l.length ≤ maxLen) (hE : SlAt W 11 (.slice a2 n2 m2) n2 fun _ cs => ∃ k : EV, cs = k.cells ∧ Y k) (hPs : SlAt W 3 (.slice a3 n3 m3) n3 fun _ cs => ∃ p : PV, cs = p.cells ∧ p.name.size ≤ maxLen ∧ ∃ m, SlAt W 11 p.dflt m fun _ cs' => ∃ k : EV, cs' = k.cells ∧ Y k)
  (hB : SlAt W 8 (.slice a4 n4 m4) n4 fun _ cs => ∃ k : SV, cs = k.cells ∧ Z k) (hL : SlAt W 8 (.slice a5 n5 m5) n5 fun _ cs => ∃ k : SV, cs = k.cells ∧ Z k) (ht : xt.size ≤ maxLen) (hp : FitPre W gf n w) (h0 : 0 ≤ deep) (h1 : deep ≤ 24) :
  Calls Tryz.prog 13 #[.pointer (some ⟨gf, 0, none⟩), (SV.mk 7 xo xt (.slice a1 n1 m1) (.slice a2 n2 m2) (.slice a3 n3 m3) (.slice a4 n4 m4) (.slice a5 n5 m5)).val, .int .i64 deep] w (FitPost gf n (fun m => ∃ t, ShS true W X S (SV.mk 7 xo xt (.slice a1 n1 m1) (.slice a2 n2 m2) (.slice a3 n3 m3) (.slice a4 n4 m4) (.slice a5 n5 m5)) t ∧ (t.size : Int) + 1 ≤ 3 * m + 3) w) := by
 have hne : ¬ w.heap.size = gf := by have := hp.left.lt; omega
 have HF := Lib.hid hF
 have HY := Lib.hid hY
 have HS := Lib.hid hS
 have HNm := Lib.hid hN
 have HE := Lib.hid hE
 have HPs := Lib.hid hPs
 have HB := Lib.hid hB
 have HL := Lib.hid hL
 have HT := Lib.hid ht
 have HP := Lib.hid hp
 have hn0 := hp.n0
 have hn300 := hp.n1
 have hl1 : n1 ≤ 9223372036854775807 := by obtain ⟨l, h, hl⟩ := hN; exact strs_le h hl
 have hl2 : n2 ≤ 9223372036854775807 := slat_le hE
 have hl3 : n3 ≤ 9223372036854775807 := slat_le hPs
 have hl4 : n4 ≤ 9223372036854775807 := slat_le hB
 have hl5 : n5 ≤ 9223372036854775807 := slat_le hL
 clear hF hY hS hN hE hPs hB hL ht hp
 unfold SV.val SV.cells
 go_enter Tryz.func13, Tryz.ntmps13
 go_wp2_with fail
 refine (f17_7 _).mono ?_
 rintro e w' ⟨rfl, rfl⟩
 by_cases hne2 : n2 = 1
 ·obtain rfl : 1 = n2 := hne2.symm
  clear hne2
  go_wp2_with fail
  refine (f18_any W X Y HF.out HY.out.sh _ 1 gf n (deep + 1) _ HE.out (HP.out.after bA) (by omega) (by omega)).mono ?_
  rintro e w1 ⟨b, na, rfl, F1, hq⟩
  have b0 : w1.cell? ⟨w.heap.size, 0, none⟩ = some (.int .i64 7) := F1.box hne 0 _ rfl
  have b1 : w1.cell? ⟨w.heap.size, 1, none⟩ = some (.int .i64 xo) := F1.box hne 1 _ rfl
  have b2 : w1.cell? ⟨w.heap.size, 2, none⟩ = some (.string xt) := F1.box hne 2 _ rfl
  have b3 : w1.cell? ⟨w.heap.size, 3, none⟩ = some (.slice a1 n1 m1) := F1.box hne 3 _ rfl
  have b4 : w1.cell? ⟨w.heap.size, 4, none⟩ = some (.slice a2 1 m2) := F1.box hne 4 _ rfl
  have b5 : w1.cell? ⟨w.heap.size, 5, none⟩ = some (.slice a3 n3 m3) := F1.box hne 5 _ rfl
  have b6 : w1.cell? ⟨w.heap.size, 6, none⟩ = some (.slice a4 n4 m4) := F1.box hne 6 _ rfl
  have b7 : w1.cell? ⟨w.heap.size, 7, none⟩ = some (.slice a5 n5 m5) := F1.box hne 7 _ rfl
  have HF1 : Hid (FW gf na (w.alloc (.cells #[.int .i64 7, .int .i64 xo, .string xt, .slice a1 n1 m1, .slice a2 1 m2, .slice a3 n3 m3, .slice a4 n4 m4, .slice a5 n5 m5] 43)) w1) := Lib.hid F1
  have HQ := Lib.hid hq
  have HB1 := Lib.hid (F1.below (HP.out.after bA).bel HP.out.low)
  clear F1 hq
  cases b
  ·go_wp2
   go_ret
   exact fit_no rfl (FW.after bA HF1.out)
  ·have HQ1 := Lib.hid (HQ.out rfl)
   clear HQ
   have HP1 := Lib.hid (HP.out.next' HF1.out HB1.out HQ1.out.1 HQ1.out.2.1)
   by_cases hb : n4 = 0
   ·obtain rfl : 0 = n4 := hb.symm
    clear hb
    by_cases hl : n5 = 0
    ·obtain rfl : 0 = n5 := hl.symm
     clear hl
     by_cases hpp : n3 = 0
     ·obtain rfl : 0 = n3 := hpp.symm
      clear hpp
      by_cases hnn : n1 = 0
      ·obtain rfl : 0 = n1 := hnn.symm
       clear hnn
       by_cases hxo : xo = 0
       ·have hxo2 : (xo != 0) = false := by simp [hxo]
        have HXO := Lib.hid hxo
        clear hxo
        by_cases hxt : xt.toList = []
        ·have hxt2 : (!xt.toList.isEmpty) = false := by simp [hxt]
         go_wp2_with fail
         refine (HS.out _ 0 gf na (deep + 1) w1 HB.out HP1.out (by omega) (by omega)).mono ?_
         rintro e w8 ⟨b, nx, rfl, F8, hq⟩
         have F8' := HF1.out.trans F8
         have b7 : w8.cell? ⟨w.heap.size, 7, none⟩ = some (.slice a5 0 m5) := F8'.box hne 7 _ rfl
         have HF8 : Hid (FW gf nx (w.alloc (.cells #[.int .i64 7, .int .i64 xo, .string xt, .slice a1 0 m1, .slice a2 1 m2, .slice a3 0 m3, .slice a4 0 m4, .slice a5 0 m5] 43)) w8) := Lib.hid F8'
         have HQ8 := Lib.hid hq
         have HB8 := Lib.hid (F8'.below (HP.out.after bA).bel HP.out.low)
         clear F8 F8' hq
         cases b
         ·go_wp2
          go_ret
          exact fit_no rfl (FW.after bA HF8.out)
         ·have HQ9 := Lib.hid (HQ8.out rfl)
          clear HQ8
          have HP8 := Lib.hid (HP1.out.next' HF8.out HB8.out HQ9.out.1 HQ9.out.2.1)
          go_wp2_with fail
          refine (HS.out _ 0 gf nx (deep + 1) w8 HL.out HP8.out (by omega) (by omega)).mono ?_
          rintro e w9 ⟨b, ny, rfl, F9, hq⟩
          have HF9 := Lib.hid (HF8.out.trans F9)
          have HQL := Lib.hid hq
          clear F9 hq
          go_wp2
          go_ret
          refine ⟨b, ny, rfl, FW.after bA HF9.out, fun hb => ?_⟩
          obtain ⟨q0, q1, us, hus, hrow, hts⟩ := HQ1.out
          obtain ⟨q2, q3, bs, hbs, hbrow, hbts⟩ := HQ9.out
          obtain ⟨q4, q5, ls, hls, hlrow, hlts⟩ := HQL.out hb
          obtain ⟨p, rfl⟩ : ∃ p, us = [p] := by match us, hus with | [p], _ => exact ⟨p, rfl⟩
          simp only [sizes, List.length_cons, List.length_nil] at hts
          exact ⟨by omega, by omega, _, .ret1 _ p rfl hrow, by simp only [Tr.size, sizes, sizes_append, List.append_nil, idt]; omega⟩
        ·have hxt2 : (!xt.toList.isEmpty) = true := by simpa using hxt
         go_wp2
         go_ret
         exact fit_no rfl (FW.after bA HF1.out)
       ·have hxo2 : (xo != 0) = true := by simpa using hxo
        go_wp2
        go_ret
        exact fit_no rfl (FW.after bA HF1.out)
      ·have hnN : 0 < n1 := by omega
       have hnZ : (0 : Int) < (n1 : Int) := by omega
       go_wp2
       go_ret
       exact fit_no rfl (FW.after bA HF1.out)
     ·have hpN : 0 < n3 := by omega
      have hpZ : (0 : Int) < (n3 : Int) := by omega
      go_wp2
      go_ret
      exact fit_no rfl (FW.after bA HF1.out)
    ·have hlN : 0 < n5 := by omega
     have hlZ : (0 : Int) < (n5 : Int) := by omega
     go_wp2
     go_ret
     exact fit_no rfl (FW.after bA HF1.out)
   ·have hbN : 0 < n4 := by omega
    have hbZ : (0 : Int) < (n4 : Int) := by omega
    go_wp2
    go_ret
    exact fit_no rfl (FW.after bA HF1.out)
 ·have hneb := int_ne (n2 : Int) 1 (by omega)
  by_cases hn20 : n2 = 0
  ·obtain rfl : 0 = n2 := hn20.symm
   clear hn20 hne2 hneb
   go_wp2_with fail
   refine (f18_any W X Y HF.out HY.out.sh _ 0 gf n (deep + 1) _ HE.out (HP.out.after bA) (by omega) (by omega)).mono ?_
   rintro e w1 ⟨b, na, rfl, F1, hq⟩
   have b0 : w1.cell? ⟨w.heap.size, 0, none⟩ = some (.int .i64 7) := F1.box hne 0 _ rfl
   have b1 : w1.cell? ⟨w.heap.size, 1, none⟩ = some (.int .i64 xo) := F1.box hne 1 _ rfl
   have b2 : w1.cell? ⟨w.heap.size, 2, none⟩ = some (.string xt) := F1.box hne 2 _ rfl
   have b3 : w1.cell? ⟨w.heap.size, 3, none⟩ = some (.slice a1 n1 m1) := F1.box hne 3 _ rfl
   have b4 : w1.cell? ⟨w.heap.size, 4, none⟩ = some (.slice a2 0 m2) := F1.box hne 4 _ rfl
   have b5 : w1.cell? ⟨w.heap.size, 5, none⟩ = some (.slice a3 n3 m3) := F1.box hne 5 _ rfl
   have b6 : w1.cell? ⟨w.heap.size, 6, none⟩ = some (.slice a4 n4 m4) := F1.box hne 6 _ rfl
   have b7 : w1.cell? ⟨w.heap.size, 7, none⟩ = some (.slice a5 n5 m5) := F1.box hne 7 _ rfl
   have HF1 : Hid (FW gf na (w.alloc (.cells #[.int .i64 7, .int .i64 xo, .string xt, .slice a1 n1 m1, .slice a2 0 m2, .slice a3 n3 m3, .slice a4 n4 m4, .slice a5 n5 m5] 43)) w1) := Lib.hid F1
   have HQ := Lib.hid hq
   have HB1 := Lib.hid (F1.below (HP.out.after bA).bel HP.out.low)
   clear F1 hq
   cases b
   ·go_wp2
    go_ret
    exact fit_no rfl (FW.after bA HF1.out)
   ·have HQ1 := Lib.hid (HQ.out rfl)
    clear HQ
    have HP1 := Lib.hid (HP.out.next' HF1.out HB1.out HQ1.out.1 HQ1.out.2.1)
    by_cases hb : n4 = 0
    ·obtain rfl : 0 = n4 := hb.symm
     clear hb
     by_cases hl : n5 = 0
     ·obtain rfl : 0 = n5 := hl.symm
      clear hl
      by_cases hpp : n3 = 0
      ·obtain rfl : 0 = n3 := hpp.symm
       clear hpp
       by_cases hnn : n1 = 0
       ·obtain rfl : 0 = n1 := hnn.symm
        clear hnn
        by_cases hxo : xo = 0
        ·have hxo2 : (xo != 0) = false := by simp [hxo]
         have HXO := Lib.hid hxo
         clear hxo
         by_cases hxt : xt.toList = []
         ·have hxt2 : (!xt.toList.isEmpty) = false := by simp [hxt]
          go_wp2_with fail
          refine (HS.out _ 0 gf na (deep + 1) w1 HB.out HP1.out (by omega) (by omega)).mono ?_
          rintro e w8 ⟨b, nx, rfl, F8, hq⟩
          have F8' := HF1.out.trans F8
          have b7 : w8.cell? ⟨w.heap.size, 7, none⟩ = some (.slice a5 0 m5) := F8'.box hne 7 _ rfl
          have HF8 : Hid (FW gf nx (w.alloc (.cells #[.int .i64 7, .int .i64 xo, .string xt, .slice a1 0 m1, .slice a2 0 m2, .slice a3 0 m3, .slice a4 0 m4, .slice a5 0 m5] 43)) w8) := Lib.hid F8'
          have HQ8 := Lib.hid hq
          have HB8 := Lib.hid (F8'.below (HP.out.after bA).bel HP.out.low)
          clear F8 F8' hq
          cases b
          ·go_wp2
           go_ret
           exact fit_no rfl (FW.after bA HF8.out)
          ·have HQ9 := Lib.hid (HQ8.out rfl)
           clear HQ8
           have HP8 := Lib.hid (HP1.out.next' HF8.out HB8.out HQ9.out.1 HQ9.out.2.1)
           go_wp2_with fail
           refine (HS.out _ 0 gf nx (deep + 1) w8 HL.out HP8.out (by omega) (by omega)).mono ?_
           rintro e w9 ⟨b, ny, rfl, F9, hq⟩
           have HF9 := Lib.hid (HF8.out.trans F9)
           have HQL := Lib.hid hq
           clear F9 hq
           go_wp2
           go_ret
           refine ⟨b, ny, rfl, FW.after bA HF9.out, fun hb => ?_⟩
           obtain ⟨q0, q1, us, hus, hrow, hts⟩ := HQ1.out
           obtain ⟨q2, q3, bs, hbs, hbrow, hbts⟩ := HQ9.out
           obtain ⟨q4, q5, ls, hls, hlrow, hlts⟩ := HQL.out hb
           obtain rfl : us = [] := List.eq_nil_of_length_eq_zero hus
           simp only [sizes, List.length_cons, List.length_nil] at hts
           exact ⟨by omega, by omega, _, .ret0 _ rfl hrow, by simp only [Tr.size, sizes, sizes_append, List.append_nil, idt]; omega⟩
         ·have hxt2 : (!xt.toList.isEmpty) = true := by simpa using hxt
          go_wp2
          go_ret
          exact fit_no rfl (FW.after bA HF1.out)
        ·have hxo2 : (xo != 0) = true := by simpa using hxo
         go_wp2
         go_ret
         exact fit_no rfl (FW.after bA HF1.out)
       ·have hnN : 0 < n1 := by omega
        have hnZ : (0 : Int) < (n1 : Int) := by omega
        go_wp2
        go_ret
        exact fit_no rfl (FW.after bA HF1.out)
      ·have hpN : 0 < n3 := by omega
       have hpZ : (0 : Int) < (n3 : Int) := by omega
       go_wp2
       go_ret
       exact fit_no rfl (FW.after bA HF1.out)
     ·have hlN : 0 < n5 := by omega
      have hlZ : (0 : Int) < (n5 : Int) := by omega
      go_wp2
      go_ret
      exact fit_no rfl (FW.after bA HF1.out)
    ·have hbN : 0 < n4 := by omega
     have hbZ : (0 : Int) < (n4 : Int) := by omega
     go_wp2
     go_ret
     exact fit_no rfl (FW.after bA HF1.out)
  ·have hn2b := int_ne (n2 : Int) 0 (by omega)
   go_wp2
   go_ret
   exact fit_no rfl (FW.of_below HP.out.left bA)
end Go.Proofs.YtabeokminikfdaaGreat
