import Derived.Test.YtabeokminikfdaaGreatQBf
import Derived.Test.YtabeokminikfdaaGreatQA1
set_option linter.all false
set_option maxRecDepth 100000
set_option maxHeartbeats 8000000
namespace Go.Proofs.YtabeokminikfdaaGreat
open Go.RowKit
theorem pv_cells {W w : World} {g off i : Nat} {x : PV} (hb : Below W.heap.size W w) (h : ∀ j, j < 3 → W.cell? ⟨g, off + i * 3 + j, none⟩ = x.cells[j]?) :
  w.cell? ⟨g, off + i * 3, none⟩ = some (.int .i64 x.kind) ∧ w.cell? ⟨g, off + i * 3 + 1, none⟩ = some (.string x.name) ∧ w.cell? ⟨g, off + i * 3 + 2, none⟩ = some x.dflt := by
 have cell : ∀ j (u : Value), j < 3 → x.cells[j]? = some u → w.cell? ⟨g, off + i * 3 + j, none⟩ = some u := fun j u hj hu => by
  have h1 := (h j hj).trans hu
  exact (hb.cell (p := ⟨g, off + i * 3 + j, none⟩) (World.block_lt_of_cell? W _ h1)).trans h1
 exact ⟨cell 0 _ (by decide) rfl, cell 1 _ (by decide) rfl, cell 2 _ (by decide) rfl⟩
theorem f20_any (W : World) (X : EV → Tr → Prop) (Y : EV → Prop) (hF : FitE W X Y) (hY : YS W Y) (v : Value) (len : Nat) (gf : Nat) (n deep : Int) (w : World) (hv : SlAt W 3 v len fun _ cs => ∃ p : PV, cs = p.cells ∧ p.name.size ≤ maxLen ∧ ∃ m, SlAt W 11 p.dflt m fun _ cs' => ∃ k : EV, cs' = k.cells ∧ Y k) (hp : FitPre W gf n w) (h0 : 0 ≤ deep) (h1 : deep ≤ 1000) :
  Calls Tryz.prog 20 #[.pointer (some ⟨gf, 0, none⟩), v, .int .i64 deep] w (FitPost gf n (fun m => ∃ ts, ts.length = len ∧ RowOf W 3 (PQ W X) v ts ∧ (sizes ts : Int) + ts.length ≤ 3 * m) w) := by
 obtain ⟨a, c, rfl, hc, hcm, hrow⟩ := hv
 have hlen : len ≤ 9223372036854775807 := by unfold maxLen at hcm; omega
 have HF := Lib.hid hF
 have HP := Lib.hid hp
 have HR := Lib.hid hrow
 have HC := Lib.hid hc
 have HM := Lib.hid hcm
 have HY := Lib.hid hY
 clear hF hp hrow hc hcm hY
 go_enter Tryz.func20, Tryz.ntmps20
 go_wp2
 go_loopw [13] (fun i wr => ∃ k : Nat, k ≤ len ∧ i = .int .i64 k ∧ Sofar2 W 3 (PQ W X) a gf n w k wr) (fun i _ => len - (intOf i).toNat)
 case atStart => exact ⟨0, Nat.zero_le _, rfl, Sofar2.start HP.out⟩
 case round =>
  obtain ⟨k, hk, rfl, hS⟩ := hrel
  have HS := Lib.hid hS
  clear hS
  by_cases hlt : k < len
  ·have hk' : k < len := by omega
   obtain ⟨g, off, rfl, hel⟩ := HR.out (Nat.lt_of_le_of_lt (Nat.zero_le k) hk')
   obtain ⟨cs, hsz, hcs, x, rfl, htx, n3, hkids⟩ := hel k hk'
   obtain ⟨n', ts, hl, hw, hn0, hn1, hz, hall⟩ := HS.out
   have hb := hw.below HP.out.bel HP.out.low
   obtain ⟨xk, xt, xd⟩ := x
   obtain ⟨a3, m3, rfl⟩ := hkids.val
   obtain ⟨c0, c1, c2⟩ := pv_cells hb hcs
   dsimp only at c0 c1 c2 htx hkids
   have hPk := HP.out.next hw hn0 hn1
   have hne : ¬ wr.heap.size = gf := by have := hPk.left.lt; omega
   have HPk := Lib.hid hPk
   have HW := Lib.hid hw
   have HE : Hid (El W 3 g off k _) := Lib.hid ⟨rfl, hcs⟩
   have HA := Lib.hid hall
   have HL := Lib.hid hl
   have HK := Lib.hid hkids
   have HT := Lib.hid htx
   clear hel hcs hall hl hw hb hsz HR HS hPk hkids htx
   by_cases h_0 : xk = 0
   ·subst h_0
    go_wp2_with fail
    refine (f12_fw W gf n' deep _ (HPk.out.after bA)).mono ?_
    rintro e w2 ⟨b, rfl, F2, hq⟩
    have F : FW gf (n' - 1) (wr.alloc (.cells #[.int .i64 0, .string xt, .slice a3 n3 m3] 167)) w2 := F2
    have b0 : w2.cell? ⟨wr.heap.size, 0, none⟩ = some (.int .i64 0) := F.box hne 0 _ rfl
    have b1 : w2.cell? ⟨wr.heap.size, 1, none⟩ = some (.string xt) := F.box hne 1 _ rfl
    have b2 : w2.cell? ⟨wr.heap.size, 2, none⟩ = some (.slice a3 n3 m3) := F.box hne 2 _ rfl
    have HF2 := Lib.hid F
    have HQ := Lib.hid hq
    have HB2 := Lib.hid (F.below (HPk.out.after bA).bel HPk.out.low)
    clear F F2 hq c0 c1 c2
    cases b
    ·go_wp2
     go_ret
     exact fit_no rfl (HW.out.trans (FW.after bA HF2.out))
    ·by_cases hn3 : n3 = 0
     ·obtain rfl : 0 = n3 := hn3.symm
      clear hn3
      obtain ⟨hn', hdeep⟩ := HQ.out rfl
      clear HQ
      have HP2 := Lib.hid (HPk.out.next' HF2.out HB2.out (by omega) (by omega))
      go_wp2_with fail
      refine (f19_any xt HT.out w2).mono ?_
      rintro e w' ⟨b, rfl, rfl⟩
      cases b
      ·go_wp2
       go_ret
       exact fit_no rfl (HW.out.trans (FW.after bA HF2.out))
      ·go_wp2_with fail
       refine (f18_any W X Y HF.out HY.out.sh _ 0 gf (n' - 1) (deep + 1) w2 HK.out HP2.out (by omega) (by omega)).mono ?_
       rintro e w3 ⟨b, n2, rfl, F3, hq3⟩
       have HF3 := Lib.hid (HF2.out.trans F3)
       have HQ3 := Lib.hid hq3
       clear F3 hq3
       cases b
       ·go_wp2
        go_ret
        exact fit_no rfl (HW.out.trans (FW.after bA HF3.out))
       ·have HQ4 := Lib.hid (HQ3.out rfl)
        clear HQ3
        go_wp2
        go_roundw
        case rel =>
         obtain ⟨q0, q1, us, hus, hrow, hts⟩ := HQ4.out
         refine ⟨k + 1, by omega, by go_num, ?_⟩
         exact Sofar2.snoc HL.out hz hn1 HA.out HE.out (t := idt xt) ⟨_, rfl, ⟨_, _, _, rfl⟩, Or.inl ⟨rfl, rfl⟩⟩ (HW.out.trans (FW.after bA HF3.out)) q0 (by omega) (by simp only [Tr.size, sizes, idt]; omega)
        case measure =>
         simp [intOf]
         omega
     ·go_wp2
      go_ret
      exact fit_no rfl (HW.out.trans (FW.after bA HF2.out))
   by_cases h_1 : xk = 1
   ·subst h_1
    clear h_0
    go_wp2_with fail
    refine (f12_fw W gf n' deep _ (HPk.out.after bA)).mono ?_
    rintro e w2 ⟨b, rfl, F2, hq⟩
    have F : FW gf (n' - 1) (wr.alloc (.cells #[.int .i64 1, .string xt, .slice a3 n3 m3] 167)) w2 := F2
    have b0 : w2.cell? ⟨wr.heap.size, 0, none⟩ = some (.int .i64 1) := F.box hne 0 _ rfl
    have b1 : w2.cell? ⟨wr.heap.size, 1, none⟩ = some (.string xt) := F.box hne 1 _ rfl
    have b2 : w2.cell? ⟨wr.heap.size, 2, none⟩ = some (.slice a3 n3 m3) := F.box hne 2 _ rfl
    have HF2 := Lib.hid F
    have HQ := Lib.hid hq
    have HB2 := Lib.hid (F.below (HPk.out.after bA).bel HPk.out.low)
    clear F F2 hq c0 c1 c2
    cases b
    ·go_wp2
     go_ret
     exact fit_no rfl (HW.out.trans (FW.after bA HF2.out))
    ·by_cases hn3 : n3 = 1
     ·obtain rfl : 1 = n3 := hn3.symm
      clear hn3
      obtain ⟨hn', hdeep⟩ := HQ.out rfl
      clear HQ
      have HP2 := Lib.hid (HPk.out.next' HF2.out HB2.out (by omega) (by omega))
      go_wp2_with fail
      refine (f19_any xt HT.out w2).mono ?_
      rintro e w' ⟨b, rfl, rfl⟩
      cases b
      ·go_wp2
       go_ret
       exact fit_no rfl (HW.out.trans (FW.after bA HF2.out))
      ·go_wp2_with fail
       refine (f18_any W X Y HF.out HY.out.sh _ 1 gf (n' - 1) (deep + 1) w2 HK.out HP2.out (by omega) (by omega)).mono ?_
       rintro e w3 ⟨b, n2, rfl, F3, hq3⟩
       have HF3 := Lib.hid (HF2.out.trans F3)
       have HQ3 := Lib.hid hq3
       clear F3 hq3
       cases b
       ·go_wp2
        go_ret
        exact fit_no rfl (HW.out.trans (FW.after bA HF3.out))
       ·have HQ4 := Lib.hid (HQ3.out rfl)
        clear HQ3
        go_wp2
        go_roundw
        case rel =>
         obtain ⟨q0, q1, us, hus, hrow, hts⟩ := HQ4.out
         refine ⟨k + 1, by omega, by go_num, ?_⟩
         obtain ⟨p, rfl⟩ : ∃ p, us = [p] := by match us, hus with | [p], _ => exact ⟨p, rfl⟩
         simp only [sizes, List.length_cons, List.length_nil] at hts
         exact Sofar2.snoc HL.out hz hn1 HA.out HE.out (t := .mk none [idt xt, p]) ⟨_, rfl, ⟨_, _, _, rfl⟩, Or.inr (Or.inl ⟨rfl, p, hrow, rfl⟩)⟩ (HW.out.trans (FW.after bA HF3.out)) q0 (by omega) (by simp only [Tr.size, sizes, idt]; omega)
        case measure =>
         simp [intOf]
         omega
     ·go_wp2
      go_ret
      exact fit_no rfl (HW.out.trans (FW.after bA HF2.out))
   by_cases h_2 : xk = 2
   ·subst h_2
    clear h_0 h_1
    go_wp2_with fail
    refine (f12_fw W gf n' deep _ (HPk.out.after bA)).mono ?_
    rintro e w2 ⟨b, rfl, F2, hq⟩
    have F : FW gf (n' - 1) (wr.alloc (.cells #[.int .i64 2, .string xt, .slice a3 n3 m3] 167)) w2 := F2
    have b0 : w2.cell? ⟨wr.heap.size, 0, none⟩ = some (.int .i64 2) := F.box hne 0 _ rfl
    have b1 : w2.cell? ⟨wr.heap.size, 1, none⟩ = some (.string xt) := F.box hne 1 _ rfl
    have b2 : w2.cell? ⟨wr.heap.size, 2, none⟩ = some (.slice a3 n3 m3) := F.box hne 2 _ rfl
    have HF2 := Lib.hid F
    have HQ := Lib.hid hq
    have HB2 := Lib.hid (F.below (HPk.out.after bA).bel HPk.out.low)
    clear F F2 hq c0 c1 c2
    cases b
    ·go_wp2
     go_ret
     exact fit_no rfl (HW.out.trans (FW.after bA HF2.out))
    ·by_cases hn3 : n3 = 0
     ·obtain rfl : 0 = n3 := hn3.symm
      clear hn3
      obtain ⟨hn', hdeep⟩ := HQ.out rfl
      clear HQ
      have HP2 := Lib.hid (HPk.out.next' HF2.out HB2.out (by omega) (by omega))
      go_wp2_with fail
      refine (f19_any xt HT.out w2).mono ?_
      rintro e w' ⟨b, rfl, rfl⟩
      cases b
      ·go_wp2
       go_ret
       exact fit_no rfl (HW.out.trans (FW.after bA HF2.out))
      ·go_wp2_with fail
       refine (f18_any W X Y HF.out HY.out.sh _ 0 gf (n' - 1) (deep + 1) w2 HK.out HP2.out (by omega) (by omega)).mono ?_
       rintro e w3 ⟨b, n2, rfl, F3, hq3⟩
       have HF3 := Lib.hid (HF2.out.trans F3)
       have HQ3 := Lib.hid hq3
       clear F3 hq3
       cases b
       ·go_wp2
        go_ret
        exact fit_no rfl (HW.out.trans (FW.after bA HF3.out))
       ·have HQ4 := Lib.hid (HQ3.out rfl)
        clear HQ3
        go_wp2
        go_roundw
        case rel =>
         obtain ⟨q0, q1, us, hus, hrow, hts⟩ := HQ4.out
         refine ⟨k + 1, by omega, by go_num, ?_⟩
         exact Sofar2.snoc HL.out hz hn1 HA.out HE.out (t := .mk none [idt xt]) ⟨_, rfl, ⟨_, _, _, rfl⟩, Or.inr (Or.inr (Or.inl ⟨Or.inl rfl, rfl⟩))⟩ (HW.out.trans (FW.after bA HF3.out)) q0 (by omega) (by simp only [Tr.size, sizes, idt]; omega)
        case measure =>
         simp [intOf]
         omega
     ·go_wp2
      go_ret
      exact fit_no rfl (HW.out.trans (FW.after bA HF2.out))
   by_cases h_3 : xk = 3
   ·subst h_3
    clear h_0 h_1 h_2
    go_wp2_with fail
    refine (f12_fw W gf n' deep _ (HPk.out.after bA)).mono ?_
    rintro e w2 ⟨b, rfl, F2, hq⟩
    have F : FW gf (n' - 1) (wr.alloc (.cells #[.int .i64 3, .string xt, .slice a3 n3 m3] 167)) w2 := F2
    have b0 : w2.cell? ⟨wr.heap.size, 0, none⟩ = some (.int .i64 3) := F.box hne 0 _ rfl
    have b1 : w2.cell? ⟨wr.heap.size, 1, none⟩ = some (.string xt) := F.box hne 1 _ rfl
    have b2 : w2.cell? ⟨wr.heap.size, 2, none⟩ = some (.slice a3 n3 m3) := F.box hne 2 _ rfl
    have HF2 := Lib.hid F
    have HQ := Lib.hid hq
    have HB2 := Lib.hid (F.below (HPk.out.after bA).bel HPk.out.low)
    clear F F2 hq c0 c1 c2
    cases b
    ·go_wp2
     go_ret
     exact fit_no rfl (HW.out.trans (FW.after bA HF2.out))
    ·by_cases hn3 : n3 = 0
     ·obtain rfl : 0 = n3 := hn3.symm
      clear hn3
      obtain ⟨hn', hdeep⟩ := HQ.out rfl
      clear HQ
      have HP2 := Lib.hid (HPk.out.next' HF2.out HB2.out (by omega) (by omega))
      by_cases hnm : xt.toList = []
      ·have hnm2 : (!xt.toList.isEmpty) = false := by simp [hnm]
       go_wp2_with fail
       refine (f18_any W X Y HF.out HY.out.sh _ 0 gf (n' - 1) (deep + 1) w2 HK.out HP2.out (by omega) (by omega)).mono ?_
       rintro e w3 ⟨b, n2, rfl, F3, hq3⟩
       have HF3 := Lib.hid (HF2.out.trans F3)
       have HQ3 := Lib.hid hq3
       clear F3 hq3
       cases b
       ·go_wp2
        go_ret
        exact fit_no rfl (HW.out.trans (FW.after bA HF3.out))
       ·have HQ4 := Lib.hid (HQ3.out rfl)
        clear HQ3
        go_wp2
        go_roundw
        case rel =>
         obtain ⟨q0, q1, us, hus, hrow, hts⟩ := HQ4.out
         refine ⟨k + 1, by omega, by go_num, ?_⟩
         exact Sofar2.snoc HL.out hz hn1 HA.out HE.out (t := .mk none []) ⟨_, rfl, ⟨_, _, _, rfl⟩, Or.inr (Or.inr (Or.inr ⟨rfl, rfl⟩))⟩ (HW.out.trans (FW.after bA HF3.out)) q0 (by omega) (by simp only [Tr.size, sizes, idt]; omega)
        case measure =>
         simp [intOf]
         omega
      ·have hnm2 : (!xt.toList.isEmpty) = true := by simpa using hnm
       go_wp2
       go_ret
       exact fit_no rfl (HW.out.trans (FW.after bA HF2.out))
     ·go_wp2
      go_ret
      exact fit_no rfl (HW.out.trans (FW.after bA HF2.out))
   by_cases h_4 : xk = 4
   ·subst h_4
    clear h_0 h_1 h_2 h_3
    go_wp2_with fail
    refine (f12_fw W gf n' deep _ (HPk.out.after bA)).mono ?_
    rintro e w2 ⟨b, rfl, F2, hq⟩
    have F : FW gf (n' - 1) (wr.alloc (.cells #[.int .i64 4, .string xt, .slice a3 n3 m3] 167)) w2 := F2
    have b0 : w2.cell? ⟨wr.heap.size, 0, none⟩ = some (.int .i64 4) := F.box hne 0 _ rfl
    have b1 : w2.cell? ⟨wr.heap.size, 1, none⟩ = some (.string xt) := F.box hne 1 _ rfl
    have b2 : w2.cell? ⟨wr.heap.size, 2, none⟩ = some (.slice a3 n3 m3) := F.box hne 2 _ rfl
    have HF2 := Lib.hid F
    have HQ := Lib.hid hq
    have HB2 := Lib.hid (F.below (HPk.out.after bA).bel HPk.out.low)
    clear F F2 hq c0 c1 c2
    cases b
    ·go_wp2
     go_ret
     exact fit_no rfl (HW.out.trans (FW.after bA HF2.out))
    ·by_cases hn3 : n3 = 0
     ·obtain rfl : 0 = n3 := hn3.symm
      clear hn3
      obtain ⟨hn', hdeep⟩ := HQ.out rfl
      clear HQ
      have HP2 := Lib.hid (HPk.out.next' HF2.out HB2.out (by omega) (by omega))
      go_wp2_with fail
      refine (f19_any xt HT.out w2).mono ?_
      rintro e w' ⟨b, rfl, rfl⟩
      cases b
      ·go_wp2
       go_ret
       exact fit_no rfl (HW.out.trans (FW.after bA HF2.out))
      ·go_wp2_with fail
       refine (f18_any W X Y HF.out HY.out.sh _ 0 gf (n' - 1) (deep + 1) w2 HK.out HP2.out (by omega) (by omega)).mono ?_
       rintro e w3 ⟨b, n2, rfl, F3, hq3⟩
       have HF3 := Lib.hid (HF2.out.trans F3)
       have HQ3 := Lib.hid hq3
       clear F3 hq3
       cases b
       ·go_wp2
        go_ret
        exact fit_no rfl (HW.out.trans (FW.after bA HF3.out))
       ·have HQ4 := Lib.hid (HQ3.out rfl)
        clear HQ3
        go_wp2
        go_roundw
        case rel =>
         obtain ⟨q0, q1, us, hus, hrow, hts⟩ := HQ4.out
         refine ⟨k + 1, by omega, by go_num, ?_⟩
         exact Sofar2.snoc HL.out hz hn1 HA.out HE.out (t := .mk none [idt xt]) ⟨_, rfl, ⟨_, _, _, rfl⟩, Or.inr (Or.inr (Or.inl ⟨Or.inr rfl, rfl⟩))⟩ (HW.out.trans (FW.after bA HF3.out)) q0 (by omega) (by simp only [Tr.size, sizes, idt]; omega)
        case measure =>
         simp [intOf]
         omega
     ·go_wp2
      go_ret
      exact fit_no rfl (HW.out.trans (FW.after bA HF2.out))
   have b_0 := int_ne _ _ h_0
   have b_1 := int_ne _ _ h_1
   have b_2 := int_ne _ _ h_2
   have b_3 := int_ne _ _ h_3
   have b_4 := int_ne _ _ h_4
   have n_3 : (xk != 3) = true := by simpa using h_3
   clear h_0 h_1 h_2 h_3 h_4
   go_wp2_with fail
   refine (f12_fw W gf n' deep _ (HPk.out.after bA)).mono ?_
   rintro e w2 ⟨b, rfl, F2, hq⟩
   have F : FW gf (n' - 1) (wr.alloc (.cells #[.int .i64 xk, .string xt, .slice a3 n3 m3] 167)) w2 := F2
   have b0 : w2.cell? ⟨wr.heap.size, 0, none⟩ = some (.int .i64 xk) := F.box hne 0 _ rfl
   have b1 : w2.cell? ⟨wr.heap.size, 1, none⟩ = some (.string xt) := F.box hne 1 _ rfl
   have b2 : w2.cell? ⟨wr.heap.size, 2, none⟩ = some (.slice a3 n3 m3) := F.box hne 2 _ rfl
   have HF2 := Lib.hid F
   have HQ := Lib.hid hq
   have HB2 := Lib.hid (F.below (HPk.out.after bA).bel HPk.out.low)
   clear F F2 hq c0 c1 c2
   cases b
   ·go_wp2
    go_ret
    exact fit_no rfl (HW.out.trans (FW.after bA HF2.out))
   ·by_cases hn3 : n3 = 0
    ·obtain rfl : 0 = n3 := hn3.symm
     clear hn3
     obtain ⟨hn', hdeep⟩ := HQ.out rfl
     clear HQ
     have HP2 := Lib.hid (HPk.out.next' HF2.out HB2.out (by omega) (by omega))
     go_wp2
     all_goals
      go_ret
      exact fit_no rfl (HW.out.trans (FW.after bA HF2.out))
    ·go_wp2
     go_ret
     exact fit_no rfl (HW.out.trans (FW.after bA HF2.out))
  ·go_wp2
   go_ret
   obtain rfl : k = len := by omega
   exact HS.out.done HC.out HM.out fun h => by
    obtain ⟨g, off, ha, _⟩ := HR.out h
    exact ⟨g, off, ha⟩
end Go.Proofs.YtabeokminikfdaaGreat
