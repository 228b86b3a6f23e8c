import Derived.Test.YtabeokminikfdaaGreatQBj
import Derived.Test.YtabeokminikfdaaGreatQA1
set_option linter.all false
set_option maxRecDepth 100000
set_option maxHeartbeats 8000000
namespace Go.Proofs.YtabeokminikfdaaGreat
open Go.RowKit
theorem f24_12 (W : World) (X : EV → Tr → Prop) (Y : EV → Prop) (hF : FitE W X Y) (hY : YS W Y) (xo : Int) (xt : ByteArray) (vk : Int) (vn : Bool) (vb : Nat) (vt : ByteArray) (a1 a2 a3 a4 : Option Addr) (n1 n2 n3 n4 m1 m2 m3 m4 : Nat) (hX : ∀ k t, X k t → k.kind ≠ 0) (gf : Nat) (n deep : Int) (w : World)
  (hK : SlAt W 11 (.slice a3 n3 m3) n3 fun _ cs => ∃ k : EV, cs = k.cells ∧ Y k) (hPs : SlAt W 3 (.slice a4 n4 m4) n4 fun _ cs => ∃ p : PV, cs = p.cells ∧ p.name.size ≤ maxLen ∧ ∃ m, SlAt W 11 p.dflt m fun _ cs' => ∃ k : EV, cs' = k.cells ∧ Y k) (ht : xt.size ≤ maxLen) (hB : Bytes W (.slice a1 n1 m1) n1) (hp : FitPre W gf n w) (h0 : 0 ≤ deep) (h1 : deep ≤ 1000) :
  Calls Tryz.prog 24 #[.pointer (some ⟨gf, 0, none⟩), (EV.mk 12 xo xt vk vn (.slice a1 n1 m1) vb vt (.slice a2 n2 m2) (.slice a3 n3 m3) (.slice a4 n4 m4)).val, .int .i64 deep] w (FitPost gf n (fun m => ∃ t, ShE W X (EV.mk 12 xo xt vk vn (.slice a1 n1 m1) vb vt (.slice a2 n2 m2) (.slice a3 n3 m3) (.slice a4 n4 m4)) t ∧ (t.size : Int) + 1 ≤ 3 * m) w) := by
 have hlen : n3 ≤ 9223372036854775807 := by
  obtain ⟨_, _, hv, h2, h3, _⟩ := hK
  cases hv
  unfold maxLen at h3
  omega
 have hne : ¬ w.heap.size = gf := by have := hp.left.lt; omega
 have HF := Lib.hid hF
 have HY := Lib.hid hY
 have HK := Lib.hid hK
 have HPs := Lib.hid hPs
 have HT := Lib.hid ht
 have HBy := Lib.hid hB
 have HP := Lib.hid hp
 have hn0 := hp.n0
 have hn300 := hp.n1
 have HB0 := Lib.hid hp.bel
 clear hF hY hK hPs ht hB hp
 unfold EV.val EV.cells
 go_enter Tryz.func24, Tryz.ntmps24
 go_wp2_with fail
 refine (f27_12 _).mono ?_
 rintro e w' ⟨rfl, rfl⟩
 go_wp2_with fail
 refine (f12_fw W gf n deep _ (HP.out.after bA)).mono ?_
 rintro e w1 ⟨b, rfl, F1, hq⟩
 have b0 : w1.cell? ⟨w.heap.size, 0, none⟩ = some (.int .i64 12) := F1.box hne 0 _ rfl
 have b1 : w1.cell? ⟨w.heap.size, 1, none⟩ = some (.int .i64 xo) := F1.box hne 1 _ rfl
 have b2 : w1.cell? ⟨w.heap.size, 2, none⟩ = some (.string xt) := F1.box hne 2 _ rfl
 have b3 : w1.cell? ⟨w.heap.size, 3, none⟩ = some (.int .i64 vk) := F1.box hne 3 _ rfl
 have b4 : w1.cell? ⟨w.heap.size, 4, none⟩ = some (.bool vn) := F1.box hne 4 _ rfl
 have b5 : w1.cell? ⟨w.heap.size, 5, none⟩ = some (.slice a1 n1 m1) := F1.box hne 5 _ rfl
 have b6 : w1.cell? ⟨w.heap.size, 6, none⟩ = some (.int .u64 vb) := F1.box hne 6 _ rfl
 have b7 : w1.cell? ⟨w.heap.size, 7, none⟩ = some (.string vt) := F1.box hne 7 _ rfl
 have b8 : w1.cell? ⟨w.heap.size, 8, none⟩ = some (.slice a2 n2 m2) := F1.box hne 8 _ rfl
 have b9 : w1.cell? ⟨w.heap.size, 9, none⟩ = some (.slice a3 n3 m3) := F1.box hne 9 _ rfl
 have b10 : w1.cell? ⟨w.heap.size, 10, none⟩ = some (.slice a4 n4 m4) := F1.box hne 10 _ rfl
 have HF1 : Hid (FW gf (n - 1) (w.alloc (.cells #[.int .i64 12, .int .i64 xo, .string xt, .int .i64 vk, .bool vn, .slice a1 n1 m1, .int .u64 vb, .string vt, .slice a2 n2 m2, .slice a3 n3 m3, .slice a4 n4 m4] 164)) w1) := Lib.hid F1
 have HQ := Lib.hid hq
 have HB1 := Lib.hid (F1.below (HP.out.after bA).bel HP.out.low)
 clear F1 hq
 cases b
 ·go_wp2
  go_ret
  exact fit_no rfl (FW.after bA HF1.out)
 ·obtain ⟨hn', hdeep⟩ := HQ.out rfl
  clear HQ
  have HP1 := Lib.hid (HP.out.next' HF1.out HB1.out (by omega) (by omega))
  go_wp2_with fail
  refine (f28_any ⟨12, xo, xt, vk, vn, _, vb, vt, _, _, _⟩ ⟨⟨_, _, _, rfl⟩, ⟨_, _, _, rfl⟩, ⟨_, _, _, rfl⟩, ⟨_, _, _, rfl⟩⟩ _).mono ?_
  rintro e w2 ⟨b, rfl, hb2⟩
  clear b0 b1 b2 b3 b4 b5 b6 b7 b8 b9 b10
  have F2 := HF1.out.trans (FW.of_below HF1.out.left hb2)
  have b0 : w2.cell? ⟨w.heap.size, 0, none⟩ = some (.int .i64 12) := F2.box hne 0 _ rfl
  have b1 : w2.cell? ⟨w.heap.size, 1, none⟩ = some (.int .i64 xo) := F2.box hne 1 _ rfl
  have b2 : w2.cell? ⟨w.heap.size, 2, none⟩ = some (.string xt) := F2.box hne 2 _ rfl
  have b3 : w2.cell? ⟨w.heap.size, 3, none⟩ = some (.int .i64 vk) := F2.box hne 3 _ rfl
  have b4 : w2.cell? ⟨w.heap.size, 4, none⟩ = some (.bool vn) := F2.box hne 4 _ rfl
  have b5 : w2.cell? ⟨w.heap.size, 5, none⟩ = some (.slice a1 n1 m1) := F2.box hne 5 _ rfl
  have b6 : w2.cell? ⟨w.heap.size, 6, none⟩ = some (.int .u64 vb) := F2.box hne 6 _ rfl
  have b7 : w2.cell? ⟨w.heap.size, 7, none⟩ = some (.string vt) := F2.box hne 7 _ rfl
  have b8 : w2.cell? ⟨w.heap.size, 8, none⟩ = some (.slice a2 n2 m2) := F2.box hne 8 _ rfl
  have b9 : w2.cell? ⟨w.heap.size, 9, none⟩ = some (.slice a3 n3 m3) := F2.box hne 9 _ rfl
  have b10 : w2.cell? ⟨w.heap.size, 10, none⟩ = some (.slice a4 n4 m4) := F2.box hne 10 _ rfl
  have HF2 : Hid (FW gf (n - 1) (w.alloc (.cells #[.int .i64 12, .int .i64 xo, .string xt, .int .i64 vk, .bool vn, .slice a1 n1 m1, .int .u64 vb, .string vt, .slice a2 n2 m2, .slice a3 n3 m3, .slice a4 n4 m4] 164)) w2) := Lib.hid F2
  have HB2 := Lib.hid (F2.below (HP.out.after bA).bel HP.out.low)
  have HP2 := Lib.hid (HP.out.next' HF2.out HB2.out (by omega) (by omega))
  clear hb2 F2 HF1 HB1 HP1
  cases b
  ·go_wp2
   go_ret
   exact fit_no rfl (FW.after bA HF2.out)
  ·by_cases hn3 : n3 = 4
   ·obtain rfl : 4 = n3 := hn3.symm
    clear hn3
    have HX0 := Lib.hid hX
    clear hX b1 b2 b3 b4 b5 b6 b7 b8 b10
    go_wp2
    go_loopw [114] (fun i wr => ∃ k : Nat, k ≤ 4 ∧ i = .int .i64 k ∧ Sofar3 W X a3 gf (n - 1) w2 k wr) (fun i _ => 4 - (intOf i).toNat)
    case atStart => exact ⟨0, Nat.zero_le _, rfl, n - 1, [], rfl, .refl HP2.out.left, HP2.out.n0, Int.le_refl _, by simp [osizes], Elems.nil _ _ _ _⟩
    case round =>
     obtain ⟨k, hk, rfl, hS⟩ := hrel
     have HS := Lib.hid hS
     clear hS
     by_cases hlt : k < 4
     ·have hk' : k < 4 := by omega
      obtain ⟨g3, o3, rfl, hel⟩ : ∃ g off, a3 = some ⟨g, off, none⟩ ∧ ∀ i, i < 4 → ∃ cs : Array Value, cs.size = 11 ∧ (∀ j, j < 11 → W.cell? ⟨g, off + i * 11 + j, none⟩ = cs[j]?) ∧ ∃ k : EV, cs = k.cells ∧ Y k := by
       obtain ⟨_, _, hv, _, _, h3⟩ := HK.out
       cases hv
       exact h3 (by omega)
      obtain ⟨cs, hsz, hcs, x, rfl, hx⟩ := hel k hk'
      obtain ⟨n', ts, hl, hw, hn0', hn1, hz, hall⟩ := HS.out
      have hb := hw.below HP2.out.bel HP2.out.low
      have hsh := HY.out.sh x hx
      obtain ⟨ek, eo, et, fk, fn, fm, fb, ft, fs, gs, hs⟩ := x
      obtain ⟨⟨A1, L1, M1, rfl⟩, ⟨A2, L2, M2, rfl⟩, ⟨A3, L3, M3, rfl⟩, ⟨A4, L4, M4, rfl⟩⟩ := hsh
      obtain ⟨c0, c1, c2, c3, c4, c5, c6, c7, c8, c9, c10⟩ := ev_cells hb hcs
      dsimp only at c0 c1 c2 c3 c4 c5 c6 c7 c8 c9 c10
      have hPk := HP2.out.next hw hn0' hn1
      have hneE : ¬ wr.heap.size = gf := by have := hPk.left.lt; omega
      have HPk := Lib.hid hPk
      have HW := Lib.hid hw
      have HX := Lib.hid hx
      have HE : Hid (El W 11 g3 o3 k _) := Lib.hid ⟨rfl, hcs⟩
      have HA := Lib.hid hall
      have HL := Lib.hid hl
      clear hel hcs hall hx hl hw hb hsz HS hPk
      by_cases hk0 : k = 0
      ·have hkb : decide ((0 : Int) < (k : Int)) = false := by simp [hk0]
       have hkc : decide (0 < k) = false := by simp [hk0]
       have hkd : ¬ (0 < k) := by omega
       have HK0 := Lib.hid hk0
       clear hk0
       go_wp2_with fail
       refine (HF.out _ gf n' (deep + 1) _ HX.out (HPk.out.after bA) (by omega) (by omega)).mono ?_
       rintro e w5 ⟨b, n5, rfl, F5, hq5⟩
       have HF5 := Lib.hid (F5)
       have HQ5 := Lib.hid hq5
       clear F5 hq5
       cases b
       ·go_wp2
        go_ret
        exact fit_no rfl (FW.after bA (HF2.out.trans (HW.out.trans (FW.after bA HF5.out))))
       ·have HQ6 := Lib.hid (HQ5.out rfl)
        clear HQ5
        go_wp2
        go_roundw
        case rel =>
         obtain ⟨r0, r1, q, hqt, hts⟩ := HQ6.out
         exact ⟨k + 1, by omega, by go_num, Sofar3.snoc HL.out hz hn1 HA.out HE.out (o := some q) ⟨⟨_, rfl, HX0.out _ _ hqt, hqt⟩, fun _ => ⟨q, rfl⟩⟩ (HW.out.trans (FW.after bA HF5.out)) (by omega) (by omega) (by simp only [osizes]; omega)⟩
        case measure =>
         simp [intOf]
         omega
      have hkb : (0 : Int) < (k : Int) := by omega
      by_cases he0 : ek = 0
      ·subst he0
       go_wp2_with fail
       refine (f28_any ⟨0, eo, et, fk, fn, _, fb, ft, _, _, _⟩ ⟨⟨_, _, _, rfl⟩, ⟨_, _, _, rfl⟩, ⟨_, _, _, rfl⟩, ⟨_, _, _, rfl⟩⟩ _).mono ?_
       rintro e w4 ⟨b, rfl, hb4⟩
       have F4 : FW gf n' (wr.alloc (.cells #[.int .i64 0, .int .i64 eo, .string et, .int .i64 fk, .bool fn, .slice A1 L1 M1, .int .u64 fb, .string ft, .slice A2 L2 M2, .slice A3 L3 M3, .slice A4 L4 M4] 164)) w4 := FW.of_below (HPk.out.left.alloc _) hb4
       have b0 : w4.cell? ⟨wr.heap.size, 0, none⟩ = some (.int .i64 0) := F4.box hneE 0 _ rfl
       have b1 : w4.cell? ⟨wr.heap.size, 1, none⟩ = some (.int .i64 eo) := F4.box hneE 1 _ rfl
       have b2 : w4.cell? ⟨wr.heap.size, 2, none⟩ = some (.string et) := F4.box hneE 2 _ rfl
       have b3 : w4.cell? ⟨wr.heap.size, 3, none⟩ = some (.int .i64 fk) := F4.box hneE 3 _ rfl
       have b4 : w4.cell? ⟨wr.heap.size, 4, none⟩ = some (.bool fn) := F4.box hneE 4 _ rfl
       have b5 : w4.cell? ⟨wr.heap.size, 5, none⟩ = some (.slice A1 L1 M1) := F4.box hneE 5 _ rfl
       have b6 : w4.cell? ⟨wr.heap.size, 6, none⟩ = some (.int .u64 fb) := F4.box hneE 6 _ rfl
       have b7 : w4.cell? ⟨wr.heap.size, 7, none⟩ = some (.string ft) := F4.box hneE 7 _ rfl
       have b8 : w4.cell? ⟨wr.heap.size, 8, none⟩ = some (.slice A2 L2 M2) := F4.box hneE 8 _ rfl
       have b9 : w4.cell? ⟨wr.heap.size, 9, none⟩ = some (.slice A3 L3 M3) := F4.box hneE 9 _ rfl
       have b10 : w4.cell? ⟨wr.heap.size, 10, none⟩ = some (.slice A4 L4 M4) := F4.box hneE 10 _ rfl
       have HF4 := Lib.hid F4
       have HP4 := Lib.hid ((HPk.out.after bA).next F4 hn0' (Int.le_refl _))
       clear hb4 F4 c0 c1 c2 c3 c4 c5 c6 c7 c8 c9 c10
       cases b
       ·go_wp2_with fail
        refine (HF.out _ gf n' (deep + 1) _ HX.out (HP4.out) (by omega) (by omega)).mono ?_
        rintro e w5 ⟨b, n5, rfl, F5, hq5⟩
        have HF5 := Lib.hid (HF4.out.trans F5)
        have HQ5 := Lib.hid hq5
        clear F5 hq5
        cases b
        ·go_wp2
         go_ret
         exact fit_no rfl (FW.after bA (HF2.out.trans (HW.out.trans (FW.after bA HF5.out))))
        ·have HQ6 := Lib.hid (HQ5.out rfl)
         clear HQ5
         go_wp2
         go_roundw
         case rel =>
          obtain ⟨r0, r1, q, hqt, hts⟩ := HQ6.out
          exact ⟨k + 1, by omega, by go_num, Sofar3.snoc HL.out hz hn1 HA.out HE.out (o := some q) ⟨⟨_, rfl, HX0.out _ _ hqt, hqt⟩, fun _ => ⟨q, rfl⟩⟩ (HW.out.trans (FW.after bA HF5.out)) (by omega) (by omega) (by simp only [osizes]; omega)⟩
         case measure =>
          simp [intOf]
          omega
       ·by_cases hL : L3 = 0
        ·obtain rfl : 0 = L3 := hL.symm
         clear hL
         go_wp2
         go_roundw
         case rel =>
           exact ⟨k + 1, by omega, by go_num, Sofar3.snoc HL.out hz hn1 HA.out HE.out (o := none) ⟨⟨_, rfl, rfl, ⟨_, _, _, rfl⟩, ⟨_, _, _, rfl⟩, ⟨_, _, _, rfl⟩, _, _, _, rfl⟩, fun h => absurd h hk0⟩ (HW.out.trans (FW.after bA HF4.out)) (by omega) (by omega) (by simp only [osizes]; omega)⟩
         case measure =>
          simp [intOf]
          omega
        ·go_wp2_with fail
         refine (HF.out _ gf n' (deep + 1) _ HX.out (HP4.out) (by omega) (by omega)).mono ?_
         rintro e w5 ⟨b, n5, rfl, F5, hq5⟩
         have HF5 := Lib.hid (HF4.out.trans F5)
         have HQ5 := Lib.hid hq5
         clear F5 hq5
         cases b
         ·go_wp2
          go_ret
          exact fit_no rfl (FW.after bA (HF2.out.trans (HW.out.trans (FW.after bA HF5.out))))
         ·have HQ6 := Lib.hid (HQ5.out rfl)
          clear HQ5
          go_wp2
          go_roundw
          case rel =>
           obtain ⟨r0, r1, q, hqt, hts⟩ := HQ6.out
           exact ⟨k + 1, by omega, by go_num, Sofar3.snoc HL.out hz hn1 HA.out HE.out (o := some q) ⟨⟨_, rfl, HX0.out _ _ hqt, hqt⟩, fun _ => ⟨q, rfl⟩⟩ (HW.out.trans (FW.after bA HF5.out)) (by omega) (by omega) (by simp only [osizes]; omega)⟩
          case measure =>
           simp [intOf]
           omega
      ·have heb := int_ne _ _ he0
       clear he0
       go_wp2_with fail
       refine (HF.out _ gf n' (deep + 1) _ HX.out (HPk.out.after bA) (by omega) (by omega)).mono ?_
       rintro e w5 ⟨b, n5, rfl, F5, hq5⟩
       have HF5 := Lib.hid (F5)
       have HQ5 := Lib.hid hq5
       clear F5 hq5
       cases b
       ·go_wp2
        go_ret
        exact fit_no rfl (FW.after bA (HF2.out.trans (HW.out.trans (FW.after bA HF5.out))))
       ·have HQ6 := Lib.hid (HQ5.out rfl)
        clear HQ5
        go_wp2
        go_roundw
        case rel =>
         obtain ⟨r0, r1, q, hqt, hts⟩ := HQ6.out
         exact ⟨k + 1, by omega, by go_num, Sofar3.snoc HL.out hz hn1 HA.out HE.out (o := some q) ⟨⟨_, rfl, HX0.out _ _ hqt, hqt⟩, fun _ => ⟨q, rfl⟩⟩ (HW.out.trans (FW.after bA HF5.out)) (by omega) (by omega) (by simp only [osizes]; omega)⟩
        case measure =>
         simp [intOf]
         omega
     ·go_wp2
      go_ret
      obtain rfl : k = 4 := by omega
      obtain ⟨n', os, hl, hw, hn0', hn1, hz, hall⟩ := HS.out
      refine ⟨true, n', rfl, FW.after bA (HF2.out.trans hw), fun _ => ⟨hn0', by omega, ?_⟩⟩
      have hrow := hall.row hl (by obtain ⟨_, _, hv, h2, _⟩ := HK.out; cases hv; exact h2) HK.out.cap fun h => by
       obtain ⟨_, _, hv, _, _, h3⟩ := HK.out
       cases hv
       obtain ⟨g, off, ha, _⟩ := h3 h
       exact ⟨g, off, ha⟩
      match os, hl, hrow, hz with
      | [q0, q1, q2, q3], _, hrow, hz =>
       obtain ⟨t, rfl⟩ : ∃ t, q0 = some t := by
        obtain ⟨_, _, _, _, _, h3⟩ := hrow
        obtain ⟨_, _, _, hel⟩ := h3 (by simp)
        obtain ⟨_, _, _, h0⟩ := hel 0 (by simp)
        exact h0 rfl
       refine ⟨_, .slice _ t q1 q2 q3 rfl (hrow.imp rfl fun i cs _ _ h => h.1), ?_⟩
       cases q1 <;> cases q2 <;> cases q3 <;> simp [osizes, sizes, Tr.size] at hz ⊢ <;> omega
   ·go_wp2
    go_ret
    exact fit_no rfl (FW.after bA HF2.out)
end Go.Proofs.YtabeokminikfdaaGreat
