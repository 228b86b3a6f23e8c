import Derived.Test.YtabeokminikfdaaGreatQBj
import Derived.Test.YtabeokminikfdaaGreatQA1
set_option linter.all false
set_option maxRecDepth 100000
set_option maxHeartbeats 8000000
namespace Go.Proofs.YtabeokminikfdaaGreat
open Go.RowKit
theorem f24_14 (W : World) (X : EV → Tr → Prop) (Y : EV → Prop) (hF : FitE W X Y) (hY : YS W Y) (xo : Int) (xt : ByteArray) (vk : Int) (vn : Bool) (vb : Nat) (vt : ByteArray) (a1 a2 a3 a4 : Option Addr) (n1 n2 n3 n4 m1 m2 m3 m4 : Nat) (gf : Nat) (n deep : Int) (w : World)
  (hK : SlAt W 11 (.slice a3 n3 m3) n3 fun _ cs => ∃ k : EV, cs = k.cells ∧ Y k) (hPs : SlAt W 3 (.slice a4 n4 m4) n4 fun _ cs => ∃ p : PV, cs = p.cells ∧ p.name.size ≤ maxLen ∧ ∃ m, SlAt W 11 p.dflt m fun _ cs' => ∃ k : EV, cs' = k.cells ∧ Y k) (ht : xt.size ≤ maxLen) (hB : Bytes W (.slice a1 n1 m1) n1) (hp : FitPre W gf n w) (h0 : 0 ≤ deep) (h1 : deep ≤ 1000) :
  Calls Tryz.prog 24 #[.pointer (some ⟨gf, 0, none⟩), (EV.mk 14 xo xt vk vn (.slice a1 n1 m1) vb vt (.slice a2 n2 m2) (.slice a3 n3 m3) (.slice a4 n4 m4)).val, .int .i64 deep] w (FitPost gf n (fun m => ∃ t, ShE W X (EV.mk 14 xo xt vk vn (.slice a1 n1 m1) vb vt (.slice a2 n2 m2) (.slice a3 n3 m3) (.slice a4 n4 m4)) t ∧ (t.size : Int) + 1 ≤ 3 * m) w) := by
 have hlen : n3 ≤ 9223372036854775807 := by
  obtain ⟨_, _, hv, h2, h3, _⟩ := hK
  cases hv
  unfold maxLen at h3
  omega
 have hne : ¬ w.heap.size = gf := by have := hp.left.lt; omega
 have HF := Lib.hid hF
 have HY := Lib.hid hY
 have HK := Lib.hid hK
 have HPs := Lib.hid hPs
 have HT := Lib.hid ht
 have HBy := Lib.hid hB
 have HP := Lib.hid hp
 have hn0 := hp.n0
 have hn300 := hp.n1
 have HB0 := Lib.hid hp.bel
 clear hF hY hK hPs ht hB hp
 unfold EV.val EV.cells
 go_enter Tryz.func24, Tryz.ntmps24
 go_wp2_with fail
 refine (f27_14 _).mono ?_
 rintro e w' ⟨rfl, rfl⟩
 go_wp2_with fail
 refine (f12_fw W gf n deep _ (HP.out.after bA)).mono ?_
 rintro e w1 ⟨b, rfl, F1, hq⟩
 have b0 : w1.cell? ⟨w.heap.size, 0, none⟩ = some (.int .i64 14) := F1.box hne 0 _ rfl
 have b1 : w1.cell? ⟨w.heap.size, 1, none⟩ = some (.int .i64 xo) := F1.box hne 1 _ rfl
 have b2 : w1.cell? ⟨w.heap.size, 2, none⟩ = some (.string xt) := F1.box hne 2 _ rfl
 have b3 : w1.cell? ⟨w.heap.size, 3, none⟩ = some (.int .i64 vk) := F1.box hne 3 _ rfl
 have b4 : w1.cell? ⟨w.heap.size, 4, none⟩ = some (.bool vn) := F1.box hne 4 _ rfl
 have b5 : w1.cell? ⟨w.heap.size, 5, none⟩ = some (.slice a1 n1 m1) := F1.box hne 5 _ rfl
 have b6 : w1.cell? ⟨w.heap.size, 6, none⟩ = some (.int .u64 vb) := F1.box hne 6 _ rfl
 have b7 : w1.cell? ⟨w.heap.size, 7, none⟩ = some (.string vt) := F1.box hne 7 _ rfl
 have b8 : w1.cell? ⟨w.heap.size, 8, none⟩ = some (.slice a2 n2 m2) := F1.box hne 8 _ rfl
 have b9 : w1.cell? ⟨w.heap.size, 9, none⟩ = some (.slice a3 n3 m3) := F1.box hne 9 _ rfl
 have b10 : w1.cell? ⟨w.heap.size, 10, none⟩ = some (.slice a4 n4 m4) := F1.box hne 10 _ rfl
 have HF1 : Hid (FW gf (n - 1) (w.alloc (.cells #[.int .i64 14, .int .i64 xo, .string xt, .int .i64 vk, .bool vn, .slice a1 n1 m1, .int .u64 vb, .string vt, .slice a2 n2 m2, .slice a3 n3 m3, .slice a4 n4 m4] 164)) w1) := Lib.hid F1
 have HQ := Lib.hid hq
 have HB1 := Lib.hid (F1.below (HP.out.after bA).bel HP.out.low)
 clear F1 hq
 cases b
 ·go_wp2
  go_ret
  exact fit_no rfl (FW.after bA HF1.out)
 ·obtain ⟨hn', hdeep⟩ := HQ.out rfl
  clear HQ
  have HP1 := Lib.hid (HP.out.next' HF1.out HB1.out (by omega) (by omega))
  go_wp2_with fail
  refine (f28_any ⟨14, xo, xt, vk, vn, _, vb, vt, _, _, _⟩ ⟨⟨_, _, _, rfl⟩, ⟨_, _, _, rfl⟩, ⟨_, _, _, rfl⟩, ⟨_, _, _, rfl⟩⟩ _).mono ?_
  rintro e w2 ⟨b, rfl, hb2⟩
  clear b0 b1 b2 b3 b4 b5 b6 b7 b8 b9 b10
  have F2 := HF1.out.trans (FW.of_below HF1.out.left hb2)
  have b0 : w2.cell? ⟨w.heap.size, 0, none⟩ = some (.int .i64 14) := F2.box hne 0 _ rfl
  have b1 : w2.cell? ⟨w.heap.size, 1, none⟩ = some (.int .i64 xo) := F2.box hne 1 _ rfl
  have b2 : w2.cell? ⟨w.heap.size, 2, none⟩ = some (.string xt) := F2.box hne 2 _ rfl
  have b3 : w2.cell? ⟨w.heap.size, 3, none⟩ = some (.int .i64 vk) := F2.box hne 3 _ rfl
  have b4 : w2.cell? ⟨w.heap.size, 4, none⟩ = some (.bool vn) := F2.box hne 4 _ rfl
  have b5 : w2.cell? ⟨w.heap.size, 5, none⟩ = some (.slice a1 n1 m1) := F2.box hne 5 _ rfl
  have b6 : w2.cell? ⟨w.heap.size, 6, none⟩ = some (.int .u64 vb) := F2.box hne 6 _ rfl
  have b7 : w2.cell? ⟨w.heap.size, 7, none⟩ = some (.string vt) := F2.box hne 7 _ rfl
  have b8 : w2.cell? ⟨w.heap.size, 8, none⟩ = some (.slice a2 n2 m2) := F2.box hne 8 _ rfl
  have b9 : w2.cell? ⟨w.heap.size, 9, none⟩ = some (.slice a3 n3 m3) := F2.box hne 9 _ rfl
  have b10 : w2.cell? ⟨w.heap.size, 10, none⟩ = some (.slice a4 n4 m4) := F2.box hne 10 _ rfl
  have HF2 : Hid (FW gf (n - 1) (w.alloc (.cells #[.int .i64 14, .int .i64 xo, .string xt, .int .i64 vk, .bool vn, .slice a1 n1 m1, .int .u64 vb, .string vt, .slice a2 n2 m2, .slice a3 n3 m3, .slice a4 n4 m4] 164)) w2) := Lib.hid F2
  have HB2 := Lib.hid (F2.below (HP.out.after bA).bel HP.out.low)
  have HP2 := Lib.hid (HP.out.next' HF2.out HB2.out (by omega) (by omega))
  clear hb2 F2 HF1 HB1 HP1
  cases b
  ·go_wp2
   go_ret
   exact fit_no rfl (FW.after bA HF2.out)
  ·by_cases hn3 : 0 < n3
   ·have hk3 : ∃ g off, a3 = some ⟨g, off, none⟩ ∧ ∀ i, i < n3 → ∃ cs : Array Value, cs.size = 11 ∧ (∀ j, j < 11 → W.cell? ⟨g, off + i * 11 + j, none⟩ = cs[j]?) ∧ ∃ k : EV, cs = k.cells ∧ Y k := by
     obtain ⟨_, _, hv, _, _, h3⟩ := HK.out
     cases hv
     exact h3 (by omega)
    obtain ⟨g3, o3, rfl, hk4⟩ := hk3
    obtain ⟨cs0, hs0, he0, y, rfl, hy⟩ := hk4 0 (by omega)
    have hsh0 := HY.out.sh y hy
    obtain ⟨yk, yo, yt, zk, zn, zm, zb, zt, zs, ys', yp⟩ := y
    obtain ⟨⟨p1, q1, r1, rfl⟩, ⟨p2, q2, r2, rfl⟩, ⟨p3, q3, r3, rfl⟩, ⟨p4, q4, r4, rfl⟩⟩ := hsh0
    obtain ⟨c0, c1, c2, c3, c4, c5, c6, c7, c8, c9, c10⟩ := ev_cells0 HB2.out he0
    dsimp only at c0 c1 c2 c3 c4 c5 c6 c7 c8 c9 c10
    have HY0 := Lib.hid hy
    have HE0 : Hid (El W 11 g3 o3 0 _) := Lib.hid ⟨rfl, he0⟩
    have HCap := Lib.hid HK.out.cap
    have HLe : Hid (n3 ≤ m3) := Lib.hid (by
     obtain ⟨_, _, hv, h2, _⟩ := HK.out
     cases hv
     exact h2)
    clear hs0 hk4 hy he0
    go_wp2_with fail
    refine (HF.out _ gf (n - 1) (deep + 1) w2 HY0.out HP2.out (by omega) (by omega)).mono ?_
    rintro e w3 ⟨b, n2', rfl, F3, hq3⟩
    have F4 := HF2.out.trans F3
    have b9 : w3.cell? ⟨w.heap.size, 9, none⟩ = some (.slice (some ⟨g3, o3, none⟩) n3 m3) := F4.box hne 9 _ rfl
    have HF3 : Hid (FW gf n2' (w.alloc (.cells #[.int .i64 14, .int .i64 xo, .string xt, .int .i64 vk, .bool vn, .slice a1 n1 m1, .int .u64 vb, .string vt, .slice a2 n2 m2, .slice (some ⟨g3, o3, none⟩) n3 m3, .slice a4 n4 m4] 164)) w3) := Lib.hid F4
    have HQ3 := Lib.hid hq3
    have HB3 := Lib.hid (F4.below (HP.out.after bA).bel HP.out.low)
    clear F3 F4 hq3 c0 c1 c2 c3 c4 c5 c6 c7 c8 c9 c10
    cases b
    ·go_wp2
     go_ret
     exact fit_no rfl (FW.after bA HF3.out)
    ·by_cases hm3 : m3 = 1
     ·have HQ4 := Lib.hid (HQ3.out rfl)
      clear HQ3
      have HP3 := Lib.hid (HP.out.next' HF3.out HB3.out HQ4.out.1 (by have := HQ4.out.2.1; omega))
      obtain rfl : 1 = m3 := hm3.symm
      have hn1 : n3 = 1 := by have := HLe.out; omega
      obtain rfl : 1 = n3 := hn1.symm
      clear hn1 hm3 hn3
      go_wp2_with fail
      refine (f30_any W X Y HF.out HY.out _ 0 gf n2' (deep + 1) w3 (SlAt.none0 (by unfold maxLen; omega)) HP3.out (by omega) (by omega)).mono ?_
      rintro e w4 ⟨b, n3', rfl, F4, hq5⟩
      have HF4 := Lib.hid (HF3.out.trans F4)
      have HQ5 := Lib.hid hq5
      clear F4 hq5
      go_wp2
      go_ret
      refine ⟨b, n3', rfl, FW.after bA HF4.out, fun hb => ?_⟩
      obtain ⟨q0, q1, t, ht, hts⟩ := HQ4.out
      obtain ⟨q2, q3, us, hus, hrow, hts'⟩ := HQ5.out hb
      rw [← hus] at hrow
      refine ⟨by omega, by omega, _, .call _ t us rfl (RowOf.cons HE0.out ⟨_, rfl, fun _ => ht, fun h => absurd h (Nat.lt_irrefl 0)⟩ (by omega) (by have := HLe.out; omega) HCap.out hrow (fun h => absurd h (by rw [hus]; exact Nat.lt_irrefl 0)) fun i cs t ⟨k, hk, ha⟩ => ⟨k, hk, fun h => absurd h (Nat.succ_ne_zero i), fun _ => ha⟩), by simp only [Tr.size, sizes, List.append_nil]; omega⟩
     ·have HQ4 := Lib.hid (HQ3.out rfl)
      clear HQ3
      have HP3 := Lib.hid (HP.out.next' HF3.out HB3.out HQ4.out.1 (by have := HQ4.out.2.1; omega))
      have hm3' : 1 < m3 := by have := HLe.out; omega
      have HLe2 := HLe.out
      have hcap := HCap.out
      unfold maxLen at hcap
      go_wp2_with fail
      refine (f30_any W X Y HF.out HY.out _ (n3 - 1) gf n2' (deep + 1) w3 (SlAt.tail 1 HK.out (by omega)) HP3.out (by omega) (by omega)).mono ?_
      rintro e w4 ⟨b, n3', rfl, F4, hq5⟩
      have HF4 := Lib.hid (HF3.out.trans F4)
      have HQ5 := Lib.hid hq5
      clear F4 hq5
      go_wp2
      go_ret
      refine ⟨b, n3', rfl, FW.after bA HF4.out, fun hb => ?_⟩
      obtain ⟨q0, q1, t, ht, hts⟩ := HQ4.out
      obtain ⟨q2, q3, us, hus, hrow, hts'⟩ := HQ5.out hb
      rw [← hus] at hrow
      refine ⟨by omega, by omega, _, .call _ t us rfl (RowOf.cons HE0.out ⟨_, rfl, fun _ => ht, fun h => absurd h (Nat.lt_irrefl 0)⟩ (by omega) (by have := HLe.out; omega) HCap.out hrow (fun _ => rfl) fun i cs t ⟨k, hk, ha⟩ => ⟨k, hk, fun h => absurd h (Nat.succ_ne_zero i), fun _ => ha⟩), by simp only [Tr.size, sizes, List.append_nil]; omega⟩
   ·go_wp2
    go_ret
    exact fit_no rfl (FW.after bA HF2.out)
theorem f24_18 (W : World) (X : EV → Tr → Prop) (Y : EV → Prop) (hF : FitE W X Y) (hY : YS W Y) (xo : Int) (xt : ByteArray) (vk : Int) (vn : Bool) (vb : Nat) (vt : ByteArray) (a1 a2 a3 a4 : Option Addr) (n1 n2 n3 n4 m1 m2 m3 m4 : Nat) (gf : Nat) (n deep : Int) (w : World)
  (hK : SlAt W 11 (.slice a3 n3 m3) n3 fun _ cs => ∃ k : EV, cs = k.cells ∧ Y k) (hPs : SlAt W 3 (.slice a4 n4 m4) n4 fun _ cs => ∃ p : PV, cs = p.cells ∧ p.name.size ≤ maxLen ∧ ∃ m, SlAt W 11 p.dflt m fun _ cs' => ∃ k : EV, cs' = k.cells ∧ Y k) (ht : xt.size ≤ maxLen) (hB : Bytes W (.slice a1 n1 m1) n1) (hp : FitPre W gf n w) (h0 : 0 ≤ deep) (h1 : deep ≤ 1000) :
  Calls Tryz.prog 24 #[.pointer (some ⟨gf, 0, none⟩), (EV.mk 18 xo xt vk vn (.slice a1 n1 m1) vb vt (.slice a2 n2 m2) (.slice a3 n3 m3) (.slice a4 n4 m4)).val, .int .i64 deep] w (FitPost gf n (fun m => ∃ t, ShE W X (EV.mk 18 xo xt vk vn (.slice a1 n1 m1) vb vt (.slice a2 n2 m2) (.slice a3 n3 m3) (.slice a4 n4 m4)) t ∧ (t.size : Int) + 1 ≤ 3 * m) w) := by
 have hlen : n3 ≤ 9223372036854775807 := by
  obtain ⟨_, _, hv, h2, h3, _⟩ := hK
  cases hv
  unfold maxLen at h3
  omega
 have hne : ¬ w.heap.size = gf := by have := hp.left.lt; omega
 have HF := Lib.hid hF
 have HY := Lib.hid hY
 have HK := Lib.hid hK
 have HPs := Lib.hid hPs
 have HT := Lib.hid ht
 have HBy := Lib.hid hB
 have HP := Lib.hid hp
 have hn0 := hp.n0
 have hn300 := hp.n1
 have HB0 := Lib.hid hp.bel
 clear hF hY hK hPs ht hB hp
 unfold EV.val EV.cells
 go_enter Tryz.func24, Tryz.ntmps24
 go_wp2_with fail
 refine (f27_18 _).mono ?_
 rintro e w' ⟨rfl, rfl⟩
 go_wp2_with fail
 refine (f12_fw W gf n deep _ (HP.out.after bA)).mono ?_
 rintro e w1 ⟨b, rfl, F1, hq⟩
 have b0 : w1.cell? ⟨w.heap.size, 0, none⟩ = some (.int .i64 18) := F1.box hne 0 _ rfl
 have b1 : w1.cell? ⟨w.heap.size, 1, none⟩ = some (.int .i64 xo) := F1.box hne 1 _ rfl
 have b2 : w1.cell? ⟨w.heap.size, 2, none⟩ = some (.string xt) := F1.box hne 2 _ rfl
 have b3 : w1.cell? ⟨w.heap.size, 3, none⟩ = some (.int .i64 vk) := F1.box hne 3 _ rfl
 have b4 : w1.cell? ⟨w.heap.size, 4, none⟩ = some (.bool vn) := F1.box hne 4 _ rfl
 have b5 : w1.cell? ⟨w.heap.size, 5, none⟩ = some (.slice a1 n1 m1) := F1.box hne 5 _ rfl
 have b6 : w1.cell? ⟨w.heap.size, 6, none⟩ = some (.int .u64 vb) := F1.box hne 6 _ rfl
 have b7 : w1.cell? ⟨w.heap.size, 7, none⟩ = some (.string vt) := F1.box hne 7 _ rfl
 have b8 : w1.cell? ⟨w.heap.size, 8, none⟩ = some (.slice a2 n2 m2) := F1.box hne 8 _ rfl
 have b9 : w1.cell? ⟨w.heap.size, 9, none⟩ = some (.slice a3 n3 m3) := F1.box hne 9 _ rfl
 have b10 : w1.cell? ⟨w.heap.size, 10, none⟩ = some (.slice a4 n4 m4) := F1.box hne 10 _ rfl
 have HF1 : Hid (FW gf (n - 1) (w.alloc (.cells #[.int .i64 18, .int .i64 xo, .string xt, .int .i64 vk, .bool vn, .slice a1 n1 m1, .int .u64 vb, .string vt, .slice a2 n2 m2, .slice a3 n3 m3, .slice a4 n4 m4] 164)) w1) := Lib.hid F1
 have HQ := Lib.hid hq
 have HB1 := Lib.hid (F1.below (HP.out.after bA).bel HP.out.low)
 clear F1 hq
 cases b
 ·go_wp2
  go_ret
  exact fit_no rfl (FW.after bA HF1.out)
 ·obtain ⟨hn', hdeep⟩ := HQ.out rfl
  clear HQ
  have HP1 := Lib.hid (HP.out.next' HF1.out HB1.out (by omega) (by omega))
  go_wp2_with fail
  refine (f28_any ⟨18, xo, xt, vk, vn, _, vb, vt, _, _, _⟩ ⟨⟨_, _, _, rfl⟩, ⟨_, _, _, rfl⟩, ⟨_, _, _, rfl⟩, ⟨_, _, _, rfl⟩⟩ _).mono ?_
  rintro e w2 ⟨b, rfl, hb2⟩
  clear b0 b1 b2 b3 b4 b5 b6 b7 b8 b9 b10
  have F2 := HF1.out.trans (FW.of_below HF1.out.left hb2)
  have b0 : w2.cell? ⟨w.heap.size, 0, none⟩ = some (.int .i64 18) := F2.box hne 0 _ rfl
  have b1 : w2.cell? ⟨w.heap.size, 1, none⟩ = some (.int .i64 xo) := F2.box hne 1 _ rfl
  have b2 : w2.cell? ⟨w.heap.size, 2, none⟩ = some (.string xt) := F2.box hne 2 _ rfl
  have b3 : w2.cell? ⟨w.heap.size, 3, none⟩ = some (.int .i64 vk) := F2.box hne 3 _ rfl
  have b4 : w2.cell? ⟨w.heap.size, 4, none⟩ = some (.bool vn) := F2.box hne 4 _ rfl
  have b5 : w2.cell? ⟨w.heap.size, 5, none⟩ = some (.slice a1 n1 m1) := F2.box hne 5 _ rfl
  have b6 : w2.cell? ⟨w.heap.size, 6, none⟩ = some (.int .u64 vb) := F2.box hne 6 _ rfl
  have b7 : w2.cell? ⟨w.heap.size, 7, none⟩ = some (.string vt) := F2.box hne 7 _ rfl
  have b8 : w2.cell? ⟨w.heap.size, 8, none⟩ = some (.slice a2 n2 m2) := F2.box hne 8 _ rfl
  have b9 : w2.cell? ⟨w.heap.size, 9, none⟩ = some (.slice a3 n3 m3) := F2.box hne 9 _ rfl
  have b10 : w2.cell? ⟨w.heap.size, 10, none⟩ = some (.slice a4 n4 m4) := F2.box hne 10 _ rfl
  have HF2 : Hid (FW gf (n - 1) (w.alloc (.cells #[.int .i64 18, .int .i64 xo, .string xt, .int .i64 vk, .bool vn, .slice a1 n1 m1, .int .u64 vb, .string vt, .slice a2 n2 m2, .slice a3 n3 m3, .slice a4 n4 m4] 164)) w2) := Lib.hid F2
  have HB2 := Lib.hid (F2.below (HP.out.after bA).bel HP.out.low)
  have HP2 := Lib.hid (HP.out.next' HF2.out HB2.out (by omega) (by omega))
  clear hb2 F2 HF1 HB1 HP1
  cases b
  ·go_wp2
   go_ret
   exact fit_no rfl (FW.after bA HF2.out)
  ·by_cases hn3 : n3 = 1
   ·obtain rfl : 1 = n3 := hn3.symm
    clear hn3
    go_wp2_with fail
    refine (f20_any W X Y HF.out HY.out _ n4 gf (n - 1) (deep + 1) w2 HPs.out HP2.out (by omega) (by omega)).mono ?_
    rintro e w3 ⟨b, n2', rfl, F3, hq3⟩
    have F4 := HF2.out.trans F3
    have b9 : w3.cell? ⟨w.heap.size, 9, none⟩ = some (.slice a3 1 m3) := F4.box hne 9 _ rfl
    have HF3 : Hid (FW gf n2' (w.alloc (.cells #[.int .i64 18, .int .i64 xo, .string xt, .int .i64 vk, .bool vn, .slice a1 n1 m1, .int .u64 vb, .string vt, .slice a2 n2 m2, .slice a3 1 m3, .slice a4 n4 m4] 164)) w3) := Lib.hid F4
    have HQ3 := Lib.hid hq3
    have HB3 := Lib.hid (F4.below (HP.out.after bA).bel HP.out.low)
    clear F3 F4 hq3
    cases b
    ·go_wp2
     go_ret
     exact fit_no rfl (FW.after bA HF3.out)
    ·have HQ4 := Lib.hid (HQ3.out rfl)
     clear HQ3
     have HP3 := Lib.hid (HP.out.next' HF3.out HB3.out HQ4.out.1 (by have := HQ4.out.2.1; omega))
     go_wp2_with fail
     refine (f18_any W X Y HF.out HY.out.sh _ 1 gf n2' (deep + 1) w3 HK.out HP3.out (by omega) (by omega)).mono ?_
     rintro e w4 ⟨b, n3', rfl, F4, hq5⟩
     have HF4 := Lib.hid (HF3.out.trans F4)
     have HQ5 := Lib.hid hq5
     clear F4 hq5
     go_wp2
     go_ret
     refine ⟨b, n3', rfl, FW.after bA HF4.out, fun hb => ?_⟩
     obtain ⟨q0, q1, us, hus, hrow, hts⟩ := HQ4.out
     obtain ⟨q2, q3, us', hus', hrow', hts'⟩ := HQ5.out hb
     obtain ⟨p, rfl⟩ : ∃ p, us' = [p] := by match us', hus' with | [p], _ => exact ⟨p, rfl⟩
     simp only [sizes, List.length_cons, List.length_nil] at hts'
     exact ⟨by omega, by omega, _, .lambda _ us p rfl hrow hrow', by simp only [Tr.size, sizes, sizes_append]; omega⟩
   ·go_wp2
    go_ret
    exact fit_no rfl (FW.after bA HF2.out)
theorem f24_19 (W : World) (X : EV → Tr → Prop) (Y : EV → Prop) (hF : FitE W X Y) (hY : YS W Y) (xo : Int) (xt : ByteArray) (vk : Int) (vn : Bool) (vb : Nat) (vt : ByteArray) (a1 a2 a3 a4 : Option Addr) (n1 n2 n3 n4 m1 m2 m3 m4 : Nat) (gf : Nat) (n deep : Int) (w : World)
  (hK : SlAt W 11 (.slice a3 n3 m3) n3 fun _ cs => ∃ k : EV, cs = k.cells ∧ Y k) (hPs : SlAt W 3 (.slice a4 n4 m4) n4 fun _ cs => ∃ p : PV, cs = p.cells ∧ p.name.size ≤ maxLen ∧ ∃ m, SlAt W 11 p.dflt m fun _ cs' => ∃ k : EV, cs' = k.cells ∧ Y k) (ht : xt.size ≤ maxLen) (hB : Bytes W (.slice a1 n1 m1) n1) (hp : FitPre W gf n w) (h0 : 0 ≤ deep) (h1 : deep ≤ 1000) :
  Calls Tryz.prog 24 #[.pointer (some ⟨gf, 0, none⟩), (EV.mk 19 xo xt vk vn (.slice a1 n1 m1) vb vt (.slice a2 n2 m2) (.slice a3 n3 m3) (.slice a4 n4 m4)).val, .int .i64 deep] w (FitPost gf n (fun m => ∃ t, ShE W X (EV.mk 19 xo xt vk vn (.slice a1 n1 m1) vb vt (.slice a2 n2 m2) (.slice a3 n3 m3) (.slice a4 n4 m4)) t ∧ (t.size : Int) + 1 ≤ 3 * m) w) := by
 have hlen : n3 ≤ 9223372036854775807 := by
  obtain ⟨_, _, hv, h2, h3, _⟩ := hK
  cases hv
  unfold maxLen at h3
  omega
 have hne : ¬ w.heap.size = gf := by have := hp.left.lt; omega
 have HF := Lib.hid hF
 have HY := Lib.hid hY
 have HK := Lib.hid hK
 have HPs := Lib.hid hPs
 have HT := Lib.hid ht
 have HBy := Lib.hid hB
 have HP := Lib.hid hp
 have hn0 := hp.n0
 have hn300 := hp.n1
 have HB0 := Lib.hid hp.bel
 clear hF hY hK hPs ht hB hp
 unfold EV.val EV.cells
 go_enter Tryz.func24, Tryz.ntmps24
 go_wp2_with fail
 refine (f27_19 _).mono ?_
 rintro e w' ⟨rfl, rfl⟩
 go_wp2_with fail
 refine (f12_fw W gf n deep _ (HP.out.after bA)).mono ?_
 rintro e w1 ⟨b, rfl, F1, hq⟩
 have b0 : w1.cell? ⟨w.heap.size, 0, none⟩ = some (.int .i64 19) := F1.box hne 0 _ rfl
 have b1 : w1.cell? ⟨w.heap.size, 1, none⟩ = some (.int .i64 xo) := F1.box hne 1 _ rfl
 have b2 : w1.cell? ⟨w.heap.size, 2, none⟩ = some (.string xt) := F1.box hne 2 _ rfl
 have b3 : w1.cell? ⟨w.heap.size, 3, none⟩ = some (.int .i64 vk) := F1.box hne 3 _ rfl
 have b4 : w1.cell? ⟨w.heap.size, 4, none⟩ = some (.bool vn) := F1.box hne 4 _ rfl
 have b5 : w1.cell? ⟨w.heap.size, 5, none⟩ = some (.slice a1 n1 m1) := F1.box hne 5 _ rfl
 have b6 : w1.cell? ⟨w.heap.size, 6, none⟩ = some (.int .u64 vb) := F1.box hne 6 _ rfl
 have b7 : w1.cell? ⟨w.heap.size, 7, none⟩ = some (.string vt) := F1.box hne 7 _ rfl
 have b8 : w1.cell? ⟨w.heap.size, 8, none⟩ = some (.slice a2 n2 m2) := F1.box hne 8 _ rfl
 have b9 : w1.cell? ⟨w.heap.size, 9, none⟩ = some (.slice a3 n3 m3) := F1.box hne 9 _ rfl
 have b10 : w1.cell? ⟨w.heap.size, 10, none⟩ = some (.slice a4 n4 m4) := F1.box hne 10 _ rfl
 have HF1 : Hid (FW gf (n - 1) (w.alloc (.cells #[.int .i64 19, .int .i64 xo, .string xt, .int .i64 vk, .bool vn, .slice a1 n1 m1, .int .u64 vb, .string vt, .slice a2 n2 m2, .slice a3 n3 m3, .slice a4 n4 m4] 164)) w1) := Lib.hid F1
 have HQ := Lib.hid hq
 have HB1 := Lib.hid (F1.below (HP.out.after bA).bel HP.out.low)
 clear F1 hq
 cases b
 ·go_wp2
  go_ret
  exact fit_no rfl (FW.after bA HF1.out)
 ·obtain ⟨hn', hdeep⟩ := HQ.out rfl
  clear HQ
  have HP1 := Lib.hid (HP.out.next' HF1.out HB1.out (by omega) (by omega))
  go_wp2_with fail
  refine (f28_any ⟨19, xo, xt, vk, vn, _, vb, vt, _, _, _⟩ ⟨⟨_, _, _, rfl⟩, ⟨_, _, _, rfl⟩, ⟨_, _, _, rfl⟩, ⟨_, _, _, rfl⟩⟩ _).mono ?_
  rintro e w2 ⟨b, rfl, hb2⟩
  clear b0 b1 b2 b3 b4 b5 b6 b7 b8 b9 b10
  have F2 := HF1.out.trans (FW.of_below HF1.out.left hb2)
  have b0 : w2.cell? ⟨w.heap.size, 0, none⟩ = some (.int .i64 19) := F2.box hne 0 _ rfl
  have b1 : w2.cell? ⟨w.heap.size, 1, none⟩ = some (.int .i64 xo) := F2.box hne 1 _ rfl
  have b2 : w2.cell? ⟨w.heap.size, 2, none⟩ = some (.string xt) := F2.box hne 2 _ rfl
  have b3 : w2.cell? ⟨w.heap.size, 3, none⟩ = some (.int .i64 vk) := F2.box hne 3 _ rfl
  have b4 : w2.cell? ⟨w.heap.size, 4, none⟩ = some (.bool vn) := F2.box hne 4 _ rfl
  have b5 : w2.cell? ⟨w.heap.size, 5, none⟩ = some (.slice a1 n1 m1) := F2.box hne 5 _ rfl
  have b6 : w2.cell? ⟨w.heap.size, 6, none⟩ = some (.int .u64 vb) := F2.box hne 6 _ rfl
  have b7 : w2.cell? ⟨w.heap.size, 7, none⟩ = some (.string vt) := F2.box hne 7 _ rfl
  have b8 : w2.cell? ⟨w.heap.size, 8, none⟩ = some (.slice a2 n2 m2) := F2.box hne 8 _ rfl
  have b9 : w2.cell? ⟨w.heap.size, 9, none⟩ = some (.slice a3 n3 m3) := F2.box hne 9 _ rfl
  have b10 : w2.cell? ⟨w.heap.size, 10, none⟩ = some (.slice a4 n4 m4) := F2.box hne 10 _ rfl
  have HF2 : Hid (FW gf (n - 1) (w.alloc (.cells #[.int .i64 19, .int .i64 xo, .string xt, .int .i64 vk, .bool vn, .slice a1 n1 m1, .int .u64 vb, .string vt, .slice a2 n2 m2, .slice a3 n3 m3, .slice a4 n4 m4] 164)) w2) := Lib.hid F2
  have HB2 := Lib.hid (F2.below (HP.out.after bA).bel HP.out.low)
  have HP2 := Lib.hid (HP.out.next' HF2.out HB2.out (by omega) (by omega))
  clear hb2 F2 HF1 HB1 HP1
  cases b
  ·go_wp2
   go_ret
   exact fit_no rfl (FW.after bA HF2.out)
  ·by_cases hn3 : 1 < n3
   ·have hk3 : ∃ g off, a3 = some ⟨g, off, none⟩ ∧ ∀ i, i < n3 → ∃ cs : Array Value, cs.size = 11 ∧ (∀ j, j < 11 → W.cell? ⟨g, off + i * 11 + j, none⟩ = cs[j]?) ∧ ∃ k : EV, cs = k.cells ∧ Y k := by
     obtain ⟨_, _, hv, _, _, h3⟩ := HK.out
     cases hv
     exact h3 (by omega)
    obtain ⟨g3, o3, rfl, hk4⟩ := hk3
    obtain ⟨cs0, hs0, he0, y, rfl, hy⟩ := hk4 0 (by omega)
    have hsh0 := HY.out.sh y hy
    obtain ⟨yk, yo, yt, zk, zn, zm, zb, zt, zs, ys', yp⟩ := y
    obtain ⟨⟨p1, q1, r1, rfl⟩, ⟨p2, q2, r2, rfl⟩, ⟨p3, q3, r3, rfl⟩, ⟨p4, q4, r4, rfl⟩⟩ := hsh0
    obtain ⟨c0, c1, c2, c3, c4, c5, c6, c7, c8, c9, c10⟩ := ev_cells0 HB2.out he0
    dsimp only at c0 c1 c2 c3 c4 c5 c6 c7 c8 c9 c10
    have HY0 := Lib.hid hy
    have HE0 : Hid (El W 11 g3 o3 0 _) := Lib.hid ⟨rfl, he0⟩
    have HCap := Lib.hid HK.out.cap
    have HLe : Hid (n3 ≤ m3) := Lib.hid (by
     obtain ⟨_, _, hv, h2, _⟩ := HK.out
     cases hv
     exact h2)
    clear hs0 hk4 hy he0
    go_wp2_with fail
    refine (HF.out _ gf (n - 1) (deep + 1) w2 HY0.out HP2.out (by omega) (by omega)).mono ?_
    rintro e w3 ⟨b, n2', rfl, F3, hq3⟩
    have F4 := HF2.out.trans F3
    have b9 : w3.cell? ⟨w.heap.size, 9, none⟩ = some (.slice (some ⟨g3, o3, none⟩) n3 m3) := F4.box hne 9 _ rfl
    have HF3 : Hid (FW gf n2' (w.alloc (.cells #[.int .i64 19, .int .i64 xo, .string xt, .int .i64 vk, .bool vn, .slice a1 n1 m1, .int .u64 vb, .string vt, .slice a2 n2 m2, .slice (some ⟨g3, o3, none⟩) n3 m3, .slice a4 n4 m4] 164)) w3) := Lib.hid F4
    have HQ3 := Lib.hid hq3
    have HB3 := Lib.hid (F4.below (HP.out.after bA).bel HP.out.low)
    clear F3 F4 hq3 c0 c1 c2 c3 c4 c5 c6 c7 c8 c9 c10
    cases b
    ·go_wp2
     go_ret
     exact fit_no rfl (FW.after bA HF3.out)
    ·have HQ4 := Lib.hid (HQ3.out rfl)
     clear HQ3
     have HP3 := Lib.hid (HP.out.next' HF3.out HB3.out HQ4.out.1 (by have := HQ4.out.2.1; omega))
     have hm3' : 1 < m3 := by have := HLe.out; omega
     have HLe2 := HLe.out
     have hcap := HCap.out
     unfold maxLen at hcap
     go_wp2_with fail
     refine (f31_any W X Y HF.out HY.out _ (n3 - 1) gf n2' (deep + 1) w3 (SlAt.tail 1 HK.out (by omega)) HP3.out (by omega) (by omega)).mono ?_
     rintro e w4 ⟨b, n3', rfl, F4, hq5⟩
     have HF4 := Lib.hid (HF3.out.trans F4)
     have HQ5 := Lib.hid hq5
     clear F4 hq5
     go_wp2
     go_ret
     refine ⟨b, n3', rfl, FW.after bA HF4.out, fun hb => ?_⟩
     obtain ⟨q0, q1, t, ht, hts⟩ := HQ4.out
     obtain ⟨q2, q3, us, hus, hrow, hts'⟩ := HQ5.out hb
     rw [← hus] at hrow
     refine ⟨by omega, by omega, _, .listOf _ t us rfl (by omega) (RowOf.cons HE0.out ⟨_, rfl, fun _ => ht, fun h => absurd h (Nat.not_succ_le_zero 0), fun h => absurd h (by decide)⟩ (by omega) (by have := HLe.out; omega) HCap.out hrow (fun _ => rfl) fun i cs t ⟨k, hk, ha, h21⟩ => ⟨k, hk, fun h => absurd h (by omega), fun _ => ha, fun h => h21 (by omega)⟩), by simp only [Tr.size, sizes, List.append_nil]; omega⟩
   ·go_wp2
    go_ret
    exact fit_no rfl (FW.after bA HF2.out)
theorem f24_20 (W : World) (X : EV → Tr → Prop) (Y : EV → Prop) (hF : FitE W X Y) (hY : YS W Y) (xo : Int) (xt : ByteArray) (vk : Int) (vn : Bool) (vb : Nat) (vt : ByteArray) (a1 a2 a3 a4 : Option Addr) (n1 n2 n3 n4 m1 m2 m3 m4 : Nat) (gf : Nat) (n deep : Int) (w : World)
  (hK : SlAt W 11 (.slice a3 n3 m3) n3 fun _ cs => ∃ k : EV, cs = k.cells ∧ Y k) (hPs : SlAt W 3 (.slice a4 n4 m4) n4 fun _ cs => ∃ p : PV, cs = p.cells ∧ p.name.size ≤ maxLen ∧ ∃ m, SlAt W 11 p.dflt m fun _ cs' => ∃ k : EV, cs' = k.cells ∧ Y k) (ht : xt.size ≤ maxLen) (hB : Bytes W (.slice a1 n1 m1) n1) (hp : FitPre W gf n w) (h0 : 0 ≤ deep) (h1 : deep ≤ 1000) :
  Calls Tryz.prog 24 #[.pointer (some ⟨gf, 0, none⟩), (EV.mk 20 xo xt vk vn (.slice a1 n1 m1) vb vt (.slice a2 n2 m2) (.slice a3 n3 m3) (.slice a4 n4 m4)).val, .int .i64 deep] w (FitPost gf n (fun m => ∃ t, ShE W X (EV.mk 20 xo xt vk vn (.slice a1 n1 m1) vb vt (.slice a2 n2 m2) (.slice a3 n3 m3) (.slice a4 n4 m4)) t ∧ (t.size : Int) + 1 ≤ 3 * m) w) := by
 have hlen : n3 ≤ 9223372036854775807 := by
  obtain ⟨_, _, hv, h2, h3, _⟩ := hK
  cases hv
  unfold maxLen at h3
  omega
 have hne : ¬ w.heap.size = gf := by have := hp.left.lt; omega
 have HF := Lib.hid hF
 have HY := Lib.hid hY
 have HK := Lib.hid hK
 have HPs := Lib.hid hPs
 have HT := Lib.hid ht
 have HBy := Lib.hid hB
 have HP := Lib.hid hp
 have hn0 := hp.n0
 have hn300 := hp.n1
 have HB0 := Lib.hid hp.bel
 clear hF hY hK hPs ht hB hp
 unfold EV.val EV.cells
 go_enter Tryz.func24, Tryz.ntmps24
 go_wp2_with fail
 refine (f27_20 _).mono ?_
 rintro e w' ⟨rfl, rfl⟩
 go_wp2_with fail
 refine (f12_fw W gf n deep _ (HP.out.after bA)).mono ?_
 rintro e w1 ⟨b, rfl, F1, hq⟩
 have b0 : w1.cell? ⟨w.heap.size, 0, none⟩ = some (.int .i64 20) := F1.box hne 0 _ rfl
 have b1 : w1.cell? ⟨w.heap.size, 1, none⟩ = some (.int .i64 xo) := F1.box hne 1 _ rfl
 have b2 : w1.cell? ⟨w.heap.size, 2, none⟩ = some (.string xt) := F1.box hne 2 _ rfl
 have b3 : w1.cell? ⟨w.heap.size, 3, none⟩ = some (.int .i64 vk) := F1.box hne 3 _ rfl
 have b4 : w1.cell? ⟨w.heap.size, 4, none⟩ = some (.bool vn) := F1.box hne 4 _ rfl
 have b5 : w1.cell? ⟨w.heap.size, 5, none⟩ = some (.slice a1 n1 m1) := F1.box hne 5 _ rfl
 have b6 : w1.cell? ⟨w.heap.size, 6, none⟩ = some (.int .u64 vb) := F1.box hne 6 _ rfl
 have b7 : w1.cell? ⟨w.heap.size, 7, none⟩ = some (.string vt) := F1.box hne 7 _ rfl
 have b8 : w1.cell? ⟨w.heap.size, 8, none⟩ = some (.slice a2 n2 m2) := F1.box hne 8 _ rfl
 have b9 : w1.cell? ⟨w.heap.size, 9, none⟩ = some (.slice a3 n3 m3) := F1.box hne 9 _ rfl
 have b10 : w1.cell? ⟨w.heap.size, 10, none⟩ = some (.slice a4 n4 m4) := F1.box hne 10 _ rfl
 have HF1 : Hid (FW gf (n - 1) (w.alloc (.cells #[.int .i64 20, .int .i64 xo, .string xt, .int .i64 vk, .bool vn, .slice a1 n1 m1, .int .u64 vb, .string vt, .slice a2 n2 m2, .slice a3 n3 m3, .slice a4 n4 m4] 164)) w1) := Lib.hid F1
 have HQ := Lib.hid hq
 have HB1 := Lib.hid (F1.below (HP.out.after bA).bel HP.out.low)
 clear F1 hq
 cases b
 ·go_wp2
  go_ret
  exact fit_no rfl (FW.after bA HF1.out)
 ·obtain ⟨hn', hdeep⟩ := HQ.out rfl
  clear HQ
  have HP1 := Lib.hid (HP.out.next' HF1.out HB1.out (by omega) (by omega))
  go_wp2_with fail
  refine (f28_any ⟨20, xo, xt, vk, vn, _, vb, vt, _, _, _⟩ ⟨⟨_, _, _, rfl⟩, ⟨_, _, _, rfl⟩, ⟨_, _, _, rfl⟩, ⟨_, _, _, rfl⟩⟩ _).mono ?_
  rintro e w2 ⟨b, rfl, hb2⟩
  clear b0 b1 b2 b3 b4 b5 b6 b7 b8 b9 b10
  have F2 := HF1.out.trans (FW.of_below HF1.out.left hb2)
  have b0 : w2.cell? ⟨w.heap.size, 0, none⟩ = some (.int .i64 20) := F2.box hne 0 _ rfl
  have b1 : w2.cell? ⟨w.heap.size, 1, none⟩ = some (.int .i64 xo) := F2.box hne 1 _ rfl
  have b2 : w2.cell? ⟨w.heap.size, 2, none⟩ = some (.string xt) := F2.box hne 2 _ rfl
  have b3 : w2.cell? ⟨w.heap.size, 3, none⟩ = some (.int .i64 vk) := F2.box hne 3 _ rfl
  have b4 : w2.cell? ⟨w.heap.size, 4, none⟩ = some (.bool vn) := F2.box hne 4 _ rfl
  have b5 : w2.cell? ⟨w.heap.size, 5, none⟩ = some (.slice a1 n1 m1) := F2.box hne 5 _ rfl
  have b6 : w2.cell? ⟨w.heap.size, 6, none⟩ = some (.int .u64 vb) := F2.box hne 6 _ rfl
  have b7 : w2.cell? ⟨w.heap.size, 7, none⟩ = some (.string vt) := F2.box hne 7 _ rfl
  have b8 : w2.cell? ⟨w.heap.size, 8, none⟩ = some (.slice a2 n2 m2) := F2.box hne 8 _ rfl
  have b9 : w2.cell? ⟨w.heap.size, 9, none⟩ = some (.slice a3 n3 m3) := F2.box hne 9 _ rfl
  have b10 : w2.cell? ⟨w.heap.size, 10, none⟩ = some (.slice a4 n4 m4) := F2.box hne 10 _ rfl
  have HF2 : Hid (FW gf (n - 1) (w.alloc (.cells #[.int .i64 20, .int .i64 xo, .string xt, .int .i64 vk, .bool vn, .slice a1 n1 m1, .int .u64 vb, .string vt, .slice a2 n2 m2, .slice a3 n3 m3, .slice a4 n4 m4] 164)) w2) := Lib.hid F2
  have HB2 := Lib.hid (F2.below (HP.out.after bA).bel HP.out.low)
  have HP2 := Lib.hid (HP.out.next' HF2.out HB2.out (by omega) (by omega))
  clear hb2 F2 HF1 HB1 HP1
  cases b
  ·go_wp2
   go_ret
   exact fit_no rfl (FW.after bA HF2.out)
  ·by_cases hn3 : 2 < n3
   ·have hk3 : ∃ g off, a3 = some ⟨g, off, none⟩ ∧ ∀ i, i < n3 → ∃ cs : Array Value, cs.size = 11 ∧ (∀ j, j < 11 → W.cell? ⟨g, off + i * 11 + j, none⟩ = cs[j]?) ∧ ∃ k : EV, cs = k.cells ∧ Y k := by
     obtain ⟨_, _, hv, _, _, h3⟩ := HK.out
     cases hv
     exact h3 (by omega)
    obtain ⟨g3, o3, rfl, hk4⟩ := hk3
    obtain ⟨cs0, hs0, he0, y, rfl, hy⟩ := hk4 0 (by omega)
    have hsh0 := HY.out.sh y hy
    obtain ⟨yk, yo, yt, zk, zn, zm, zb, zt, zs, ys', yp⟩ := y
    obtain ⟨⟨p1, q1, r1, rfl⟩, ⟨p2, q2, r2, rfl⟩, ⟨p3, q3, r3, rfl⟩, ⟨p4, q4, r4, rfl⟩⟩ := hsh0
    obtain ⟨c0, c1, c2, c3, c4, c5, c6, c7, c8, c9, c10⟩ := ev_cells0 HB2.out he0
    dsimp only at c0 c1 c2 c3 c4 c5 c6 c7 c8 c9 c10
    have HY0 := Lib.hid hy
    have HE0 : Hid (El W 11 g3 o3 0 _) := Lib.hid ⟨rfl, he0⟩
    have HCap := Lib.hid HK.out.cap
    have HLe : Hid (n3 ≤ m3) := Lib.hid (by
     obtain ⟨_, _, hv, h2, _⟩ := HK.out
     cases hv
     exact h2)
    clear hs0 hk4 hy he0 c0 c1 c2 c3 c4 c5 c6 c7 c8 c9 c10
    have hm3' : 2 < m3 := by have := HLe.out; omega
    have HLe2 := HLe.out
    have hcap := HCap.out
    unfold maxLen at hcap
    have HK2 : Hid (SlAt W 11 (.slice (some ⟨g3, o3, none⟩) 2 m3) 2 fun _ cs => ∃ k : EV, cs = k.cells ∧ Y k) := Lib.hid (by
     obtain ⟨_, _, hv, _, h3, h4⟩ := HK.out
     cases hv
     refine ⟨_, m3, rfl, by omega, h3, fun _ => ?_⟩
     obtain ⟨g, off, ha, hel⟩ := h4 (by omega)
     exact ⟨g, off, ha, fun i hi => hel i (by omega)⟩)
    go_wp2_with fail
    refine (f18_any W X Y HF.out HY.out.sh _ 2 gf (n - 1) (deep + 1) w2 HK2.out HP2.out (by omega) (by omega)).mono ?_
    rintro e w3 ⟨b, n2', rfl, F3, hq3⟩
    have F4 := HF2.out.trans F3
    have b9 : w3.cell? ⟨w.heap.size, 9, none⟩ = some (.slice (some ⟨g3, o3, none⟩) n3 m3) := F4.box hne 9 _ rfl
    have HF3 : Hid (FW gf n2' (w.alloc (.cells #[.int .i64 20, .int .i64 xo, .string xt, .int .i64 vk, .bool vn, .slice a1 n1 m1, .int .u64 vb, .string vt, .slice a2 n2 m2, .slice (some ⟨g3, o3, none⟩) n3 m3, .slice a4 n4 m4] 164)) w3) := Lib.hid F4
    have HQ3 := Lib.hid hq3
    have HB3 := Lib.hid (F4.below (HP.out.after bA).bel HP.out.low)
    clear F3 F4 hq3
    cases b
    ·go_wp2
     go_ret
     exact fit_no rfl (FW.after bA HF3.out)
    ·have HQ4 := Lib.hid (HQ3.out rfl)
     clear HQ3
     have HP3 := Lib.hid (HP.out.next' HF3.out HB3.out HQ4.out.1 (by have := HQ4.out.2.1; omega))
     go_wp2_with fail
     refine (f31_any W X Y HF.out HY.out _ (n3 - 2) gf n2' (deep + 1) w3 (SlAt.tail 2 HK.out (by omega)) HP3.out (by omega) (by omega)).mono ?_
     rintro e w4 ⟨b, n3', rfl, F4, hq5⟩
     have HF4 := Lib.hid (HF3.out.trans F4)
     have HQ5 := Lib.hid hq5
     clear F4 hq5
     go_wp2
     go_ret
     refine ⟨b, n3', rfl, FW.after bA HF4.out, fun hb => ?_⟩
     obtain ⟨q0, q1, us, hus, hrow, hts⟩ := HQ4.out
     obtain ⟨q2, q3, us', hus', hrow', hts'⟩ := HQ5.out hb
     obtain ⟨p, q, rfl⟩ : ∃ p q, us = [p, q] := by match us, hus with | [p, q], _ => exact ⟨p, q, rfl⟩
     rw [← hus'] at hrow'
     simp only [sizes, List.length_cons, List.length_nil] at hts
     refine ⟨by omega, by omega, _, .dictOf _ p q us' rfl (by omega) (RowOf.append (ts := [p, q]) hrow (by simp; omega) (by omega) HCap.out hrow' (fun _ => rfl) (fun i cs t hi ⟨k, hk, ha⟩ => ⟨k, hk, fun _ => ha, fun h => absurd hi (by simp; omega), fun h => absurd hi (by simp; omega)⟩) fun i cs t ⟨k, hk, ha, h21⟩ => ⟨k, hk, fun h => absurd h (by simp), fun _ => ha, fun h => h21 (by simpa using h)⟩), by simp only [Tr.size, sizes, List.append_nil]; omega⟩
   ·go_wp2
    go_ret
    exact fit_no rfl (FW.after bA HF2.out)
end Go.Proofs.YtabeokminikfdaaGreat
