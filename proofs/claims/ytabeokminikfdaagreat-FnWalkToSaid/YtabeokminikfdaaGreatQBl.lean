import Derived.Test.YtabeokminikfdaaGreatQBj
import Derived.Test.YtabeokminikfdaaGreatQA1
set_option linter.all false
set_option maxRecDepth 100000
set_option maxHeartbeats 8000000
namespace Go.Proofs.YtabeokminikfdaaGreat
open Go.RowKit
theorem f24_7 (W : World) (X : EV → Tr → Prop) (Y : EV → Prop) (hF : FitE W X Y) (hY : YS W Y) (xo : Int) (xt : ByteArray) (vk : Int) (vn : Bool) (vb : Nat) (vt : ByteArray) (a1 a2 a3 a4 : Option Addr) (n1 n2 n3 n4 m1 m2 m3 m4 : Nat) (gf : Nat) (n deep : Int) (w : World)
  (hK : SlAt W 11 (.slice a3 n3 m3) n3 fun _ cs => ∃ k : EV, cs = k.cells ∧ Y k) (hPs : SlAt W 3 (.slice a4 n4 m4) n4 fun _ cs => ∃ p : PV, cs = p.cells ∧ p.name.size ≤ maxLen ∧ ∃ m, SlAt W 11 p.dflt m fun _ cs' => ∃ k : EV, cs' = k.cells ∧ Y k) (ht : xt.size ≤ maxLen) (hB : Bytes W (.slice a1 n1 m1) n1) (hp : FitPre W gf n w) (h0 : 0 ≤ deep) (h1 : deep ≤ 1000) :
  Calls Tryz.prog 24 #[.pointer (some ⟨gf, 0, none⟩), (EV.mk 7 xo xt vk vn (.slice a1 n1 m1) vb vt (.slice a2 n2 m2) (.slice a3 n3 m3) (.slice a4 n4 m4)).val, .int .i64 deep] w (FitPost gf n (fun m => ∃ t, ShE W X (EV.mk 7 xo xt vk vn (.slice a1 n1 m1) vb vt (.slice a2 n2 m2) (.slice a3 n3 m3) (.slice a4 n4 m4)) t ∧ (t.size : Int) + 1 ≤ 3 * m) w) := by
 have hlen : n3 ≤ 9223372036854775807 := by
  obtain ⟨_, _, hv, h2, h3, _⟩ := hK
  cases hv
  unfold maxLen at h3
  omega
 have hne : ¬ w.heap.size = gf := by have := hp.left.lt; omega
 have HF := Lib.hid hF
 have HY := Lib.hid hY
 have HK := Lib.hid hK
 have HPs := Lib.hid hPs
 have HT := Lib.hid ht
 have HBy := Lib.hid hB
 have HP := Lib.hid hp
 have hn0 := hp.n0
 have hn300 := hp.n1
 have HB0 := Lib.hid hp.bel
 clear hF hY hK hPs ht hB hp
 unfold EV.val EV.cells
 go_enter Tryz.func24, Tryz.ntmps24
 go_wp2_with fail
 refine (f27_7 _).mono ?_
 rintro e w' ⟨rfl, rfl⟩
 go_wp2_with fail
 refine (f12_fw W gf n deep _ (HP.out.after bA)).mono ?_
 rintro e w1 ⟨b, rfl, F1, hq⟩
 have b0 : w1.cell? ⟨w.heap.size, 0, none⟩ = some (.int .i64 7) := F1.box hne 0 _ rfl
 have b1 : w1.cell? ⟨w.heap.size, 1, none⟩ = some (.int .i64 xo) := F1.box hne 1 _ rfl
 have b2 : w1.cell? ⟨w.heap.size, 2, none⟩ = some (.string xt) := F1.box hne 2 _ rfl
 have b3 : w1.cell? ⟨w.heap.size, 3, none⟩ = some (.int .i64 vk) := F1.box hne 3 _ rfl
 have b4 : w1.cell? ⟨w.heap.size, 4, none⟩ = some (.bool vn) := F1.box hne 4 _ rfl
 have b5 : w1.cell? ⟨w.heap.size, 5, none⟩ = some (.slice a1 n1 m1) := F1.box hne 5 _ rfl
 have b6 : w1.cell? ⟨w.heap.size, 6, none⟩ = some (.int .u64 vb) := F1.box hne 6 _ rfl
 have b7 : w1.cell? ⟨w.heap.size, 7, none⟩ = some (.string vt) := F1.box hne 7 _ rfl
 have b8 : w1.cell? ⟨w.heap.size, 8, none⟩ = some (.slice a2 n2 m2) := F1.box hne 8 _ rfl
 have b9 : w1.cell? ⟨w.heap.size, 9, none⟩ = some (.slice a3 n3 m3) := F1.box hne 9 _ rfl
 have b10 : w1.cell? ⟨w.heap.size, 10, none⟩ = some (.slice a4 n4 m4) := F1.box hne 10 _ rfl
 have HF1 : Hid (FW gf (n - 1) (w.alloc (.cells #[.int .i64 7, .int .i64 xo, .string xt, .int .i64 vk, .bool vn, .slice a1 n1 m1, .int .u64 vb, .string vt, .slice a2 n2 m2, .slice a3 n3 m3, .slice a4 n4 m4] 164)) w1) := Lib.hid F1
 have HQ := Lib.hid hq
 have HB1 := Lib.hid (F1.below (HP.out.after bA).bel HP.out.low)
 clear F1 hq
 cases b
 ·go_wp2
  go_ret
  exact fit_no rfl (FW.after bA HF1.out)
 ·obtain ⟨hn', hdeep⟩ := HQ.out rfl
  clear HQ
  have HP1 := Lib.hid (HP.out.next' HF1.out HB1.out (by omega) (by omega))
  go_wp2_with fail
  refine (f28_any ⟨7, xo, xt, vk, vn, _, vb, vt, _, _, _⟩ ⟨⟨_, _, _, rfl⟩, ⟨_, _, _, rfl⟩, ⟨_, _, _, rfl⟩, ⟨_, _, _, rfl⟩⟩ _).mono ?_
  rintro e w2 ⟨b, rfl, hb2⟩
  clear b0 b1 b2 b3 b4 b5 b6 b7 b8 b9 b10
  have F2 := HF1.out.trans (FW.of_below HF1.out.left hb2)
  have b0 : w2.cell? ⟨w.heap.size, 0, none⟩ = some (.int .i64 7) := F2.box hne 0 _ rfl
  have b1 : w2.cell? ⟨w.heap.size, 1, none⟩ = some (.int .i64 xo) := F2.box hne 1 _ rfl
  have b2 : w2.cell? ⟨w.heap.size, 2, none⟩ = some (.string xt) := F2.box hne 2 _ rfl
  have b3 : w2.cell? ⟨w.heap.size, 3, none⟩ = some (.int .i64 vk) := F2.box hne 3 _ rfl
  have b4 : w2.cell? ⟨w.heap.size, 4, none⟩ = some (.bool vn) := F2.box hne 4 _ rfl
  have b5 : w2.cell? ⟨w.heap.size, 5, none⟩ = some (.slice a1 n1 m1) := F2.box hne 5 _ rfl
  have b6 : w2.cell? ⟨w.heap.size, 6, none⟩ = some (.int .u64 vb) := F2.box hne 6 _ rfl
  have b7 : w2.cell? ⟨w.heap.size, 7, none⟩ = some (.string vt) := F2.box hne 7 _ rfl
  have b8 : w2.cell? ⟨w.heap.size, 8, none⟩ = some (.slice a2 n2 m2) := F2.box hne 8 _ rfl
  have b9 : w2.cell? ⟨w.heap.size, 9, none⟩ = some (.slice a3 n3 m3) := F2.box hne 9 _ rfl
  have b10 : w2.cell? ⟨w.heap.size, 10, none⟩ = some (.slice a4 n4 m4) := F2.box hne 10 _ rfl
  have HF2 : Hid (FW gf (n - 1) (w.alloc (.cells #[.int .i64 7, .int .i64 xo, .string xt, .int .i64 vk, .bool vn, .slice a1 n1 m1, .int .u64 vb, .string vt, .slice a2 n2 m2, .slice a3 n3 m3, .slice a4 n4 m4] 164)) w2) := Lib.hid F2
  have HB2 := Lib.hid (F2.below (HP.out.after bA).bel HP.out.low)
  have HP2 := Lib.hid (HP.out.next' HF2.out HB2.out (by omega) (by omega))
  clear hb2 F2 HF1 HB1 HP1
  cases b
  ·go_wp2
   go_ret
   exact fit_no rfl (FW.after bA HF2.out)
  ·by_cases hn3 : n3 = 2
   ·obtain rfl : 2 = n3 := hn3.symm
    clear hn3
    by_cases ho1 : 0 ≤ xo
    ·by_cases ho2 : xo ≤ 18
     ·go_wp2_with fail
      refine (f18_any W X Y HF.out HY.out.sh _ 2 gf (n - 1) (deep + 1) w2 HK.out HP2.out (by omega) (by omega)).mono ?_
      rintro e w3 ⟨b, n2, rfl, F3, hq3⟩
      have HF3 := Lib.hid (HF2.out.trans F3)
      have HQ3 := Lib.hid hq3
      clear F3 hq3
      go_wp2
      go_ret
      refine ⟨b, n2, rfl, FW.after bA HF3.out, fun hb => ?_⟩
      obtain ⟨q0, q1, us, hus, hrow, hts⟩ := HQ3.out hb
      exact ⟨by omega, by omega, .mk none us, .plain _ us (Or.inr (Or.inr (Or.inr (Or.inl (⟨rfl, ho1, ho2, hus⟩))))) hrow, by simp only [Tr.size]; omega⟩
     ·go_wp2
      go_ret
      exact fit_no rfl (FW.after bA HF2.out)
    ·go_wp2
     go_ret
     exact fit_no rfl (FW.after bA HF2.out)
   ·go_wp2
    go_ret
    exact fit_no rfl (FW.after bA HF2.out)
theorem f24_8 (W : World) (X : EV → Tr → Prop) (Y : EV → Prop) (hF : FitE W X Y) (hY : YS W Y) (xo : Int) (xt : ByteArray) (vk : Int) (vn : Bool) (vb : Nat) (vt : ByteArray) (a1 a2 a3 a4 : Option Addr) (n1 n2 n3 n4 m1 m2 m3 m4 : Nat) (gf : Nat) (n deep : Int) (w : World)
  (hK : SlAt W 11 (.slice a3 n3 m3) n3 fun _ cs => ∃ k : EV, cs = k.cells ∧ Y k) (hPs : SlAt W 3 (.slice a4 n4 m4) n4 fun _ cs => ∃ p : PV, cs = p.cells ∧ p.name.size ≤ maxLen ∧ ∃ m, SlAt W 11 p.dflt m fun _ cs' => ∃ k : EV, cs' = k.cells ∧ Y k) (ht : xt.size ≤ maxLen) (hB : Bytes W (.slice a1 n1 m1) n1) (hp : FitPre W gf n w) (h0 : 0 ≤ deep) (h1 : deep ≤ 1000) :
  Calls Tryz.prog 24 #[.pointer (some ⟨gf, 0, none⟩), (EV.mk 8 xo xt vk vn (.slice a1 n1 m1) vb vt (.slice a2 n2 m2) (.slice a3 n3 m3) (.slice a4 n4 m4)).val, .int .i64 deep] w (FitPost gf n (fun m => ∃ t, ShE W X (EV.mk 8 xo xt vk vn (.slice a1 n1 m1) vb vt (.slice a2 n2 m2) (.slice a3 n3 m3) (.slice a4 n4 m4)) t ∧ (t.size : Int) + 1 ≤ 3 * m) w) := by
 have hlen : n3 ≤ 9223372036854775807 := by
  obtain ⟨_, _, hv, h2, h3, _⟩ := hK
  cases hv
  unfold maxLen at h3
  omega
 have hne : ¬ w.heap.size = gf := by have := hp.left.lt; omega
 have HF := Lib.hid hF
 have HY := Lib.hid hY
 have HK := Lib.hid hK
 have HPs := Lib.hid hPs
 have HT := Lib.hid ht
 have HBy := Lib.hid hB
 have HP := Lib.hid hp
 have hn0 := hp.n0
 have hn300 := hp.n1
 have HB0 := Lib.hid hp.bel
 clear hF hY hK hPs ht hB hp
 unfold EV.val EV.cells
 go_enter Tryz.func24, Tryz.ntmps24
 go_wp2_with fail
 refine (f27_8 _).mono ?_
 rintro e w' ⟨rfl, rfl⟩
 go_wp2_with fail
 refine (f12_fw W gf n deep _ (HP.out.after bA)).mono ?_
 rintro e w1 ⟨b, rfl, F1, hq⟩
 have b0 : w1.cell? ⟨w.heap.size, 0, none⟩ = some (.int .i64 8) := F1.box hne 0 _ rfl
 have b1 : w1.cell? ⟨w.heap.size, 1, none⟩ = some (.int .i64 xo) := F1.box hne 1 _ rfl
 have b2 : w1.cell? ⟨w.heap.size, 2, none⟩ = some (.string xt) := F1.box hne 2 _ rfl
 have b3 : w1.cell? ⟨w.heap.size, 3, none⟩ = some (.int .i64 vk) := F1.box hne 3 _ rfl
 have b4 : w1.cell? ⟨w.heap.size, 4, none⟩ = some (.bool vn) := F1.box hne 4 _ rfl
 have b5 : w1.cell? ⟨w.heap.size, 5, none⟩ = some (.slice a1 n1 m1) := F1.box hne 5 _ rfl
 have b6 : w1.cell? ⟨w.heap.size, 6, none⟩ = some (.int .u64 vb) := F1.box hne 6 _ rfl
 have b7 : w1.cell? ⟨w.heap.size, 7, none⟩ = some (.string vt) := F1.box hne 7 _ rfl
 have b8 : w1.cell? ⟨w.heap.size, 8, none⟩ = some (.slice a2 n2 m2) := F1.box hne 8 _ rfl
 have b9 : w1.cell? ⟨w.heap.size, 9, none⟩ = some (.slice a3 n3 m3) := F1.box hne 9 _ rfl
 have b10 : w1.cell? ⟨w.heap.size, 10, none⟩ = some (.slice a4 n4 m4) := F1.box hne 10 _ rfl
 have HF1 : Hid (FW gf (n - 1) (w.alloc (.cells #[.int .i64 8, .int .i64 xo, .string xt, .int .i64 vk, .bool vn, .slice a1 n1 m1, .int .u64 vb, .string vt, .slice a2 n2 m2, .slice a3 n3 m3, .slice a4 n4 m4] 164)) w1) := Lib.hid F1
 have HQ := Lib.hid hq
 have HB1 := Lib.hid (F1.below (HP.out.after bA).bel HP.out.low)
 clear F1 hq
 cases b
 ·go_wp2
  go_ret
  exact fit_no rfl (FW.after bA HF1.out)
 ·obtain ⟨hn', hdeep⟩ := HQ.out rfl
  clear HQ
  have HP1 := Lib.hid (HP.out.next' HF1.out HB1.out (by omega) (by omega))
  go_wp2_with fail
  refine (f28_any ⟨8, xo, xt, vk, vn, _, vb, vt, _, _, _⟩ ⟨⟨_, _, _, rfl⟩, ⟨_, _, _, rfl⟩, ⟨_, _, _, rfl⟩, ⟨_, _, _, rfl⟩⟩ _).mono ?_
  rintro e w2 ⟨b, rfl, hb2⟩
  clear b0 b1 b2 b3 b4 b5 b6 b7 b8 b9 b10
  have F2 := HF1.out.trans (FW.of_below HF1.out.left hb2)
  have b0 : w2.cell? ⟨w.heap.size, 0, none⟩ = some (.int .i64 8) := F2.box hne 0 _ rfl
  have b1 : w2.cell? ⟨w.heap.size, 1, none⟩ = some (.int .i64 xo) := F2.box hne 1 _ rfl
  have b2 : w2.cell? ⟨w.heap.size, 2, none⟩ = some (.string xt) := F2.box hne 2 _ rfl
  have b3 : w2.cell? ⟨w.heap.size, 3, none⟩ = some (.int .i64 vk) := F2.box hne 3 _ rfl
  have b4 : w2.cell? ⟨w.heap.size, 4, none⟩ = some (.bool vn) := F2.box hne 4 _ rfl
  have b5 : w2.cell? ⟨w.heap.size, 5, none⟩ = some (.slice a1 n1 m1) := F2.box hne 5 _ rfl
  have b6 : w2.cell? ⟨w.heap.size, 6, none⟩ = some (.int .u64 vb) := F2.box hne 6 _ rfl
  have b7 : w2.cell? ⟨w.heap.size, 7, none⟩ = some (.string vt) := F2.box hne 7 _ rfl
  have b8 : w2.cell? ⟨w.heap.size, 8, none⟩ = some (.slice a2 n2 m2) := F2.box hne 8 _ rfl
  have b9 : w2.cell? ⟨w.heap.size, 9, none⟩ = some (.slice a3 n3 m3) := F2.box hne 9 _ rfl
  have b10 : w2.cell? ⟨w.heap.size, 10, none⟩ = some (.slice a4 n4 m4) := F2.box hne 10 _ rfl
  have HF2 : Hid (FW gf (n - 1) (w.alloc (.cells #[.int .i64 8, .int .i64 xo, .string xt, .int .i64 vk, .bool vn, .slice a1 n1 m1, .int .u64 vb, .string vt, .slice a2 n2 m2, .slice a3 n3 m3, .slice a4 n4 m4] 164)) w2) := Lib.hid F2
  have HB2 := Lib.hid (F2.below (HP.out.after bA).bel HP.out.low)
  have HP2 := Lib.hid (HP.out.next' HF2.out HB2.out (by omega) (by omega))
  clear hb2 F2 HF1 HB1 HP1
  cases b
  ·go_wp2
   go_ret
   exact fit_no rfl (FW.after bA HF2.out)
  ·by_cases hn3 : n3 = 2
   ·obtain rfl : 2 = n3 := hn3.symm
    clear hn3
    go_wp2_with fail
    refine (f18_any W X Y HF.out HY.out.sh _ 2 gf (n - 1) (deep + 1) w2 HK.out HP2.out (by omega) (by omega)).mono ?_
    rintro e w3 ⟨b, n2, rfl, F3, hq3⟩
    have HF3 := Lib.hid (HF2.out.trans F3)
    have HQ3 := Lib.hid hq3
    clear F3 hq3
    go_wp2
    go_ret
    refine ⟨b, n2, rfl, FW.after bA HF3.out, fun hb => ?_⟩
    obtain ⟨q0, q1, us, hus, hrow, hts⟩ := HQ3.out hb
    exact ⟨by omega, by omega, .mk none us, .plain _ us (Or.inr (Or.inr (Or.inr (Or.inr (Or.inl (⟨rfl, hus⟩)))))) hrow, by simp only [Tr.size]; omega⟩
   ·go_wp2
    go_ret
    exact fit_no rfl (FW.after bA HF2.out)
theorem f24_9 (W : World) (X : EV → Tr → Prop) (Y : EV → Prop) (hF : FitE W X Y) (hY : YS W Y) (xo : Int) (xt : ByteArray) (vk : Int) (vn : Bool) (vb : Nat) (vt : ByteArray) (a1 a2 a3 a4 : Option Addr) (n1 n2 n3 n4 m1 m2 m3 m4 : Nat) (gf : Nat) (n deep : Int) (w : World)
  (hK : SlAt W 11 (.slice a3 n3 m3) n3 fun _ cs => ∃ k : EV, cs = k.cells ∧ Y k) (hPs : SlAt W 3 (.slice a4 n4 m4) n4 fun _ cs => ∃ p : PV, cs = p.cells ∧ p.name.size ≤ maxLen ∧ ∃ m, SlAt W 11 p.dflt m fun _ cs' => ∃ k : EV, cs' = k.cells ∧ Y k) (ht : xt.size ≤ maxLen) (hB : Bytes W (.slice a1 n1 m1) n1) (hp : FitPre W gf n w) (h0 : 0 ≤ deep) (h1 : deep ≤ 1000) :
  Calls Tryz.prog 24 #[.pointer (some ⟨gf, 0, none⟩), (EV.mk 9 xo xt vk vn (.slice a1 n1 m1) vb vt (.slice a2 n2 m2) (.slice a3 n3 m3) (.slice a4 n4 m4)).val, .int .i64 deep] w (FitPost gf n (fun m => ∃ t, ShE W X (EV.mk 9 xo xt vk vn (.slice a1 n1 m1) vb vt (.slice a2 n2 m2) (.slice a3 n3 m3) (.slice a4 n4 m4)) t ∧ (t.size : Int) + 1 ≤ 3 * m) w) := by
 have hlen : n3 ≤ 9223372036854775807 := by
  obtain ⟨_, _, hv, h2, h3, _⟩ := hK
  cases hv
  unfold maxLen at h3
  omega
 have hne : ¬ w.heap.size = gf := by have := hp.left.lt; omega
 have HF := Lib.hid hF
 have HY := Lib.hid hY
 have HK := Lib.hid hK
 have HPs := Lib.hid hPs
 have HT := Lib.hid ht
 have HBy := Lib.hid hB
 have HP := Lib.hid hp
 have hn0 := hp.n0
 have hn300 := hp.n1
 have HB0 := Lib.hid hp.bel
 clear hF hY hK hPs ht hB hp
 unfold EV.val EV.cells
 go_enter Tryz.func24, Tryz.ntmps24
 go_wp2_with fail
 refine (f27_9 _).mono ?_
 rintro e w' ⟨rfl, rfl⟩
 go_wp2_with fail
 refine (f12_fw W gf n deep _ (HP.out.after bA)).mono ?_
 rintro e w1 ⟨b, rfl, F1, hq⟩
 have b0 : w1.cell? ⟨w.heap.size, 0, none⟩ = some (.int .i64 9) := F1.box hne 0 _ rfl
 have b1 : w1.cell? ⟨w.heap.size, 1, none⟩ = some (.int .i64 xo) := F1.box hne 1 _ rfl
 have b2 : w1.cell? ⟨w.heap.size, 2, none⟩ = some (.string xt) := F1.box hne 2 _ rfl
 have b3 : w1.cell? ⟨w.heap.size, 3, none⟩ = some (.int .i64 vk) := F1.box hne 3 _ rfl
 have b4 : w1.cell? ⟨w.heap.size, 4, none⟩ = some (.bool vn) := F1.box hne 4 _ rfl
 have b5 : w1.cell? ⟨w.heap.size, 5, none⟩ = some (.slice a1 n1 m1) := F1.box hne 5 _ rfl
 have b6 : w1.cell? ⟨w.heap.size, 6, none⟩ = some (.int .u64 vb) := F1.box hne 6 _ rfl
 have b7 : w1.cell? ⟨w.heap.size, 7, none⟩ = some (.string vt) := F1.box hne 7 _ rfl
 have b8 : w1.cell? ⟨w.heap.size, 8, none⟩ = some (.slice a2 n2 m2) := F1.box hne 8 _ rfl
 have b9 : w1.cell? ⟨w.heap.size, 9, none⟩ = some (.slice a3 n3 m3) := F1.box hne 9 _ rfl
 have b10 : w1.cell? ⟨w.heap.size, 10, none⟩ = some (.slice a4 n4 m4) := F1.box hne 10 _ rfl
 have HF1 : Hid (FW gf (n - 1) (w.alloc (.cells #[.int .i64 9, .int .i64 xo, .string xt, .int .i64 vk, .bool vn, .slice a1 n1 m1, .int .u64 vb, .string vt, .slice a2 n2 m2, .slice a3 n3 m3, .slice a4 n4 m4] 164)) w1) := Lib.hid F1
 have HQ := Lib.hid hq
 have HB1 := Lib.hid (F1.below (HP.out.after bA).bel HP.out.low)
 clear F1 hq
 cases b
 ·go_wp2
  go_ret
  exact fit_no rfl (FW.after bA HF1.out)
 ·obtain ⟨hn', hdeep⟩ := HQ.out rfl
  clear HQ
  have HP1 := Lib.hid (HP.out.next' HF1.out HB1.out (by omega) (by omega))
  go_wp2_with fail
  refine (f28_any ⟨9, xo, xt, vk, vn, _, vb, vt, _, _, _⟩ ⟨⟨_, _, _, rfl⟩, ⟨_, _, _, rfl⟩, ⟨_, _, _, rfl⟩, ⟨_, _, _, rfl⟩⟩ _).mono ?_
  rintro e w2 ⟨b, rfl, hb2⟩
  clear b0 b1 b2 b3 b4 b5 b6 b7 b8 b9 b10
  have F2 := HF1.out.trans (FW.of_below HF1.out.left hb2)
  have b0 : w2.cell? ⟨w.heap.size, 0, none⟩ = some (.int .i64 9) := F2.box hne 0 _ rfl
  have b1 : w2.cell? ⟨w.heap.size, 1, none⟩ = some (.int .i64 xo) := F2.box hne 1 _ rfl
  have b2 : w2.cell? ⟨w.heap.size, 2, none⟩ = some (.string xt) := F2.box hne 2 _ rfl
  have b3 : w2.cell? ⟨w.heap.size, 3, none⟩ = some (.int .i64 vk) := F2.box hne 3 _ rfl
  have b4 : w2.cell? ⟨w.heap.size, 4, none⟩ = some (.bool vn) := F2.box hne 4 _ rfl
  have b5 : w2.cell? ⟨w.heap.size, 5, none⟩ = some (.slice a1 n1 m1) := F2.box hne 5 _ rfl
  have b6 : w2.cell? ⟨w.heap.size, 6, none⟩ = some (.int .u64 vb) := F2.box hne 6 _ rfl
  have b7 : w2.cell? ⟨w.heap.size, 7, none⟩ = some (.string vt) := F2.box hne 7 _ rfl
  have b8 : w2.cell? ⟨w.heap.size, 8, none⟩ = some (.slice a2 n2 m2) := F2.box hne 8 _ rfl
  have b9 : w2.cell? ⟨w.heap.size, 9, none⟩ = some (.slice a3 n3 m3) := F2.box hne 9 _ rfl
  have b10 : w2.cell? ⟨w.heap.size, 10, none⟩ = some (.slice a4 n4 m4) := F2.box hne 10 _ rfl
  have HF2 : Hid (FW gf (n - 1) (w.alloc (.cells #[.int .i64 9, .int .i64 xo, .string xt, .int .i64 vk, .bool vn, .slice a1 n1 m1, .int .u64 vb, .string vt, .slice a2 n2 m2, .slice a3 n3 m3, .slice a4 n4 m4] 164)) w2) := Lib.hid F2
  have HB2 := Lib.hid (F2.below (HP.out.after bA).bel HP.out.low)
  have HP2 := Lib.hid (HP.out.next' HF2.out HB2.out (by omega) (by omega))
  clear hb2 F2 HF1 HB1 HP1
  cases b
  ·go_wp2
   go_ret
   exact fit_no rfl (FW.after bA HF2.out)
  ·by_cases hn3 : n3 = 2
   ·obtain rfl : 2 = n3 := hn3.symm
    clear hn3
    go_wp2_with fail
    refine (f18_any W X Y HF.out HY.out.sh _ 2 gf (n - 1) (deep + 1) w2 HK.out HP2.out (by omega) (by omega)).mono ?_
    rintro e w3 ⟨b, n2, rfl, F3, hq3⟩
    have HF3 := Lib.hid (HF2.out.trans F3)
    have HQ3 := Lib.hid hq3
    clear F3 hq3
    go_wp2
    go_ret
    refine ⟨b, n2, rfl, FW.after bA HF3.out, fun hb => ?_⟩
    obtain ⟨q0, q1, us, hus, hrow, hts⟩ := HQ3.out hb
    exact ⟨by omega, by omega, .mk none us, .plain _ us (Or.inr (Or.inr (Or.inr (Or.inr (Or.inr (Or.inl (⟨rfl, hus⟩))))))) hrow, by simp only [Tr.size]; omega⟩
   ·go_wp2
    go_ret
    exact fit_no rfl (FW.after bA HF2.out)
theorem f24_10 (W : World) (X : EV → Tr → Prop) (Y : EV → Prop) (hF : FitE W X Y) (hY : YS W Y) (xo : Int) (xt : ByteArray) (vk : Int) (vn : Bool) (vb : Nat) (vt : ByteArray) (a1 a2 a3 a4 : Option Addr) (n1 n2 n3 n4 m1 m2 m3 m4 : Nat) (gf : Nat) (n deep : Int) (w : World)
  (hK : SlAt W 11 (.slice a3 n3 m3) n3 fun _ cs => ∃ k : EV, cs = k.cells ∧ Y k) (hPs : SlAt W 3 (.slice a4 n4 m4) n4 fun _ cs => ∃ p : PV, cs = p.cells ∧ p.name.size ≤ maxLen ∧ ∃ m, SlAt W 11 p.dflt m fun _ cs' => ∃ k : EV, cs' = k.cells ∧ Y k) (ht : xt.size ≤ maxLen) (hB : Bytes W (.slice a1 n1 m1) n1) (hp : FitPre W gf n w) (h0 : 0 ≤ deep) (h1 : deep ≤ 1000) :
  Calls Tryz.prog 24 #[.pointer (some ⟨gf, 0, none⟩), (EV.mk 10 xo xt vk vn (.slice a1 n1 m1) vb vt (.slice a2 n2 m2) (.slice a3 n3 m3) (.slice a4 n4 m4)).val, .int .i64 deep] w (FitPost gf n (fun m => ∃ t, ShE W X (EV.mk 10 xo xt vk vn (.slice a1 n1 m1) vb vt (.slice a2 n2 m2) (.slice a3 n3 m3) (.slice a4 n4 m4)) t ∧ (t.size : Int) + 1 ≤ 3 * m) w) := by
 have hlen : n3 ≤ 9223372036854775807 := by
  obtain ⟨_, _, hv, h2, h3, _⟩ := hK
  cases hv
  unfold maxLen at h3
  omega
 have hne : ¬ w.heap.size = gf := by have := hp.left.lt; omega
 have HF := Lib.hid hF
 have HY := Lib.hid hY
 have HK := Lib.hid hK
 have HPs := Lib.hid hPs
 have HT := Lib.hid ht
 have HBy := Lib.hid hB
 have HP := Lib.hid hp
 have hn0 := hp.n0
 have hn300 := hp.n1
 have HB0 := Lib.hid hp.bel
 clear hF hY hK hPs ht hB hp
 unfold EV.val EV.cells
 go_enter Tryz.func24, Tryz.ntmps24
 go_wp2_with fail
 refine (f27_10 _).mono ?_
 rintro e w' ⟨rfl, rfl⟩
 go_wp2_with fail
 refine (f12_fw W gf n deep _ (HP.out.after bA)).mono ?_
 rintro e w1 ⟨b, rfl, F1, hq⟩
 have b0 : w1.cell? ⟨w.heap.size, 0, none⟩ = some (.int .i64 10) := F1.box hne 0 _ rfl
 have b1 : w1.cell? ⟨w.heap.size, 1, none⟩ = some (.int .i64 xo) := F1.box hne 1 _ rfl
 have b2 : w1.cell? ⟨w.heap.size, 2, none⟩ = some (.string xt) := F1.box hne 2 _ rfl
 have b3 : w1.cell? ⟨w.heap.size, 3, none⟩ = some (.int .i64 vk) := F1.box hne 3 _ rfl
 have b4 : w1.cell? ⟨w.heap.size, 4, none⟩ = some (.bool vn) := F1.box hne 4 _ rfl
 have b5 : w1.cell? ⟨w.heap.size, 5, none⟩ = some (.slice a1 n1 m1) := F1.box hne 5 _ rfl
 have b6 : w1.cell? ⟨w.heap.size, 6, none⟩ = some (.int .u64 vb) := F1.box hne 6 _ rfl
 have b7 : w1.cell? ⟨w.heap.size, 7, none⟩ = some (.string vt) := F1.box hne 7 _ rfl
 have b8 : w1.cell? ⟨w.heap.size, 8, none⟩ = some (.slice a2 n2 m2) := F1.box hne 8 _ rfl
 have b9 : w1.cell? ⟨w.heap.size, 9, none⟩ = some (.slice a3 n3 m3) := F1.box hne 9 _ rfl
 have b10 : w1.cell? ⟨w.heap.size, 10, none⟩ = some (.slice a4 n4 m4) := F1.box hne 10 _ rfl
 have HF1 : Hid (FW gf (n - 1) (w.alloc (.cells #[.int .i64 10, .int .i64 xo, .string xt, .int .i64 vk, .bool vn, .slice a1 n1 m1, .int .u64 vb, .string vt, .slice a2 n2 m2, .slice a3 n3 m3, .slice a4 n4 m4] 164)) w1) := Lib.hid F1
 have HQ := Lib.hid hq
 have HB1 := Lib.hid (F1.below (HP.out.after bA).bel HP.out.low)
 clear F1 hq
 cases b
 ·go_wp2
  go_ret
  exact fit_no rfl (FW.after bA HF1.out)
 ·obtain ⟨hn', hdeep⟩ := HQ.out rfl
  clear HQ
  have HP1 := Lib.hid (HP.out.next' HF1.out HB1.out (by omega) (by omega))
  go_wp2_with fail
  refine (f28_any ⟨10, xo, xt, vk, vn, _, vb, vt, _, _, _⟩ ⟨⟨_, _, _, rfl⟩, ⟨_, _, _, rfl⟩, ⟨_, _, _, rfl⟩, ⟨_, _, _, rfl⟩⟩ _).mono ?_
  rintro e w2 ⟨b, rfl, hb2⟩
  clear b0 b1 b2 b3 b4 b5 b6 b7 b8 b9 b10
  have F2 := HF1.out.trans (FW.of_below HF1.out.left hb2)
  have b0 : w2.cell? ⟨w.heap.size, 0, none⟩ = some (.int .i64 10) := F2.box hne 0 _ rfl
  have b1 : w2.cell? ⟨w.heap.size, 1, none⟩ = some (.int .i64 xo) := F2.box hne 1 _ rfl
  have b2 : w2.cell? ⟨w.heap.size, 2, none⟩ = some (.string xt) := F2.box hne 2 _ rfl
  have b3 : w2.cell? ⟨w.heap.size, 3, none⟩ = some (.int .i64 vk) := F2.box hne 3 _ rfl
  have b4 : w2.cell? ⟨w.heap.size, 4, none⟩ = some (.bool vn) := F2.box hne 4 _ rfl
  have b5 : w2.cell? ⟨w.heap.size, 5, none⟩ = some (.slice a1 n1 m1) := F2.box hne 5 _ rfl
  have b6 : w2.cell? ⟨w.heap.size, 6, none⟩ = some (.int .u64 vb) := F2.box hne 6 _ rfl
  have b7 : w2.cell? ⟨w.heap.size, 7, none⟩ = some (.string vt) := F2.box hne 7 _ rfl
  have b8 : w2.cell? ⟨w.heap.size, 8, none⟩ = some (.slice a2 n2 m2) := F2.box hne 8 _ rfl
  have b9 : w2.cell? ⟨w.heap.size, 9, none⟩ = some (.slice a3 n3 m3) := F2.box hne 9 _ rfl
  have b10 : w2.cell? ⟨w.heap.size, 10, none⟩ = some (.slice a4 n4 m4) := F2.box hne 10 _ rfl
  have HF2 : Hid (FW gf (n - 1) (w.alloc (.cells #[.int .i64 10, .int .i64 xo, .string xt, .int .i64 vk, .bool vn, .slice a1 n1 m1, .int .u64 vb, .string vt, .slice a2 n2 m2, .slice a3 n3 m3, .slice a4 n4 m4] 164)) w2) := Lib.hid F2
  have HB2 := Lib.hid (F2.below (HP.out.after bA).bel HP.out.low)
  have HP2 := Lib.hid (HP.out.next' HF2.out HB2.out (by omega) (by omega))
  clear hb2 F2 HF1 HB1 HP1
  cases b
  ·go_wp2
   go_ret
   exact fit_no rfl (FW.after bA HF2.out)
  ·by_cases hn3 : n3 = 3
   ·obtain rfl : 3 = n3 := hn3.symm
    clear hn3
    go_wp2_with fail
    refine (f18_any W X Y HF.out HY.out.sh _ 3 gf (n - 1) (deep + 1) w2 HK.out HP2.out (by omega) (by omega)).mono ?_
    rintro e w3 ⟨b, n2, rfl, F3, hq3⟩
    have HF3 := Lib.hid (HF2.out.trans F3)
    have HQ3 := Lib.hid hq3
    clear F3 hq3
    go_wp2
    go_ret
    refine ⟨b, n2, rfl, FW.after bA HF3.out, fun hb => ?_⟩
    obtain ⟨q0, q1, us, hus, hrow, hts⟩ := HQ3.out hb
    exact ⟨by omega, by omega, .mk none us, .plain _ us (Or.inr (Or.inr (Or.inr (Or.inr (Or.inr (Or.inr (Or.inl (⟨rfl, hus⟩)))))))) hrow, by simp only [Tr.size]; omega⟩
   ·go_wp2
    go_ret
    exact fit_no rfl (FW.after bA HF2.out)
theorem f24_11 (W : World) (X : EV → Tr → Prop) (Y : EV → Prop) (hF : FitE W X Y) (hY : YS W Y) (xo : Int) (xt : ByteArray) (vk : Int) (vn : Bool) (vb : Nat) (vt : ByteArray) (a1 a2 a3 a4 : Option Addr) (n1 n2 n3 n4 m1 m2 m3 m4 : Nat) (gf : Nat) (n deep : Int) (w : World)
  (hK : SlAt W 11 (.slice a3 n3 m3) n3 fun _ cs => ∃ k : EV, cs = k.cells ∧ Y k) (hPs : SlAt W 3 (.slice a4 n4 m4) n4 fun _ cs => ∃ p : PV, cs = p.cells ∧ p.name.size ≤ maxLen ∧ ∃ m, SlAt W 11 p.dflt m fun _ cs' => ∃ k : EV, cs' = k.cells ∧ Y k) (ht : xt.size ≤ maxLen) (hB : Bytes W (.slice a1 n1 m1) n1) (hp : FitPre W gf n w) (h0 : 0 ≤ deep) (h1 : deep ≤ 1000) :
  Calls Tryz.prog 24 #[.pointer (some ⟨gf, 0, none⟩), (EV.mk 11 xo xt vk vn (.slice a1 n1 m1) vb vt (.slice a2 n2 m2) (.slice a3 n3 m3) (.slice a4 n4 m4)).val, .int .i64 deep] w (FitPost gf n (fun m => ∃ t, ShE W X (EV.mk 11 xo xt vk vn (.slice a1 n1 m1) vb vt (.slice a2 n2 m2) (.slice a3 n3 m3) (.slice a4 n4 m4)) t ∧ (t.size : Int) + 1 ≤ 3 * m) w) := by
 have hlen : n3 ≤ 9223372036854775807 := by
  obtain ⟨_, _, hv, h2, h3, _⟩ := hK
  cases hv
  unfold maxLen at h3
  omega
 have hne : ¬ w.heap.size = gf := by have := hp.left.lt; omega
 have HF := Lib.hid hF
 have HY := Lib.hid hY
 have HK := Lib.hid hK
 have HPs := Lib.hid hPs
 have HT := Lib.hid ht
 have HBy := Lib.hid hB
 have HP := Lib.hid hp
 have hn0 := hp.n0
 have hn300 := hp.n1
 have HB0 := Lib.hid hp.bel
 clear hF hY hK hPs ht hB hp
 unfold EV.val EV.cells
 go_enter Tryz.func24, Tryz.ntmps24
 go_wp2_with fail
 refine (f27_11 _).mono ?_
 rintro e w' ⟨rfl, rfl⟩
 go_wp2_with fail
 refine (f12_fw W gf n deep _ (HP.out.after bA)).mono ?_
 rintro e w1 ⟨b, rfl, F1, hq⟩
 have b0 : w1.cell? ⟨w.heap.size, 0, none⟩ = some (.int .i64 11) := F1.box hne 0 _ rfl
 have b1 : w1.cell? ⟨w.heap.size, 1, none⟩ = some (.int .i64 xo) := F1.box hne 1 _ rfl
 have b2 : w1.cell? ⟨w.heap.size, 2, none⟩ = some (.string xt) := F1.box hne 2 _ rfl
 have b3 : w1.cell? ⟨w.heap.size, 3, none⟩ = some (.int .i64 vk) := F1.box hne 3 _ rfl
 have b4 : w1.cell? ⟨w.heap.size, 4, none⟩ = some (.bool vn) := F1.box hne 4 _ rfl
 have b5 : w1.cell? ⟨w.heap.size, 5, none⟩ = some (.slice a1 n1 m1) := F1.box hne 5 _ rfl
 have b6 : w1.cell? ⟨w.heap.size, 6, none⟩ = some (.int .u64 vb) := F1.box hne 6 _ rfl
 have b7 : w1.cell? ⟨w.heap.size, 7, none⟩ = some (.string vt) := F1.box hne 7 _ rfl
 have b8 : w1.cell? ⟨w.heap.size, 8, none⟩ = some (.slice a2 n2 m2) := F1.box hne 8 _ rfl
 have b9 : w1.cell? ⟨w.heap.size, 9, none⟩ = some (.slice a3 n3 m3) := F1.box hne 9 _ rfl
 have b10 : w1.cell? ⟨w.heap.size, 10, none⟩ = some (.slice a4 n4 m4) := F1.box hne 10 _ rfl
 have HF1 : Hid (FW gf (n - 1) (w.alloc (.cells #[.int .i64 11, .int .i64 xo, .string xt, .int .i64 vk, .bool vn, .slice a1 n1 m1, .int .u64 vb, .string vt, .slice a2 n2 m2, .slice a3 n3 m3, .slice a4 n4 m4] 164)) w1) := Lib.hid F1
 have HQ := Lib.hid hq
 have HB1 := Lib.hid (F1.below (HP.out.after bA).bel HP.out.low)
 clear F1 hq
 cases b
 ·go_wp2
  go_ret
  exact fit_no rfl (FW.after bA HF1.out)
 ·obtain ⟨hn', hdeep⟩ := HQ.out rfl
  clear HQ
  have HP1 := Lib.hid (HP.out.next' HF1.out HB1.out (by omega) (by omega))
  go_wp2_with fail
  refine (f28_any ⟨11, xo, xt, vk, vn, _, vb, vt, _, _, _⟩ ⟨⟨_, _, _, rfl⟩, ⟨_, _, _, rfl⟩, ⟨_, _, _, rfl⟩, ⟨_, _, _, rfl⟩⟩ _).mono ?_
  rintro e w2 ⟨b, rfl, hb2⟩
  clear b0 b1 b2 b3 b4 b5 b6 b7 b8 b9 b10
  have F2 := HF1.out.trans (FW.of_below HF1.out.left hb2)
  have b0 : w2.cell? ⟨w.heap.size, 0, none⟩ = some (.int .i64 11) := F2.box hne 0 _ rfl
  have b1 : w2.cell? ⟨w.heap.size, 1, none⟩ = some (.int .i64 xo) := F2.box hne 1 _ rfl
  have b2 : w2.cell? ⟨w.heap.size, 2, none⟩ = some (.string xt) := F2.box hne 2 _ rfl
  have b3 : w2.cell? ⟨w.heap.size, 3, none⟩ = some (.int .i64 vk) := F2.box hne 3 _ rfl
  have b4 : w2.cell? ⟨w.heap.size, 4, none⟩ = some (.bool vn) := F2.box hne 4 _ rfl
  have b5 : w2.cell? ⟨w.heap.size, 5, none⟩ = some (.slice a1 n1 m1) := F2.box hne 5 _ rfl
  have b6 : w2.cell? ⟨w.heap.size, 6, none⟩ = some (.int .u64 vb) := F2.box hne 6 _ rfl
  have b7 : w2.cell? ⟨w.heap.size, 7, none⟩ = some (.string vt) := F2.box hne 7 _ rfl
  have b8 : w2.cell? ⟨w.heap.size, 8, none⟩ = some (.slice a2 n2 m2) := F2.box hne 8 _ rfl
  have b9 : w2.cell? ⟨w.heap.size, 9, none⟩ = some (.slice a3 n3 m3) := F2.box hne 9 _ rfl
  have b10 : w2.cell? ⟨w.heap.size, 10, none⟩ = some (.slice a4 n4 m4) := F2.box hne 10 _ rfl
  have HF2 : Hid (FW gf (n - 1) (w.alloc (.cells #[.int .i64 11, .int .i64 xo, .string xt, .int .i64 vk, .bool vn, .slice a1 n1 m1, .int .u64 vb, .string vt, .slice a2 n2 m2, .slice a3 n3 m3, .slice a4 n4 m4] 164)) w2) := Lib.hid F2
  have HB2 := Lib.hid (F2.below (HP.out.after bA).bel HP.out.low)
  have HP2 := Lib.hid (HP.out.next' HF2.out HB2.out (by omega) (by omega))
  clear hb2 F2 HF1 HB1 HP1
  cases b
  ·go_wp2
   go_ret
   exact fit_no rfl (FW.after bA HF2.out)
  ·by_cases hn3 : n3 = 2
   ·obtain rfl : 2 = n3 := hn3.symm
    clear hn3
    go_wp2_with fail
    refine (f18_any W X Y HF.out HY.out.sh _ 2 gf (n - 1) (deep + 1) w2 HK.out HP2.out (by omega) (by omega)).mono ?_
    rintro e w3 ⟨b, n2, rfl, F3, hq3⟩
    have HF3 := Lib.hid (HF2.out.trans F3)
    have HQ3 := Lib.hid hq3
    clear F3 hq3
    go_wp2
    go_ret
    refine ⟨b, n2, rfl, FW.after bA HF3.out, fun hb => ?_⟩
    obtain ⟨q0, q1, us, hus, hrow, hts⟩ := HQ3.out hb
    exact ⟨by omega, by omega, .mk none us, .plain _ us (Or.inr (Or.inr (Or.inr (Or.inr (Or.inr (Or.inr (Or.inr (Or.inl (⟨rfl, hus⟩))))))))) hrow, by simp only [Tr.size]; omega⟩
   ·go_wp2
    go_ret
    exact fit_no rfl (FW.after bA HF2.out)
theorem f24_13 (W : World) (X : EV → Tr → Prop) (Y : EV → Prop) (hF : FitE W X Y) (hY : YS W Y) (xo : Int) (xt : ByteArray) (vk : Int) (vn : Bool) (vb : Nat) (vt : ByteArray) (a1 a2 a3 a4 : Option Addr) (n1 n2 n3 n4 m1 m2 m3 m4 : Nat) (gf : Nat) (n deep : Int) (w : World)
  (hK : SlAt W 11 (.slice a3 n3 m3) n3 fun _ cs => ∃ k : EV, cs = k.cells ∧ Y k) (hPs : SlAt W 3 (.slice a4 n4 m4) n4 fun _ cs => ∃ p : PV, cs = p.cells ∧ p.name.size ≤ maxLen ∧ ∃ m, SlAt W 11 p.dflt m fun _ cs' => ∃ k : EV, cs' = k.cells ∧ Y k) (ht : xt.size ≤ maxLen) (hB : Bytes W (.slice a1 n1 m1) n1) (hp : FitPre W gf n w) (h0 : 0 ≤ deep) (h1 : deep ≤ 1000) :
  Calls Tryz.prog 24 #[.pointer (some ⟨gf, 0, none⟩), (EV.mk 13 xo xt vk vn (.slice a1 n1 m1) vb vt (.slice a2 n2 m2) (.slice a3 n3 m3) (.slice a4 n4 m4)).val, .int .i64 deep] w (FitPost gf n (fun m => ∃ t, ShE W X (EV.mk 13 xo xt vk vn (.slice a1 n1 m1) vb vt (.slice a2 n2 m2) (.slice a3 n3 m3) (.slice a4 n4 m4)) t ∧ (t.size : Int) + 1 ≤ 3 * m) w) := by
 have hlen : n3 ≤ 9223372036854775807 := by
  obtain ⟨_, _, hv, h2, h3, _⟩ := hK
  cases hv
  unfold maxLen at h3
  omega
 have hne : ¬ w.heap.size = gf := by have := hp.left.lt; omega
 have HF := Lib.hid hF
 have HY := Lib.hid hY
 have HK := Lib.hid hK
 have HPs := Lib.hid hPs
 have HT := Lib.hid ht
 have HBy := Lib.hid hB
 have HP := Lib.hid hp
 have hn0 := hp.n0
 have hn300 := hp.n1
 have HB0 := Lib.hid hp.bel
 clear hF hY hK hPs ht hB hp
 unfold EV.val EV.cells
 go_enter Tryz.func24, Tryz.ntmps24
 go_wp2_with fail
 refine (f27_13 _).mono ?_
 rintro e w' ⟨rfl, rfl⟩
 go_wp2_with fail
 refine (f12_fw W gf n deep _ (HP.out.after bA)).mono ?_
 rintro e w1 ⟨b, rfl, F1, hq⟩
 have b0 : w1.cell? ⟨w.heap.size, 0, none⟩ = some (.int .i64 13) := F1.box hne 0 _ rfl
 have b1 : w1.cell? ⟨w.heap.size, 1, none⟩ = some (.int .i64 xo) := F1.box hne 1 _ rfl
 have b2 : w1.cell? ⟨w.heap.size, 2, none⟩ = some (.string xt) := F1.box hne 2 _ rfl
 have b3 : w1.cell? ⟨w.heap.size, 3, none⟩ = some (.int .i64 vk) := F1.box hne 3 _ rfl
 have b4 : w1.cell? ⟨w.heap.size, 4, none⟩ = some (.bool vn) := F1.box hne 4 _ rfl
 have b5 : w1.cell? ⟨w.heap.size, 5, none⟩ = some (.slice a1 n1 m1) := F1.box hne 5 _ rfl
 have b6 : w1.cell? ⟨w.heap.size, 6, none⟩ = some (.int .u64 vb) := F1.box hne 6 _ rfl
 have b7 : w1.cell? ⟨w.heap.size, 7, none⟩ = some (.string vt) := F1.box hne 7 _ rfl
 have b8 : w1.cell? ⟨w.heap.size, 8, none⟩ = some (.slice a2 n2 m2) := F1.box hne 8 _ rfl
 have b9 : w1.cell? ⟨w.heap.size, 9, none⟩ = some (.slice a3 n3 m3) := F1.box hne 9 _ rfl
 have b10 : w1.cell? ⟨w.heap.size, 10, none⟩ = some (.slice a4 n4 m4) := F1.box hne 10 _ rfl
 have HF1 : Hid (FW gf (n - 1) (w.alloc (.cells #[.int .i64 13, .int .i64 xo, .string xt, .int .i64 vk, .bool vn, .slice a1 n1 m1, .int .u64 vb, .string vt, .slice a2 n2 m2, .slice a3 n3 m3, .slice a4 n4 m4] 164)) w1) := Lib.hid F1
 have HQ := Lib.hid hq
 have HB1 := Lib.hid (F1.below (HP.out.after bA).bel HP.out.low)
 clear F1 hq
 cases b
 ·go_wp2
  go_ret
  exact fit_no rfl (FW.after bA HF1.out)
 ·obtain ⟨hn', hdeep⟩ := HQ.out rfl
  clear HQ
  have HP1 := Lib.hid (HP.out.next' HF1.out HB1.out (by omega) (by omega))
  go_wp2_with fail
  refine (f28_any ⟨13, xo, xt, vk, vn, _, vb, vt, _, _, _⟩ ⟨⟨_, _, _, rfl⟩, ⟨_, _, _, rfl⟩, ⟨_, _, _, rfl⟩, ⟨_, _, _, rfl⟩⟩ _).mono ?_
  rintro e w2 ⟨b, rfl, hb2⟩
  clear b0 b1 b2 b3 b4 b5 b6 b7 b8 b9 b10
  have F2 := HF1.out.trans (FW.of_below HF1.out.left hb2)
  have b0 : w2.cell? ⟨w.heap.size, 0, none⟩ = some (.int .i64 13) := F2.box hne 0 _ rfl
  have b1 : w2.cell? ⟨w.heap.size, 1, none⟩ = some (.int .i64 xo) := F2.box hne 1 _ rfl
  have b2 : w2.cell? ⟨w.heap.size, 2, none⟩ = some (.string xt) := F2.box hne 2 _ rfl
  have b3 : w2.cell? ⟨w.heap.size, 3, none⟩ = some (.int .i64 vk) := F2.box hne 3 _ rfl
  have b4 : w2.cell? ⟨w.heap.size, 4, none⟩ = some (.bool vn) := F2.box hne 4 _ rfl
  have b5 : w2.cell? ⟨w.heap.size, 5, none⟩ = some (.slice a1 n1 m1) := F2.box hne 5 _ rfl
  have b6 : w2.cell? ⟨w.heap.size, 6, none⟩ = some (.int .u64 vb) := F2.box hne 6 _ rfl
  have b7 : w2.cell? ⟨w.heap.size, 7, none⟩ = some (.string vt) := F2.box hne 7 _ rfl
  have b8 : w2.cell? ⟨w.heap.size, 8, none⟩ = some (.slice a2 n2 m2) := F2.box hne 8 _ rfl
  have b9 : w2.cell? ⟨w.heap.size, 9, none⟩ = some (.slice a3 n3 m3) := F2.box hne 9 _ rfl
  have b10 : w2.cell? ⟨w.heap.size, 10, none⟩ = some (.slice a4 n4 m4) := F2.box hne 10 _ rfl
  have HF2 : Hid (FW gf (n - 1) (w.alloc (.cells #[.int .i64 13, .int .i64 xo, .string xt, .int .i64 vk, .bool vn, .slice a1 n1 m1, .int .u64 vb, .string vt, .slice a2 n2 m2, .slice a3 n3 m3, .slice a4 n4 m4] 164)) w2) := Lib.hid F2
  have HB2 := Lib.hid (F2.below (HP.out.after bA).bel HP.out.low)
  have HP2 := Lib.hid (HP.out.next' HF2.out HB2.out (by omega) (by omega))
  clear hb2 F2 HF1 HB1 HP1
  cases b
  ·go_wp2
   go_ret
   exact fit_no rfl (FW.after bA HF2.out)
  ·by_cases hn3 : n3 = 1
   ·obtain rfl : 1 = n3 := hn3.symm
    clear hn3
    go_wp2_with fail
    refine (f19_any xt HT.out w2).mono ?_
    rintro e w' ⟨b, rfl, rfl⟩
    cases b
    ·go_wp2
     go_ret
     exact fit_no rfl (FW.after bA HF2.out)
    ·go_wp2_with fail
     refine (f18_any W X Y HF.out HY.out.sh _ 1 gf (n - 1) (deep + 1) w2 HK.out HP2.out (by omega) (by omega)).mono ?_
     rintro e w3 ⟨b, n2, rfl, F3, hq3⟩
     have HF3 := Lib.hid (HF2.out.trans F3)
     have HQ3 := Lib.hid hq3
     clear F3 hq3
     go_wp2
     go_ret
     refine ⟨b, n2, rfl, FW.after bA HF3.out, fun hb => ?_⟩
     obtain ⟨q0, q1, us, hus, hrow, hts⟩ := HQ3.out hb
     obtain ⟨p, rfl⟩ : ∃ p, us = [p] := by match us, hus with | [p], _ => exact ⟨p, rfl⟩
     simp only [sizes, List.length_cons, List.length_nil] at hts
     exact ⟨by omega, by omega, _, .dot _ p rfl hrow, by simp only [Tr.size, sizes, idt]; omega⟩
   ·go_wp2
    go_ret
    exact fit_no rfl (FW.after bA HF2.out)
theorem f24_23 (W : World) (X : EV → Tr → Prop) (Y : EV → Prop) (hF : FitE W X Y) (hY : YS W Y) (xo : Int) (xt : ByteArray) (vk : Int) (vn : Bool) (vb : Nat) (vt : ByteArray) (a1 a2 a3 a4 : Option Addr) (n1 n2 n3 n4 m1 m2 m3 m4 : Nat) (gf : Nat) (n deep : Int) (w : World)
  (hK : SlAt W 11 (.slice a3 n3 m3) n3 fun _ cs => ∃ k : EV, cs = k.cells ∧ Y k) (hPs : SlAt W 3 (.slice a4 n4 m4) n4 fun _ cs => ∃ p : PV, cs = p.cells ∧ p.name.size ≤ maxLen ∧ ∃ m, SlAt W 11 p.dflt m fun _ cs' => ∃ k : EV, cs' = k.cells ∧ Y k) (ht : xt.size ≤ maxLen) (hB : Bytes W (.slice a1 n1 m1) n1) (hp : FitPre W gf n w) (h0 : 0 ≤ deep) (h1 : deep ≤ 1000) :
  Calls Tryz.prog 24 #[.pointer (some ⟨gf, 0, none⟩), (EV.mk 23 xo xt vk vn (.slice a1 n1 m1) vb vt (.slice a2 n2 m2) (.slice a3 n3 m3) (.slice a4 n4 m4)).val, .int .i64 deep] w (FitPost gf n (fun m => ∃ t, ShE W X (EV.mk 23 xo xt vk vn (.slice a1 n1 m1) vb vt (.slice a2 n2 m2) (.slice a3 n3 m3) (.slice a4 n4 m4)) t ∧ (t.size : Int) + 1 ≤ 3 * m) w) := by
 have hlen : n3 ≤ 9223372036854775807 := by
  obtain ⟨_, _, hv, h2, h3, _⟩ := hK
  cases hv
  unfold maxLen at h3
  omega
 have hne : ¬ w.heap.size = gf := by have := hp.left.lt; omega
 have HF := Lib.hid hF
 have HY := Lib.hid hY
 have HK := Lib.hid hK
 have HPs := Lib.hid hPs
 have HT := Lib.hid ht
 have HBy := Lib.hid hB
 have HP := Lib.hid hp
 have hn0 := hp.n0
 have hn300 := hp.n1
 have HB0 := Lib.hid hp.bel
 clear hF hY hK hPs ht hB hp
 unfold EV.val EV.cells
 go_enter Tryz.func24, Tryz.ntmps24
 go_wp2_with fail
 refine (f27_23 _).mono ?_
 rintro e w' ⟨rfl, rfl⟩
 go_wp2_with fail
 refine (f12_fw W gf n deep _ (HP.out.after bA)).mono ?_
 rintro e w1 ⟨b, rfl, F1, hq⟩
 have b0 : w1.cell? ⟨w.heap.size, 0, none⟩ = some (.int .i64 23) := F1.box hne 0 _ rfl
 have b1 : w1.cell? ⟨w.heap.size, 1, none⟩ = some (.int .i64 xo) := F1.box hne 1 _ rfl
 have b2 : w1.cell? ⟨w.heap.size, 2, none⟩ = some (.string xt) := F1.box hne 2 _ rfl
 have b3 : w1.cell? ⟨w.heap.size, 3, none⟩ = some (.int .i64 vk) := F1.box hne 3 _ rfl
 have b4 : w1.cell? ⟨w.heap.size, 4, none⟩ = some (.bool vn) := F1.box hne 4 _ rfl
 have b5 : w1.cell? ⟨w.heap.size, 5, none⟩ = some (.slice a1 n1 m1) := F1.box hne 5 _ rfl
 have b6 : w1.cell? ⟨w.heap.size, 6, none⟩ = some (.int .u64 vb) := F1.box hne 6 _ rfl
 have b7 : w1.cell? ⟨w.heap.size, 7, none⟩ = some (.string vt) := F1.box hne 7 _ rfl
 have b8 : w1.cell? ⟨w.heap.size, 8, none⟩ = some (.slice a2 n2 m2) := F1.box hne 8 _ rfl
 have b9 : w1.cell? ⟨w.heap.size, 9, none⟩ = some (.slice a3 n3 m3) := F1.box hne 9 _ rfl
 have b10 : w1.cell? ⟨w.heap.size, 10, none⟩ = some (.slice a4 n4 m4) := F1.box hne 10 _ rfl
 have HF1 : Hid (FW gf (n - 1) (w.alloc (.cells #[.int .i64 23, .int .i64 xo, .string xt, .int .i64 vk, .bool vn, .slice a1 n1 m1, .int .u64 vb, .string vt, .slice a2 n2 m2, .slice a3 n3 m3, .slice a4 n4 m4] 164)) w1) := Lib.hid F1
 have HQ := Lib.hid hq
 have HB1 := Lib.hid (F1.below (HP.out.after bA).bel HP.out.low)
 clear F1 hq
 cases b
 ·go_wp2
  go_ret
  exact fit_no rfl (FW.after bA HF1.out)
 ·obtain ⟨hn', hdeep⟩ := HQ.out rfl
  clear HQ
  have HP1 := Lib.hid (HP.out.next' HF1.out HB1.out (by omega) (by omega))
  go_wp2_with fail
  refine (f28_any ⟨23, xo, xt, vk, vn, _, vb, vt, _, _, _⟩ ⟨⟨_, _, _, rfl⟩, ⟨_, _, _, rfl⟩, ⟨_, _, _, rfl⟩, ⟨_, _, _, rfl⟩⟩ _).mono ?_
  rintro e w2 ⟨b, rfl, hb2⟩
  clear b0 b1 b2 b3 b4 b5 b6 b7 b8 b9 b10
  have F2 := HF1.out.trans (FW.of_below HF1.out.left hb2)
  have b0 : w2.cell? ⟨w.heap.size, 0, none⟩ = some (.int .i64 23) := F2.box hne 0 _ rfl
  have b1 : w2.cell? ⟨w.heap.size, 1, none⟩ = some (.int .i64 xo) := F2.box hne 1 _ rfl
  have b2 : w2.cell? ⟨w.heap.size, 2, none⟩ = some (.string xt) := F2.box hne 2 _ rfl
  have b3 : w2.cell? ⟨w.heap.size, 3, none⟩ = some (.int .i64 vk) := F2.box hne 3 _ rfl
  have b4 : w2.cell? ⟨w.heap.size, 4, none⟩ = some (.bool vn) := F2.box hne 4 _ rfl
  have b5 : w2.cell? ⟨w.heap.size, 5, none⟩ = some (.slice a1 n1 m1) := F2.box hne 5 _ rfl
  have b6 : w2.cell? ⟨w.heap.size, 6, none⟩ = some (.int .u64 vb) := F2.box hne 6 _ rfl
  have b7 : w2.cell? ⟨w.heap.size, 7, none⟩ = some (.string vt) := F2.box hne 7 _ rfl
  have b8 : w2.cell? ⟨w.heap.size, 8, none⟩ = some (.slice a2 n2 m2) := F2.box hne 8 _ rfl
  have b9 : w2.cell? ⟨w.heap.size, 9, none⟩ = some (.slice a3 n3 m3) := F2.box hne 9 _ rfl
  have b10 : w2.cell? ⟨w.heap.size, 10, none⟩ = some (.slice a4 n4 m4) := F2.box hne 10 _ rfl
  have HF2 : Hid (FW gf (n - 1) (w.alloc (.cells #[.int .i64 23, .int .i64 xo, .string xt, .int .i64 vk, .bool vn, .slice a1 n1 m1, .int .u64 vb, .string vt, .slice a2 n2 m2, .slice a3 n3 m3, .slice a4 n4 m4] 164)) w2) := Lib.hid F2
  have HB2 := Lib.hid (F2.below (HP.out.after bA).bel HP.out.low)
  have HP2 := Lib.hid (HP.out.next' HF2.out HB2.out (by omega) (by omega))
  clear hb2 F2 HF1 HB1 HP1
  cases b
  ·go_wp2
   go_ret
   exact fit_no rfl (FW.after bA HF2.out)
  ·by_cases hn3 : n3 = 1
   ·obtain rfl : 1 = n3 := hn3.symm
    clear hn3
    go_wp2_with fail
    refine (f18_any W X Y HF.out HY.out.sh _ 1 gf (n - 1) (deep + 1) w2 HK.out HP2.out (by omega) (by omega)).mono ?_
    rintro e w3 ⟨b, n2, rfl, F3, hq3⟩
    have HF3 := Lib.hid (HF2.out.trans F3)
    have HQ3 := Lib.hid hq3
    clear F3 hq3
    go_wp2
    go_ret
    refine ⟨b, n2, rfl, FW.after bA HF3.out, fun hb => ?_⟩
    obtain ⟨q0, q1, us, hus, hrow, hts⟩ := HQ3.out hb
    exact ⟨by omega, by omega, .mk none us, .plain _ us (Or.inr (Or.inr (Or.inr (Or.inr (Or.inr (Or.inr (Or.inr (Or.inr (⟨rfl, hus⟩))))))))) hrow, by simp only [Tr.size]; omega⟩
   ·go_wp2
    go_ret
    exact fit_no rfl (FW.after bA HF2.out)
theorem f24_no (W : World) (X : EV → Tr → Prop) (Y : EV → Prop) (hF : FitE W X Y) (hY : YS W Y) (xo : Int) (xt : ByteArray) (vk : Int) (vn : Bool) (vb : Nat) (vt : ByteArray) (a1 a2 a3 a4 : Option Addr) (n1 n2 n3 n4 m1 m2 m3 m4 : Nat) (xk : Int) (h_1 : ¬ xk = 1) (h_2 : ¬ xk = 2) (h_3 : ¬ xk = 3) (h_4 : ¬ xk = 4) (h_5 : ¬ xk = 5) (h_6 : ¬ xk = 6) (h_7 : ¬ xk = 7) (h_8 : ¬ xk = 8) (h_9 : ¬ xk = 9) (h_10 : ¬ xk = 10) (h_11 : ¬ xk = 11) (h_12 : ¬ xk = 12) (h_13 : ¬ xk = 13) (h_14 : ¬ xk = 14) (h_18 : ¬ xk = 18) (h_19 : ¬ xk = 19) (h_20 : ¬ xk = 20) (h_23 : ¬ xk = 23) (gf : Nat) (n deep : Int) (w : World)
  (hK : SlAt W 11 (.slice a3 n3 m3) n3 fun _ cs => ∃ k : EV, cs = k.cells ∧ Y k) (hPs : SlAt W 3 (.slice a4 n4 m4) n4 fun _ cs => ∃ p : PV, cs = p.cells ∧ p.name.size ≤ maxLen ∧ ∃ m, SlAt W 11 p.dflt m fun _ cs' => ∃ k : EV, cs' = k.cells ∧ Y k) (ht : xt.size ≤ maxLen) (hB : Bytes W (.slice a1 n1 m1) n1) (hp : FitPre W gf n w) (h0 : 0 ≤ deep) (h1 : deep ≤ 1000) :
  Calls Tryz.prog 24 #[.pointer (some ⟨gf, 0, none⟩), (EV.mk xk xo xt vk vn (.slice a1 n1 m1) vb vt (.slice a2 n2 m2) (.slice a3 n3 m3) (.slice a4 n4 m4)).val, .int .i64 deep] w (FitPost gf n (fun m => ∃ t, ShE W X (EV.mk xk xo xt vk vn (.slice a1 n1 m1) vb vt (.slice a2 n2 m2) (.slice a3 n3 m3) (.slice a4 n4 m4)) t ∧ (t.size : Int) + 1 ≤ 3 * m) w) := by
 have HKo : Hid (kidsOf xk = -1) := Lib.hid (by unfold kidsOf; simp [h_1, h_2, h_6, h_7, h_8, h_9, h_10, h_11, h_12, h_13, h_18, h_23])
 have k_1 := int_ne _ _ h_1
 have k_2 := int_ne _ _ h_2
 have k_3 := int_ne _ _ h_3
 have k_4 := int_ne _ _ h_4
 have k_5 := int_ne _ _ h_5
 have k_6 := int_ne _ _ h_6
 have k_7 := int_ne _ _ h_7
 have k_8 := int_ne _ _ h_8
 have k_9 := int_ne _ _ h_9
 have k_10 := int_ne _ _ h_10
 have k_11 := int_ne _ _ h_11
 have k_12 := int_ne _ _ h_12
 have k_13 := int_ne _ _ h_13
 have k_14 := int_ne _ _ h_14
 have k_18 := int_ne _ _ h_18
 have k_19 := int_ne _ _ h_19
 have k_20 := int_ne _ _ h_20
 have k_23 := int_ne _ _ h_23
 clear h_1 h_2 h_3 h_4 h_5 h_6 h_7 h_8 h_9 h_10 h_11 h_12 h_13 h_14 h_18 h_19 h_20 h_23
 have hlen : n3 ≤ 9223372036854775807 := by
  obtain ⟨_, _, hv, h2, h3, _⟩ := hK
  cases hv
  unfold maxLen at h3
  omega
 have hne : ¬ w.heap.size = gf := by have := hp.left.lt; omega
 have HF := Lib.hid hF
 have HY := Lib.hid hY
 have HK := Lib.hid hK
 have HPs := Lib.hid hPs
 have HT := Lib.hid ht
 have HBy := Lib.hid hB
 have HP := Lib.hid hp
 have hn0 := hp.n0
 have hn300 := hp.n1
 have HB0 := Lib.hid hp.bel
 clear hF hY hK hPs ht hB hp
 unfold EV.val EV.cells
 go_enter Tryz.func24, Tryz.ntmps24
 go_wp2_with fail
 refine (f27_any xk _).mono ?_
 rintro e w' ⟨rfl, rfl⟩
 have hpar : kidsOf xk = -1 := HKo.out
 go_wp2_with fail
 refine (f12_fw W gf n deep _ (HP.out.after bA)).mono ?_
 rintro e w1 ⟨b, rfl, F1, hq⟩
 have b0 : w1.cell? ⟨w.heap.size, 0, none⟩ = some (.int .i64 xk) := F1.box hne 0 _ rfl
 have b1 : w1.cell? ⟨w.heap.size, 1, none⟩ = some (.int .i64 xo) := F1.box hne 1 _ rfl
 have b2 : w1.cell? ⟨w.heap.size, 2, none⟩ = some (.string xt) := F1.box hne 2 _ rfl
 have b3 : w1.cell? ⟨w.heap.size, 3, none⟩ = some (.int .i64 vk) := F1.box hne 3 _ rfl
 have b4 : w1.cell? ⟨w.heap.size, 4, none⟩ = some (.bool vn) := F1.box hne 4 _ rfl
 have b5 : w1.cell? ⟨w.heap.size, 5, none⟩ = some (.slice a1 n1 m1) := F1.box hne 5 _ rfl
 have b6 : w1.cell? ⟨w.heap.size, 6, none⟩ = some (.int .u64 vb) := F1.box hne 6 _ rfl
 have b7 : w1.cell? ⟨w.heap.size, 7, none⟩ = some (.string vt) := F1.box hne 7 _ rfl
 have b8 : w1.cell? ⟨w.heap.size, 8, none⟩ = some (.slice a2 n2 m2) := F1.box hne 8 _ rfl
 have b9 : w1.cell? ⟨w.heap.size, 9, none⟩ = some (.slice a3 n3 m3) := F1.box hne 9 _ rfl
 have b10 : w1.cell? ⟨w.heap.size, 10, none⟩ = some (.slice a4 n4 m4) := F1.box hne 10 _ rfl
 have HF1 : Hid (FW gf (n - 1) (w.alloc (.cells #[.int .i64 xk, .int .i64 xo, .string xt, .int .i64 vk, .bool vn, .slice a1 n1 m1, .int .u64 vb, .string vt, .slice a2 n2 m2, .slice a3 n3 m3, .slice a4 n4 m4] 164)) w1) := Lib.hid F1
 have HQ := Lib.hid hq
 have HB1 := Lib.hid (F1.below (HP.out.after bA).bel HP.out.low)
 clear F1 hq
 cases b
 ·go_wp2
  go_ret
  exact fit_no rfl (FW.after bA HF1.out)
 ·obtain ⟨hn', hdeep⟩ := HQ.out rfl
  clear HQ
  have HP1 := Lib.hid (HP.out.next' HF1.out HB1.out (by omega) (by omega))
  go_wp2_with fail
  refine (f28_any ⟨xk, xo, xt, vk, vn, _, vb, vt, _, _, _⟩ ⟨⟨_, _, _, rfl⟩, ⟨_, _, _, rfl⟩, ⟨_, _, _, rfl⟩, ⟨_, _, _, rfl⟩⟩ _).mono ?_
  rintro e w2 ⟨b, rfl, hb2⟩
  clear b0 b1 b2 b3 b4 b5 b6 b7 b8 b9 b10
  have F2 := HF1.out.trans (FW.of_below HF1.out.left hb2)
  have b0 : w2.cell? ⟨w.heap.size, 0, none⟩ = some (.int .i64 xk) := F2.box hne 0 _ rfl
  have b1 : w2.cell? ⟨w.heap.size, 1, none⟩ = some (.int .i64 xo) := F2.box hne 1 _ rfl
  have b2 : w2.cell? ⟨w.heap.size, 2, none⟩ = some (.string xt) := F2.box hne 2 _ rfl
  have b3 : w2.cell? ⟨w.heap.size, 3, none⟩ = some (.int .i64 vk) := F2.box hne 3 _ rfl
  have b4 : w2.cell? ⟨w.heap.size, 4, none⟩ = some (.bool vn) := F2.box hne 4 _ rfl
  have b5 : w2.cell? ⟨w.heap.size, 5, none⟩ = some (.slice a1 n1 m1) := F2.box hne 5 _ rfl
  have b6 : w2.cell? ⟨w.heap.size, 6, none⟩ = some (.int .u64 vb) := F2.box hne 6 _ rfl
  have b7 : w2.cell? ⟨w.heap.size, 7, none⟩ = some (.string vt) := F2.box hne 7 _ rfl
  have b8 : w2.cell? ⟨w.heap.size, 8, none⟩ = some (.slice a2 n2 m2) := F2.box hne 8 _ rfl
  have b9 : w2.cell? ⟨w.heap.size, 9, none⟩ = some (.slice a3 n3 m3) := F2.box hne 9 _ rfl
  have b10 : w2.cell? ⟨w.heap.size, 10, none⟩ = some (.slice a4 n4 m4) := F2.box hne 10 _ rfl
  have HF2 : Hid (FW gf (n - 1) (w.alloc (.cells #[.int .i64 xk, .int .i64 xo, .string xt, .int .i64 vk, .bool vn, .slice a1 n1 m1, .int .u64 vb, .string vt, .slice a2 n2 m2, .slice a3 n3 m3, .slice a4 n4 m4] 164)) w2) := Lib.hid F2
  have HB2 := Lib.hid (F2.below (HP.out.after bA).bel HP.out.low)
  have HP2 := Lib.hid (HP.out.next' HF2.out HB2.out (by omega) (by omega))
  clear hb2 F2 HF1 HB1 HP1
  cases b
  ·go_wp2
   go_ret
   exact fit_no rfl (FW.after bA HF2.out)
  ·go_wp2
   go_ret
   exact fit_no rfl (FW.after bA HF2.out)
end Go.Proofs.YtabeokminikfdaaGreat
