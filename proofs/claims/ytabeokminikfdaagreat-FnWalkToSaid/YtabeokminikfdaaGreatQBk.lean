import Derived.Test.YtabeokminikfdaaGreatQBj
import Derived.Test.YtabeokminikfdaaGreatQA1
set_option linter.all false
set_option maxRecDepth 100000
set_option maxHeartbeats 8000000
namespace Go.Proofs.YtabeokminikfdaaGreat
open Go.RowKit
theorem f24_1 (W : World) (X : EV → Tr → Prop) (Y : EV → Prop) (hF : FitE W X Y) (hY : YS W Y) (xo : Int) (xt : ByteArray) (vk : Int) (vn : Bool) (vb : Nat) (vt : ByteArray) (a1 a2 a3 a4 : Option Addr) (n1 n2 n3 n4 m1 m2 m3 m4 : Nat) (gf : Nat) (n deep : Int) (w : World)
  (hK : SlAt W 11 (.slice a3 n3 m3) n3 fun _ cs => ∃ k : EV, cs = k.cells ∧ Y k) (hPs : SlAt W 3 (.slice a4 n4 m4) n4 fun _ cs => ∃ p : PV, cs = p.cells ∧ p.name.size ≤ maxLen ∧ ∃ m, SlAt W 11 p.dflt m fun _ cs' => ∃ k : EV, cs' = k.cells ∧ Y k) (ht : xt.size ≤ maxLen) (hB : Bytes W (.slice a1 n1 m1) n1) (hp : FitPre W gf n w) (h0 : 0 ≤ deep) (h1 : deep ≤ 1000) :
  Calls Tryz.prog 24 #[.pointer (some ⟨gf, 0, none⟩), (EV.mk 1 xo xt vk vn (.slice a1 n1 m1) vb vt (.slice a2 n2 m2) (.slice a3 n3 m3) (.slice a4 n4 m4)).val, .int .i64 deep] w (FitPost gf n (fun m => ∃ t, ShE W X (EV.mk 1 xo xt vk vn (.slice a1 n1 m1) vb vt (.slice a2 n2 m2) (.slice a3 n3 m3) (.slice a4 n4 m4)) t ∧ (t.size : Int) + 1 ≤ 3 * m) w) := by
 have hlen : n3 ≤ 9223372036854775807 := by
  obtain ⟨_, _, hv, h2, h3, _⟩ := hK
  cases hv
  unfold maxLen at h3
  omega
 have hne : ¬ w.heap.size = gf := by have := hp.left.lt; omega
 have HF := Lib.hid hF
 have HY := Lib.hid hY
 have HK := Lib.hid hK
 have HPs := Lib.hid hPs
 have HT := Lib.hid ht
 have HBy := Lib.hid hB
 have HP := Lib.hid hp
 have hn0 := hp.n0
 have hn300 := hp.n1
 have HB0 := Lib.hid hp.bel
 clear hF hY hK hPs ht hB hp
 unfold EV.val EV.cells
 go_enter Tryz.func24, Tryz.ntmps24
 go_wp2_with fail
 refine (f27_1 _).mono ?_
 rintro e w' ⟨rfl, rfl⟩
 go_wp2_with fail
 refine (f12_fw W gf n deep _ (HP.out.after bA)).mono ?_
 rintro e w1 ⟨b, rfl, F1, hq⟩
 have b0 : w1.cell? ⟨w.heap.size, 0, none⟩ = some (.int .i64 1) := F1.box hne 0 _ rfl
 have b1 : w1.cell? ⟨w.heap.size, 1, none⟩ = some (.int .i64 xo) := F1.box hne 1 _ rfl
 have b2 : w1.cell? ⟨w.heap.size, 2, none⟩ = some (.string xt) := F1.box hne 2 _ rfl
 have b3 : w1.cell? ⟨w.heap.size, 3, none⟩ = some (.int .i64 vk) := F1.box hne 3 _ rfl
 have b4 : w1.cell? ⟨w.heap.size, 4, none⟩ = some (.bool vn) := F1.box hne 4 _ rfl
 have b5 : w1.cell? ⟨w.heap.size, 5, none⟩ = some (.slice a1 n1 m1) := F1.box hne 5 _ rfl
 have b6 : w1.cell? ⟨w.heap.size, 6, none⟩ = some (.int .u64 vb) := F1.box hne 6 _ rfl
 have b7 : w1.cell? ⟨w.heap.size, 7, none⟩ = some (.string vt) := F1.box hne 7 _ rfl
 have b8 : w1.cell? ⟨w.heap.size, 8, none⟩ = some (.slice a2 n2 m2) := F1.box hne 8 _ rfl
 have b9 : w1.cell? ⟨w.heap.size, 9, none⟩ = some (.slice a3 n3 m3) := F1.box hne 9 _ rfl
 have b10 : w1.cell? ⟨w.heap.size, 10, none⟩ = some (.slice a4 n4 m4) := F1.box hne 10 _ rfl
 have HF1 : Hid (FW gf (n - 1) (w.alloc (.cells #[.int .i64 1, .int .i64 xo, .string xt, .int .i64 vk, .bool vn, .slice a1 n1 m1, .int .u64 vb, .string vt, .slice a2 n2 m2, .slice a3 n3 m3, .slice a4 n4 m4] 164)) w1) := Lib.hid F1
 have HQ := Lib.hid hq
 have HB1 := Lib.hid (F1.below (HP.out.after bA).bel HP.out.low)
 clear F1 hq
 cases b
 ·go_wp2
  go_ret
  exact fit_no rfl (FW.after bA HF1.out)
 ·obtain ⟨hn', hdeep⟩ := HQ.out rfl
  clear HQ
  have HP1 := Lib.hid (HP.out.next' HF1.out HB1.out (by omega) (by omega))
  go_wp2_with fail
  refine (f28_any ⟨1, xo, xt, vk, vn, _, vb, vt, _, _, _⟩ ⟨⟨_, _, _, rfl⟩, ⟨_, _, _, rfl⟩, ⟨_, _, _, rfl⟩, ⟨_, _, _, rfl⟩⟩ _).mono ?_
  rintro e w2 ⟨b, rfl, hb2⟩
  clear b0 b1 b2 b3 b4 b5 b6 b7 b8 b9 b10
  have F2 := HF1.out.trans (FW.of_below HF1.out.left hb2)
  have b0 : w2.cell? ⟨w.heap.size, 0, none⟩ = some (.int .i64 1) := F2.box hne 0 _ rfl
  have b1 : w2.cell? ⟨w.heap.size, 1, none⟩ = some (.int .i64 xo) := F2.box hne 1 _ rfl
  have b2 : w2.cell? ⟨w.heap.size, 2, none⟩ = some (.string xt) := F2.box hne 2 _ rfl
  have b3 : w2.cell? ⟨w.heap.size, 3, none⟩ = some (.int .i64 vk) := F2.box hne 3 _ rfl
  have b4 : w2.cell? ⟨w.heap.size, 4, none⟩ = some (.bool vn) := F2.box hne 4 _ rfl
  have b5 : w2.cell? ⟨w.heap.size, 5, none⟩ = some (.slice a1 n1 m1) := F2.box hne 5 _ rfl
  have b6 : w2.cell? ⟨w.heap.size, 6, none⟩ = some (.int .u64 vb) := F2.box hne 6 _ rfl
  have b7 : w2.cell? ⟨w.heap.size, 7, none⟩ = some (.string vt) := F2.box hne 7 _ rfl
  have b8 : w2.cell? ⟨w.heap.size, 8, none⟩ = some (.slice a2 n2 m2) := F2.box hne 8 _ rfl
  have b9 : w2.cell? ⟨w.heap.size, 9, none⟩ = some (.slice a3 n3 m3) := F2.box hne 9 _ rfl
  have b10 : w2.cell? ⟨w.heap.size, 10, none⟩ = some (.slice a4 n4 m4) := F2.box hne 10 _ rfl
  have HF2 : Hid (FW gf (n - 1) (w.alloc (.cells #[.int .i64 1, .int .i64 xo, .string xt, .int .i64 vk, .bool vn, .slice a1 n1 m1, .int .u64 vb, .string vt, .slice a2 n2 m2, .slice a3 n3 m3, .slice a4 n4 m4] 164)) w2) := Lib.hid F2
  have HB2 := Lib.hid (F2.below (HP.out.after bA).bel HP.out.low)
  have HP2 := Lib.hid (HP.out.next' HF2.out HB2.out (by omega) (by omega))
  clear hb2 F2 HF1 HB1 HP1
  cases b
  ·go_wp2
   go_ret
   exact fit_no rfl (FW.after bA HF2.out)
  ·by_cases hn3 : n3 = 0
   ·obtain rfl : 0 = n3 := hn3.symm
    clear hn3
    go_wp2_with fail
    refine (f19_any xt HT.out w2).mono ?_
    rintro e w' ⟨b, rfl, rfl⟩
    go_wp2
    go_ret
    exact ⟨b, n - 1, rfl, FW.after bA HF2.out, fun _ => ⟨by omega, by omega, _, .name _ rfl (Elems.row (Elems.nil _ _ _ _) rfl (Nat.zero_le _) HK.out.cap fun h => absurd h (Nat.lt_irrefl 0)), by simp only [Tr.size, sizes, idt]; omega⟩⟩
   ·go_wp2
    go_ret
    exact fit_no rfl (FW.after bA HF2.out)
theorem f24_2 (W : World) (X : EV → Tr → Prop) (Y : EV → Prop) (hF : FitE W X Y) (hY : YS W Y) (xo : Int) (xt : ByteArray) (vk : Int) (vn : Bool) (vb : Nat) (vt : ByteArray) (a1 a2 a3 a4 : Option Addr) (n1 n2 n3 n4 m1 m2 m3 m4 : Nat) (gf : Nat) (n deep : Int) (w : World)
  (hK : SlAt W 11 (.slice a3 n3 m3) n3 fun _ cs => ∃ k : EV, cs = k.cells ∧ Y k) (hPs : SlAt W 3 (.slice a4 n4 m4) n4 fun _ cs => ∃ p : PV, cs = p.cells ∧ p.name.size ≤ maxLen ∧ ∃ m, SlAt W 11 p.dflt m fun _ cs' => ∃ k : EV, cs' = k.cells ∧ Y k) (ht : xt.size ≤ maxLen) (hB : Bytes W (.slice a1 n1 m1) n1) (hp : FitPre W gf n w) (h0 : 0 ≤ deep) (h1 : deep ≤ 1000) :
  Calls Tryz.prog 24 #[.pointer (some ⟨gf, 0, none⟩), (EV.mk 2 xo xt vk vn (.slice a1 n1 m1) vb vt (.slice a2 n2 m2) (.slice a3 n3 m3) (.slice a4 n4 m4)).val, .int .i64 deep] w (FitPost gf n (fun m => ∃ t, ShE W X (EV.mk 2 xo xt vk vn (.slice a1 n1 m1) vb vt (.slice a2 n2 m2) (.slice a3 n3 m3) (.slice a4 n4 m4)) t ∧ (t.size : Int) + 1 ≤ 3 * m) w) := by
 have hlen : n3 ≤ 9223372036854775807 := by
  obtain ⟨_, _, hv, h2, h3, _⟩ := hK
  cases hv
  unfold maxLen at h3
  omega
 have hne : ¬ w.heap.size = gf := by have := hp.left.lt; omega
 have HF := Lib.hid hF
 have HY := Lib.hid hY
 have HK := Lib.hid hK
 have HPs := Lib.hid hPs
 have HT := Lib.hid ht
 have HBy := Lib.hid hB
 have HP := Lib.hid hp
 have hn0 := hp.n0
 have hn300 := hp.n1
 have HB0 := Lib.hid hp.bel
 clear hF hY hK hPs ht hB hp
 unfold EV.val EV.cells
 go_enter Tryz.func24, Tryz.ntmps24
 go_wp2_with fail
 refine (f27_2 _).mono ?_
 rintro e w' ⟨rfl, rfl⟩
 go_wp2_with fail
 refine (f12_fw W gf n deep _ (HP.out.after bA)).mono ?_
 rintro e w1 ⟨b, rfl, F1, hq⟩
 have b0 : w1.cell? ⟨w.heap.size, 0, none⟩ = some (.int .i64 2) := F1.box hne 0 _ rfl
 have b1 : w1.cell? ⟨w.heap.size, 1, none⟩ = some (.int .i64 xo) := F1.box hne 1 _ rfl
 have b2 : w1.cell? ⟨w.heap.size, 2, none⟩ = some (.string xt) := F1.box hne 2 _ rfl
 have b3 : w1.cell? ⟨w.heap.size, 3, none⟩ = some (.int .i64 vk) := F1.box hne 3 _ rfl
 have b4 : w1.cell? ⟨w.heap.size, 4, none⟩ = some (.bool vn) := F1.box hne 4 _ rfl
 have b5 : w1.cell? ⟨w.heap.size, 5, none⟩ = some (.slice a1 n1 m1) := F1.box hne 5 _ rfl
 have b6 : w1.cell? ⟨w.heap.size, 6, none⟩ = some (.int .u64 vb) := F1.box hne 6 _ rfl
 have b7 : w1.cell? ⟨w.heap.size, 7, none⟩ = some (.string vt) := F1.box hne 7 _ rfl
 have b8 : w1.cell? ⟨w.heap.size, 8, none⟩ = some (.slice a2 n2 m2) := F1.box hne 8 _ rfl
 have b9 : w1.cell? ⟨w.heap.size, 9, none⟩ = some (.slice a3 n3 m3) := F1.box hne 9 _ rfl
 have b10 : w1.cell? ⟨w.heap.size, 10, none⟩ = some (.slice a4 n4 m4) := F1.box hne 10 _ rfl
 have HF1 : Hid (FW gf (n - 1) (w.alloc (.cells #[.int .i64 2, .int .i64 xo, .string xt, .int .i64 vk, .bool vn, .slice a1 n1 m1, .int .u64 vb, .string vt, .slice a2 n2 m2, .slice a3 n3 m3, .slice a4 n4 m4] 164)) w1) := Lib.hid F1
 have HQ := Lib.hid hq
 have HB1 := Lib.hid (F1.below (HP.out.after bA).bel HP.out.low)
 clear F1 hq
 cases b
 ·go_wp2
  go_ret
  exact fit_no rfl (FW.after bA HF1.out)
 ·obtain ⟨hn', hdeep⟩ := HQ.out rfl
  clear HQ
  have HP1 := Lib.hid (HP.out.next' HF1.out HB1.out (by omega) (by omega))
  go_wp2_with fail
  refine (f28_any ⟨2, xo, xt, vk, vn, _, vb, vt, _, _, _⟩ ⟨⟨_, _, _, rfl⟩, ⟨_, _, _, rfl⟩, ⟨_, _, _, rfl⟩, ⟨_, _, _, rfl⟩⟩ _).mono ?_
  rintro e w2 ⟨b, rfl, hb2⟩
  clear b0 b1 b2 b3 b4 b5 b6 b7 b8 b9 b10
  have F2 := HF1.out.trans (FW.of_below HF1.out.left hb2)
  have b0 : w2.cell? ⟨w.heap.size, 0, none⟩ = some (.int .i64 2) := F2.box hne 0 _ rfl
  have b1 : w2.cell? ⟨w.heap.size, 1, none⟩ = some (.int .i64 xo) := F2.box hne 1 _ rfl
  have b2 : w2.cell? ⟨w.heap.size, 2, none⟩ = some (.string xt) := F2.box hne 2 _ rfl
  have b3 : w2.cell? ⟨w.heap.size, 3, none⟩ = some (.int .i64 vk) := F2.box hne 3 _ rfl
  have b4 : w2.cell? ⟨w.heap.size, 4, none⟩ = some (.bool vn) := F2.box hne 4 _ rfl
  have b5 : w2.cell? ⟨w.heap.size, 5, none⟩ = some (.slice a1 n1 m1) := F2.box hne 5 _ rfl
  have b6 : w2.cell? ⟨w.heap.size, 6, none⟩ = some (.int .u64 vb) := F2.box hne 6 _ rfl
  have b7 : w2.cell? ⟨w.heap.size, 7, none⟩ = some (.string vt) := F2.box hne 7 _ rfl
  have b8 : w2.cell? ⟨w.heap.size, 8, none⟩ = some (.slice a2 n2 m2) := F2.box hne 8 _ rfl
  have b9 : w2.cell? ⟨w.heap.size, 9, none⟩ = some (.slice a3 n3 m3) := F2.box hne 9 _ rfl
  have b10 : w2.cell? ⟨w.heap.size, 10, none⟩ = some (.slice a4 n4 m4) := F2.box hne 10 _ rfl
  have HF2 : Hid (FW gf (n - 1) (w.alloc (.cells #[.int .i64 2, .int .i64 xo, .string xt, .int .i64 vk, .bool vn, .slice a1 n1 m1, .int .u64 vb, .string vt, .slice a2 n2 m2, .slice a3 n3 m3, .slice a4 n4 m4] 164)) w2) := Lib.hid F2
  have HB2 := Lib.hid (F2.below (HP.out.after bA).bel HP.out.low)
  have HP2 := Lib.hid (HP.out.next' HF2.out HB2.out (by omega) (by omega))
  clear hb2 F2 HF1 HB1 HP1
  cases b
  ·go_wp2
   go_ret
   exact fit_no rfl (FW.after bA HF2.out)
  ·by_cases hn3 : n3 = 0
   ·obtain rfl : 0 = n3 := hn3.symm
    clear hn3
    have HL0 : Hid (0 < n1 → ∃ g off, ∃ b : Nat, a1 = some ⟨g, off, none⟩ ∧ w2.cell? ⟨g, off, none⟩ = some (.int .u8 b)) := Lib.hid (by
     intro h
     obtain ⟨_, _, hv, _, _, h3⟩ := HBy.out
     cases hv
     obtain ⟨g, off, ha, hel⟩ := h3 h
     obtain ⟨cs, hs, hc, b, _, rfl⟩ := hel 0 h
     have hc0 := hc 0 (by decide)
     have hc1 : W.cell? ⟨g, off, none⟩ = some (.int .u8 b) := by simpa using hc0
     exact ⟨g, off, b, ha, (HB2.out.cell (p := ⟨g, off, none⟩) (World.block_lt_of_cell? W _ hc1)).trans hc1⟩)
    have HL1 : Hid (n1 ≤ 9223372036854775807) := Lib.hid (by
     obtain ⟨_, _, hv, h2, h3, _⟩ := HBy.out
     cases hv
     unfold maxLen at h3
     omega)
    have HL2 : Hid (∀ (h : vk = 2 ∨ vk = 3 ∨ vk = 4 ∨ vk = 5) (w : World), Calls Tryz.prog 29 #[.agg #[.int .i64 vk, .bool vn, .slice a1 n1 m1, .int .u64 vb, .string vt, .slice a2 n2 m2]] w (fun _ _ => True) → True) := Lib.hid (fun _ _ _ => trivial)
    clear HL2
    go_wp2_with fail
    refine (f29_any vk vn vb vt a1 a2 n1 m1 n2 m2 HL1.out w2 HL0.out).mono ?_
    rintro e w3 ⟨b, rfl, hb3, hq3⟩
    have HF3 := Lib.hid (HF2.out.trans (FW.of_below HF2.out.left hb3))
    have HQ3 := Lib.hid hq3
    clear hb3 hq3
    go_wp2
    go_ret
    refine ⟨b, n - 1, rfl, FW.after bA HF3.out, fun hb => ⟨by omega, by omega, _, .lit _ rfl (Elems.row (Elems.nil _ _ _ _) rfl (Nat.zero_le _) HK.out.cap fun h => absurd h (Nat.lt_irrefl 0)) ?_, by simp only [Tr.size, sizes]; omega⟩⟩
    rcases HQ3.out hb with ⟨e1, e2, e3⟩ | h | h | h
    ·exact .inl ⟨e1, e2, n1, HBy.out, e3⟩
    ·exact .inr (.inl h)
    ·exact .inr (.inr (.inl h))
    ·exact .inr (.inr (.inr h))
   ·go_wp2
    go_ret
    exact fit_no rfl (FW.after bA HF2.out)
theorem f24_3 (W : World) (X : EV → Tr → Prop) (Y : EV → Prop) (hF : FitE W X Y) (hY : YS W Y) (xo : Int) (xt : ByteArray) (vk : Int) (vn : Bool) (vb : Nat) (vt : ByteArray) (a1 a2 a3 a4 : Option Addr) (n1 n2 n3 n4 m1 m2 m3 m4 : Nat) (gf : Nat) (n deep : Int) (w : World)
  (hK : SlAt W 11 (.slice a3 n3 m3) n3 fun _ cs => ∃ k : EV, cs = k.cells ∧ Y k) (hPs : SlAt W 3 (.slice a4 n4 m4) n4 fun _ cs => ∃ p : PV, cs = p.cells ∧ p.name.size ≤ maxLen ∧ ∃ m, SlAt W 11 p.dflt m fun _ cs' => ∃ k : EV, cs' = k.cells ∧ Y k) (ht : xt.size ≤ maxLen) (hB : Bytes W (.slice a1 n1 m1) n1) (hp : FitPre W gf n w) (h0 : 0 ≤ deep) (h1 : deep ≤ 1000) :
  Calls Tryz.prog 24 #[.pointer (some ⟨gf, 0, none⟩), (EV.mk 3 xo xt vk vn (.slice a1 n1 m1) vb vt (.slice a2 n2 m2) (.slice a3 n3 m3) (.slice a4 n4 m4)).val, .int .i64 deep] w (FitPost gf n (fun m => ∃ t, ShE W X (EV.mk 3 xo xt vk vn (.slice a1 n1 m1) vb vt (.slice a2 n2 m2) (.slice a3 n3 m3) (.slice a4 n4 m4)) t ∧ (t.size : Int) + 1 ≤ 3 * m) w) := by
 have hlen : n3 ≤ 9223372036854775807 := by
  obtain ⟨_, _, hv, h2, h3, _⟩ := hK
  cases hv
  unfold maxLen at h3
  omega
 have hne : ¬ w.heap.size = gf := by have := hp.left.lt; omega
 have HF := Lib.hid hF
 have HY := Lib.hid hY
 have HK := Lib.hid hK
 have HPs := Lib.hid hPs
 have HT := Lib.hid ht
 have HBy := Lib.hid hB
 have HP := Lib.hid hp
 have hn0 := hp.n0
 have hn300 := hp.n1
 have HB0 := Lib.hid hp.bel
 clear hF hY hK hPs ht hB hp
 unfold EV.val EV.cells
 go_enter Tryz.func24, Tryz.ntmps24
 go_wp2_with fail
 refine (f27_3 _).mono ?_
 rintro e w' ⟨rfl, rfl⟩
 go_wp2_with fail
 refine (f12_fw W gf n deep _ (HP.out.after bA)).mono ?_
 rintro e w1 ⟨b, rfl, F1, hq⟩
 have b0 : w1.cell? ⟨w.heap.size, 0, none⟩ = some (.int .i64 3) := F1.box hne 0 _ rfl
 have b1 : w1.cell? ⟨w.heap.size, 1, none⟩ = some (.int .i64 xo) := F1.box hne 1 _ rfl
 have b2 : w1.cell? ⟨w.heap.size, 2, none⟩ = some (.string xt) := F1.box hne 2 _ rfl
 have b3 : w1.cell? ⟨w.heap.size, 3, none⟩ = some (.int .i64 vk) := F1.box hne 3 _ rfl
 have b4 : w1.cell? ⟨w.heap.size, 4, none⟩ = some (.bool vn) := F1.box hne 4 _ rfl
 have b5 : w1.cell? ⟨w.heap.size, 5, none⟩ = some (.slice a1 n1 m1) := F1.box hne 5 _ rfl
 have b6 : w1.cell? ⟨w.heap.size, 6, none⟩ = some (.int .u64 vb) := F1.box hne 6 _ rfl
 have b7 : w1.cell? ⟨w.heap.size, 7, none⟩ = some (.string vt) := F1.box hne 7 _ rfl
 have b8 : w1.cell? ⟨w.heap.size, 8, none⟩ = some (.slice a2 n2 m2) := F1.box hne 8 _ rfl
 have b9 : w1.cell? ⟨w.heap.size, 9, none⟩ = some (.slice a3 n3 m3) := F1.box hne 9 _ rfl
 have b10 : w1.cell? ⟨w.heap.size, 10, none⟩ = some (.slice a4 n4 m4) := F1.box hne 10 _ rfl
 have HF1 : Hid (FW gf (n - 1) (w.alloc (.cells #[.int .i64 3, .int .i64 xo, .string xt, .int .i64 vk, .bool vn, .slice a1 n1 m1, .int .u64 vb, .string vt, .slice a2 n2 m2, .slice a3 n3 m3, .slice a4 n4 m4] 164)) w1) := Lib.hid F1
 have HQ := Lib.hid hq
 have HB1 := Lib.hid (F1.below (HP.out.after bA).bel HP.out.low)
 clear F1 hq
 cases b
 ·go_wp2
  go_ret
  exact fit_no rfl (FW.after bA HF1.out)
 ·obtain ⟨hn', hdeep⟩ := HQ.out rfl
  clear HQ
  have HP1 := Lib.hid (HP.out.next' HF1.out HB1.out (by omega) (by omega))
  go_wp2_with fail
  refine (f28_any ⟨3, xo, xt, vk, vn, _, vb, vt, _, _, _⟩ ⟨⟨_, _, _, rfl⟩, ⟨_, _, _, rfl⟩, ⟨_, _, _, rfl⟩, ⟨_, _, _, rfl⟩⟩ _).mono ?_
  rintro e w2 ⟨b, rfl, hb2⟩
  clear b0 b1 b2 b3 b4 b5 b6 b7 b8 b9 b10
  have F2 := HF1.out.trans (FW.of_below HF1.out.left hb2)
  have b0 : w2.cell? ⟨w.heap.size, 0, none⟩ = some (.int .i64 3) := F2.box hne 0 _ rfl
  have b1 : w2.cell? ⟨w.heap.size, 1, none⟩ = some (.int .i64 xo) := F2.box hne 1 _ rfl
  have b2 : w2.cell? ⟨w.heap.size, 2, none⟩ = some (.string xt) := F2.box hne 2 _ rfl
  have b3 : w2.cell? ⟨w.heap.size, 3, none⟩ = some (.int .i64 vk) := F2.box hne 3 _ rfl
  have b4 : w2.cell? ⟨w.heap.size, 4, none⟩ = some (.bool vn) := F2.box hne 4 _ rfl
  have b5 : w2.cell? ⟨w.heap.size, 5, none⟩ = some (.slice a1 n1 m1) := F2.box hne 5 _ rfl
  have b6 : w2.cell? ⟨w.heap.size, 6, none⟩ = some (.int .u64 vb) := F2.box hne 6 _ rfl
  have b7 : w2.cell? ⟨w.heap.size, 7, none⟩ = some (.string vt) := F2.box hne 7 _ rfl
  have b8 : w2.cell? ⟨w.heap.size, 8, none⟩ = some (.slice a2 n2 m2) := F2.box hne 8 _ rfl
  have b9 : w2.cell? ⟨w.heap.size, 9, none⟩ = some (.slice a3 n3 m3) := F2.box hne 9 _ rfl
  have b10 : w2.cell? ⟨w.heap.size, 10, none⟩ = some (.slice a4 n4 m4) := F2.box hne 10 _ rfl
  have HF2 : Hid (FW gf (n - 1) (w.alloc (.cells #[.int .i64 3, .int .i64 xo, .string xt, .int .i64 vk, .bool vn, .slice a1 n1 m1, .int .u64 vb, .string vt, .slice a2 n2 m2, .slice a3 n3 m3, .slice a4 n4 m4] 164)) w2) := Lib.hid F2
  have HB2 := Lib.hid (F2.below (HP.out.after bA).bel HP.out.low)
  have HP2 := Lib.hid (HP.out.next' HF2.out HB2.out (by omega) (by omega))
  clear hb2 F2 HF1 HB1 HP1
  cases b
  ·go_wp2
   go_ret
   exact fit_no rfl (FW.after bA HF2.out)
  ·go_wp2_with fail
   refine (f18_any W X Y HF.out HY.out.sh _ n3 gf (n - 1) (deep + 1) w2 HK.out HP2.out (by omega) (by omega)).mono ?_
   rintro e w3 ⟨b, n2, rfl, F3, hq3⟩
   have HF3 := Lib.hid (HF2.out.trans F3)
   have HQ3 := Lib.hid hq3
   clear F3 hq3
   go_wp2
   go_ret
   refine ⟨b, n2, rfl, FW.after bA HF3.out, fun hb => ?_⟩
   obtain ⟨q0, q1, us, hus, hrow, hts⟩ := HQ3.out hb
   exact ⟨by omega, by omega, .mk none us, .plain _ us (Or.inl (rfl)) hrow, by simp only [Tr.size]; omega⟩
theorem f24_4 (W : World) (X : EV → Tr → Prop) (Y : EV → Prop) (hF : FitE W X Y) (hY : YS W Y) (xo : Int) (xt : ByteArray) (vk : Int) (vn : Bool) (vb : Nat) (vt : ByteArray) (a1 a2 a3 a4 : Option Addr) (n1 n2 n3 n4 m1 m2 m3 m4 : Nat) (gf : Nat) (n deep : Int) (w : World)
  (hK : SlAt W 11 (.slice a3 n3 m3) n3 fun _ cs => ∃ k : EV, cs = k.cells ∧ Y k) (hPs : SlAt W 3 (.slice a4 n4 m4) n4 fun _ cs => ∃ p : PV, cs = p.cells ∧ p.name.size ≤ maxLen ∧ ∃ m, SlAt W 11 p.dflt m fun _ cs' => ∃ k : EV, cs' = k.cells ∧ Y k) (ht : xt.size ≤ maxLen) (hB : Bytes W (.slice a1 n1 m1) n1) (hp : FitPre W gf n w) (h0 : 0 ≤ deep) (h1 : deep ≤ 1000) :
  Calls Tryz.prog 24 #[.pointer (some ⟨gf, 0, none⟩), (EV.mk 4 xo xt vk vn (.slice a1 n1 m1) vb vt (.slice a2 n2 m2) (.slice a3 n3 m3) (.slice a4 n4 m4)).val, .int .i64 deep] w (FitPost gf n (fun m => ∃ t, ShE W X (EV.mk 4 xo xt vk vn (.slice a1 n1 m1) vb vt (.slice a2 n2 m2) (.slice a3 n3 m3) (.slice a4 n4 m4)) t ∧ (t.size : Int) + 1 ≤ 3 * m) w) := by
 have hlen : n3 ≤ 9223372036854775807 := by
  obtain ⟨_, _, hv, h2, h3, _⟩ := hK
  cases hv
  unfold maxLen at h3
  omega
 have hne : ¬ w.heap.size = gf := by have := hp.left.lt; omega
 have HF := Lib.hid hF
 have HY := Lib.hid hY
 have HK := Lib.hid hK
 have HPs := Lib.hid hPs
 have HT := Lib.hid ht
 have HBy := Lib.hid hB
 have HP := Lib.hid hp
 have hn0 := hp.n0
 have hn300 := hp.n1
 have HB0 := Lib.hid hp.bel
 clear hF hY hK hPs ht hB hp
 unfold EV.val EV.cells
 go_enter Tryz.func24, Tryz.ntmps24
 go_wp2_with fail
 refine (f27_4 _).mono ?_
 rintro e w' ⟨rfl, rfl⟩
 go_wp2_with fail
 refine (f12_fw W gf n deep _ (HP.out.after bA)).mono ?_
 rintro e w1 ⟨b, rfl, F1, hq⟩
 have b0 : w1.cell? ⟨w.heap.size, 0, none⟩ = some (.int .i64 4) := F1.box hne 0 _ rfl
 have b1 : w1.cell? ⟨w.heap.size, 1, none⟩ = some (.int .i64 xo) := F1.box hne 1 _ rfl
 have b2 : w1.cell? ⟨w.heap.size, 2, none⟩ = some (.string xt) := F1.box hne 2 _ rfl
 have b3 : w1.cell? ⟨w.heap.size, 3, none⟩ = some (.int .i64 vk) := F1.box hne 3 _ rfl
 have b4 : w1.cell? ⟨w.heap.size, 4, none⟩ = some (.bool vn) := F1.box hne 4 _ rfl
 have b5 : w1.cell? ⟨w.heap.size, 5, none⟩ = some (.slice a1 n1 m1) := F1.box hne 5 _ rfl
 have b6 : w1.cell? ⟨w.heap.size, 6, none⟩ = some (.int .u64 vb) := F1.box hne 6 _ rfl
 have b7 : w1.cell? ⟨w.heap.size, 7, none⟩ = some (.string vt) := F1.box hne 7 _ rfl
 have b8 : w1.cell? ⟨w.heap.size, 8, none⟩ = some (.slice a2 n2 m2) := F1.box hne 8 _ rfl
 have b9 : w1.cell? ⟨w.heap.size, 9, none⟩ = some (.slice a3 n3 m3) := F1.box hne 9 _ rfl
 have b10 : w1.cell? ⟨w.heap.size, 10, none⟩ = some (.slice a4 n4 m4) := F1.box hne 10 _ rfl
 have HF1 : Hid (FW gf (n - 1) (w.alloc (.cells #[.int .i64 4, .int .i64 xo, .string xt, .int .i64 vk, .bool vn, .slice a1 n1 m1, .int .u64 vb, .string vt, .slice a2 n2 m2, .slice a3 n3 m3, .slice a4 n4 m4] 164)) w1) := Lib.hid F1
 have HQ := Lib.hid hq
 have HB1 := Lib.hid (F1.below (HP.out.after bA).bel HP.out.low)
 clear F1 hq
 cases b
 ·go_wp2
  go_ret
  exact fit_no rfl (FW.after bA HF1.out)
 ·obtain ⟨hn', hdeep⟩ := HQ.out rfl
  clear HQ
  have HP1 := Lib.hid (HP.out.next' HF1.out HB1.out (by omega) (by omega))
  go_wp2_with fail
  refine (f28_any ⟨4, xo, xt, vk, vn, _, vb, vt, _, _, _⟩ ⟨⟨_, _, _, rfl⟩, ⟨_, _, _, rfl⟩, ⟨_, _, _, rfl⟩, ⟨_, _, _, rfl⟩⟩ _).mono ?_
  rintro e w2 ⟨b, rfl, hb2⟩
  clear b0 b1 b2 b3 b4 b5 b6 b7 b8 b9 b10
  have F2 := HF1.out.trans (FW.of_below HF1.out.left hb2)
  have b0 : w2.cell? ⟨w.heap.size, 0, none⟩ = some (.int .i64 4) := F2.box hne 0 _ rfl
  have b1 : w2.cell? ⟨w.heap.size, 1, none⟩ = some (.int .i64 xo) := F2.box hne 1 _ rfl
  have b2 : w2.cell? ⟨w.heap.size, 2, none⟩ = some (.string xt) := F2.box hne 2 _ rfl
  have b3 : w2.cell? ⟨w.heap.size, 3, none⟩ = some (.int .i64 vk) := F2.box hne 3 _ rfl
  have b4 : w2.cell? ⟨w.heap.size, 4, none⟩ = some (.bool vn) := F2.box hne 4 _ rfl
  have b5 : w2.cell? ⟨w.heap.size, 5, none⟩ = some (.slice a1 n1 m1) := F2.box hne 5 _ rfl
  have b6 : w2.cell? ⟨w.heap.size, 6, none⟩ = some (.int .u64 vb) := F2.box hne 6 _ rfl
  have b7 : w2.cell? ⟨w.heap.size, 7, none⟩ = some (.string vt) := F2.box hne 7 _ rfl
  have b8 : w2.cell? ⟨w.heap.size, 8, none⟩ = some (.slice a2 n2 m2) := F2.box hne 8 _ rfl
  have b9 : w2.cell? ⟨w.heap.size, 9, none⟩ = some (.slice a3 n3 m3) := F2.box hne 9 _ rfl
  have b10 : w2.cell? ⟨w.heap.size, 10, none⟩ = some (.slice a4 n4 m4) := F2.box hne 10 _ rfl
  have HF2 : Hid (FW gf (n - 1) (w.alloc (.cells #[.int .i64 4, .int .i64 xo, .string xt, .int .i64 vk, .bool vn, .slice a1 n1 m1, .int .u64 vb, .string vt, .slice a2 n2 m2, .slice a3 n3 m3, .slice a4 n4 m4] 164)) w2) := Lib.hid F2
  have HB2 := Lib.hid (F2.below (HP.out.after bA).bel HP.out.low)
  have HP2 := Lib.hid (HP.out.next' HF2.out HB2.out (by omega) (by omega))
  clear hb2 F2 HF1 HB1 HP1
  cases b
  ·go_wp2
   go_ret
   exact fit_no rfl (FW.after bA HF2.out)
  ·go_wp2_with fail
   refine (f18_any W X Y HF.out HY.out.sh _ n3 gf (n - 1) (deep + 1) w2 HK.out HP2.out (by omega) (by omega)).mono ?_
   rintro e w3 ⟨b, n2, rfl, F3, hq3⟩
   have HF3 := Lib.hid (HF2.out.trans F3)
   have HQ3 := Lib.hid hq3
   clear F3 hq3
   go_wp2
   go_ret
   refine ⟨b, n2, rfl, FW.after bA HF3.out, fun hb => ?_⟩
   obtain ⟨q0, q1, us, hus, hrow, hts⟩ := HQ3.out hb
   exact ⟨by omega, by omega, .mk none us, .plain _ us (Or.inr (Or.inl (rfl))) hrow, by simp only [Tr.size]; omega⟩
theorem f24_5 (W : World) (X : EV → Tr → Prop) (Y : EV → Prop) (hF : FitE W X Y) (hY : YS W Y) (xo : Int) (xt : ByteArray) (vk : Int) (vn : Bool) (vb : Nat) (vt : ByteArray) (a1 a2 a3 a4 : Option Addr) (n1 n2 n3 n4 m1 m2 m3 m4 : Nat) (gf : Nat) (n deep : Int) (w : World)
  (hK : SlAt W 11 (.slice a3 n3 m3) n3 fun _ cs => ∃ k : EV, cs = k.cells ∧ Y k) (hPs : SlAt W 3 (.slice a4 n4 m4) n4 fun _ cs => ∃ p : PV, cs = p.cells ∧ p.name.size ≤ maxLen ∧ ∃ m, SlAt W 11 p.dflt m fun _ cs' => ∃ k : EV, cs' = k.cells ∧ Y k) (ht : xt.size ≤ maxLen) (hB : Bytes W (.slice a1 n1 m1) n1) (hp : FitPre W gf n w) (h0 : 0 ≤ deep) (h1 : deep ≤ 1000) :
  Calls Tryz.prog 24 #[.pointer (some ⟨gf, 0, none⟩), (EV.mk 5 xo xt vk vn (.slice a1 n1 m1) vb vt (.slice a2 n2 m2) (.slice a3 n3 m3) (.slice a4 n4 m4)).val, .int .i64 deep] w (FitPost gf n (fun m => ∃ t, ShE W X (EV.mk 5 xo xt vk vn (.slice a1 n1 m1) vb vt (.slice a2 n2 m2) (.slice a3 n3 m3) (.slice a4 n4 m4)) t ∧ (t.size : Int) + 1 ≤ 3 * m) w) := by
 have hlen : n3 ≤ 9223372036854775807 := by
  obtain ⟨_, _, hv, h2, h3, _⟩ := hK
  cases hv
  unfold maxLen at h3
  omega
 have hne : ¬ w.heap.size = gf := by have := hp.left.lt; omega
 have HF := Lib.hid hF
 have HY := Lib.hid hY
 have HK := Lib.hid hK
 have HPs := Lib.hid hPs
 have HT := Lib.hid ht
 have HBy := Lib.hid hB
 have HP := Lib.hid hp
 have hn0 := hp.n0
 have hn300 := hp.n1
 have HB0 := Lib.hid hp.bel
 clear hF hY hK hPs ht hB hp
 unfold EV.val EV.cells
 go_enter Tryz.func24, Tryz.ntmps24
 go_wp2_with fail
 refine (f27_5 _).mono ?_
 rintro e w' ⟨rfl, rfl⟩
 go_wp2_with fail
 refine (f12_fw W gf n deep _ (HP.out.after bA)).mono ?_
 rintro e w1 ⟨b, rfl, F1, hq⟩
 have b0 : w1.cell? ⟨w.heap.size, 0, none⟩ = some (.int .i64 5) := F1.box hne 0 _ rfl
 have b1 : w1.cell? ⟨w.heap.size, 1, none⟩ = some (.int .i64 xo) := F1.box hne 1 _ rfl
 have b2 : w1.cell? ⟨w.heap.size, 2, none⟩ = some (.string xt) := F1.box hne 2 _ rfl
 have b3 : w1.cell? ⟨w.heap.size, 3, none⟩ = some (.int .i64 vk) := F1.box hne 3 _ rfl
 have b4 : w1.cell? ⟨w.heap.size, 4, none⟩ = some (.bool vn) := F1.box hne 4 _ rfl
 have b5 : w1.cell? ⟨w.heap.size, 5, none⟩ = some (.slice a1 n1 m1) := F1.box hne 5 _ rfl
 have b6 : w1.cell? ⟨w.heap.size, 6, none⟩ = some (.int .u64 vb) := F1.box hne 6 _ rfl
 have b7 : w1.cell? ⟨w.heap.size, 7, none⟩ = some (.string vt) := F1.box hne 7 _ rfl
 have b8 : w1.cell? ⟨w.heap.size, 8, none⟩ = some (.slice a2 n2 m2) := F1.box hne 8 _ rfl
 have b9 : w1.cell? ⟨w.heap.size, 9, none⟩ = some (.slice a3 n3 m3) := F1.box hne 9 _ rfl
 have b10 : w1.cell? ⟨w.heap.size, 10, none⟩ = some (.slice a4 n4 m4) := F1.box hne 10 _ rfl
 have HF1 : Hid (FW gf (n - 1) (w.alloc (.cells #[.int .i64 5, .int .i64 xo, .string xt, .int .i64 vk, .bool vn, .slice a1 n1 m1, .int .u64 vb, .string vt, .slice a2 n2 m2, .slice a3 n3 m3, .slice a4 n4 m4] 164)) w1) := Lib.hid F1
 have HQ := Lib.hid hq
 have HB1 := Lib.hid (F1.below (HP.out.after bA).bel HP.out.low)
 clear F1 hq
 cases b
 ·go_wp2
  go_ret
  exact fit_no rfl (FW.after bA HF1.out)
 ·obtain ⟨hn', hdeep⟩ := HQ.out rfl
  clear HQ
  have HP1 := Lib.hid (HP.out.next' HF1.out HB1.out (by omega) (by omega))
  go_wp2_with fail
  refine (f28_any ⟨5, xo, xt, vk, vn, _, vb, vt, _, _, _⟩ ⟨⟨_, _, _, rfl⟩, ⟨_, _, _, rfl⟩, ⟨_, _, _, rfl⟩, ⟨_, _, _, rfl⟩⟩ _).mono ?_
  rintro e w2 ⟨b, rfl, hb2⟩
  clear b0 b1 b2 b3 b4 b5 b6 b7 b8 b9 b10
  have F2 := HF1.out.trans (FW.of_below HF1.out.left hb2)
  have b0 : w2.cell? ⟨w.heap.size, 0, none⟩ = some (.int .i64 5) := F2.box hne 0 _ rfl
  have b1 : w2.cell? ⟨w.heap.size, 1, none⟩ = some (.int .i64 xo) := F2.box hne 1 _ rfl
  have b2 : w2.cell? ⟨w.heap.size, 2, none⟩ = some (.string xt) := F2.box hne 2 _ rfl
  have b3 : w2.cell? ⟨w.heap.size, 3, none⟩ = some (.int .i64 vk) := F2.box hne 3 _ rfl
  have b4 : w2.cell? ⟨w.heap.size, 4, none⟩ = some (.bool vn) := F2.box hne 4 _ rfl
  have b5 : w2.cell? ⟨w.heap.size, 5, none⟩ = some (.slice a1 n1 m1) := F2.box hne 5 _ rfl
  have b6 : w2.cell? ⟨w.heap.size, 6, none⟩ = some (.int .u64 vb) := F2.box hne 6 _ rfl
  have b7 : w2.cell? ⟨w.heap.size, 7, none⟩ = some (.string vt) := F2.box hne 7 _ rfl
  have b8 : w2.cell? ⟨w.heap.size, 8, none⟩ = some (.slice a2 n2 m2) := F2.box hne 8 _ rfl
  have b9 : w2.cell? ⟨w.heap.size, 9, none⟩ = some (.slice a3 n3 m3) := F2.box hne 9 _ rfl
  have b10 : w2.cell? ⟨w.heap.size, 10, none⟩ = some (.slice a4 n4 m4) := F2.box hne 10 _ rfl
  have HF2 : Hid (FW gf (n - 1) (w.alloc (.cells #[.int .i64 5, .int .i64 xo, .string xt, .int .i64 vk, .bool vn, .slice a1 n1 m1, .int .u64 vb, .string vt, .slice a2 n2 m2, .slice a3 n3 m3, .slice a4 n4 m4] 164)) w2) := Lib.hid F2
  have HB2 := Lib.hid (F2.below (HP.out.after bA).bel HP.out.low)
  have HP2 := Lib.hid (HP.out.next' HF2.out HB2.out (by omega) (by omega))
  clear hb2 F2 HF1 HB1 HP1
  cases b
  ·go_wp2
   go_ret
   exact fit_no rfl (FW.after bA HF2.out)
  ·by_cases hev : n3 % 2 = 0
   ·have hev2 : ((n3 : Int) % 2 == 0) = true := by simp; omega
    go_wp2_with fail
    refine (f18_any W X Y HF.out HY.out.sh _ n3 gf (n - 1) (deep + 1) w2 HK.out HP2.out (by omega) (by omega)).mono ?_
    rintro e w3 ⟨b, n2, rfl, F3, hq3⟩
    have HF3 := Lib.hid (HF2.out.trans F3)
    have HQ3 := Lib.hid hq3
    clear F3 hq3
    go_wp2
    go_ret
    refine ⟨b, n2, rfl, FW.after bA HF3.out, fun hb => ?_⟩
    obtain ⟨q0, q1, us, hus, hrow, hts⟩ := HQ3.out hb
    exact ⟨by omega, by omega, .mk none (twos us), .dict _ us rfl (by rw [hus]; exact hev) hrow, by have := twos_size us; simp only [Tr.size]; omega⟩
   ·have hev2 : ((n3 : Int) % 2 == 0) = false := by simp; omega
    go_wp2
    go_ret
    exact fit_no rfl (FW.after bA HF2.out)
theorem f24_6 (W : World) (X : EV → Tr → Prop) (Y : EV → Prop) (hF : FitE W X Y) (hY : YS W Y) (xo : Int) (xt : ByteArray) (vk : Int) (vn : Bool) (vb : Nat) (vt : ByteArray) (a1 a2 a3 a4 : Option Addr) (n1 n2 n3 n4 m1 m2 m3 m4 : Nat) (gf : Nat) (n deep : Int) (w : World)
  (hK : SlAt W 11 (.slice a3 n3 m3) n3 fun _ cs => ∃ k : EV, cs = k.cells ∧ Y k) (hPs : SlAt W 3 (.slice a4 n4 m4) n4 fun _ cs => ∃ p : PV, cs = p.cells ∧ p.name.size ≤ maxLen ∧ ∃ m, SlAt W 11 p.dflt m fun _ cs' => ∃ k : EV, cs' = k.cells ∧ Y k) (ht : xt.size ≤ maxLen) (hB : Bytes W (.slice a1 n1 m1) n1) (hp : FitPre W gf n w) (h0 : 0 ≤ deep) (h1 : deep ≤ 1000) :
  Calls Tryz.prog 24 #[.pointer (some ⟨gf, 0, none⟩), (EV.mk 6 xo xt vk vn (.slice a1 n1 m1) vb vt (.slice a2 n2 m2) (.slice a3 n3 m3) (.slice a4 n4 m4)).val, .int .i64 deep] w (FitPost gf n (fun m => ∃ t, ShE W X (EV.mk 6 xo xt vk vn (.slice a1 n1 m1) vb vt (.slice a2 n2 m2) (.slice a3 n3 m3) (.slice a4 n4 m4)) t ∧ (t.size : Int) + 1 ≤ 3 * m) w) := by
 have hlen : n3 ≤ 9223372036854775807 := by
  obtain ⟨_, _, hv, h2, h3, _⟩ := hK
  cases hv
  unfold maxLen at h3
  omega
 have hne : ¬ w.heap.size = gf := by have := hp.left.lt; omega
 have HF := Lib.hid hF
 have HY := Lib.hid hY
 have HK := Lib.hid hK
 have HPs := Lib.hid hPs
 have HT := Lib.hid ht
 have HBy := Lib.hid hB
 have HP := Lib.hid hp
 have hn0 := hp.n0
 have hn300 := hp.n1
 have HB0 := Lib.hid hp.bel
 clear hF hY hK hPs ht hB hp
 unfold EV.val EV.cells
 go_enter Tryz.func24, Tryz.ntmps24
 go_wp2_with fail
 refine (f27_6 _).mono ?_
 rintro e w' ⟨rfl, rfl⟩
 go_wp2_with fail
 refine (f12_fw W gf n deep _ (HP.out.after bA)).mono ?_
 rintro e w1 ⟨b, rfl, F1, hq⟩
 have b0 : w1.cell? ⟨w.heap.size, 0, none⟩ = some (.int .i64 6) := F1.box hne 0 _ rfl
 have b1 : w1.cell? ⟨w.heap.size, 1, none⟩ = some (.int .i64 xo) := F1.box hne 1 _ rfl
 have b2 : w1.cell? ⟨w.heap.size, 2, none⟩ = some (.string xt) := F1.box hne 2 _ rfl
 have b3 : w1.cell? ⟨w.heap.size, 3, none⟩ = some (.int .i64 vk) := F1.box hne 3 _ rfl
 have b4 : w1.cell? ⟨w.heap.size, 4, none⟩ = some (.bool vn) := F1.box hne 4 _ rfl
 have b5 : w1.cell? ⟨w.heap.size, 5, none⟩ = some (.slice a1 n1 m1) := F1.box hne 5 _ rfl
 have b6 : w1.cell? ⟨w.heap.size, 6, none⟩ = some (.int .u64 vb) := F1.box hne 6 _ rfl
 have b7 : w1.cell? ⟨w.heap.size, 7, none⟩ = some (.string vt) := F1.box hne 7 _ rfl
 have b8 : w1.cell? ⟨w.heap.size, 8, none⟩ = some (.slice a2 n2 m2) := F1.box hne 8 _ rfl
 have b9 : w1.cell? ⟨w.heap.size, 9, none⟩ = some (.slice a3 n3 m3) := F1.box hne 9 _ rfl
 have b10 : w1.cell? ⟨w.heap.size, 10, none⟩ = some (.slice a4 n4 m4) := F1.box hne 10 _ rfl
 have HF1 : Hid (FW gf (n - 1) (w.alloc (.cells #[.int .i64 6, .int .i64 xo, .string xt, .int .i64 vk, .bool vn, .slice a1 n1 m1, .int .u64 vb, .string vt, .slice a2 n2 m2, .slice a3 n3 m3, .slice a4 n4 m4] 164)) w1) := Lib.hid F1
 have HQ := Lib.hid hq
 have HB1 := Lib.hid (F1.below (HP.out.after bA).bel HP.out.low)
 clear F1 hq
 cases b
 ·go_wp2
  go_ret
  exact fit_no rfl (FW.after bA HF1.out)
 ·obtain ⟨hn', hdeep⟩ := HQ.out rfl
  clear HQ
  have HP1 := Lib.hid (HP.out.next' HF1.out HB1.out (by omega) (by omega))
  go_wp2_with fail
  refine (f28_any ⟨6, xo, xt, vk, vn, _, vb, vt, _, _, _⟩ ⟨⟨_, _, _, rfl⟩, ⟨_, _, _, rfl⟩, ⟨_, _, _, rfl⟩, ⟨_, _, _, rfl⟩⟩ _).mono ?_
  rintro e w2 ⟨b, rfl, hb2⟩
  clear b0 b1 b2 b3 b4 b5 b6 b7 b8 b9 b10
  have F2 := HF1.out.trans (FW.of_below HF1.out.left hb2)
  have b0 : w2.cell? ⟨w.heap.size, 0, none⟩ = some (.int .i64 6) := F2.box hne 0 _ rfl
  have b1 : w2.cell? ⟨w.heap.size, 1, none⟩ = some (.int .i64 xo) := F2.box hne 1 _ rfl
  have b2 : w2.cell? ⟨w.heap.size, 2, none⟩ = some (.string xt) := F2.box hne 2 _ rfl
  have b3 : w2.cell? ⟨w.heap.size, 3, none⟩ = some (.int .i64 vk) := F2.box hne 3 _ rfl
  have b4 : w2.cell? ⟨w.heap.size, 4, none⟩ = some (.bool vn) := F2.box hne 4 _ rfl
  have b5 : w2.cell? ⟨w.heap.size, 5, none⟩ = some (.slice a1 n1 m1) := F2.box hne 5 _ rfl
  have b6 : w2.cell? ⟨w.heap.size, 6, none⟩ = some (.int .u64 vb) := F2.box hne 6 _ rfl
  have b7 : w2.cell? ⟨w.heap.size, 7, none⟩ = some (.string vt) := F2.box hne 7 _ rfl
  have b8 : w2.cell? ⟨w.heap.size, 8, none⟩ = some (.slice a2 n2 m2) := F2.box hne 8 _ rfl
  have b9 : w2.cell? ⟨w.heap.size, 9, none⟩ = some (.slice a3 n3 m3) := F2.box hne 9 _ rfl
  have b10 : w2.cell? ⟨w.heap.size, 10, none⟩ = some (.slice a4 n4 m4) := F2.box hne 10 _ rfl
  have HF2 : Hid (FW gf (n - 1) (w.alloc (.cells #[.int .i64 6, .int .i64 xo, .string xt, .int .i64 vk, .bool vn, .slice a1 n1 m1, .int .u64 vb, .string vt, .slice a2 n2 m2, .slice a3 n3 m3, .slice a4 n4 m4] 164)) w2) := Lib.hid F2
  have HB2 := Lib.hid (F2.below (HP.out.after bA).bel HP.out.low)
  have HP2 := Lib.hid (HP.out.next' HF2.out HB2.out (by omega) (by omega))
  clear hb2 F2 HF1 HB1 HP1
  cases b
  ·go_wp2
   go_ret
   exact fit_no rfl (FW.after bA HF2.out)
  ·by_cases hn3 : n3 = 1
   ·obtain rfl : 1 = n3 := hn3.symm
    clear hn3
    by_cases ho1 : 19 ≤ xo
    ·by_cases ho2 : xo ≤ 22
     ·go_wp2_with fail
      refine (f18_any W X Y HF.out HY.out.sh _ 1 gf (n - 1) (deep + 1) w2 HK.out HP2.out (by omega) (by omega)).mono ?_
      rintro e w3 ⟨b, n2, rfl, F3, hq3⟩
      have HF3 := Lib.hid (HF2.out.trans F3)
      have HQ3 := Lib.hid hq3
      clear F3 hq3
      go_wp2
      go_ret
      refine ⟨b, n2, rfl, FW.after bA HF3.out, fun hb => ?_⟩
      obtain ⟨q0, q1, us, hus, hrow, hts⟩ := HQ3.out hb
      exact ⟨by omega, by omega, .mk none us, .plain _ us (Or.inr (Or.inr (Or.inl (⟨rfl, ho1, ho2, hus⟩)))) hrow, by simp only [Tr.size]; omega⟩
     ·go_wp2
      go_ret
      exact fit_no rfl (FW.after bA HF2.out)
    ·go_wp2
     go_ret
     exact fit_no rfl (FW.after bA HF2.out)
   ·go_wp2
    go_ret
    exact fit_no rfl (FW.after bA HF2.out)
end Go.Proofs.YtabeokminikfdaaGreat
