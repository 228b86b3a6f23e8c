import Derived.Test.YtabeokminikfdaaGreatQCe
import Derived.Test.YtabeokminikfdaaGreatQA1
set_option linter.all false
set_option maxRecDepth 100000
set_option maxHeartbeats 8000000
namespace Go.Proofs.YtabeokminikfdaaGreat
open Go.RowKit
theorem f50_3 (W : World) (gm : Nat) (nm : ByteArray) (vi vf : Value) (N b : Nat) (xo : Int) (xt : ByteArray) (vk : Int) (vn : Bool) (vb : Nat) (vt : ByteArray) (a1 a2 a3 a4 : Option Addr) (n1 n2 n3 n4 m1 m2 m3 m4 : Nat) (a : Option Addr) (n c : Nat) (ts : List Tr) (w : World) (h : Mk W gm nm vi vf N w) (hb : b ≤ w.heap.size) (hR : RowQ 0 ts (Sees w (New b gm vi vf w)) (.slice a n c)) :
  Calls Tryz.prog 50 #[.pointer (some ⟨gm, 0, none⟩), .agg #[.int .i64 3, .int .i64 xo, .string xt, .int .i64 vk, .bool vn, .slice a1 n1 m1, .int .u64 vb, .string vt, .slice a2 n2 m2, .slice a3 n3 m3, .slice a4 n4 m4], .slice a n c] w (MadeB W gm nm N vi vf b w fun R v => Nd R v (.mk none ts)) := by
 obtain ⟨_, _, _, hv, hlen, hcap, hcap2, hds⟩ := hR
 cases hv
 subst hlen
 have HM := Lib.hid h
 have HB := Lib.hid hb
 have HDS := Lib.hid hds
 clear h hb hds
 go_enter Tryz.func50, Tryz.ntmps50
 go_wp2_with fail
 refine (f33_mk W gm nm vi vf N _ (HM.out.after bA)).mono ?_
 rintro e w1 ⟨l0, rfl, hb1⟩
 have hW1 : Below w.heap.size w w1 := bA.trans (hb1.mono (by simp))
 have k0 : ∀ j, j < 11 → w1.cell? ⟨w.heap.size, j, none⟩ = (w.alloc (.cells #[.int .i64 3, .int .i64 xo, .string xt, .int .i64 vk, .bool vn, .slice a1 n1 m1, .int .u64 vb, .string vt, .slice a2 n2 m2, .slice a3 n3 m3, .slice a4 n4 m4] 164)).cell? ⟨w.heap.size, j, none⟩ := fun j _ => hb1.cell (p := ⟨w.heap.size, j, none⟩) (lt1 _ _)
 have b0 : w1.cell? ⟨w.heap.size, 0, none⟩ = some (.int .i64 3) := (k0 0 (by decide)).trans (by simp [go_sem])
 have b1 : w1.cell? ⟨w.heap.size, 1, none⟩ = some (.int .i64 xo) := (k0 1 (by decide)).trans (by simp [go_sem])
 have hs1 : w.heap.size < w1.heap.size := Nat.lt_of_lt_of_le (lt1 _ _) hb1.size
 have HW1 := Lib.hid hW1
 have HM1 := Lib.hid (HM.out.after hW1)
 have HS1 := Lib.hid hs1
 clear hW1 k0 hb1
 go_wp2
 go_ret
 have HSk : Hid (Stp gm vi vf w vi vf w1) := Lib.hid (Stp.of_below HW1.out)
 exact made_new HM1.out HSk.out (Nat.le_trans HB.out HSk.out.size) (bA.alloc (Nat.le_of_lt (lt1 _ _)) _) (g := w1.heap.size + 1) (Nat.le_succ _) ((new2 w1 _ _)) fun R hc ht => by simpa using (Nd.other 110 _ [(4, .row 0)] _ rfl (.row _ 4 0 _ _ _ _ _ _ (hc 4 _ rfl) (HDS.out.mono fun a x hx => ht a x (sees_step HSk.out a x hx)) rfl (.nil _)) : Nd R (.iface 110 (.pointer (some ⟨w1.heap.size + 1, 0, none⟩))) (.mk none (ts ++ [])))
theorem f50_4 (W : World) (gm : Nat) (nm : ByteArray) (vi vf : Value) (N b : Nat) (xo : Int) (xt : ByteArray) (vk : Int) (vn : Bool) (vb : Nat) (vt : ByteArray) (a1 a2 a3 a4 : Option Addr) (n1 n2 n3 n4 m1 m2 m3 m4 : Nat) (a : Option Addr) (n c : Nat) (ts : List Tr) (w : World) (h : Mk W gm nm vi vf N w) (hb : b ≤ w.heap.size) (hR : RowQ 0 ts (Sees w (New b gm vi vf w)) (.slice a n c)) :
  Calls Tryz.prog 50 #[.pointer (some ⟨gm, 0, none⟩), .agg #[.int .i64 4, .int .i64 xo, .string xt, .int .i64 vk, .bool vn, .slice a1 n1 m1, .int .u64 vb, .string vt, .slice a2 n2 m2, .slice a3 n3 m3, .slice a4 n4 m4], .slice a n c] w (MadeB W gm nm N vi vf b w fun R v => Nd R v (.mk none ts)) := by
 obtain ⟨_, _, _, hv, hlen, hcap, hcap2, hds⟩ := hR
 cases hv
 subst hlen
 have HM := Lib.hid h
 have HB := Lib.hid hb
 have HDS := Lib.hid hds
 clear h hb hds
 go_enter Tryz.func50, Tryz.ntmps50
 go_wp2_with fail
 refine (f33_mk W gm nm vi vf N _ (HM.out.after bA)).mono ?_
 rintro e w1 ⟨l0, rfl, hb1⟩
 have hW1 : Below w.heap.size w w1 := bA.trans (hb1.mono (by simp))
 have k0 : ∀ j, j < 11 → w1.cell? ⟨w.heap.size, j, none⟩ = (w.alloc (.cells #[.int .i64 4, .int .i64 xo, .string xt, .int .i64 vk, .bool vn, .slice a1 n1 m1, .int .u64 vb, .string vt, .slice a2 n2 m2, .slice a3 n3 m3, .slice a4 n4 m4] 164)).cell? ⟨w.heap.size, j, none⟩ := fun j _ => hb1.cell (p := ⟨w.heap.size, j, none⟩) (lt1 _ _)
 have b0 : w1.cell? ⟨w.heap.size, 0, none⟩ = some (.int .i64 4) := (k0 0 (by decide)).trans (by simp [go_sem])
 have b1 : w1.cell? ⟨w.heap.size, 1, none⟩ = some (.int .i64 xo) := (k0 1 (by decide)).trans (by simp [go_sem])
 have hs1 : w.heap.size < w1.heap.size := Nat.lt_of_lt_of_le (lt1 _ _) hb1.size
 have HW1 := Lib.hid hW1
 have HM1 := Lib.hid (HM.out.after hW1)
 have HS1 := Lib.hid hs1
 clear hW1 k0 hb1
 go_wp2
 go_ret
 have HSk : Hid (Stp gm vi vf w vi vf w1) := Lib.hid (Stp.of_below HW1.out)
 exact made_new HM1.out HSk.out (Nat.le_trans HB.out HSk.out.size) (bA.alloc (Nat.le_of_lt (lt1 _ _)) _) (g := w1.heap.size + 1) (Nat.le_succ _) ((new2 w1 _ _)) fun R hc ht => by simpa using (Nd.other 137 _ [(4, .row 0)] _ rfl (.row _ 4 0 _ _ _ _ _ _ (hc 4 _ rfl) (HDS.out.mono fun a x hx => ht a x (sees_step HSk.out a x hx)) rfl (.nil _)) : Nd R (.iface 137 (.pointer (some ⟨w1.heap.size + 1, 0, none⟩))) (.mk none (ts ++ [])))
theorem f50_6 (W : World) (gm : Nat) (nm : ByteArray) (vi vf : Value) (N b : Nat) (xo : Int) (xt : ByteArray) (vk : Int) (vn : Bool) (vb : Nat) (vt : ByteArray) (a1 a2 a3 a4 : Option Addr) (n1 n2 n3 n4 m1 m2 m3 m4 : Nat) (a : Option Addr) (n c : Nat) (t0 : Tr) (w : World) (ho1 : 19 ≤ xo) (ho2 : xo ≤ 22) (h : Mk W gm nm vi vf N w) (hb : b ≤ w.heap.size) (hR : RowQ 0 [t0] (Sees w (New b gm vi vf w)) (.slice a n c)) :
  Calls Tryz.prog 50 #[.pointer (some ⟨gm, 0, none⟩), .agg #[.int .i64 6, .int .i64 xo, .string xt, .int .i64 vk, .bool vn, .slice a1 n1 m1, .int .u64 vb, .string vt, .slice a2 n2 m2, .slice a3 n3 m3, .slice a4 n4 m4], .slice a n c] w (MadeB W gm nm N vi vf b w fun R v => Nd R v (.mk none [t0])) := by
 obtain ⟨_, _, _, hv, hlen, hcap, hcap2, hds⟩ := hR
 cases hv
 obtain rfl : n = 1 := hlen
 obtain ⟨g0, i0, x0, rfl, hx0, hd0⟩ := hds.cell 0 (by simp)
 have c0 : w.cell? ⟨g0, i0, none⟩ = some x0 := hx0.2
 have hgl : g0 < w.heap.size := hx0.1.2.1
 have HG0 := Lib.hid hx0.1.2
 obtain ⟨T0, p0, rfl⟩ : ∃ T p, x0 = .iface T p := Nd.if0 hd0
 have HD0 : Hid (Nd (Sees w (New b gm vi vf w)) (.iface T0 p0) t0) := Lib.hid hd0
 clear hx0 hd0
 have HM := Lib.hid h
 have HB := Lib.hid hb
 have HDS := Lib.hid hds
 clear h hb hds
 go_enter Tryz.func50, Tryz.ntmps50
 go_wp2_with fail
 refine (f33_mk W gm nm vi vf N _ (HM.out.after bA)).mono ?_
 rintro e w1 ⟨l0, rfl, hb1⟩
 have hW1 : Below w.heap.size w w1 := bA.trans (hb1.mono (by simp))
 have k0 : ∀ j, j < 11 → w1.cell? ⟨w.heap.size, j, none⟩ = (w.alloc (.cells #[.int .i64 6, .int .i64 xo, .string xt, .int .i64 vk, .bool vn, .slice a1 n1 m1, .int .u64 vb, .string vt, .slice a2 n2 m2, .slice a3 n3 m3, .slice a4 n4 m4] 164)).cell? ⟨w.heap.size, j, none⟩ := fun j _ => hb1.cell (p := ⟨w.heap.size, j, none⟩) (lt1 _ _)
 have b0 : w1.cell? ⟨w.heap.size, 0, none⟩ = some (.int .i64 6) := (k0 0 (by decide)).trans (by simp [go_sem])
 have b1 : w1.cell? ⟨w.heap.size, 1, none⟩ = some (.int .i64 xo) := (k0 1 (by decide)).trans (by simp [go_sem])
 have hs1 : w.heap.size < w1.heap.size := Nat.lt_of_lt_of_le (lt1 _ _) hb1.size
 have c0' : w1.cell? ⟨g0, i0, none⟩ = some (.iface T0 p0) := (hW1.cell (p := ⟨g0, i0, none⟩) hgl).trans c0
 have hgl1 : g0 < w1.heap.size := Nat.lt_trans hgl hs1
 clear hgl c0
 have HW1 := Lib.hid hW1
 have HM1 := Lib.hid (HM.out.after hW1)
 have HS1 := Lib.hid hs1
 clear hW1 k0 hb1
 go_wp2_with fail
 refine (f56_any xo ho1 ho2 _).mono ?_
 rintro e w2 ⟨tk, rfl, hb2⟩
 have hQ : Below w1.heap.size w1 w2 := bA.trans (hb2.mono (by simp))
 have kP : ∀ j, j < 3 → w2.cell? ⟨w1.heap.size, j, none⟩ = (w1.alloc (.cells #[.pointer (some ⟨gm, 0, none⟩), .int .i32 l0, .int .i32 1] 60)).cell? ⟨w1.heap.size, j, none⟩ := fun j _ => hb2.cell (p := ⟨w1.heap.size, j, none⟩) (lt1 _ _)
 have d0 : w2.cell? ⟨w1.heap.size, 0, none⟩ = some (.pointer (some ⟨gm, 0, none⟩)) := (kP 0 (by decide)).trans (by simp [go_sem])
 have d1 : w2.cell? ⟨w1.heap.size, 1, none⟩ = some (.int .i32 l0) := (kP 1 (by decide)).trans (by simp [go_sem])
 have d2 : w2.cell? ⟨w1.heap.size, 2, none⟩ = some (.int .i32 1) := (kP 2 (by decide)).trans (by simp [go_sem])
 have hs2 : w1.heap.size < w2.heap.size := Nat.lt_of_lt_of_le (lt1 _ _) hb2.size
 have bb0 := (hQ.cell (p := ⟨w.heap.size, 0, none⟩) HS1.out).trans b0
 have bb1 := (hQ.cell (p := ⟨w.heap.size, 1, none⟩) HS1.out).trans b1
 have e0 := (hQ.cell (p := ⟨g0, i0, none⟩) hgl1).trans c0'
 have hgl2 : g0 < w2.heap.size := Nat.lt_trans hgl1 hs2
 have HQ2 := Lib.hid hQ
 have HS2 := Lib.hid hs2
 clear hQ kP hs2 hgl1 hb2 c0' b0 b1
 have HM2 := Lib.hid (HM1.out.after HQ2.out)
 go_wp2_with fail
 refine (f34_mk W gm nm vi vf N w2 HM2.out).mono ?_
 rintro e w3 ⟨rfl, hM3, hS3⟩
 have HM3 := Lib.hid hM3
 have HS3' := Lib.hid hS3
 have hsafe : Safe gm vi vf w2 w1.heap.size := HM1.out.safe_new (Nat.le_refl _) HS2.out
 have q0 := (hS3.cell (a := ⟨w1.heap.size, 0, none⟩) hsafe).trans (by assumption)
 have q1 := (hS3.cell (a := ⟨w1.heap.size, 1, none⟩) hsafe).trans (by assumption)
 have q2 := (hS3.cell (a := ⟨w1.heap.size, 2, none⟩) hsafe).trans (by assumption)
 have hsg : Safe gm vi vf w2 g0 := ((Stp.of_below (gm := gm) (vi := vi) (vf := vf) HW1.out).trans (Stp.of_below HQ2.out)).keep g0 HG0.out |>.1
 have r0 := (hS3.cell (a := ⟨g0, i0, none⟩) hsg).trans (by assumption)
 have hgl3 : g0 < w3.heap.size := (hS3.keep g0 hsg).1.1
 have hpl3 : w1.heap.size < w3.heap.size := (hS3.keep _ hsafe).1.1
 have HG3 := Lib.hid (hS3.keep _ hsafe).1
 clear hM3 hS3 hsafe hsg hgl2
 go_wp2_with fail
 go_region_held3 (fun w' => w'.cell? ⟨w1.heap.size, 0, none⟩ = some (.pointer (some ⟨gm, 0, none⟩)) ∧ w'.cell? ⟨w1.heap.size, 1, none⟩ = some (.int .i32 l0) ∧ w'.cell? ⟨w1.heap.size, 2, none⟩ = some (.int .i32 1) ∧ w'.cell? ⟨g0, i0, none⟩ = some (.iface T0 p0)) (go_keep) (fail)
 all_goals go_wp2
 all_goals go_ret
 have HSk : Hid (Stp gm vi vf w vi vf w3) := Lib.hid (((Stp.of_below HW1.out).trans (Stp.of_below HQ2.out)).trans HS3'.out)
 exact made_new HM3.out HSk.out (Nat.le_trans HB.out HSk.out.size) (Below.drewed bA) (g := w3.heap.size) (Nat.le_refl _) (heap_alloc_new w3 _) fun R hc ht => .other 143 _ [(5, .opt)] _ rfl (.opt _ 5 _ _ _ _ (hc 5 _ rfl) (HD0.out.mono fun a x hx => ht a x (sees_step HSk.out a x hx)) (.nil _))
theorem f50_7 (W : World) (gm : Nat) (nm : ByteArray) (vi vf : Value) (N b : Nat) (xo : Int) (xt : ByteArray) (vk : Int) (vn : Bool) (vb : Nat) (vt : ByteArray) (a1 a2 a3 a4 : Option Addr) (n1 n2 n3 n4 m1 m2 m3 m4 : Nat) (a : Option Addr) (n c : Nat) (t0 t1 : Tr) (w : World) (ho1 : 0 ≤ xo) (ho2 : xo ≤ 18) (h : Mk W gm nm vi vf N w) (hb : b ≤ w.heap.size) (hR : RowQ 0 [t0, t1] (Sees w (New b gm vi vf w)) (.slice a n c)) :
  Calls Tryz.prog 50 #[.pointer (some ⟨gm, 0, none⟩), .agg #[.int .i64 7, .int .i64 xo, .string xt, .int .i64 vk, .bool vn, .slice a1 n1 m1, .int .u64 vb, .string vt, .slice a2 n2 m2, .slice a3 n3 m3, .slice a4 n4 m4], .slice a n c] w (MadeB W gm nm N vi vf b w fun R v => Nd R v (.mk none [t0, t1])) := by
 obtain ⟨_, _, _, hv, hlen, hcap, hcap2, hds⟩ := hR
 cases hv
 obtain rfl : n = 2 := hlen
 obtain ⟨g0, i0, x0, rfl, hx0, hd0⟩ := hds.cell 0 (by simp)
 obtain ⟨_, _, x1, he, hx1, hd1⟩ := hds.cell 1 (by simp)
 cases he
 have c0 : w.cell? ⟨g0, i0, none⟩ = some x0 := hx0.2
 have c1 : w.cell? ⟨g0, i0 + 1, none⟩ = some x1 := hx1.2
 have hgl : g0 < w.heap.size := hx0.1.2.1
 have HG0 := Lib.hid hx0.1.2
 obtain ⟨T0, p0, rfl⟩ : ∃ T p, x0 = .iface T p := Nd.if0 hd0
 have HD0 : Hid (Nd (Sees w (New b gm vi vf w)) (.iface T0 p0) t0) := Lib.hid hd0
 obtain ⟨T1, p1, rfl⟩ : ∃ T p, x1 = .iface T p := Nd.if0 hd1
 have HD1 : Hid (Nd (Sees w (New b gm vi vf w)) (.iface T1 p1) t1) := Lib.hid hd1
 clear hx0 hd0 hx1 hd1
 have HM := Lib.hid h
 have HB := Lib.hid hb
 have HDS := Lib.hid hds
 clear h hb hds
 go_enter Tryz.func50, Tryz.ntmps50
 go_wp2_with fail
 refine (f33_mk W gm nm vi vf N _ (HM.out.after bA)).mono ?_
 rintro e w1 ⟨l0, rfl, hb1⟩
 have hW1 : Below w.heap.size w w1 := bA.trans (hb1.mono (by simp))
 have k0 : ∀ j, j < 11 → w1.cell? ⟨w.heap.size, j, none⟩ = (w.alloc (.cells #[.int .i64 7, .int .i64 xo, .string xt, .int .i64 vk, .bool vn, .slice a1 n1 m1, .int .u64 vb, .string vt, .slice a2 n2 m2, .slice a3 n3 m3, .slice a4 n4 m4] 164)).cell? ⟨w.heap.size, j, none⟩ := fun j _ => hb1.cell (p := ⟨w.heap.size, j, none⟩) (lt1 _ _)
 have b0 : w1.cell? ⟨w.heap.size, 0, none⟩ = some (.int .i64 7) := (k0 0 (by decide)).trans (by simp [go_sem])
 have b1 : w1.cell? ⟨w.heap.size, 1, none⟩ = some (.int .i64 xo) := (k0 1 (by decide)).trans (by simp [go_sem])
 have hs1 : w.heap.size < w1.heap.size := Nat.lt_of_lt_of_le (lt1 _ _) hb1.size
 have c0' : w1.cell? ⟨g0, i0, none⟩ = some (.iface T0 p0) := (hW1.cell (p := ⟨g0, i0, none⟩) hgl).trans c0
 have c1' : w1.cell? ⟨g0, i0 + 1, none⟩ = some (.iface T1 p1) := (hW1.cell (p := ⟨g0, i0 + 1, none⟩) hgl).trans c1
 have hgl1 : g0 < w1.heap.size := Nat.lt_trans hgl hs1
 clear hgl c0 c1
 have HW1 := Lib.hid hW1
 have HM1 := Lib.hid (HM.out.after hW1)
 have HS1 := Lib.hid hs1
 clear hW1 k0 hb1
 by_cases ho3 : xo ≤ 12
 ·go_wp2_with fail
  refine (f57_yes xo ho1 ho3 _).mono ?_
  rintro e w2 ⟨tk, rfl, hb2⟩
  have hQ : Below w1.heap.size w1 w2 := bA.trans (hb2.mono (by simp))
  have kP : ∀ j, j < 3 → w2.cell? ⟨w1.heap.size, j, none⟩ = (w1.alloc (.cells #[.pointer (some ⟨gm, 0, none⟩), .int .i32 l0, .int .i32 1] 60)).cell? ⟨w1.heap.size, j, none⟩ := fun j _ => hb2.cell (p := ⟨w1.heap.size, j, none⟩) (lt1 _ _)
  have d0 : w2.cell? ⟨w1.heap.size, 0, none⟩ = some (.pointer (some ⟨gm, 0, none⟩)) := (kP 0 (by decide)).trans (by simp [go_sem])
  have d1 : w2.cell? ⟨w1.heap.size, 1, none⟩ = some (.int .i32 l0) := (kP 1 (by decide)).trans (by simp [go_sem])
  have d2 : w2.cell? ⟨w1.heap.size, 2, none⟩ = some (.int .i32 1) := (kP 2 (by decide)).trans (by simp [go_sem])
  have hs2 : w1.heap.size < w2.heap.size := Nat.lt_of_lt_of_le (lt1 _ _) hb2.size
  have bb0 := (hQ.cell (p := ⟨w.heap.size, 0, none⟩) HS1.out).trans b0
  have bb1 := (hQ.cell (p := ⟨w.heap.size, 1, none⟩) HS1.out).trans b1
  have e0 := (hQ.cell (p := ⟨g0, i0, none⟩) hgl1).trans c0'
  have e1 := (hQ.cell (p := ⟨g0, i0 + 1, none⟩) hgl1).trans c1'
  have hgl2 : g0 < w2.heap.size := Nat.lt_trans hgl1 hs2
  have HQ2 := Lib.hid hQ
  have HS2 := Lib.hid hs2
  clear hQ kP hs2 hgl1 hb2 c0' c1' b0 b1
  have HM2 := Lib.hid (HM1.out.after HQ2.out)
  go_wp2_with fail
  refine (f34_mk W gm nm vi vf N w2 HM2.out).mono ?_
  rintro e w3 ⟨rfl, hM3, hS3⟩
  have HM3 := Lib.hid hM3
  have HS3' := Lib.hid hS3
  have hsafe : Safe gm vi vf w2 w1.heap.size := HM1.out.safe_new (Nat.le_refl _) HS2.out
  have q0 := (hS3.cell (a := ⟨w1.heap.size, 0, none⟩) hsafe).trans (by assumption)
  have q1 := (hS3.cell (a := ⟨w1.heap.size, 1, none⟩) hsafe).trans (by assumption)
  have q2 := (hS3.cell (a := ⟨w1.heap.size, 2, none⟩) hsafe).trans (by assumption)
  have hsg : Safe gm vi vf w2 g0 := ((Stp.of_below (gm := gm) (vi := vi) (vf := vf) HW1.out).trans (Stp.of_below HQ2.out)).keep g0 HG0.out |>.1
  have r0 := (hS3.cell (a := ⟨g0, i0, none⟩) hsg).trans (by assumption)
  have r1 := (hS3.cell (a := ⟨g0, i0 + 1, none⟩) hsg).trans (by assumption)
  have hgl3 : g0 < w3.heap.size := (hS3.keep g0 hsg).1.1
  have hpl3 : w1.heap.size < w3.heap.size := (hS3.keep _ hsafe).1.1
  have HG3 := Lib.hid (hS3.keep _ hsafe).1
  clear hM3 hS3 hsafe hsg hgl2
  go_wp2_with fail
  go_region_held3 (fun w' => w'.cell? ⟨w1.heap.size, 0, none⟩ = some (.pointer (some ⟨gm, 0, none⟩)) ∧ w'.cell? ⟨w1.heap.size, 1, none⟩ = some (.int .i32 l0) ∧ w'.cell? ⟨w1.heap.size, 2, none⟩ = some (.int .i32 1) ∧ w'.cell? ⟨g0, i0, none⟩ = some (.iface T0 p0) ∧ w'.cell? ⟨g0, i0 + 1, none⟩ = some (.iface T1 p1)) (go_keep) (fail)
  all_goals go_wp2
  all_goals go_ret
  have HSk : Hid (Stp gm vi vf w vi vf w3) := Lib.hid (((Stp.of_below HW1.out).trans (Stp.of_below HQ2.out)).trans HS3'.out)
  exact made_new HM3.out HSk.out (Nat.le_trans HB.out HSk.out.size) (Below.drewed bA) (g := w3.heap.size) (Nat.le_refl _) (heap_alloc_new w3 _) fun R hc ht => .other 146 _ [(1, .node), (6, .node)] _ rfl (.node _ 1 _ _ _ _ (hc 1 _ rfl) (HD0.out.mono fun a x hx => ht a x (sees_step HSk.out a x hx)) (.node _ 6 _ _ _ _ (hc 6 _ rfl) (HD1.out.mono fun a x hx => ht a x (sees_step HSk.out a x hx)) (.nil _)))
 ·have ho4 : 13 ≤ xo := by omega
  go_wp2_with fail
  refine (f57_no xo ho4 ho2 _).mono ?_
  rintro e wT ⟨rfl, hbT⟩
  have hQ : Below w1.heap.size w1 wT := bA.trans (hbT.mono (by simp))
  have kP : ∀ j, j < 3 → wT.cell? ⟨w1.heap.size, j, none⟩ = (w1.alloc (.cells #[.pointer (some ⟨gm, 0, none⟩), .int .i32 l0, .int .i32 1] 60)).cell? ⟨w1.heap.size, j, none⟩ := fun j _ => hbT.cell (p := ⟨w1.heap.size, j, none⟩) (lt1 _ _)
  have d0 : wT.cell? ⟨w1.heap.size, 0, none⟩ = some (.pointer (some ⟨gm, 0, none⟩)) := (kP 0 (by decide)).trans (by simp [go_sem])
  have d1 : wT.cell? ⟨w1.heap.size, 1, none⟩ = some (.int .i32 l0) := (kP 1 (by decide)).trans (by simp [go_sem])
  have d2 : wT.cell? ⟨w1.heap.size, 2, none⟩ = some (.int .i32 1) := (kP 2 (by decide)).trans (by simp [go_sem])
  have hs2 : w1.heap.size < wT.heap.size := Nat.lt_of_lt_of_le (lt1 _ _) hbT.size
  have bb0 := (hQ.cell (p := ⟨w.heap.size, 0, none⟩) HS1.out).trans b0
  have bb1 := (hQ.cell (p := ⟨w.heap.size, 1, none⟩) HS1.out).trans b1
  have e0 := (hQ.cell (p := ⟨g0, i0, none⟩) hgl1).trans c0'
  have e1 := (hQ.cell (p := ⟨g0, i0 + 1, none⟩) hgl1).trans c1'
  have hgl2 : g0 < wT.heap.size := Nat.lt_trans hgl1 hs2
  have HQ2 := Lib.hid hQ
  have HS2 := Lib.hid hs2
  clear hQ kP hs2 hgl1 hbT c0' c1' b0 b1
  go_wp2_with fail
  refine (f58_any xo ho4 ho2 _).mono ?_
  rintro e w2 ⟨tk, rfl, hb2⟩
  have hQ : Below wT.heap.size wT w2 := hb2
  have f0 := (hQ.cell (p := ⟨w1.heap.size, 0, none⟩) HS2.out).trans d0
  have f1 := (hQ.cell (p := ⟨w1.heap.size, 1, none⟩) HS2.out).trans d1
  have f2 := (hQ.cell (p := ⟨w1.heap.size, 2, none⟩) HS2.out).trans d2
  have ee0 := (hQ.cell (p := ⟨g0, i0, none⟩) hgl2).trans e0
  have ee1 := (hQ.cell (p := ⟨g0, i0 + 1, none⟩) hgl2).trans e1
  have hgl3 : g0 < w2.heap.size := Nat.lt_of_lt_of_le hgl2 hQ.size
  have HQ3 := Lib.hid (HQ2.out.trans (hQ.mono HQ2.out.size))
  have HS3 : Hid (w1.heap.size < w2.heap.size) := Lib.hid (Nat.lt_of_lt_of_le HS2.out hQ.size)
  clear hQ hgl2 hb2 bb0 bb1 d0 d1 d2 e0 e1
  have HQ2 := HQ3
  have HS2 := HS3
  have hgl2 := hgl3
  clear hgl3
  have HM2 := Lib.hid (HM1.out.after HQ2.out)
  go_wp2_with fail
  refine (f34_mk W gm nm vi vf N w2 HM2.out).mono ?_
  rintro e w3 ⟨rfl, hM3, hS3⟩
  have HM3 := Lib.hid hM3
  have HS3' := Lib.hid hS3
  have hsafe : Safe gm vi vf w2 w1.heap.size := HM1.out.safe_new (Nat.le_refl _) HS2.out
  have q0 := (hS3.cell (a := ⟨w1.heap.size, 0, none⟩) hsafe).trans (by assumption)
  have q1 := (hS3.cell (a := ⟨w1.heap.size, 1, none⟩) hsafe).trans (by assumption)
  have q2 := (hS3.cell (a := ⟨w1.heap.size, 2, none⟩) hsafe).trans (by assumption)
  have hsg : Safe gm vi vf w2 g0 := ((Stp.of_below (gm := gm) (vi := vi) (vf := vf) HW1.out).trans (Stp.of_below HQ2.out)).keep g0 HG0.out |>.1
  have r0 := (hS3.cell (a := ⟨g0, i0, none⟩) hsg).trans (by assumption)
  have r1 := (hS3.cell (a := ⟨g0, i0 + 1, none⟩) hsg).trans (by assumption)
  have hgl3 : g0 < w3.heap.size := (hS3.keep g0 hsg).1.1
  have hpl3 : w1.heap.size < w3.heap.size := (hS3.keep _ hsafe).1.1
  have HG3 := Lib.hid (hS3.keep _ hsafe).1
  clear hM3 hS3 hsafe hsg hgl2
  go_wp2_with fail
  go_region_held3 (fun w' => w'.cell? ⟨w1.heap.size, 0, none⟩ = some (.pointer (some ⟨gm, 0, none⟩)) ∧ w'.cell? ⟨w1.heap.size, 1, none⟩ = some (.int .i32 l0) ∧ w'.cell? ⟨w1.heap.size, 2, none⟩ = some (.int .i32 1) ∧ w'.cell? ⟨g0, i0, none⟩ = some (.iface T0 p0) ∧ w'.cell? ⟨g0, i0 + 1, none⟩ = some (.iface T1 p1)) (go_keep) (fail)
  all_goals go_wp2
  all_goals go_ret
  have HSk : Hid (Stp gm vi vf w vi vf w3) := Lib.hid (((Stp.of_below HW1.out).trans (Stp.of_below HQ2.out)).trans HS3'.out)
  exact made_new HM3.out HSk.out (Nat.le_trans HB.out HSk.out.size) (Below.drewed bA) (g := w3.heap.size) (Nat.le_refl _) (heap_alloc_new w3 _) fun R hc ht => .other 146 _ [(1, .node), (6, .node)] _ rfl (.node _ 1 _ _ _ _ (hc 1 _ rfl) (HD0.out.mono fun a x hx => ht a x (sees_step HSk.out a x hx)) (.node _ 6 _ _ _ _ (hc 6 _ rfl) (HD1.out.mono fun a x hx => ht a x (sees_step HSk.out a x hx)) (.nil _)))
theorem f50_8 (W : World) (gm : Nat) (nm : ByteArray) (vi vf : Value) (N b : Nat) (xo : Int) (xt : ByteArray) (vk : Int) (vn : Bool) (vb : Nat) (vt : ByteArray) (a1 a2 a3 a4 : Option Addr) (n1 n2 n3 n4 m1 m2 m3 m4 : Nat) (a : Option Addr) (n c : Nat) (t0 t1 : Tr) (w : World) (h : Mk W gm nm vi vf N w) (hb : b ≤ w.heap.size) (hR : RowQ 0 [t0, t1] (Sees w (New b gm vi vf w)) (.slice a n c)) :
  Calls Tryz.prog 50 #[.pointer (some ⟨gm, 0, none⟩), .agg #[.int .i64 8, .int .i64 xo, .string xt, .int .i64 vk, .bool vn, .slice a1 n1 m1, .int .u64 vb, .string vt, .slice a2 n2 m2, .slice a3 n3 m3, .slice a4 n4 m4], .slice a n c] w (MadeB W gm nm N vi vf b w fun R v => Nd R v (.mk none [t0, t1])) := by
 obtain ⟨_, _, _, hv, hlen, hcap, hcap2, hds⟩ := hR
 cases hv
 obtain rfl : n = 2 := hlen
 obtain ⟨g0, i0, x0, rfl, hx0, hd0⟩ := hds.cell 0 (by simp)
 obtain ⟨_, _, x1, he, hx1, hd1⟩ := hds.cell 1 (by simp)
 cases he
 have c0 : w.cell? ⟨g0, i0, none⟩ = some x0 := hx0.2
 have c1 : w.cell? ⟨g0, i0 + 1, none⟩ = some x1 := hx1.2
 have hgl : g0 < w.heap.size := hx0.1.2.1
 have HG0 := Lib.hid hx0.1.2
 obtain ⟨T0, p0, rfl⟩ : ∃ T p, x0 = .iface T p := Nd.if0 hd0
 have HD0 : Hid (Nd (Sees w (New b gm vi vf w)) (.iface T0 p0) t0) := Lib.hid hd0
 obtain ⟨T1, p1, rfl⟩ : ∃ T p, x1 = .iface T p := Nd.if0 hd1
 have HD1 : Hid (Nd (Sees w (New b gm vi vf w)) (.iface T1 p1) t1) := Lib.hid hd1
 clear hx0 hd0 hx1 hd1
 have HM := Lib.hid h
 have HB := Lib.hid hb
 have HDS := Lib.hid hds
 clear h hb hds
 go_enter Tryz.func50, Tryz.ntmps50
 go_wp2_with fail
 refine (f33_mk W gm nm vi vf N _ (HM.out.after bA)).mono ?_
 rintro e w1 ⟨l0, rfl, hb1⟩
 have hW1 : Below w.heap.size w w1 := bA.trans (hb1.mono (by simp))
 have k0 : ∀ j, j < 11 → w1.cell? ⟨w.heap.size, j, none⟩ = (w.alloc (.cells #[.int .i64 8, .int .i64 xo, .string xt, .int .i64 vk, .bool vn, .slice a1 n1 m1, .int .u64 vb, .string vt, .slice a2 n2 m2, .slice a3 n3 m3, .slice a4 n4 m4] 164)).cell? ⟨w.heap.size, j, none⟩ := fun j _ => hb1.cell (p := ⟨w.heap.size, j, none⟩) (lt1 _ _)
 have b0 : w1.cell? ⟨w.heap.size, 0, none⟩ = some (.int .i64 8) := (k0 0 (by decide)).trans (by simp [go_sem])
 have b1 : w1.cell? ⟨w.heap.size, 1, none⟩ = some (.int .i64 xo) := (k0 1 (by decide)).trans (by simp [go_sem])
 have hs1 : w.heap.size < w1.heap.size := Nat.lt_of_lt_of_le (lt1 _ _) hb1.size
 have c0' : w1.cell? ⟨g0, i0, none⟩ = some (.iface T0 p0) := (hW1.cell (p := ⟨g0, i0, none⟩) hgl).trans c0
 have c1' : w1.cell? ⟨g0, i0 + 1, none⟩ = some (.iface T1 p1) := (hW1.cell (p := ⟨g0, i0 + 1, none⟩) hgl).trans c1
 have hgl1 : g0 < w1.heap.size := Nat.lt_trans hgl hs1
 clear hgl c0 c1
 have HW1 := Lib.hid hW1
 have HM1 := Lib.hid (HM.out.after hW1)
 have HS1 := Lib.hid hs1
 clear hW1 k0 hb1
 go_wp2_with fail
 go_region_held3 (fun w' => w'.cell? ⟨w1.heap.size, 0, none⟩ = some (.pointer (some ⟨gm, 0, none⟩)) ∧ w'.cell? ⟨w1.heap.size, 1, none⟩ = some (.int .i32 l0) ∧ w'.cell? ⟨w1.heap.size, 2, none⟩ = some (.int .i32 1) ∧ w'.cell? ⟨g0, i0, none⟩ = some (.iface T0 p0) ∧ w'.cell? ⟨g0, i0 + 1, none⟩ = some (.iface T1 p1)) (go_keep) (fail)
 all_goals go_wp2
 all_goals go_ret
 have HSk : Hid (Stp gm vi vf w vi vf w1) := Lib.hid (Stp.of_below HW1.out)
 exact made_new HM1.out HSk.out (Nat.le_trans HB.out HSk.out.size) (Below.drewed (bA.alloc (Nat.le_of_lt (lt1 _ _)) _)) (g := w1.heap.size + 1) (Nat.le_succ _) ((new2 w1 _ _)) fun R hc ht => .other 146 _ [(1, .node), (6, .node)] _ rfl (.node _ 1 _ _ _ _ (hc 1 _ rfl) (HD0.out.mono fun a x hx => ht a x (sees_step HSk.out a x hx)) (.node _ 6 _ _ _ _ (hc 6 _ rfl) (HD1.out.mono fun a x hx => ht a x (sees_step HSk.out a x hx)) (.nil _)))
theorem f50_9 (W : World) (gm : Nat) (nm : ByteArray) (vi vf : Value) (N b : Nat) (xo : Int) (xt : ByteArray) (vk : Int) (vn : Bool) (vb : Nat) (vt : ByteArray) (a1 a2 a3 a4 : Option Addr) (n1 n2 n3 n4 m1 m2 m3 m4 : Nat) (a : Option Addr) (n c : Nat) (t0 t1 : Tr) (w : World) (h : Mk W gm nm vi vf N w) (hb : b ≤ w.heap.size) (hR : RowQ 0 [t0, t1] (Sees w (New b gm vi vf w)) (.slice a n c)) :
  Calls Tryz.prog 50 #[.pointer (some ⟨gm, 0, none⟩), .agg #[.int .i64 9, .int .i64 xo, .string xt, .int .i64 vk, .bool vn, .slice a1 n1 m1, .int .u64 vb, .string vt, .slice a2 n2 m2, .slice a3 n3 m3, .slice a4 n4 m4], .slice a n c] w (MadeB W gm nm N vi vf b w fun R v => Nd R v (.mk none [t0, t1])) := by
 obtain ⟨_, _, _, hv, hlen, hcap, hcap2, hds⟩ := hR
 cases hv
 obtain rfl : n = 2 := hlen
 obtain ⟨g0, i0, x0, rfl, hx0, hd0⟩ := hds.cell 0 (by simp)
 obtain ⟨_, _, x1, he, hx1, hd1⟩ := hds.cell 1 (by simp)
 cases he
 have c0 : w.cell? ⟨g0, i0, none⟩ = some x0 := hx0.2
 have c1 : w.cell? ⟨g0, i0 + 1, none⟩ = some x1 := hx1.2
 have hgl : g0 < w.heap.size := hx0.1.2.1
 have HG0 := Lib.hid hx0.1.2
 obtain ⟨T0, p0, rfl⟩ : ∃ T p, x0 = .iface T p := Nd.if0 hd0
 have HD0 : Hid (Nd (Sees w (New b gm vi vf w)) (.iface T0 p0) t0) := Lib.hid hd0
 obtain ⟨T1, p1, rfl⟩ : ∃ T p, x1 = .iface T p := Nd.if0 hd1
 have HD1 : Hid (Nd (Sees w (New b gm vi vf w)) (.iface T1 p1) t1) := Lib.hid hd1
 clear hx0 hd0 hx1 hd1
 have HM := Lib.hid h
 have HB := Lib.hid hb
 have HDS := Lib.hid hds
 clear h hb hds
 go_enter Tryz.func50, Tryz.ntmps50
 go_wp2_with fail
 refine (f33_mk W gm nm vi vf N _ (HM.out.after bA)).mono ?_
 rintro e w1 ⟨l0, rfl, hb1⟩
 have hW1 : Below w.heap.size w w1 := bA.trans (hb1.mono (by simp))
 have k0 : ∀ j, j < 11 → w1.cell? ⟨w.heap.size, j, none⟩ = (w.alloc (.cells #[.int .i64 9, .int .i64 xo, .string xt, .int .i64 vk, .bool vn, .slice a1 n1 m1, .int .u64 vb, .string vt, .slice a2 n2 m2, .slice a3 n3 m3, .slice a4 n4 m4] 164)).cell? ⟨w.heap.size, j, none⟩ := fun j _ => hb1.cell (p := ⟨w.heap.size, j, none⟩) (lt1 _ _)
 have b0 : w1.cell? ⟨w.heap.size, 0, none⟩ = some (.int .i64 9) := (k0 0 (by decide)).trans (by simp [go_sem])
 have b1 : w1.cell? ⟨w.heap.size, 1, none⟩ = some (.int .i64 xo) := (k0 1 (by decide)).trans (by simp [go_sem])
 have hs1 : w.heap.size < w1.heap.size := Nat.lt_of_lt_of_le (lt1 _ _) hb1.size
 have c0' : w1.cell? ⟨g0, i0, none⟩ = some (.iface T0 p0) := (hW1.cell (p := ⟨g0, i0, none⟩) hgl).trans c0
 have c1' : w1.cell? ⟨g0, i0 + 1, none⟩ = some (.iface T1 p1) := (hW1.cell (p := ⟨g0, i0 + 1, none⟩) hgl).trans c1
 have hgl1 : g0 < w1.heap.size := Nat.lt_trans hgl hs1
 clear hgl c0 c1
 have HW1 := Lib.hid hW1
 have HM1 := Lib.hid (HM.out.after hW1)
 have HS1 := Lib.hid hs1
 clear hW1 k0 hb1
 go_wp2_with fail
 go_region_held3 (fun w' => w'.cell? ⟨w1.heap.size, 0, none⟩ = some (.pointer (some ⟨gm, 0, none⟩)) ∧ w'.cell? ⟨w1.heap.size, 1, none⟩ = some (.int .i32 l0) ∧ w'.cell? ⟨w1.heap.size, 2, none⟩ = some (.int .i32 1) ∧ w'.cell? ⟨g0, i0, none⟩ = some (.iface T0 p0) ∧ w'.cell? ⟨g0, i0 + 1, none⟩ = some (.iface T1 p1)) (go_keep) (fail)
 all_goals go_wp2
 all_goals go_ret
 have HSk : Hid (Stp gm vi vf w vi vf w1) := Lib.hid (Stp.of_below HW1.out)
 exact made_new HM1.out HSk.out (Nat.le_trans HB.out HSk.out.size) (Below.drewed (bA.alloc (Nat.le_of_lt (lt1 _ _)) _)) (g := w1.heap.size + 1) (Nat.le_succ _) ((new2 w1 _ _)) fun R hc ht => .other 146 _ [(1, .node), (6, .node)] _ rfl (.node _ 1 _ _ _ _ (hc 1 _ rfl) (HD0.out.mono fun a x hx => ht a x (sees_step HSk.out a x hx)) (.node _ 6 _ _ _ _ (hc 6 _ rfl) (HD1.out.mono fun a x hx => ht a x (sees_step HSk.out a x hx)) (.nil _)))
theorem f50_10 (W : World) (gm : Nat) (nm : ByteArray) (vi vf : Value) (N b : Nat) (xo : Int) (xt : ByteArray) (vk : Int) (vn : Bool) (vb : Nat) (vt : ByteArray) (a1 a2 a3 a4 : Option Addr) (n1 n2 n3 n4 m1 m2 m3 m4 : Nat) (a : Option Addr) (n c : Nat) (t0 t1 t2 : Tr) (w : World) (h : Mk W gm nm vi vf N w) (hb : b ≤ w.heap.size) (hR : RowQ 0 [t0, t1, t2] (Sees w (New b gm vi vf w)) (.slice a n c)) :
  Calls Tryz.prog 50 #[.pointer (some ⟨gm, 0, none⟩), .agg #[.int .i64 10, .int .i64 xo, .string xt, .int .i64 vk, .bool vn, .slice a1 n1 m1, .int .u64 vb, .string vt, .slice a2 n2 m2, .slice a3 n3 m3, .slice a4 n4 m4], .slice a n c] w (MadeB W gm nm N vi vf b w fun R v => Nd R v (.mk none [t0, t1, t2])) := by
 obtain ⟨_, _, _, hv, hlen, hcap, hcap2, hds⟩ := hR
 cases hv
 obtain rfl : n = 3 := hlen
 obtain ⟨g0, i0, x0, rfl, hx0, hd0⟩ := hds.cell 0 (by simp)
 obtain ⟨_, _, x1, he, hx1, hd1⟩ := hds.cell 1 (by simp)
 cases he
 obtain ⟨_, _, x2, he, hx2, hd2⟩ := hds.cell 2 (by simp)
 cases he
 have c0 : w.cell? ⟨g0, i0, none⟩ = some x0 := hx0.2
 have c1 : w.cell? ⟨g0, i0 + 1, none⟩ = some x1 := hx1.2
 have c2 : w.cell? ⟨g0, i0 + 2, none⟩ = some x2 := hx2.2
 have hgl : g0 < w.heap.size := hx0.1.2.1
 have HG0 := Lib.hid hx0.1.2
 obtain ⟨T0, p0, rfl⟩ : ∃ T p, x0 = .iface T p := Nd.if0 hd0
 have HD0 : Hid (Nd (Sees w (New b gm vi vf w)) (.iface T0 p0) t0) := Lib.hid hd0
 obtain ⟨T1, p1, rfl⟩ : ∃ T p, x1 = .iface T p := Nd.if0 hd1
 have HD1 : Hid (Nd (Sees w (New b gm vi vf w)) (.iface T1 p1) t1) := Lib.hid hd1
 obtain ⟨T2, p2, rfl⟩ : ∃ T p, x2 = .iface T p := Nd.if0 hd2
 have HD2 : Hid (Nd (Sees w (New b gm vi vf w)) (.iface T2 p2) t2) := Lib.hid hd2
 clear hx0 hd0 hx1 hd1 hx2 hd2
 have HM := Lib.hid h
 have HB := Lib.hid hb
 have HDS := Lib.hid hds
 clear h hb hds
 go_enter Tryz.func50, Tryz.ntmps50
 go_wp2_with fail
 refine (f33_mk W gm nm vi vf N _ (HM.out.after bA)).mono ?_
 rintro e w1 ⟨l0, rfl, hb1⟩
 have hW1 : Below w.heap.size w w1 := bA.trans (hb1.mono (by simp))
 have k0 : ∀ j, j < 11 → w1.cell? ⟨w.heap.size, j, none⟩ = (w.alloc (.cells #[.int .i64 10, .int .i64 xo, .string xt, .int .i64 vk, .bool vn, .slice a1 n1 m1, .int .u64 vb, .string vt, .slice a2 n2 m2, .slice a3 n3 m3, .slice a4 n4 m4] 164)).cell? ⟨w.heap.size, j, none⟩ := fun j _ => hb1.cell (p := ⟨w.heap.size, j, none⟩) (lt1 _ _)
 have b0 : w1.cell? ⟨w.heap.size, 0, none⟩ = some (.int .i64 10) := (k0 0 (by decide)).trans (by simp [go_sem])
 have b1 : w1.cell? ⟨w.heap.size, 1, none⟩ = some (.int .i64 xo) := (k0 1 (by decide)).trans (by simp [go_sem])
 have hs1 : w.heap.size < w1.heap.size := Nat.lt_of_lt_of_le (lt1 _ _) hb1.size
 have c0' : w1.cell? ⟨g0, i0, none⟩ = some (.iface T0 p0) := (hW1.cell (p := ⟨g0, i0, none⟩) hgl).trans c0
 have c1' : w1.cell? ⟨g0, i0 + 1, none⟩ = some (.iface T1 p1) := (hW1.cell (p := ⟨g0, i0 + 1, none⟩) hgl).trans c1
 have c2' : w1.cell? ⟨g0, i0 + 2, none⟩ = some (.iface T2 p2) := (hW1.cell (p := ⟨g0, i0 + 2, none⟩) hgl).trans c2
 have hgl1 : g0 < w1.heap.size := Nat.lt_trans hgl hs1
 clear hgl c0 c1 c2
 have HW1 := Lib.hid hW1
 have HM1 := Lib.hid (HM.out.after hW1)
 have HS1 := Lib.hid hs1
 clear hW1 k0 hb1
 go_wp2_with fail
 go_region_held3 (fun w' => w'.cell? ⟨w1.heap.size, 0, none⟩ = some (.pointer (some ⟨gm, 0, none⟩)) ∧ w'.cell? ⟨w1.heap.size, 1, none⟩ = some (.int .i32 l0) ∧ w'.cell? ⟨w1.heap.size, 2, none⟩ = some (.int .i32 1) ∧ w'.cell? ⟨g0, i0, none⟩ = some (.iface T0 p0) ∧ w'.cell? ⟨g0, i0 + 1, none⟩ = some (.iface T1 p1) ∧ w'.cell? ⟨g0, i0 + 2, none⟩ = some (.iface T2 p2)) (go_keep) (fail)
 all_goals go_wp2
 all_goals go_ret
 have HSk : Hid (Stp gm vi vf w vi vf w1) := Lib.hid (Stp.of_below HW1.out)
 exact made_new HM1.out HSk.out (Nat.le_trans HB.out HSk.out.size) (Below.drewed (bA.alloc (Nat.le_of_lt (lt1 _ _)) _)) (g := w1.heap.size + 1) (Nat.le_succ _) ((new2 w1 _ _)) fun R hc ht => .other 116 _ [(4, .node), (5, .node), (9, .node)] _ rfl (.node _ 4 _ _ _ _ (hc 4 _ rfl) (HD0.out.mono fun a x hx => ht a x (sees_step HSk.out a x hx)) (.node _ 5 _ _ _ _ (hc 5 _ rfl) (HD1.out.mono fun a x hx => ht a x (sees_step HSk.out a x hx)) (.node _ 9 _ _ _ _ (hc 9 _ rfl) (HD2.out.mono fun a x hx => ht a x (sees_step HSk.out a x hx)) (.nil _))))
theorem f50_11 (W : World) (gm : Nat) (nm : ByteArray) (vi vf : Value) (N b : Nat) (xo : Int) (xt : ByteArray) (vk : Int) (vn : Bool) (vb : Nat) (vt : ByteArray) (a1 a2 a3 a4 : Option Addr) (n1 n2 n3 n4 m1 m2 m3 m4 : Nat) (a : Option Addr) (n c : Nat) (t0 t1 : Tr) (w : World) (h : Mk W gm nm vi vf N w) (hb : b ≤ w.heap.size) (hR : RowQ 0 [t0, t1] (Sees w (New b gm vi vf w)) (.slice a n c)) :
  Calls Tryz.prog 50 #[.pointer (some ⟨gm, 0, none⟩), .agg #[.int .i64 11, .int .i64 xo, .string xt, .int .i64 vk, .bool vn, .slice a1 n1 m1, .int .u64 vb, .string vt, .slice a2 n2 m2, .slice a3 n3 m3, .slice a4 n4 m4], .slice a n c] w (MadeB W gm nm N vi vf b w fun R v => Nd R v (.mk none [t0, t1])) := by
 obtain ⟨_, _, _, hv, hlen, hcap, hcap2, hds⟩ := hR
 cases hv
 obtain rfl : n = 2 := hlen
 obtain ⟨g0, i0, x0, rfl, hx0, hd0⟩ := hds.cell 0 (by simp)
 obtain ⟨_, _, x1, he, hx1, hd1⟩ := hds.cell 1 (by simp)
 cases he
 have c0 : w.cell? ⟨g0, i0, none⟩ = some x0 := hx0.2
 have c1 : w.cell? ⟨g0, i0 + 1, none⟩ = some x1 := hx1.2
 have hgl : g0 < w.heap.size := hx0.1.2.1
 have HG0 := Lib.hid hx0.1.2
 obtain ⟨T0, p0, rfl⟩ : ∃ T p, x0 = .iface T p := Nd.if0 hd0
 have HD0 : Hid (Nd (Sees w (New b gm vi vf w)) (.iface T0 p0) t0) := Lib.hid hd0
 obtain ⟨T1, p1, rfl⟩ : ∃ T p, x1 = .iface T p := Nd.if0 hd1
 have HD1 : Hid (Nd (Sees w (New b gm vi vf w)) (.iface T1 p1) t1) := Lib.hid hd1
 clear hx0 hd0 hx1 hd1
 have HM := Lib.hid h
 have HB := Lib.hid hb
 have HDS := Lib.hid hds
 clear h hb hds
 go_enter Tryz.func50, Tryz.ntmps50
 go_wp2_with fail
 refine (f33_mk W gm nm vi vf N _ (HM.out.after bA)).mono ?_
 rintro e w1 ⟨l0, rfl, hb1⟩
 have hW1 : Below w.heap.size w w1 := bA.trans (hb1.mono (by simp))
 have k0 : ∀ j, j < 11 → w1.cell? ⟨w.heap.size, j, none⟩ = (w.alloc (.cells #[.int .i64 11, .int .i64 xo, .string xt, .int .i64 vk, .bool vn, .slice a1 n1 m1, .int .u64 vb, .string vt, .slice a2 n2 m2, .slice a3 n3 m3, .slice a4 n4 m4] 164)).cell? ⟨w.heap.size, j, none⟩ := fun j _ => hb1.cell (p := ⟨w.heap.size, j, none⟩) (lt1 _ _)
 have b0 : w1.cell? ⟨w.heap.size, 0, none⟩ = some (.int .i64 11) := (k0 0 (by decide)).trans (by simp [go_sem])
 have b1 : w1.cell? ⟨w.heap.size, 1, none⟩ = some (.int .i64 xo) := (k0 1 (by decide)).trans (by simp [go_sem])
 have hs1 : w.heap.size < w1.heap.size := Nat.lt_of_lt_of_le (lt1 _ _) hb1.size
 have c0' : w1.cell? ⟨g0, i0, none⟩ = some (.iface T0 p0) := (hW1.cell (p := ⟨g0, i0, none⟩) hgl).trans c0
 have c1' : w1.cell? ⟨g0, i0 + 1, none⟩ = some (.iface T1 p1) := (hW1.cell (p := ⟨g0, i0 + 1, none⟩) hgl).trans c1
 have hgl1 : g0 < w1.heap.size := Nat.lt_trans hgl hs1
 clear hgl c0 c1
 have HW1 := Lib.hid hW1
 have HM1 := Lib.hid (HM.out.after hW1)
 have HS1 := Lib.hid hs1
 clear hW1 k0 hb1
 go_wp2_with fail
 go_region_held3 (fun w' => w'.cell? ⟨w1.heap.size, 0, none⟩ = some (.pointer (some ⟨gm, 0, none⟩)) ∧ w'.cell? ⟨w1.heap.size, 1, none⟩ = some (.int .i32 l0) ∧ w'.cell? ⟨w1.heap.size, 2, none⟩ = some (.int .i32 1) ∧ w'.cell? ⟨g0, i0, none⟩ = some (.iface T0 p0) ∧ w'.cell? ⟨g0, i0 + 1, none⟩ = some (.iface T1 p1)) (go_keep) (fail)
 all_goals go_wp2
 all_goals go_ret
 have HSk : Hid (Stp gm vi vf w vi vf w1) := Lib.hid (Stp.of_below HW1.out)
 exact made_new HM1.out HSk.out (Nat.le_trans HB.out HSk.out.size) (Below.drewed (bA.alloc (Nat.le_of_lt (lt1 _ _)) _)) (g := w1.heap.size + 1) (Nat.le_succ _) ((new2 w1 _ _)) fun R hc ht => .other 119 _ [(1, .node), (5, .node)] _ rfl (.node _ 1 _ _ _ _ (hc 1 _ rfl) (HD0.out.mono fun a x hx => ht a x (sees_step HSk.out a x hx)) (.node _ 5 _ _ _ _ (hc 5 _ rfl) (HD1.out.mono fun a x hx => ht a x (sees_step HSk.out a x hx)) (.nil _)))
theorem f50_23 (W : World) (gm : Nat) (nm : ByteArray) (vi vf : Value) (N b : Nat) (xo : Int) (xt : ByteArray) (vk : Int) (vn : Bool) (vb : Nat) (vt : ByteArray) (a1 a2 a3 a4 : Option Addr) (n1 n2 n3 n4 m1 m2 m3 m4 : Nat) (a : Option Addr) (n c : Nat) (t0 : Tr) (w : World) (h : Mk W gm nm vi vf N w) (hb : b ≤ w.heap.size) (hR : RowQ 0 [t0] (Sees w (New b gm vi vf w)) (.slice a n c)) :
  Calls Tryz.prog 50 #[.pointer (some ⟨gm, 0, none⟩), .agg #[.int .i64 23, .int .i64 xo, .string xt, .int .i64 vk, .bool vn, .slice a1 n1 m1, .int .u64 vb, .string vt, .slice a2 n2 m2, .slice a3 n3 m3, .slice a4 n4 m4], .slice a n c] w (MadeB W gm nm N vi vf b w fun R v => Nd R v (.mk none [t0])) := by
 obtain ⟨_, _, _, hv, hlen, hcap, hcap2, hds⟩ := hR
 cases hv
 obtain rfl : n = 1 := hlen
 obtain ⟨g0, i0, x0, rfl, hx0, hd0⟩ := hds.cell 0 (by simp)
 have c0 : w.cell? ⟨g0, i0, none⟩ = some x0 := hx0.2
 have hgl : g0 < w.heap.size := hx0.1.2.1
 have HG0 := Lib.hid hx0.1.2
 obtain ⟨T0, p0, rfl⟩ : ∃ T p, x0 = .iface T p := Nd.if0 hd0
 have HD0 : Hid (Nd (Sees w (New b gm vi vf w)) (.iface T0 p0) t0) := Lib.hid hd0
 clear hx0 hd0
 have HM := Lib.hid h
 have HB := Lib.hid hb
 have HDS := Lib.hid hds
 clear h hb hds
 go_enter Tryz.func50, Tryz.ntmps50
 go_wp2_with fail
 refine (f33_mk W gm nm vi vf N _ (HM.out.after bA)).mono ?_
 rintro e w1 ⟨l0, rfl, hb1⟩
 have hW1 : Below w.heap.size w w1 := bA.trans (hb1.mono (by simp))
 have k0 : ∀ j, j < 11 → w1.cell? ⟨w.heap.size, j, none⟩ = (w.alloc (.cells #[.int .i64 23, .int .i64 xo, .string xt, .int .i64 vk, .bool vn, .slice a1 n1 m1, .int .u64 vb, .string vt, .slice a2 n2 m2, .slice a3 n3 m3, .slice a4 n4 m4] 164)).cell? ⟨w.heap.size, j, none⟩ := fun j _ => hb1.cell (p := ⟨w.heap.size, j, none⟩) (lt1 _ _)
 have b0 : w1.cell? ⟨w.heap.size, 0, none⟩ = some (.int .i64 23) := (k0 0 (by decide)).trans (by simp [go_sem])
 have b1 : w1.cell? ⟨w.heap.size, 1, none⟩ = some (.int .i64 xo) := (k0 1 (by decide)).trans (by simp [go_sem])
 have hs1 : w.heap.size < w1.heap.size := Nat.lt_of_lt_of_le (lt1 _ _) hb1.size
 have c0' : w1.cell? ⟨g0, i0, none⟩ = some (.iface T0 p0) := (hW1.cell (p := ⟨g0, i0, none⟩) hgl).trans c0
 have hgl1 : g0 < w1.heap.size := Nat.lt_trans hgl hs1
 clear hgl c0
 have HW1 := Lib.hid hW1
 have HM1 := Lib.hid (HM.out.after hW1)
 have HS1 := Lib.hid hs1
 clear hW1 k0 hb1
 go_wp2_with fail
 go_region_held3 (fun w' => w'.cell? ⟨w1.heap.size, 0, none⟩ = some (.pointer (some ⟨gm, 0, none⟩)) ∧ w'.cell? ⟨w1.heap.size, 1, none⟩ = some (.int .i32 l0) ∧ w'.cell? ⟨w1.heap.size, 2, none⟩ = some (.int .i32 1) ∧ w'.cell? ⟨g0, i0, none⟩ = some (.iface T0 p0)) (go_keep) (fail)
 all_goals go_wp2
 all_goals go_ret
 have HSk : Hid (Stp gm vi vf w vi vf w1) := Lib.hid (Stp.of_below HW1.out)
 exact made_new HM1.out HSk.out (Nat.le_trans HB.out HSk.out.size) (Below.drewed (bA.alloc (Nat.le_of_lt (lt1 _ _)) _)) (g := w1.heap.size + 1) (Nat.le_succ _) ((new2 w1 _ _)) fun R hc ht => .other 113 _ [(4, .node)] _ rfl (.node _ 4 _ _ _ _ (hc 4 _ rfl) (HD0.out.mono fun a x hx => ht a x (sees_step HSk.out a x hx)) (.nil _))
theorem f50_13 (W : World) (gm : Nat) (nm : ByteArray) (vi vf : Value) (N b : Nat) (xo : Int) (xt : ByteArray) (vk : Int) (vn : Bool) (vb : Nat) (vt : ByteArray) (a1 a2 a3 a4 : Option Addr) (n1 n2 n3 n4 m1 m2 m3 m4 : Nat) (a : Option Addr) (n c : Nat) (t0 : Tr) (w : World) (h : Mk W gm nm vi vf N w) (hb : b ≤ w.heap.size) (hR : RowQ 0 [t0] (Sees w (New b gm vi vf w)) (.slice a n c)) :
  Calls Tryz.prog 50 #[.pointer (some ⟨gm, 0, none⟩), .agg #[.int .i64 13, .int .i64 xo, .string xt, .int .i64 vk, .bool vn, .slice a1 n1 m1, .int .u64 vb, .string vt, .slice a2 n2 m2, .slice a3 n3 m3, .slice a4 n4 m4], .slice a n c] w (MadeB W gm nm N vi vf b w fun R v => Nd R v (.mk none [t0, idt xt])) := by
 obtain ⟨_, _, _, hv, hlen, hcap, hcap2, hds⟩ := hR
 cases hv
 obtain rfl : n = 1 := hlen
 obtain ⟨g0, i0, x0, rfl, hx0, hd0⟩ := hds.cell 0 (by simp)
 have c0 : w.cell? ⟨g0, i0, none⟩ = some x0 := hx0.2
 have hgl : g0 < w.heap.size := hx0.1.2.1
 have HG0 := Lib.hid hx0.1.2
 obtain ⟨T0, p0, rfl⟩ : ∃ T p, x0 = .iface T p := Nd.if0 hd0
 have HD0 : Hid (Nd (Sees w (New b gm vi vf w)) (.iface T0 p0) t0) := Lib.hid hd0
 clear hx0 hd0
 have HM := Lib.hid h
 have HB := Lib.hid hb
 have HDS := Lib.hid hds
 clear h hb hds
 go_enter Tryz.func50, Tryz.ntmps50
 go_wp2_with fail
 refine (f33_mk W gm nm vi vf N _ (HM.out.after bA)).mono ?_
 rintro e w1 ⟨l0, rfl, hb1⟩
 have hW1 : Below w.heap.size w w1 := bA.trans (hb1.mono (by simp))
 have k0 : ∀ j, j < 11 → w1.cell? ⟨w.heap.size, j, none⟩ = (w.alloc (.cells #[.int .i64 13, .int .i64 xo, .string xt, .int .i64 vk, .bool vn, .slice a1 n1 m1, .int .u64 vb, .string vt, .slice a2 n2 m2, .slice a3 n3 m3, .slice a4 n4 m4] 164)).cell? ⟨w.heap.size, j, none⟩ := fun j _ => hb1.cell (p := ⟨w.heap.size, j, none⟩) (lt1 _ _)
 have b0 : w1.cell? ⟨w.heap.size, 0, none⟩ = some (.int .i64 13) := (k0 0 (by decide)).trans (by simp [go_sem])
 have b2 : w1.cell? ⟨w.heap.size, 2, none⟩ = some (.string xt) := (k0 2 (by decide)).trans (by simp [go_sem])
 have b1 : w1.cell? ⟨w.heap.size, 1, none⟩ = some (.int .i64 xo) := (k0 1 (by decide)).trans (by simp [go_sem])
 have hs1 : w.heap.size < w1.heap.size := Nat.lt_of_lt_of_le (lt1 _ _) hb1.size
 have c0' : w1.cell? ⟨g0, i0, none⟩ = some (.iface T0 p0) := (hW1.cell (p := ⟨g0, i0, none⟩) hgl).trans c0
 have hgl1 : g0 < w1.heap.size := Nat.lt_trans hgl hs1
 clear hgl c0
 have HW1 := Lib.hid hW1
 have HM1 := Lib.hid (HM.out.after hW1)
 have HS1 := Lib.hid hs1
 clear hW1 k0 hb1
 have pk0 : (w1.alloc (.cells #[.pointer (some ⟨gm, 0, none⟩), .int .i32 l0, .int .i32 1] 60)).cell? ⟨w1.heap.size, 0, none⟩ = some (.pointer (some ⟨gm, 0, none⟩)) := by simp [go_sem]
 have pk1 : (w1.alloc (.cells #[.pointer (some ⟨gm, 0, none⟩), .int .i32 l0, .int .i32 1] 60)).cell? ⟨w1.heap.size, 1, none⟩ = some (.int .i32 l0) := by simp [go_sem]
 have pk2 : (w1.alloc (.cells #[.pointer (some ⟨gm, 0, none⟩), .int .i32 l0, .int .i32 1] 60)).cell? ⟨w1.heap.size, 2, none⟩ = some (.int .i32 1) := by simp [go_sem]
 go_wp2_with fail
 go_region_held3 (fun w' => w'.cell? ⟨w1.heap.size, 0, none⟩ = some (.pointer (some ⟨gm, 0, none⟩)) ∧ w'.cell? ⟨w1.heap.size, 1, none⟩ = some (.int .i32 l0) ∧ w'.cell? ⟨w1.heap.size, 2, none⟩ = some (.int .i32 1) ∧ w'.cell? ⟨g0, i0, none⟩ = some (.iface T0 p0) ∧ w'.cell? ⟨w.heap.size, 2, none⟩ = some (.string xt)) (first | (refine ⟨?_, ?_, ?_, ?_, ?_⟩ <;> (repeat (first | assumption | refine cell_dr ?_ | refine cell_al _ ?_)) <;> done) | go_keep) (fail)
 all_goals go_wp2
 all_goals go_ret
 have HSk : Hid (Stp gm vi vf w vi vf w1) := Lib.hid (Stp.of_below HW1.out)
 exact made_news HM1.out HSk.out (Nat.le_trans HB.out HSk.out.size) (Below.drewed ((bA.alloc (Nat.le_of_lt (lt1 _ _)) _).alloc (Nat.le_of_lt (lt2 _ _ _)) _)) fun R hc ht => .other 149 (w1.heap.size + 2) [(1, .node), (8, .ptr 53)] _ rfl (.node _ 1 _ _ _ _ (hc _ _ _ 1 _ (new3 w1 _ _ _) (Nat.le_add_right _ _) rfl) (HD0.out.mono fun a x hx => ht a x (sees_step HSk.out a x hx)) (.ptr _ 8 53 _ _ _ _ (hc _ _ _ 8 _ (new3 w1 _ _ _) (Nat.le_add_right _ _) rfl) (.ident (w1.heap.size + 1) xt (hc _ _ _ 4 _ (mid3 w1 _ _ _) (Nat.le_add_right _ _) rfl)) (.nil _)))
end Go.Proofs.YtabeokminikfdaaGreat
