import Derived.Test.YtabeokminikfdaaGreatQEa
import Derived.Test.YtabeokminikfdaaGreatQCi
import Derived.Test.YtabeokminikfdaaGreatQA1
set_option linter.all false
set_option maxRecDepth 100000
set_option maxHeartbeats 16000000
namespace Go.Proofs.YtabeokminikfdaaGreat
open Go.RowKit
theorem f36_4 (W : World) (gm : Nat) (nm : ByteArray) (X : EV → Tr → Prop) (hE : MakeE W gm nm X) (hSh : ∀ e t, X e t → EvSh e) (S : SV → Tr → Prop) (hS : MakeS W gm nm S) (hSS : ∀ s t, S s t → SvSh s) (so : Int) (st : ByteArray) (a1 a2 a3 a4 a5 : Option Addr) (n1 n3 n4 n5 m1 m2 m3 m4 m5 : Nat) (t0 : Tr) (bs es : List Tr) (h0 : 0 < bs.length) (hX : RowOf W 11 (EQ X) (.slice a2 1 m2) [t0]) (hB : RowOf W 8 (SQ S) (.slice a4 n4 m4) bs) (hL : RowOf W 8 (SQ S) (.slice a5 n5 m5) es) (N : Nat) (vi vf : Value) (w : World) (hM : Mk W gm nm vi vf N w) (hN : N + (1 + (sizes [t0] + (sizes bs + sizes es))) ≤ 1000000) :
  Calls Tryz.prog 36 #[.pointer (some ⟨gm, 0, none⟩), .agg #[.int .i64 4, .int .i64 so, .string st, .slice a1 n1 m1, .slice a2 1 m2, .slice a3 n3 m3, .slice a4 n4 m4, .slice a5 n5 m5]] w (Made W gm nm (N + (1 + (sizes [t0] + (sizes bs + sizes es)))) vi vf w fun R v => Nd R v (.mk none (t0 :: (bs ++ (es ++ []))))) := by
 have HM := Lib.hid hM
 have HN := Lib.hid hN
 have HE := Lib.hid hE
 have HSh := Lib.hid hSh
 have HS := Lib.hid hS
 have HSS := Lib.hid hSS
 have HXr := Lib.hid hX
 have HBr := Lib.hid hB
 have H0 := Lib.hid h0
 clear hX hB h0
 have HLr := Lib.hid hL
 clear hL
 clear hM hN hE hSh hS hSS
 go_enter Tryz.func36, Tryz.ntmps36
 go_wp2_with fail
 refine (f33_mk W gm nm vi vf N _ (HM.out.after bA)).mono ?_
 rintro e wp ⟨l0, rfl, hbp⟩
 have HBq : Hid (Below w.heap.size w (wp.alloc (.cells #[.pointer (some ⟨gm, 0, none⟩), .int .i32 l0, .int .i32 1] 60))) := Lib.hid ((bA.trans (hbp.mono (by simp))).alloc (Nat.le_trans (Nat.le_of_lt (lt1 _ _)) hbp.size) _)
 have hwp : w.heap.size < wp.heap.size := Nat.lt_of_lt_of_le (lt1 _ _) hbp.size
 have HMq := Lib.hid (HM.out.after HBq.out)
 have HSP : Hid (Safe gm vi vf (wp.alloc (.cells #[.pointer (some ⟨gm, 0, none⟩), .int .i32 l0, .int .i32 1] 60)) wp.heap.size) := Lib.hid (HM.out.safe_new (Nat.le_of_lt hwp) (lt1 _ _))
 have HSB : Hid (Safe gm vi vf (wp.alloc (.cells #[.pointer (some ⟨gm, 0, none⟩), .int .i32 l0, .int .i32 1] 60)) w.heap.size) := Lib.hid (HM.out.safe_new (Nat.le_refl _) (Nat.lt_trans hwp (lt1 _ _)))
 have hbk : ∀ q v, (w.alloc (.cells #[.int .i64 4, .int .i64 so, .string st, .slice a1 n1 m1, .slice a2 1 m2, .slice a3 n3 m3, .slice a4 n4 m4, .slice a5 n5 m5] 43)).cell? ⟨w.heap.size, q, none⟩ = some v → (wp.alloc (.cells #[.pointer (some ⟨gm, 0, none⟩), .int .i32 l0, .int .i32 1] 60)).cell? ⟨w.heap.size, q, none⟩ = some v := fun q v h => cell_al _ ((hbp.cell (p := ⟨w.heap.size, q, none⟩) (lt1 _ _)).trans h)
 have bx0 : (wp.alloc (.cells #[.pointer (some ⟨gm, 0, none⟩), .int .i32 l0, .int .i32 1] 60)).cell? ⟨w.heap.size, 0, none⟩ = some (.int .i64 4) := hbk _ _ (by simp [go_sem])
 have bx1 : (wp.alloc (.cells #[.pointer (some ⟨gm, 0, none⟩), .int .i32 l0, .int .i32 1] 60)).cell? ⟨w.heap.size, 1, none⟩ = some (.int .i64 so) := hbk _ _ (by simp [go_sem])
 have bx2 : (wp.alloc (.cells #[.pointer (some ⟨gm, 0, none⟩), .int .i32 l0, .int .i32 1] 60)).cell? ⟨w.heap.size, 2, none⟩ = some (.string st) := hbk _ _ (by simp [go_sem])
 have bx3 : (wp.alloc (.cells #[.pointer (some ⟨gm, 0, none⟩), .int .i32 l0, .int .i32 1] 60)).cell? ⟨w.heap.size, 3, none⟩ = some (.slice a1 n1 m1) := hbk _ _ (by simp [go_sem])
 have bx4 : (wp.alloc (.cells #[.pointer (some ⟨gm, 0, none⟩), .int .i32 l0, .int .i32 1] 60)).cell? ⟨w.heap.size, 4, none⟩ = some (.slice a2 1 m2) := hbk _ _ (by simp [go_sem])
 have bx5 : (wp.alloc (.cells #[.pointer (some ⟨gm, 0, none⟩), .int .i32 l0, .int .i32 1] 60)).cell? ⟨w.heap.size, 5, none⟩ = some (.slice a3 n3 m3) := hbk _ _ (by simp [go_sem])
 have bx6 : (wp.alloc (.cells #[.pointer (some ⟨gm, 0, none⟩), .int .i32 l0, .int .i32 1] 60)).cell? ⟨w.heap.size, 6, none⟩ = some (.slice a4 n4 m4) := hbk _ _ (by simp [go_sem])
 have bx7 : (wp.alloc (.cells #[.pointer (some ⟨gm, 0, none⟩), .int .i32 l0, .int .i32 1] 60)).cell? ⟨w.heap.size, 7, none⟩ = some (.slice a5 n5 m5) := hbk _ _ (by simp [go_sem])
 have qx0 : (wp.alloc (.cells #[.pointer (some ⟨gm, 0, none⟩), .int .i32 l0, .int .i32 1] 60)).cell? ⟨wp.heap.size, 0, none⟩ = some (.pointer (some ⟨gm, 0, none⟩)) := by simp [go_sem]
 have qx1 : (wp.alloc (.cells #[.pointer (some ⟨gm, 0, none⟩), .int .i32 l0, .int .i32 1] 60)).cell? ⟨wp.heap.size, 1, none⟩ = some (.int .i32 l0) := by simp [go_sem]
 have qx2 : (wp.alloc (.cells #[.pointer (some ⟨gm, 0, none⟩), .int .i32 l0, .int .i32 1] 60)).cell? ⟨wp.heap.size, 2, none⟩ = some (.int .i32 1) := by simp [go_sem]
 clear hbp hbk
 go_wp2_with fail
 refine (f38_any W gm nm X HE.out HSh.out _ [t0] N vi vf _ HXr.out HMq.out (by have := HN.out; omega)).mono ?_
 rintro e w2 ⟨v2, vi2, vf2, rfl, hM2, hS2, hR2⟩
 obtain ⟨a2', n2', c2', rfl, hn2, e2, e3, hds⟩ := hR2
 obtain rfl : n2' = 1 := hn2
 obtain ⟨g0, i0, x0, rfl, hx0, hd0⟩ := hds.cell 0 (by simp)
 obtain ⟨T0, p0, rfl⟩ : ∃ T p, x0 = .iface T p := Nd.if0 hd0
 have y0 : w2.cell? ⟨g0, i0, none⟩ = some (.iface T0 p0) := hx0.2
 have HG0 := Lib.hid hx0.1.2
 have HD0 : Hid (Nd (Sees w2 (New (wp.alloc (.cells #[.pointer (some ⟨gm, 0, none⟩), .int .i32 l0, .int .i32 1] 60)).heap.size gm vi2 vf2 w2)) (.iface T0 p0) t0) := Lib.hid hd0
 have u0 := (hS2.cell (a := ⟨w.heap.size, 0, none⟩) HSB.out).trans bx0
 have u6 := (hS2.cell (a := ⟨w.heap.size, 6, none⟩) HSB.out).trans bx6
 have u7 := (hS2.cell (a := ⟨w.heap.size, 7, none⟩) HSB.out).trans bx7
 have z0 := (hS2.cell (a := ⟨wp.heap.size, 0, none⟩) HSP.out).trans qx0
 have z1 := (hS2.cell (a := ⟨wp.heap.size, 1, none⟩) HSP.out).trans qx1
 have z2 := (hS2.cell (a := ⟨wp.heap.size, 2, none⟩) HSP.out).trans qx2
 have HSB2 := Lib.hid (hS2.keep _ HSB.out).1
 have HSP2 := Lib.hid (hS2.keep _ HSP.out).1
 have HM2 := Lib.hid hM2
 have HS2 : Hid (Stp gm vi vf (wp.alloc (.cells #[.pointer (some ⟨gm, 0, none⟩), .int .i32 l0, .int .i32 1] 60)) vi2 vf2 w2) := Lib.hid hS2
 clear hM2 hS2 hx0 hd0 hds bx0 bx1 bx2 bx3 bx4 bx5 bx6 bx7 qx0 qx1 qx2
 go_wp2_with fail
 refine (f42_any W gm nm S HS.out HSS.out _ _ _ bs (N + sizes [t0]) vi2 vf2 _ H0.out HBr.out HM2.out (by have := HN.out; omega)).mono ?_
 rintro e w3 ⟨v3, vi3, vf3, rfl, hM3, hS3, hR3⟩
 obtain ⟨a3', n3', c3', rfl, rfl, f2, f3, hdb⟩ := hR3
 have k0 := (hS3.cell (a := ⟨g0, i0, none⟩) HG0.out).trans y0
 have o0 := (hS3.cell (a := ⟨w.heap.size, 0, none⟩) HSB2.out).trans u0
 have o7 := (hS3.cell (a := ⟨w.heap.size, 7, none⟩) HSB2.out).trans u7
 have x0 := (hS3.cell (a := ⟨wp.heap.size, 0, none⟩) HSP2.out).trans z0
 have x1 := (hS3.cell (a := ⟨wp.heap.size, 1, none⟩) HSP2.out).trans z1
 have x2 := (hS3.cell (a := ⟨wp.heap.size, 2, none⟩) HSP2.out).trans z2
 have HSB3 := Lib.hid (hS3.keep _ HSB2.out).1
 have HSP3 := Lib.hid (hS3.keep _ HSP2.out).1
 have HG3 := Lib.hid (hS3.keep _ HG0.out).1
 have HM3 := Lib.hid hM3
 have HS3 : Hid (Stp gm vi2 vf2 w2 vi3 vf3 w3) := Lib.hid hS3
 have HDb : Hid (Nds (Sees w3 (New w2.heap.size gm vi3 vf3 w3)) 0 a3' bs) := Lib.hid hdb
 clear hM3 hS3 hdb y0 u0 u6 u7 z0 z1 z2
 have HN4 : Hid (N + sizes [t0] + sizes bs + sizes es ≤ 1000000) := Lib.hid (by have := HN.out; omega)
 go_wp2_with fail
 go_region_held3 (fun w' => w'.cell? ⟨wp.heap.size, 0, none⟩ = some (.pointer (some ⟨gm, 0, none⟩)) ∧ w'.cell? ⟨wp.heap.size, 1, none⟩ = some (.int .i32 l0) ∧ w'.cell? ⟨wp.heap.size, 2, none⟩ = some (.int .i32 1) ∧ w'.cell? ⟨g0, i0, none⟩ = some (.iface T0 p0) ∧ w'.cell? ⟨w.heap.size, 7, none⟩ = some (.slice a5 n5 m5)) (first | (refine ⟨?_, ?_, ?_, ?_, ?_⟩ <;> assumption) | go_keep) ((go_at_call 21; refine (f21_any W gm nm S HS.out HSS.out _ es (N + sizes [t0] + sizes bs) vi3 vf3 _ HLr.out (by first | exact HM3.out | exact HM3.out.after (Below.drewed (Below.refl _ _))) HN4.out).mono ?_; rintro e w4 ⟨v4, vi4, vf4, rfl, hM4, hS4, a6, n6, c6, rfl, rfl, g2, g3, hd4⟩; have hS4' : Stp gm vi3 vf3 w3 vi4 vf4 w4 := ⟨fun k hk => hS4.keep k hk, hS4.size⟩; have hd4' : Nds (Sees w4 (New w3.heap.size gm vi4 vf4 w4)) 0 a6 es := hd4; have zz0 := (hS4'.cell (a := ⟨wp.heap.size, 0, none⟩) HSP3.out).trans x0; have zz1 := (hS4'.cell (a := ⟨wp.heap.size, 1, none⟩) HSP3.out).trans x1; have zz2 := (hS4'.cell (a := ⟨wp.heap.size, 2, none⟩) HSP3.out).trans x2; have kk0 := (hS4'.cell (a := ⟨g0, i0, none⟩) HG3.out).trans k0; have oo7 := (hS4'.cell (a := ⟨w.heap.size, 7, none⟩) HSB3.out).trans o7; have HM4 := Lib.hid hM4; have HS4 := Lib.hid hS4'; have HD4 := Lib.hid hd4'; clear hM4 hS4 hd4 hS4' hd4'))
 all_goals go_wp2
 all_goals go_ret
 all_goals
  have hall : Stp gm vi vf w vi4 vf4 w4 := (Stp.of_below HBq.out).trans (HS2.out.trans (HS3.out.trans HS4.out))
  have hm : Mk W gm nm vi4 vf4 (N + (1 + (sizes [t0] + (sizes bs + sizes es)))) w4 := HM4.out.more (by omega)
  have hda := HD0.out.step (HS3.out.trans HS4.out) (b' := w.heap.size) HBq.out.size
  have hdb := HDb.out.step HS4.out (b' := w.heap.size) (Nat.le_trans HBq.out.size HS2.out.size)
  have hdc := HD4.out.step (Stp.refl ..) (b' := w.heap.size) (Nat.le_trans HBq.out.size (Nat.le_trans HS2.out.size HS3.out.size))
  refine made_b ?_
  first
   | exact made_news (b := w.heap.size) hm hall hall.size bA fun R hc ht => .other 85 w4.heap.size [(4, .node), (5, .row 0), (9, .row 0)] _ rfl (.node _ 4 _ _ _ _ (hc _ _ _ 4 _ (heap_alloc_new w4 _) (Nat.le_refl _) rfl) (hda.mono ht) (.row _ 5 0 _ _ _ _ _ _ (hc _ _ _ 5 _ (heap_alloc_new w4 _) (Nat.le_refl _) rfl) (hdb.mono ht) rfl (.row _ 9 0 _ _ _ _ _ _ (hc _ _ _ 9 _ (heap_alloc_new w4 _) (Nat.le_refl _) rfl) (hdc.mono ht) rfl (.nil _))))
   | exact made_news (b := w.heap.size) hm hall hall.size (Below.drewed bA) fun R hc ht => .other 85 w4.heap.size [(4, .node), (5, .row 0), (9, .row 0)] _ rfl (.node _ 4 _ _ _ _ (hc _ _ _ 4 _ (heap_alloc_new w4 _) (Nat.le_refl _) rfl) (hda.mono ht) (.row _ 5 0 _ _ _ _ _ _ (hc _ _ _ 5 _ (heap_alloc_new w4 _) (Nat.le_refl _) rfl) (hdb.mono ht) rfl (.row _ 9 0 _ _ _ _ _ _ (hc _ _ _ 9 _ (heap_alloc_new w4 _) (Nat.le_refl _) rfl) (hdc.mono ht) rfl (.nil _))))
theorem f36_5 (W : World) (gm : Nat) (nm : ByteArray) (X : EV → Tr → Prop) (hE : MakeE W gm nm X) (hSh : ∀ e t, X e t → EvSh e) (S : SV → Tr → Prop) (hS : MakeS W gm nm S) (hSS : ∀ s t, S s t → SvSh s) (so : Int) (st : ByteArray) (a1 a2 a3 a4 a5 : Option Addr) (n1 n3 n4 n5 m1 m2 m3 m4 m5 : Nat) (t0 t1 : Tr) (bs : List Tr) (h0 : 0 < bs.length) (hX : RowOf W 11 (EQ X) (.slice a2 2 m2) [t0, t1]) (hB : RowOf W 8 (SQ S) (.slice a4 n4 m4) bs) (N : Nat) (vi vf : Value) (w : World) (hM : Mk W gm nm vi vf N w) (hN : N + (1 + (sizes [t0, t1] + (sizes bs))) ≤ 1000000) :
  Calls Tryz.prog 36 #[.pointer (some ⟨gm, 0, none⟩), .agg #[.int .i64 5, .int .i64 so, .string st, .slice a1 n1 m1, .slice a2 2 m2, .slice a3 n3 m3, .slice a4 n4 m4, .slice a5 n5 m5]] w (Made W gm nm (N + (1 + (sizes [t0, t1] + (sizes bs)))) vi vf w fun R v => Nd R v (.mk none (t0 :: t1 :: (bs ++ [])))) := by
 have HM := Lib.hid hM
 have HN := Lib.hid hN
 have HE := Lib.hid hE
 have HSh := Lib.hid hSh
 have HS := Lib.hid hS
 have HSS := Lib.hid hSS
 have HXr := Lib.hid hX
 have HBr := Lib.hid hB
 have H0 := Lib.hid h0
 clear hX hB h0
 clear hM hN hE hSh hS hSS
 go_enter Tryz.func36, Tryz.ntmps36
 go_wp2_with fail
 refine (f33_mk W gm nm vi vf N _ (HM.out.after bA)).mono ?_
 rintro e wp ⟨l0, rfl, hbp⟩
 have HBq : Hid (Below w.heap.size w (wp.alloc (.cells #[.pointer (some ⟨gm, 0, none⟩), .int .i32 l0, .int .i32 1] 60))) := Lib.hid ((bA.trans (hbp.mono (by simp))).alloc (Nat.le_trans (Nat.le_of_lt (lt1 _ _)) hbp.size) _)
 have hwp : w.heap.size < wp.heap.size := Nat.lt_of_lt_of_le (lt1 _ _) hbp.size
 have HMq := Lib.hid (HM.out.after HBq.out)
 have HSP : Hid (Safe gm vi vf (wp.alloc (.cells #[.pointer (some ⟨gm, 0, none⟩), .int .i32 l0, .int .i32 1] 60)) wp.heap.size) := Lib.hid (HM.out.safe_new (Nat.le_of_lt hwp) (lt1 _ _))
 have HSB : Hid (Safe gm vi vf (wp.alloc (.cells #[.pointer (some ⟨gm, 0, none⟩), .int .i32 l0, .int .i32 1] 60)) w.heap.size) := Lib.hid (HM.out.safe_new (Nat.le_refl _) (Nat.lt_trans hwp (lt1 _ _)))
 have hbk : ∀ q v, (w.alloc (.cells #[.int .i64 5, .int .i64 so, .string st, .slice a1 n1 m1, .slice a2 2 m2, .slice a3 n3 m3, .slice a4 n4 m4, .slice a5 n5 m5] 43)).cell? ⟨w.heap.size, q, none⟩ = some v → (wp.alloc (.cells #[.pointer (some ⟨gm, 0, none⟩), .int .i32 l0, .int .i32 1] 60)).cell? ⟨w.heap.size, q, none⟩ = some v := fun q v h => cell_al _ ((hbp.cell (p := ⟨w.heap.size, q, none⟩) (lt1 _ _)).trans h)
 have bx0 : (wp.alloc (.cells #[.pointer (some ⟨gm, 0, none⟩), .int .i32 l0, .int .i32 1] 60)).cell? ⟨w.heap.size, 0, none⟩ = some (.int .i64 5) := hbk _ _ (by simp [go_sem])
 have bx1 : (wp.alloc (.cells #[.pointer (some ⟨gm, 0, none⟩), .int .i32 l0, .int .i32 1] 60)).cell? ⟨w.heap.size, 1, none⟩ = some (.int .i64 so) := hbk _ _ (by simp [go_sem])
 have bx2 : (wp.alloc (.cells #[.pointer (some ⟨gm, 0, none⟩), .int .i32 l0, .int .i32 1] 60)).cell? ⟨w.heap.size, 2, none⟩ = some (.string st) := hbk _ _ (by simp [go_sem])
 have bx3 : (wp.alloc (.cells #[.pointer (some ⟨gm, 0, none⟩), .int .i32 l0, .int .i32 1] 60)).cell? ⟨w.heap.size, 3, none⟩ = some (.slice a1 n1 m1) := hbk _ _ (by simp [go_sem])
 have bx4 : (wp.alloc (.cells #[.pointer (some ⟨gm, 0, none⟩), .int .i32 l0, .int .i32 1] 60)).cell? ⟨w.heap.size, 4, none⟩ = some (.slice a2 2 m2) := hbk _ _ (by simp [go_sem])
 have bx5 : (wp.alloc (.cells #[.pointer (some ⟨gm, 0, none⟩), .int .i32 l0, .int .i32 1] 60)).cell? ⟨w.heap.size, 5, none⟩ = some (.slice a3 n3 m3) := hbk _ _ (by simp [go_sem])
 have bx6 : (wp.alloc (.cells #[.pointer (some ⟨gm, 0, none⟩), .int .i32 l0, .int .i32 1] 60)).cell? ⟨w.heap.size, 6, none⟩ = some (.slice a4 n4 m4) := hbk _ _ (by simp [go_sem])
 have bx7 : (wp.alloc (.cells #[.pointer (some ⟨gm, 0, none⟩), .int .i32 l0, .int .i32 1] 60)).cell? ⟨w.heap.size, 7, none⟩ = some (.slice a5 n5 m5) := hbk _ _ (by simp [go_sem])
 have qx0 : (wp.alloc (.cells #[.pointer (some ⟨gm, 0, none⟩), .int .i32 l0, .int .i32 1] 60)).cell? ⟨wp.heap.size, 0, none⟩ = some (.pointer (some ⟨gm, 0, none⟩)) := by simp [go_sem]
 have qx1 : (wp.alloc (.cells #[.pointer (some ⟨gm, 0, none⟩), .int .i32 l0, .int .i32 1] 60)).cell? ⟨wp.heap.size, 1, none⟩ = some (.int .i32 l0) := by simp [go_sem]
 have qx2 : (wp.alloc (.cells #[.pointer (some ⟨gm, 0, none⟩), .int .i32 l0, .int .i32 1] 60)).cell? ⟨wp.heap.size, 2, none⟩ = some (.int .i32 1) := by simp [go_sem]
 clear hbp hbk
 go_wp2_with fail
 refine (f38_any W gm nm X HE.out HSh.out _ [t0, t1] N vi vf _ HXr.out HMq.out (by have := HN.out; omega)).mono ?_
 rintro e w2 ⟨v2, vi2, vf2, rfl, hM2, hS2, hR2⟩
 obtain ⟨a2', n2', c2', rfl, hn2, e2, e3, hds⟩ := hR2
 obtain rfl : n2' = 2 := hn2
 obtain ⟨g0, i0, x0, rfl, hx0, hd0⟩ := hds.cell 0 (by simp)
 obtain ⟨T0, p0, rfl⟩ : ∃ T p, x0 = .iface T p := Nd.if0 hd0
 have y0 : w2.cell? ⟨g0, i0, none⟩ = some (.iface T0 p0) := hx0.2
 have HG0 := Lib.hid hx0.1.2
 have HD0 : Hid (Nd (Sees w2 (New (wp.alloc (.cells #[.pointer (some ⟨gm, 0, none⟩), .int .i32 l0, .int .i32 1] 60)).heap.size gm vi2 vf2 w2)) (.iface T0 p0) t0) := Lib.hid hd0
 obtain ⟨_, _, x1, he, hx1, hd1⟩ := hds.cell 1 (by simp)
 cases he
 obtain ⟨T1, p1, rfl⟩ : ∃ T p, x1 = .iface T p := Nd.if0 hd1
 have y1 : w2.cell? ⟨g0, i0 + 1, none⟩ = some (.iface T1 p1) := hx1.2
 have HD1 : Hid (Nd (Sees w2 (New (wp.alloc (.cells #[.pointer (some ⟨gm, 0, none⟩), .int .i32 l0, .int .i32 1] 60)).heap.size gm vi2 vf2 w2)) (.iface T1 p1) t1) := Lib.hid hd1
 have u0 := (hS2.cell (a := ⟨w.heap.size, 0, none⟩) HSB.out).trans bx0
 have u6 := (hS2.cell (a := ⟨w.heap.size, 6, none⟩) HSB.out).trans bx6
 have u7 := (hS2.cell (a := ⟨w.heap.size, 7, none⟩) HSB.out).trans bx7
 have z0 := (hS2.cell (a := ⟨wp.heap.size, 0, none⟩) HSP.out).trans qx0
 have z1 := (hS2.cell (a := ⟨wp.heap.size, 1, none⟩) HSP.out).trans qx1
 have z2 := (hS2.cell (a := ⟨wp.heap.size, 2, none⟩) HSP.out).trans qx2
 have HSB2 := Lib.hid (hS2.keep _ HSB.out).1
 have HSP2 := Lib.hid (hS2.keep _ HSP.out).1
 have HM2 := Lib.hid hM2
 have HS2 : Hid (Stp gm vi vf (wp.alloc (.cells #[.pointer (some ⟨gm, 0, none⟩), .int .i32 l0, .int .i32 1] 60)) vi2 vf2 w2) := Lib.hid hS2
 clear hM2 hS2 hx0 hd0 hds bx0 bx1 bx2 bx3 bx4 bx5 bx6 bx7 qx0 qx1 qx2 hx1 hd1
 go_wp2_with fail
 refine (f42_any W gm nm S HS.out HSS.out _ _ _ bs (N + sizes [t0, t1]) vi2 vf2 _ H0.out HBr.out HM2.out (by have := HN.out; omega)).mono ?_
 rintro e w3 ⟨v3, vi3, vf3, rfl, hM3, hS3, hR3⟩
 obtain ⟨a3', n3', c3', rfl, rfl, f2, f3, hdb⟩ := hR3
 have k0 := (hS3.cell (a := ⟨g0, i0, none⟩) HG0.out).trans y0
 have o0 := (hS3.cell (a := ⟨w.heap.size, 0, none⟩) HSB2.out).trans u0
 have o7 := (hS3.cell (a := ⟨w.heap.size, 7, none⟩) HSB2.out).trans u7
 have k1 := (hS3.cell (a := ⟨g0, i0 + 1, none⟩) HG0.out).trans y1
 have x0 := (hS3.cell (a := ⟨wp.heap.size, 0, none⟩) HSP2.out).trans z0
 have x1 := (hS3.cell (a := ⟨wp.heap.size, 1, none⟩) HSP2.out).trans z1
 have x2 := (hS3.cell (a := ⟨wp.heap.size, 2, none⟩) HSP2.out).trans z2
 have HSB3 := Lib.hid (hS3.keep _ HSB2.out).1
 have HSP3 := Lib.hid (hS3.keep _ HSP2.out).1
 have HG3 := Lib.hid (hS3.keep _ HG0.out).1
 have HM3 := Lib.hid hM3
 have HS3 : Hid (Stp gm vi2 vf2 w2 vi3 vf3 w3) := Lib.hid hS3
 have HDb : Hid (Nds (Sees w3 (New w2.heap.size gm vi3 vf3 w3)) 0 a3' bs) := Lib.hid hdb
 clear hM3 hS3 hdb y0 u0 u6 u7 z0 z1 z2 y1
 go_wp2_with fail
 go_region_held3 (fun w' => w'.cell? ⟨wp.heap.size, 0, none⟩ = some (.pointer (some ⟨gm, 0, none⟩)) ∧ w'.cell? ⟨wp.heap.size, 1, none⟩ = some (.int .i32 l0) ∧ w'.cell? ⟨wp.heap.size, 2, none⟩ = some (.int .i32 1) ∧ w'.cell? ⟨g0, i0, none⟩ = some (.iface T0 p0) ∧ w'.cell? ⟨g0, i0 + 1, none⟩ = some (.iface T1 p1)) (first | (refine ⟨?_, ?_, ?_, ?_, ?_⟩ <;> assumption) | go_keep) ((fail))
 all_goals go_wp2
 all_goals go_ret
 all_goals
  have hall : Stp gm vi vf w vi3 vf3 w3 := (Stp.of_below HBq.out).trans (HS2.out.trans HS3.out)
  have hm : Mk W gm nm vi3 vf3 (N + (1 + (sizes [t0, t1] + (sizes bs)))) w3 := HM3.out.more (by omega)
  have hda := HD0.out.step HS3.out (b' := w.heap.size) HBq.out.size
  have hdb := HDb.out.step (Stp.refl ..) (b' := w.heap.size) (Nat.le_trans HBq.out.size HS2.out.size)
  have hdx := HD1.out.step HS3.out (b' := w.heap.size) HBq.out.size
  refine made_b ?_
  first
   | exact made_news (b := w.heap.size) hm hall hall.size bA fun R hc ht => .other 97 w3.heap.size [(4, .node), (5, .node), (6, .row 0)] _ rfl (.node _ 4 _ _ _ _ (hc _ _ _ 4 _ (heap_alloc_new w3 _) (Nat.le_refl _) rfl) (hda.mono ht) (.node _ 5 _ _ _ _ (hc _ _ _ 5 _ (heap_alloc_new w3 _) (Nat.le_refl _) rfl) (hdx.mono ht) (.row _ 6 0 _ _ _ _ _ _ (hc _ _ _ 6 _ (heap_alloc_new w3 _) (Nat.le_refl _) rfl) (hdb.mono ht) rfl (.nil _))))
   | exact made_news (b := w.heap.size) hm hall hall.size (Below.drewed bA) fun R hc ht => .other 97 w3.heap.size [(4, .node), (5, .node), (6, .row 0)] _ rfl (.node _ 4 _ _ _ _ (hc _ _ _ 4 _ (heap_alloc_new w3 _) (Nat.le_refl _) rfl) (hda.mono ht) (.node _ 5 _ _ _ _ (hc _ _ _ 5 _ (heap_alloc_new w3 _) (Nat.le_refl _) rfl) (hdx.mono ht) (.row _ 6 0 _ _ _ _ _ _ (hc _ _ _ 6 _ (heap_alloc_new w3 _) (Nat.le_refl _) rfl) (hdb.mono ht) rfl (.nil _))))
theorem f36_6 (W : World) (gm : Nat) (nm : ByteArray) (X : EV → Tr → Prop) (hE : MakeE W gm nm X) (hSh : ∀ e t, X e t → EvSh e) (S : SV → Tr → Prop) (hS : MakeS W gm nm S) (hSS : ∀ s t, S s t → SvSh s) (so : Int) (st : ByteArray) (a1 a2 a3 a4 a5 : Option Addr) (n1 n3 n4 n5 m1 m2 m3 m4 m5 : Nat) (t0 : Tr) (bs : List Tr) (h0 : 0 < bs.length) (hX : RowOf W 11 (EQ X) (.slice a2 1 m2) [t0]) (hB : RowOf W 8 (SQ S) (.slice a4 n4 m4) bs) (N : Nat) (vi vf : Value) (w : World) (hM : Mk W gm nm vi vf N w) (hN : N + (1 + (sizes [t0] + (sizes bs))) ≤ 1000000) :
  Calls Tryz.prog 36 #[.pointer (some ⟨gm, 0, none⟩), .agg #[.int .i64 6, .int .i64 so, .string st, .slice a1 n1 m1, .slice a2 1 m2, .slice a3 n3 m3, .slice a4 n4 m4, .slice a5 n5 m5]] w (Made W gm nm (N + (1 + (sizes [t0] + (sizes bs)))) vi vf w fun R v => Nd R v (.mk none (t0 :: (bs ++ [])))) := by
 have HM := Lib.hid hM
 have HN := Lib.hid hN
 have HE := Lib.hid hE
 have HSh := Lib.hid hSh
 have HS := Lib.hid hS
 have HSS := Lib.hid hSS
 have HXr := Lib.hid hX
 have HBr := Lib.hid hB
 have H0 := Lib.hid h0
 clear hX hB h0
 clear hM hN hE hSh hS hSS
 go_enter Tryz.func36, Tryz.ntmps36
 go_wp2_with fail
 refine (f33_mk W gm nm vi vf N _ (HM.out.after bA)).mono ?_
 rintro e wp ⟨l0, rfl, hbp⟩
 have HBq : Hid (Below w.heap.size w (wp.alloc (.cells #[.pointer (some ⟨gm, 0, none⟩), .int .i32 l0, .int .i32 1] 60))) := Lib.hid ((bA.trans (hbp.mono (by simp))).alloc (Nat.le_trans (Nat.le_of_lt (lt1 _ _)) hbp.size) _)
 have hwp : w.heap.size < wp.heap.size := Nat.lt_of_lt_of_le (lt1 _ _) hbp.size
 have HMq := Lib.hid (HM.out.after HBq.out)
 have HSP : Hid (Safe gm vi vf (wp.alloc (.cells #[.pointer (some ⟨gm, 0, none⟩), .int .i32 l0, .int .i32 1] 60)) wp.heap.size) := Lib.hid (HM.out.safe_new (Nat.le_of_lt hwp) (lt1 _ _))
 have HSB : Hid (Safe gm vi vf (wp.alloc (.cells #[.pointer (some ⟨gm, 0, none⟩), .int .i32 l0, .int .i32 1] 60)) w.heap.size) := Lib.hid (HM.out.safe_new (Nat.le_refl _) (Nat.lt_trans hwp (lt1 _ _)))
 have hbk : ∀ q v, (w.alloc (.cells #[.int .i64 6, .int .i64 so, .string st, .slice a1 n1 m1, .slice a2 1 m2, .slice a3 n3 m3, .slice a4 n4 m4, .slice a5 n5 m5] 43)).cell? ⟨w.heap.size, q, none⟩ = some v → (wp.alloc (.cells #[.pointer (some ⟨gm, 0, none⟩), .int .i32 l0, .int .i32 1] 60)).cell? ⟨w.heap.size, q, none⟩ = some v := fun q v h => cell_al _ ((hbp.cell (p := ⟨w.heap.size, q, none⟩) (lt1 _ _)).trans h)
 have bx0 : (wp.alloc (.cells #[.pointer (some ⟨gm, 0, none⟩), .int .i32 l0, .int .i32 1] 60)).cell? ⟨w.heap.size, 0, none⟩ = some (.int .i64 6) := hbk _ _ (by simp [go_sem])
 have bx1 : (wp.alloc (.cells #[.pointer (some ⟨gm, 0, none⟩), .int .i32 l0, .int .i32 1] 60)).cell? ⟨w.heap.size, 1, none⟩ = some (.int .i64 so) := hbk _ _ (by simp [go_sem])
 have bx2 : (wp.alloc (.cells #[.pointer (some ⟨gm, 0, none⟩), .int .i32 l0, .int .i32 1] 60)).cell? ⟨w.heap.size, 2, none⟩ = some (.string st) := hbk _ _ (by simp [go_sem])
 have bx3 : (wp.alloc (.cells #[.pointer (some ⟨gm, 0, none⟩), .int .i32 l0, .int .i32 1] 60)).cell? ⟨w.heap.size, 3, none⟩ = some (.slice a1 n1 m1) := hbk _ _ (by simp [go_sem])
 have bx4 : (wp.alloc (.cells #[.pointer (some ⟨gm, 0, none⟩), .int .i32 l0, .int .i32 1] 60)).cell? ⟨w.heap.size, 4, none⟩ = some (.slice a2 1 m2) := hbk _ _ (by simp [go_sem])
 have bx5 : (wp.alloc (.cells #[.pointer (some ⟨gm, 0, none⟩), .int .i32 l0, .int .i32 1] 60)).cell? ⟨w.heap.size, 5, none⟩ = some (.slice a3 n3 m3) := hbk _ _ (by simp [go_sem])
 have bx6 : (wp.alloc (.cells #[.pointer (some ⟨gm, 0, none⟩), .int .i32 l0, .int .i32 1] 60)).cell? ⟨w.heap.size, 6, none⟩ = some (.slice a4 n4 m4) := hbk _ _ (by simp [go_sem])
 have bx7 : (wp.alloc (.cells #[.pointer (some ⟨gm, 0, none⟩), .int .i32 l0, .int .i32 1] 60)).cell? ⟨w.heap.size, 7, none⟩ = some (.slice a5 n5 m5) := hbk _ _ (by simp [go_sem])
 have qx0 : (wp.alloc (.cells #[.pointer (some ⟨gm, 0, none⟩), .int .i32 l0, .int .i32 1] 60)).cell? ⟨wp.heap.size, 0, none⟩ = some (.pointer (some ⟨gm, 0, none⟩)) := by simp [go_sem]
 have qx1 : (wp.alloc (.cells #[.pointer (some ⟨gm, 0, none⟩), .int .i32 l0, .int .i32 1] 60)).cell? ⟨wp.heap.size, 1, none⟩ = some (.int .i32 l0) := by simp [go_sem]
 have qx2 : (wp.alloc (.cells #[.pointer (some ⟨gm, 0, none⟩), .int .i32 l0, .int .i32 1] 60)).cell? ⟨wp.heap.size, 2, none⟩ = some (.int .i32 1) := by simp [go_sem]
 clear hbp hbk
 go_wp2_with fail
 refine (f38_any W gm nm X HE.out HSh.out _ [t0] N vi vf _ HXr.out HMq.out (by have := HN.out; omega)).mono ?_
 rintro e w2 ⟨v2, vi2, vf2, rfl, hM2, hS2, hR2⟩
 obtain ⟨a2', n2', c2', rfl, hn2, e2, e3, hds⟩ := hR2
 obtain rfl : n2' = 1 := hn2
 obtain ⟨g0, i0, x0, rfl, hx0, hd0⟩ := hds.cell 0 (by simp)
 obtain ⟨T0, p0, rfl⟩ : ∃ T p, x0 = .iface T p := Nd.if0 hd0
 have y0 : w2.cell? ⟨g0, i0, none⟩ = some (.iface T0 p0) := hx0.2
 have HG0 := Lib.hid hx0.1.2
 have HD0 : Hid (Nd (Sees w2 (New (wp.alloc (.cells #[.pointer (some ⟨gm, 0, none⟩), .int .i32 l0, .int .i32 1] 60)).heap.size gm vi2 vf2 w2)) (.iface T0 p0) t0) := Lib.hid hd0
 have u0 := (hS2.cell (a := ⟨w.heap.size, 0, none⟩) HSB.out).trans bx0
 have u6 := (hS2.cell (a := ⟨w.heap.size, 6, none⟩) HSB.out).trans bx6
 have u7 := (hS2.cell (a := ⟨w.heap.size, 7, none⟩) HSB.out).trans bx7
 have z0 := (hS2.cell (a := ⟨wp.heap.size, 0, none⟩) HSP.out).trans qx0
 have z1 := (hS2.cell (a := ⟨wp.heap.size, 1, none⟩) HSP.out).trans qx1
 have z2 := (hS2.cell (a := ⟨wp.heap.size, 2, none⟩) HSP.out).trans qx2
 have HSB2 := Lib.hid (hS2.keep _ HSB.out).1
 have HSP2 := Lib.hid (hS2.keep _ HSP.out).1
 have HM2 := Lib.hid hM2
 have HS2 : Hid (Stp gm vi vf (wp.alloc (.cells #[.pointer (some ⟨gm, 0, none⟩), .int .i32 l0, .int .i32 1] 60)) vi2 vf2 w2) := Lib.hid hS2
 clear hM2 hS2 hx0 hd0 hds bx0 bx1 bx2 bx3 bx4 bx5 bx6 bx7 qx0 qx1 qx2
 go_wp2_with fail
 refine (f42_any W gm nm S HS.out HSS.out _ _ _ bs (N + sizes [t0]) vi2 vf2 _ H0.out HBr.out HM2.out (by have := HN.out; omega)).mono ?_
 rintro e w3 ⟨v3, vi3, vf3, rfl, hM3, hS3, hR3⟩
 obtain ⟨a3', n3', c3', rfl, rfl, f2, f3, hdb⟩ := hR3
 have k0 := (hS3.cell (a := ⟨g0, i0, none⟩) HG0.out).trans y0
 have o0 := (hS3.cell (a := ⟨w.heap.size, 0, none⟩) HSB2.out).trans u0
 have o7 := (hS3.cell (a := ⟨w.heap.size, 7, none⟩) HSB2.out).trans u7
 have x0 := (hS3.cell (a := ⟨wp.heap.size, 0, none⟩) HSP2.out).trans z0
 have x1 := (hS3.cell (a := ⟨wp.heap.size, 1, none⟩) HSP2.out).trans z1
 have x2 := (hS3.cell (a := ⟨wp.heap.size, 2, none⟩) HSP2.out).trans z2
 have HSB3 := Lib.hid (hS3.keep _ HSB2.out).1
 have HSP3 := Lib.hid (hS3.keep _ HSP2.out).1
 have HG3 := Lib.hid (hS3.keep _ HG0.out).1
 have HM3 := Lib.hid hM3
 have HS3 : Hid (Stp gm vi2 vf2 w2 vi3 vf3 w3) := Lib.hid hS3
 have HDb : Hid (Nds (Sees w3 (New w2.heap.size gm vi3 vf3 w3)) 0 a3' bs) := Lib.hid hdb
 clear hM3 hS3 hdb y0 u0 u6 u7 z0 z1 z2
 go_wp2_with fail
 go_region_held3 (fun w' => w'.cell? ⟨wp.heap.size, 0, none⟩ = some (.pointer (some ⟨gm, 0, none⟩)) ∧ w'.cell? ⟨wp.heap.size, 1, none⟩ = some (.int .i32 l0) ∧ w'.cell? ⟨wp.heap.size, 2, none⟩ = some (.int .i32 1) ∧ w'.cell? ⟨g0, i0, none⟩ = some (.iface T0 p0)) (first | (refine ⟨?_, ?_, ?_, ?_⟩ <;> assumption) | go_keep) ((fail))
 all_goals go_wp2
 all_goals go_ret
 all_goals
  have hall : Stp gm vi vf w vi3 vf3 w3 := (Stp.of_below HBq.out).trans (HS2.out.trans HS3.out)
  have hm : Mk W gm nm vi3 vf3 (N + (1 + (sizes [t0] + (sizes bs)))) w3 := HM3.out.more (by omega)
  have hda := HD0.out.step HS3.out (b' := w.heap.size) HBq.out.size
  have hdb := HDb.out.step (Stp.refl ..) (b' := w.heap.size) (Nat.le_trans HBq.out.size HS2.out.size)
  refine made_b ?_
  first
   | exact made_news (b := w.heap.size) hm hall hall.size bA fun R hc ht => .other 100 w3.heap.size [(4, .node), (5, .row 0)] _ rfl (.node _ 4 _ _ _ _ (hc _ _ _ 4 _ (heap_alloc_new w3 _) (Nat.le_refl _) rfl) (hda.mono ht) (.row _ 5 0 _ _ _ _ _ _ (hc _ _ _ 5 _ (heap_alloc_new w3 _) (Nat.le_refl _) rfl) (hdb.mono ht) rfl (.nil _)))
   | exact made_news (b := w.heap.size) hm hall hall.size (Below.drewed bA) fun R hc ht => .other 100 w3.heap.size [(4, .node), (5, .row 0)] _ rfl (.node _ 4 _ _ _ _ (hc _ _ _ 4 _ (heap_alloc_new w3 _) (Nat.le_refl _) rfl) (hda.mono ht) (.row _ 5 0 _ _ _ _ _ _ (hc _ _ _ 5 _ (heap_alloc_new w3 _) (Nat.le_refl _) rfl) (hdb.mono ht) rfl (.nil _)))
end Go.Proofs.YtabeokminikfdaaGreat
