import Derived.Test.YtabeokminikfdaaGreatQEa
import Derived.Test.YtabeokminikfdaaGreatQEb
import Derived.Test.YtabeokminikfdaaGreatQCm
import Derived.Test.YtabeokminikfdaaGreatQA1
set_option linter.all false
set_option maxRecDepth 100000
set_option maxHeartbeats 16000000
namespace Go.Proofs.YtabeokminikfdaaGreat
open Go.RowKit
theorem Mk.funs {W : World} {gm : Nat} {nm : ByteArray} {vi vf vf' : Value} {N n : Nat} {ys : List Value} {w w2 : World} {c l : Int} (h : Mk W gm nm vi vf N w) (ho : MkAt w gm nm c l vi vf) (hn : n ≤ N) (hr : w2.ownsRow W.heap.size 52 1 vf' (n + 1) ys) (hg : w.grownBy w2 vf.ownBlock) (hb : BlockOf w vf vf') :
  Mk W gm nm vi vf' (N + 1) (w2.setCell ⟨gm, 4, none⟩ vf') ∧ Stp gm vi vf w vi vf' (w2.setCell ⟨gm, 4, none⟩ vf') := by
 have hlt := h.lt
 have hgm : w2.heap[gm]? = w.heap[gm]? := hg.block gm hlt (fun e => h.nf e.symm)
 have hf' : vf'.ownBlock ≠ some gm := by
  rcases hb with hb | ⟨g, hb, hs⟩
  ·rw [hb]; exact h.nf
  ·rw [hb]; intro e; cases e; omega
 have hap : ∀ b, vi.ownBlock = some b → vf'.ownBlock ≠ some b := fun b hb' e => by
  rcases hb with hb | ⟨g, hb, hs⟩
  ·exact h.apart b hb' (hb ▸ e)
  ·have : b = g := by rw [hb] at e; cases e; rfl
   have := (row1_lt h.ri hb').2
   omega
 have hi2 : Row1 w2 W.heap.size 53 vi N := by
  obtain ⟨n2, x2, l2, r2⟩ := h.ri
  refine ⟨n2, x2, l2, r2.1, ?_⟩
  rcases r2.2 with e | ⟨g, cap, cur, rfl, q, r, t⟩
  ·exact .inl e
  ·exact .inr ⟨g, cap, cur, rfl, q, by rw [hg.block g (Array.getElem?_eq_some_iff.1 r).1 (fun e => h.apart g rfl e.symm)]; exact r, t⟩
 have hB2 : Below W.heap.size W w2 := h.bel.grown hg h.bel.size fun b hb => (row1_lt h.rf hb).1
 refine ⟨⟨⟨c, l, ?_⟩, (hi2.more (Nat.le_succ N)).at (a := ⟨gm, 4, none⟩) h.ni _, ?_, h.ni, hf', hap, h.low, hB2.setCell (show W.heap.size ≤ (⟨gm, 4, none⟩ : Addr).block from h.low) _⟩, ?_, ?_⟩
 ·exact (show MkAt w2 gm nm c l vi vf from hgm.trans ho).set4 _
 ·exact ⟨n + 1, ys, by omega, own_at (a := ⟨gm, 4, none⟩) hr hf' _⟩
 ·rintro k ⟨k1, k2, k3, k4⟩
  refine ⟨⟨?_, k2, k3, ?_⟩, (Below.heap_setCell w2 ⟨gm, 4, none⟩ _ k k2).trans (hg.block k k1 (fun e => k4 e.symm))⟩
  ·have := hg.size
   simp [World.setCell]
   omega
  ·rcases hb with hb | ⟨g, hb, hs⟩
   ·rw [hb]; exact k4
   ·rw [hb]; intro e; cases e; omega
 ·have := hg.size
  simp [World.setCell]
  omega
theorem f35_any (W : World) (gm : Nat) (nm : ByteArray) (X : EV → Tr → Prop) (hE : MakeE W gm nm X) (hSh : ∀ e t, X e t → EvSh e) (S : SV → Tr → Prop) (hS : MakeS W gm nm S) (hSS : ∀ s t, S s t → SvSh s) (so : Int) (st : ByteArray) (a1 a2 a3 a4 a5 : Option Addr) (n1 n3 n4 n5 m1 m2 m3 m4 m5 : Nat) (n2 : Nat) (ps bs : List Tr) (h0 : 0 < bs.length) (hP : RowOf W 3 (PQ W X) (.slice a3 n3 m3) ps) (hB : RowOf W 8 (SQ S) (.slice a4 n4 m4) bs) (N : Nat) (vi vf : Value) (w : World) (hM : Mk W gm nm vi vf N w) (hN : N + (1 + (1 + (sizes ps + sizes bs))) ≤ 1000000) :
  Calls Tryz.prog 35 #[.pointer (some ⟨gm, 0, none⟩), .agg #[.int .i64 3, .int .i64 so, .string st, .slice a1 n1 m1, .slice a2 n2 m2, .slice a3 n3 m3, .slice a4 n4 m4, .slice a5 n5 m5]] w (Made W gm nm (N + (1 + (1 + (sizes ps + sizes bs)))) vi vf w fun R v => Nd R v (.mk none (idt st :: (ps ++ (bs ++ []))))) := by
 have HM := Lib.hid hM
 have HN := Lib.hid hN
 have HE := Lib.hid hE
 have HSh := Lib.hid hSh
 have HS := Lib.hid hS
 have HSS := Lib.hid hSS
 have HPr := Lib.hid hP
 have HBr := Lib.hid hB
 have H0 := Lib.hid h0
 clear hP hB h0
 clear hM hN hE hSh hS hSS
 go_enter Tryz.func35, Tryz.ntmps35
 go_wp2_with fail
 refine (f33_mk W gm nm vi vf N _ (HM.out.after bA)).mono ?_
 rintro e wp ⟨l0, rfl, hbp⟩
 have HBq : Hid (Below w.heap.size w (wp.alloc (.cells #[.pointer (some ⟨gm, 0, none⟩), .int .i32 l0, .int .i32 1] 60))) := Lib.hid ((bA.trans (hbp.mono (by simp))).alloc (Nat.le_trans (Nat.le_of_lt (lt1 _ _)) hbp.size) _)
 have hwp : w.heap.size < wp.heap.size := Nat.lt_of_lt_of_le (lt1 _ _) hbp.size
 have HMq := Lib.hid (HM.out.after HBq.out)
 have HSP : Hid (Safe gm vi vf (wp.alloc (.cells #[.pointer (some ⟨gm, 0, none⟩), .int .i32 l0, .int .i32 1] 60)) wp.heap.size) := Lib.hid (HM.out.safe_new (Nat.le_of_lt hwp) (lt1 _ _))
 have HSB : Hid (Safe gm vi vf (wp.alloc (.cells #[.pointer (some ⟨gm, 0, none⟩), .int .i32 l0, .int .i32 1] 60)) w.heap.size) := Lib.hid (HM.out.safe_new (Nat.le_refl _) (Nat.lt_trans hwp (lt1 _ _)))
 have hbk : ∀ q v, (w.alloc (.cells #[.int .i64 3, .int .i64 so, .string st, .slice a1 n1 m1, .slice a2 n2 m2, .slice a3 n3 m3, .slice a4 n4 m4, .slice a5 n5 m5] 43)).cell? ⟨w.heap.size, q, none⟩ = some v → (wp.alloc (.cells #[.pointer (some ⟨gm, 0, none⟩), .int .i32 l0, .int .i32 1] 60)).cell? ⟨w.heap.size, q, none⟩ = some v := fun q v h => cell_al _ ((hbp.cell (p := ⟨w.heap.size, q, none⟩) (lt1 _ _)).trans h)
 have bx0 : (wp.alloc (.cells #[.pointer (some ⟨gm, 0, none⟩), .int .i32 l0, .int .i32 1] 60)).cell? ⟨w.heap.size, 0, none⟩ = some (.int .i64 3) := hbk _ _ (by simp [go_sem])
 have bx1 : (wp.alloc (.cells #[.pointer (some ⟨gm, 0, none⟩), .int .i32 l0, .int .i32 1] 60)).cell? ⟨w.heap.size, 1, none⟩ = some (.int .i64 so) := hbk _ _ (by simp [go_sem])
 have bx2 : (wp.alloc (.cells #[.pointer (some ⟨gm, 0, none⟩), .int .i32 l0, .int .i32 1] 60)).cell? ⟨w.heap.size, 2, none⟩ = some (.string st) := hbk _ _ (by simp [go_sem])
 have bx3 : (wp.alloc (.cells #[.pointer (some ⟨gm, 0, none⟩), .int .i32 l0, .int .i32 1] 60)).cell? ⟨w.heap.size, 3, none⟩ = some (.slice a1 n1 m1) := hbk _ _ (by simp [go_sem])
 have bx4 : (wp.alloc (.cells #[.pointer (some ⟨gm, 0, none⟩), .int .i32 l0, .int .i32 1] 60)).cell? ⟨w.heap.size, 4, none⟩ = some (.slice a2 n2 m2) := hbk _ _ (by simp [go_sem])
 have bx5 : (wp.alloc (.cells #[.pointer (some ⟨gm, 0, none⟩), .int .i32 l0, .int .i32 1] 60)).cell? ⟨w.heap.size, 5, none⟩ = some (.slice a3 n3 m3) := hbk _ _ (by simp [go_sem])
 have bx6 : (wp.alloc (.cells #[.pointer (some ⟨gm, 0, none⟩), .int .i32 l0, .int .i32 1] 60)).cell? ⟨w.heap.size, 6, none⟩ = some (.slice a4 n4 m4) := hbk _ _ (by simp [go_sem])
 have bx7 : (wp.alloc (.cells #[.pointer (some ⟨gm, 0, none⟩), .int .i32 l0, .int .i32 1] 60)).cell? ⟨w.heap.size, 7, none⟩ = some (.slice a5 n5 m5) := hbk _ _ (by simp [go_sem])
 have qx0 : (wp.alloc (.cells #[.pointer (some ⟨gm, 0, none⟩), .int .i32 l0, .int .i32 1] 60)).cell? ⟨wp.heap.size, 0, none⟩ = some (.pointer (some ⟨gm, 0, none⟩)) := by simp [go_sem]
 have qx1 : (wp.alloc (.cells #[.pointer (some ⟨gm, 0, none⟩), .int .i32 l0, .int .i32 1] 60)).cell? ⟨wp.heap.size, 1, none⟩ = some (.int .i32 l0) := by simp [go_sem]
 have qx2 : (wp.alloc (.cells #[.pointer (some ⟨gm, 0, none⟩), .int .i32 l0, .int .i32 1] 60)).cell? ⟨wp.heap.size, 2, none⟩ = some (.int .i32 1) := by simp [go_sem]
 clear hbp hbk
 have HN1 : Hid (N + 1 ≤ 1000000) := Lib.hid (by have := HN.out; omega)
 go_wp2_with fail
 go_region_held3 (fun w' => w'.cell? ⟨wp.heap.size, 0, none⟩ = some (.pointer (some ⟨gm, 0, none⟩)) ∧ w'.cell? ⟨wp.heap.size, 1, none⟩ = some (.int .i32 l0) ∧ w'.cell? ⟨wp.heap.size, 2, none⟩ = some (.int .i32 1) ∧ w'.cell? ⟨w.heap.size, 2, none⟩ = some (.string st)) (first | (refine ⟨?_, ?_, ?_, ?_⟩ <;> assumption) | go_keep) ((go_at_call 40; refine (f40_mk W gm nm st vi vf N _ (by first | exact HMq.out | exact HMq.out.after (Below.drewed (Below.refl _ _))) HN1.out).mono ?_; rintro e w2 ⟨v2, vi2, vf2, rfl, hM2, hS2, g2, rfl, hd2⟩; have hS2' : Stp gm vi vf (wp.alloc (.cells #[.pointer (some ⟨gm, 0, none⟩), .int .i32 l0, .int .i32 1] 60)) vi2 vf2 w2 := ⟨fun k hk => hS2.keep k hk, hS2.size⟩; have hd2' : Nd (Sees w2 (New (wp.alloc (.cells #[.pointer (some ⟨gm, 0, none⟩), .int .i32 l0, .int .i32 1] 60)).heap.size gm vi2 vf2 w2)) (.iface 53 (.pointer (some ⟨g2, 0, none⟩))) (idt st) := hd2; have z0 := (hS2'.cell (a := ⟨wp.heap.size, 0, none⟩) HSP.out).trans qx0; have z1 := (hS2'.cell (a := ⟨wp.heap.size, 1, none⟩) HSP.out).trans qx1; have z2 := (hS2'.cell (a := ⟨wp.heap.size, 2, none⟩) HSP.out).trans qx2; have z9 := (hS2'.cell (a := ⟨w.heap.size, 2, none⟩) HSB.out).trans bx2; have HM2 := Lib.hid hM2; have HS2 := Lib.hid hS2'; have HD2 := Lib.hid hd2'; clear hM2 hS2 hd2 hS2' hd2'))
 have t5 := (HS2.out.cell (a := ⟨w.heap.size, 5, none⟩) HSB.out).trans bx5
 have t6 := (HS2.out.cell (a := ⟨w.heap.size, 6, none⟩) HSB.out).trans bx6
 have HBD : Hid (Below w2.heap.size w2 (w2.alloc (.cells #[.pointer none, .pointer (some ⟨gm, 0, none⟩), .int .i32 l0, .int .i32 1, .pointer (some ⟨g2, 0, none⟩), .pointer (some ⟨gm, 0, none⟩), .int .i32 l0, .int .i32 1, .slice none 0 0, .pointer (some ⟨gm, 0, none⟩), .int .i32 l0, .int .i32 1, .slice none 0 0, .nilIface] 96))) := Lib.hid bA
 have HMd := Lib.hid (HM2.out.after HBD.out)
 have HSBd : Hid (Safe gm vi2 vf2 (w2.alloc (.cells #[.pointer none, .pointer (some ⟨gm, 0, none⟩), .int .i32 l0, .int .i32 1, .pointer (some ⟨g2, 0, none⟩), .pointer (some ⟨gm, 0, none⟩), .int .i32 l0, .int .i32 1, .slice none 0 0, .pointer (some ⟨gm, 0, none⟩), .int .i32 l0, .int .i32 1, .slice none 0 0, .nilIface] 96)) w.heap.size) := Lib.hid ((HS2.out.trans (Stp.of_below HBD.out)).keep _ HSB.out).1
 have HSGd : Hid (Safe gm vi2 vf2 (w2.alloc (.cells #[.pointer none, .pointer (some ⟨gm, 0, none⟩), .int .i32 l0, .int .i32 1, .pointer (some ⟨g2, 0, none⟩), .pointer (some ⟨gm, 0, none⟩), .int .i32 l0, .int .i32 1, .slice none 0 0, .pointer (some ⟨gm, 0, none⟩), .int .i32 l0, .int .i32 1, .slice none 0 0, .nilIface] 96)) w2.heap.size) := Lib.hid (HM2.out.safe_new (Nat.le_refl _) (lt1 _ _))
 have t5' : (w2.alloc (.cells #[.pointer none, .pointer (some ⟨gm, 0, none⟩), .int .i32 l0, .int .i32 1, .pointer (some ⟨g2, 0, none⟩), .pointer (some ⟨gm, 0, none⟩), .int .i32 l0, .int .i32 1, .slice none 0 0, .pointer (some ⟨gm, 0, none⟩), .int .i32 l0, .int .i32 1, .slice none 0 0, .nilIface] 96)).cell? ⟨w.heap.size, 5, none⟩ = some (.slice a3 n3 m3) := cell_al _ t5
 have t6' : (w2.alloc (.cells #[.pointer none, .pointer (some ⟨gm, 0, none⟩), .int .i32 l0, .int .i32 1, .pointer (some ⟨g2, 0, none⟩), .pointer (some ⟨gm, 0, none⟩), .int .i32 l0, .int .i32 1, .slice none 0 0, .pointer (some ⟨gm, 0, none⟩), .int .i32 l0, .int .i32 1, .slice none 0 0, .nilIface] 96)).cell? ⟨w.heap.size, 6, none⟩ = some (.slice a4 n4 m4) := cell_al _ t6
 clear z0 z1 z2 z9 bx0 bx1 bx2 bx3 bx4 bx5 bx6 bx7 qx0 qx1 qx2
 obtain ⟨i0, hi, hz0, hz1, hz2⟩ := info_parts info52
 obtain ⟨c, l, ho0⟩ := HMd.out.obj
 obtain ⟨c0, c1, c2, c3, c4, c5, c6⟩ := ho0.cells
 obtain ⟨nf, xf, hnf, hrf⟩ := HMd.out.rf
 obtain ⟨VA, VC, rfl⟩ := own_len hrf
 have HX : Hid (Below (w2.alloc (.cells #[.pointer none, .pointer (some ⟨gm, 0, none⟩), .int .i32 l0, .int .i32 1, .pointer (some ⟨g2, 0, none⟩), .pointer (some ⟨gm, 0, none⟩), .int .i32 l0, .int .i32 1, .slice none 0 0, .pointer (some ⟨gm, 0, none⟩), .int .i32 l0, .int .i32 1, .slice none 0 0, .nilIface] 96)).heap.size (w2.alloc (.cells #[.pointer none, .pointer (some ⟨gm, 0, none⟩), .int .i32 l0, .int .i32 1, .pointer (some ⟨g2, 0, none⟩), .pointer (some ⟨gm, 0, none⟩), .int .i32 l0, .int .i32 1, .slice none 0 0, .pointer (some ⟨gm, 0, none⟩), .int .i32 l0, .int .i32 1, .slice none 0 0, .nilIface] 96)) ((w2.alloc (.cells #[.pointer none, .pointer (some ⟨gm, 0, none⟩), .int .i32 l0, .int .i32 1, .pointer (some ⟨g2, 0, none⟩), .pointer (some ⟨gm, 0, none⟩), .int .i32 l0, .int .i32 1, .slice none 0 0, .pointer (some ⟨gm, 0, none⟩), .int .i32 l0, .int .i32 1, .slice none 0 0, .nilIface] 96)).alloc (.cells #[.iface 93 (.pointer (some ⟨w2.heap.size, 0, none⟩))] 52))) := Lib.hid bA
 have HMX := Lib.hid (HMd.out.after HX.out)
 have HOX : Hid (MkAt ((w2.alloc (.cells #[.pointer none, .pointer (some ⟨gm, 0, none⟩), .int .i32 l0, .int .i32 1, .pointer (some ⟨g2, 0, none⟩), .pointer (some ⟨gm, 0, none⟩), .int .i32 l0, .int .i32 1, .slice none 0 0, .pointer (some ⟨gm, 0, none⟩), .int .i32 l0, .int .i32 1, .slice none 0 0, .nilIface] 96)).alloc (.cells #[.iface 93 (.pointer (some ⟨w2.heap.size, 0, none⟩))] 52)) gm nm c l vi2 (.slice VA nf VC)) := Lib.hid ((HX.out.block gm HMd.out.lt).trans ho0)
 have HNf := Lib.hid hnf
 have HRX := Lib.hid (own_below hrf HX.out)
 have HLx : Hid (nf + 1 ≤ maxLen ∧ (nf + 1) * 16 ≤ 140737488355328) := Lib.hid (by have := HNf.out; have := HN.out; exact ⟨by unfold maxLen; omega, by omega⟩)
 have HSrc : Hid (SrcAt ((w2.alloc (.cells #[.pointer none, .pointer (some ⟨gm, 0, none⟩), .int .i32 l0, .int .i32 1, .pointer (some ⟨g2, 0, none⟩), .pointer (some ⟨gm, 0, none⟩), .int .i32 l0, .int .i32 1, .slice none 0 0, .pointer (some ⟨gm, 0, none⟩), .int .i32 l0, .int .i32 1, .slice none 0 0, .nilIface] 96)).alloc (.cells #[.iface 93 (.pointer (some ⟨w2.heap.size, 0, none⟩))] 52)) (.slice (some ⟨w2.heap.size + 1, 0, none⟩) 1 1) 1 [.iface 93 (.pointer (some ⟨w2.heap.size, 0, none⟩))]) := Lib.hid (by have := src_one (w2.alloc (.cells #[.pointer none, .pointer (some ⟨gm, 0, none⟩), .int .i32 l0, .int .i32 1, .pointer (some ⟨g2, 0, none⟩), .pointer (some ⟨gm, 0, none⟩), .int .i32 l0, .int .i32 1, .slice none 0 0, .pointer (some ⟨gm, 0, none⟩), .int .i32 l0, .int .i32 1, .slice none 0 0, .nilIface] 96)) (.iface 93 (.pointer (some ⟨w2.heap.size, 0, none⟩))) 52; simpa only [sz1] using this)
 have HBX := Lib.hid HMX.out.bel.size
 clear ho0 hnf hrf c0 c1 c2 c3 c5
 go_wp2_with (at_builtin; refine wpList_append_blk rfl (.tmp 22) (.tmp 25) 69 rfl W.heap.size 52 i0 .nilIface 1 16 Tryz.underlying69 hi hz0 hz1 hz2 rfl (by decide) (.slice VA nf VC) nf xf rfl HRX.out (.slice (some ⟨w2.heap.size + 1, 0, none⟩) 1 1) 1 [.iface 93 (.pointer (some ⟨w2.heap.size, 0, none⟩))] rfl HSrc.out rfl (by intro y hy; obtain rfl := List.mem_singleton.1 hy; rfl) HLx.out.1 HLx.out.2 HBX.out ?_)
 intro v' wf ho2 hg2 hv2
 obtain ⟨A2', C2, rfl⟩ := own_len ho2
 have HSF := Lib.hid (HMX.out.funs HOX.out HNf.out ho2 hg2 hv2)
 have y0 : wf.heap[gm]? = some _ := (hg2.block gm HMX.out.lt (fun e => HMX.out.nf e.symm)).trans HOX.out
 obtain ⟨-, -, -, -, y4, -, y6⟩ := MkAt.cells (w := wf) (gm := gm) y0
 have v5 : wf.cell? ⟨w.heap.size, 5, none⟩ = some (.slice a3 n3 m3) := (World.cell?_of_block (w := (w2.alloc (.cells #[.pointer none, .pointer (some ⟨gm, 0, none⟩), .int .i32 l0, .int .i32 1, .pointer (some ⟨g2, 0, none⟩), .pointer (some ⟨gm, 0, none⟩), .int .i32 l0, .int .i32 1, .slice none 0 0, .pointer (some ⟨gm, 0, none⟩), .int .i32 l0, .int .i32 1, .slice none 0 0, .nilIface] 96))) (a := ⟨w.heap.size, 5, none⟩) ((hg2.block (w.heap.size) (Nat.lt_of_lt_of_le HSBd.out.1 HX.out.size) (fun e => HSBd.out.2.2.2 e.symm)).trans (HX.out.block (w.heap.size) HSBd.out.1))).trans t5'
 have v6 : wf.cell? ⟨w.heap.size, 6, none⟩ = some (.slice a4 n4 m4) := (World.cell?_of_block (w := (w2.alloc (.cells #[.pointer none, .pointer (some ⟨gm, 0, none⟩), .int .i32 l0, .int .i32 1, .pointer (some ⟨g2, 0, none⟩), .pointer (some ⟨gm, 0, none⟩), .int .i32 l0, .int .i32 1, .slice none 0 0, .pointer (some ⟨gm, 0, none⟩), .int .i32 l0, .int .i32 1, .slice none 0 0, .nilIface] 96))) (a := ⟨w.heap.size, 6, none⟩) ((hg2.block (w.heap.size) (Nat.lt_of_lt_of_le HSBd.out.1 HX.out.size) (fun e => HSBd.out.2.2.2 e.symm)).trans (HX.out.block (w.heap.size) HSBd.out.1))).trans t6'
 have HV6 := Lib.hid v6
 have H24 : Hid (Stp gm vi2 (.slice VA nf VC) w2 vi2 (.slice A2' (nf + 1) C2) (wf.setCell ⟨gm, 4, none⟩ (.slice A2' (nf + 1) C2))) := Lib.hid ((Stp.of_below HBD.out).trans ((Stp.of_below HX.out).trans HSF.out.2))
 have hkg := ((Stp.of_below HX.out).trans HSF.out.2).keep _ HSGd.out
 have HG4 := Lib.hid (hkg.2.trans (heap_alloc_new w2 _))
 have HSG4 := Lib.hid hkg.1
 have HSB4 := Lib.hid (((Stp.of_below HX.out).trans HSF.out.2).keep _ HSBd.out).1
 clear ho2 hg2 hv2 y0 c4 c6 t5 t6 t5' t6' hkg v6
 go_wp2_with fail
 refine (f41_any W gm nm X HE.out HSh.out _ ps (N + 1 + 1) vi2 _ _ HPr.out HSF.out.1 (by have := HN.out; omega)).mono ?_
 rintro e w6 ⟨v6, vi6, vf6, rfl, hM6, hS6, hR6⟩
 obtain ⟨a6, n6, c6, rfl, rfl, e2, e3, e4⟩ := hR6
 have hk6 := hS6.keep _ HSG4.out
 have hg6 := hk6.2.trans HG4.out
 have hgc := obj_cell hg6 8 _ rfl
 have hgf := obj_free hg6
 have u6 := (hS6.cell (a := ⟨w.heap.size, 6, none⟩) HSB4.out).trans ((Stp.set (gm := gm) (vi := vi2) (vf := .slice VA nf VC) (w := wf) 4 (.slice A2' (nf + 1) C2)).cell (a := ⟨w.heap.size, 6, none⟩) ⟨World.block_lt_of_cell? wf _ HV6.out, HSBd.out.2⟩ |>.trans HV6.out)
 have HG6 := Lib.hid (obj_set hg6 8 (.slice a6 ps.length c6))
 have HSG6 := Lib.hid hk6.1
 have HM6 := Lib.hid (hM6.setNew hk6.1 HM2.out.bel.size 8 (.slice a6 ps.length c6))
 have HS26 := Lib.hid ((H24.out.trans hS6).setNew (Nat.le_refl w2.heap.size) 8 (.slice a6 ps.length c6))
 have HS26' := Lib.hid (H24.out.trans hS6)
 have HR6 := Lib.hid e4
 have HX6 : Hid (w2.heap.size < (wf.setCell ⟨gm, 4, none⟩ (.slice A2' (nf + 1) C2)).heap.size) := Lib.hid HSG4.out.1
 clear hM6 hS6 e4 hk6 hg6 v5
 go_wp2_with fail
 refine (f42_any W gm nm S HS.out HSS.out _ _ _ bs (N + 1 + 1 + sizes ps) vi6 vf6 _ H0.out HBr.out HM6.out (by have := HN.out; omega)).mono ?_
 rintro e w8 ⟨v8, vi8, vf8, rfl, hM8, hS8, hR8⟩
 obtain ⟨a8, n8, c8, rfl, rfl, f2, f3, f4⟩ := hR8
 have hk8 := hS8.keep _ (HSG6.out.set _ _)
 have hg8 := hk8.2.trans HG6.out
 have hgc8 := obj_cell hg8 12 _ rfl
 have hgf8 := obj_free hg8
 have HG8 := Lib.hid (obj_set hg8 12 (.slice a8 bs.length c8))
 have HSG8 := Lib.hid hk8.1
 have HM8 := Lib.hid hM8
 have HS8 := Lib.hid hS8
 have HR8 := Lib.hid f4
 clear hM8 hS8 f4 hk8 hg8 hgc hgf u6
 go_wp2
 go_ret
 have hall := (HS26.out.trans HS8.out).setNew (Nat.le_refl w2.heap.size) 12 (.slice a8 bs.length c8)
 have hw2 : w.heap.size ≤ w2.heap.size := Nat.le_trans HBq.out.size HS2.out.size
 have hn : New w.heap.size gm vi8 vf8 (w8.setCell ⟨w2.heap.size, 12, none⟩ (.slice a8 bs.length c8)) w2.heap.size := ⟨hw2, HSG8.out.set _ _⟩
 have hx7 : w2.heap.size < (w6.setCell ⟨w2.heap.size, 8, none⟩ (.slice a6 ps.length c6)).heap.size := (HSG6.out.set _ _).1
 have hid := (HD2.out.step (Stp.refl ..) HBq.out.size).mono fun a x h => sees_drop a x (sees_set 12 (.slice a8 bs.length c8) a x (sees_butS HS8.out a x (sees_set 8 (.slice a6 ps.length c6) a x (sees_but1 HS26'.out (Nat.le_refl _) a x h))))
 have hps := HR6.out.mono fun a x h => sees_drop a x (sees_set 12 (.slice a8 bs.length c8) a x (sees_butS HS8.out a x (sees_set 8 (.slice a6 ps.length c6) a x (sees_but2 HX6.out (Nat.le_trans hw2 (Nat.le_of_lt HX6.out)) a x h))))
 have hbs := HR8.out.mono fun a x h => sees_drop a x (sees_set 12 (.slice a8 bs.length c8) a x (sees_but2 hx7 (Nat.le_trans hw2 (Nat.le_of_lt hx7)) a x h))
 exact ⟨_, vi8, vf8, rfl, (HM8.out.setNew HSG8.out HM2.out.bel.size 12 _).more (by omega), ((Stp.of_below HBq.out).trans HS2.out).trans hall, .other 93 _ [(4, .ptr 53), (8, .row 0), (12, .row 0)] _ rfl (.ptr _ 4 53 _ _ _ _ (sees_at HG8.out hn 4 _ rfl) hid (.row _ 8 0 _ _ _ _ _ _ (sees_at HG8.out hn 8 _ rfl) hps rfl (.row _ 12 0 _ _ _ _ _ _ (sees_at HG8.out hn 12 _ rfl) hbs rfl (.nil _))))⟩
end Go.Proofs.YtabeokminikfdaaGreat
