import Derived.Test.YtabeokminikfdaaGreatQCi
import Derived.Test.YtabeokminikfdaaGreatQBf
import Derived.Test.YtabeokminikfdaaGreatQA1
set_option linter.all false
set_option maxRecDepth 100000
set_option maxHeartbeats 8000000
namespace Go.Proofs.YtabeokminikfdaaGreat
open Go.RowKit
theorem f48_any (W : World) (gm : Nat) (nm : ByteArray) (X : EV → Tr → Prop) (hE : MakeE W gm nm X) (hSh : ∀ e t, X e t → EvSh e) (v : Value) (ts : List Tr) (N : Nat) (vi vf : Value) (w : World) (hv : RowOf W 11 (fun _ cs t => ∃ k : EV, cs = k.cells ∧ CX W X k t) v ts) (hM : Mk W gm nm vi vf N w) (hN : N + sizes ts ≤ 1000000) :
  Calls Tryz.prog 48 #[.pointer (some ⟨gm, 0, none⟩), v] w (Made W gm nm (N + sizes ts) vi vf w (RowQ 0 ts)) := by
 obtain ⟨i0, hi, hz0, hz1, hz2⟩ := info_parts info52
 obtain ⟨a, c, rfl⟩ := hv.val
 have hlen : ts.length ≤ 1000000 := by have := length_sizes ts; omega
 have HE := Lib.hid hE
 have HSh := Lib.hid hSh
 have HV := Lib.hid hv
 have HM := Lib.hid hM
 have HN := Lib.hid hN
 clear hE hSh hv hM hN
 go_enter Tryz.func48, Tryz.ntmps48
 go_wp2_with fail
 refine (f33_mk W gm nm vi vf N w HM.out).mono ?_
 rintro e wp ⟨l0, rfl, hbp⟩
 have HBP : Hid (Below w.heap.size w (wp.alloc (.cells #[.pointer (some ⟨gm, 0, none⟩), .int .i32 l0, .int .i32 1] 60))) := Lib.hid (hbp.alloc hbp.size _)
 have HMP := Lib.hid (HM.out.after HBP.out)
 have HSP : Hid (Safe gm vi vf (wp.alloc (.cells #[.pointer (some ⟨gm, 0, none⟩), .int .i32 l0, .int .i32 1] 60)) wp.heap.size) := Lib.hid ((HM.out.after hbp).safe_new (Nat.le_refl _) (lt1 _ _))
 have HPB : Hid ((wp.alloc (.cells #[.pointer (some ⟨gm, 0, none⟩), .int .i32 l0, .int .i32 1] 60)).heap[wp.heap.size]? = some (.cells #[.pointer (some ⟨gm, 0, none⟩), .int .i32 l0, .int .i32 1] 60)) := Lib.hid (heap_alloc_new wp _)
 clear hbp
 go_wp2
 generalize hwq : wp.alloc (.cells #[.pointer (some ⟨gm, 0, none⟩), .int .i32 l0, .int .i32 1] 60) = wq at *
 clear hwq
 go_loopw [4, 13] (fun s4 i wr => ∃ (k : Nat) (vi' vf' : Value) (xs : List Value), k ≤ ts.length ∧ i = .int .i64 k ∧ Outs W gm nm (N + sizes (ts.take k)) vi vf vi' vf' wq 52 (ts.take k) xs s4 wr) (fun _ i _ => ts.length - (intOf i).toNat)
 case atStart => exact ⟨0, vi, vf, [], Nat.zero_le _, rfl, (Outs.start HMP.out).more (Nat.le_add_right _ _)⟩
 case round =>
  obtain ⟨k, vi', vf', xs, hk, rfl, hO⟩ := hrel
  have htk : (ts.take k).length = k := by rw [List.length_take]; omega
  obtain ⟨VA, VC, rfl⟩ := own_len hO.row
  rw [show Value.slice VA (ts.take k).length VC = .slice VA k VC by rw [htk]] at hO
  have HO := Lib.hid hO
  have HTk := Lib.hid htk
  clear hO
  by_cases hlt : k < ts.length
  ·have hk' : k < ts.length := by omega
   obtain ⟨g, off, cs, rfl, ⟨hsz, hcs⟩, x, rfl, hsh, hx⟩ := HV.out.at k hk'
   obtain ⟨xk, xo, xt, xfk, xfn, xfm, xfb, xft, xfs, xgs, xhs⟩ := x
   obtain ⟨⟨xa1, xn1, xm1, rfl⟩, ⟨xa2, xn2, xm2, rfl⟩, ⟨xa3, xn3, xm3, rfl⟩, ⟨xa4, xn4, xm4, rfl⟩⟩ := hsh
   obtain ⟨c0, c1, c2, c3, c4, c5, c6, c7, c8, c9, c10⟩ := ev_cells HO.out.maker.bel hcs
   dsimp only at c0 c1 c2 c3 c4 c5 c6 c7 c8 c9 c10 hx
   have HZ := Lib.hid (sizes_take_le ts k hk')
   have HTT := Lib.hid (List.take_succ_eq_append_getElem hk')
   generalize htt : ts[k] = tt at *
   clear htt
   have HSPr := Lib.hid (HO.out.st.keep _ HSP.out).1
   have hpb : wr.heap[wp.heap.size]? = some (.cells #[.pointer (some ⟨gm, 0, none⟩), .int .i32 l0, .int .i32 1] 60) := (HO.out.st.keep _ HSP.out).2.trans HPB.out
   have q0 : wr.cell? ⟨wp.heap.size, 0, none⟩ = some (.pointer (some ⟨gm, 0, none⟩)) := by simp [World.cell?, hpb]
   have q1 : wr.cell? ⟨wp.heap.size, 1, none⟩ = some (.int .i32 l0) := by simp [World.cell?, hpb]
   have q2 : wr.cell? ⟨wp.heap.size, 2, none⟩ = some (.int .i32 1) := by simp [World.cell?, hpb]
   have hplt : wp.heap.size < wr.heap.size := HSPr.out.1
   have HBX : Hid (Below wr.heap.size wr (wr.alloc (.cells #[.int .i64 xk, .int .i64 xo, .string xt, .int .i64 xfk, .bool xfn, .slice xa1 xn1 xm1, .int .u64 xfb, .string xft, .slice xa2 xn2 xm2, .slice xa3 xn3 xm3, .slice xa4 xn4 xm4] 164))) := Lib.hid bA
   have HMX := Lib.hid (HO.out.maker.after HBX.out)
   have HSX : Hid (Safe gm vi' vf' (wr.alloc (.cells #[.int .i64 xk, .int .i64 xo, .string xt, .int .i64 xfk, .bool xfn, .slice xa1 xn1 xm1, .int .u64 xfb, .string xft, .slice xa2 xn2 xm2, .slice xa3 xn3 xm3, .slice xa4 xn4 xm4] 164)) wr.heap.size) := Lib.hid (HO.out.maker.safe_new (Nat.le_refl _) (lt1 _ _))
   have HSPx : Hid (Safe gm vi' vf' (wr.alloc (.cells #[.int .i64 xk, .int .i64 xo, .string xt, .int .i64 xfk, .bool xfn, .slice xa1 xn1 xm1, .int .u64 xfb, .string xft, .slice xa2 xn2 xm2, .slice xa3 xn3 xm3, .slice xa4 xn4 xm4] 164)) wp.heap.size) := Lib.hid ((Stp.of_below HBX.out).keep _ HSPr.out).1
   clear hcs hsz htk hpb
   rcases hx with ⟨rfl, t1, t2, hkr, rfl⟩ | ⟨rfl, t1, hkr, rfl⟩
   ·obtain rfl : xn3 = 2 := hkr.len
    obtain ⟨g3, o3, cs0, rfl, ⟨_, he0⟩, u, rfl, hu⟩ := hkr.at 0 (by simp)
    obtain ⟨_, _, cs1, hga, ⟨_, he1⟩, y, rfl, hy⟩ := hkr.at 1 (by simp)
    cases hga
    have hus := HSh.out u _ hu
    have hys := HSh.out y _ hy
    obtain ⟨uk, uo, ut, ufk, ufn, ufm, ufb, uft, ufs, ugs, uhs⟩ := u
    obtain ⟨⟨ua1, un1, um1, rfl⟩, ⟨ua2, un2, um2, rfl⟩, ⟨ua3, un3, um3, rfl⟩, ⟨ua4, un4, um4, rfl⟩⟩ := hus
    obtain ⟨yk, yo, yt, yfk, yfn, yfm, yfb, yft, yfs, ygs, yhs⟩ := y
    obtain ⟨⟨ya1, yn1, ym1, rfl⟩, ⟨ya2, yn2, ym2, rfl⟩, ⟨ya3, yn3, ym3, rfl⟩, ⟨ya4, yn4, ym4, rfl⟩⟩ := hys
    have HE1 : Hid (∀ j, j < 11 → W.cell? ⟨g3, o3 + 1 * 11 + j, none⟩ = (EV.cells _)[j]?) := Lib.hid he1
    have HU : Hid (X _ t1) := Lib.hid hu
    have HY : Hid (X _ t2) := Lib.hid hy
    obtain ⟨y0, y1, y2, y3, y4, y5, y6, y7, y8, y9, y10⟩ := ev_cells0 HMX.out.bel he0
    dsimp only at y0 y1 y2 y3 y4 y5 y6 y7 y8 y9 y10
    have q0x : ((wr.alloc (.cells #[.int .i64 21, .int .i64 xo, .string xt, .int .i64 xfk, .bool xfn, .slice xa1 xn1 xm1, .int .u64 xfb, .string xft, .slice xa2 xn2 xm2, .slice (some ⟨g3, o3, none⟩) 2 xm3, .slice xa4 xn4 xm4] 164))).cell? ⟨wp.heap.size, 0, none⟩ = some (.pointer (some ⟨gm, 0, none⟩)) := cell_al _ q0
    have q1x : ((wr.alloc (.cells #[.int .i64 21, .int .i64 xo, .string xt, .int .i64 xfk, .bool xfn, .slice xa1 xn1 xm1, .int .u64 xfb, .string xft, .slice xa2 xn2 xm2, .slice (some ⟨g3, o3, none⟩) 2 xm3, .slice xa4 xn4 xm4] 164))).cell? ⟨wp.heap.size, 1, none⟩ = some (.int .i32 l0) := cell_al _ q1
    have q2x : ((wr.alloc (.cells #[.int .i64 21, .int .i64 xo, .string xt, .int .i64 xfk, .bool xfn, .slice xa1 xn1 xm1, .int .u64 xfb, .string xft, .slice xa2 xn2 xm2, .slice (some ⟨g3, o3, none⟩) 2 xm3, .slice xa4 xn4 xm4] 164))).cell? ⟨wp.heap.size, 2, none⟩ = some (.int .i32 1) := cell_al _ q2
    have b9x : ((wr.alloc (.cells #[.int .i64 21, .int .i64 xo, .string xt, .int .i64 xfk, .bool xfn, .slice xa1 xn1 xm1, .int .u64 xfb, .string xft, .slice xa2 xn2 xm2, .slice (some ⟨g3, o3, none⟩) 2 xm3, .slice xa4 xn4 xm4] 164))).cell? ⟨wr.heap.size, 9, none⟩ = some (.slice (some ⟨g3, o3, none⟩) 2 xm3) := by simp [go_sem]
    have HNs : Hid (N + sizes (ts.take k) + t1.size ≤ 1000000 ∧ N + sizes (ts.take k) + t1.size + t2.size ≤ 1000000) := Lib.hid (by have := HZ.out; have := HN.out; simp only [Tr.size, sizes] at *; omega)
    have HN2 := Lib.hid HNs.out.2
    have HL : Hid (k + 1 ≤ maxLen ∧ (k + 1) * 16 ≤ 140737488355328) := Lib.hid ⟨by unfold maxLen; omega, by omega⟩
    have HNe0 : Hid ((Value.slice VA k VC).ownBlock ≠ some wp.heap.size) := Lib.hid (fun e => by have := (HO.out.row.lt _ e).1; have := HSP.out.1; omega)
    have HNe1 : Hid ((Value.slice VA k VC).ownBlock ≠ some wr.heap.size) := Lib.hid (fun e => by have := (HO.out.row.lt _ e).2; omega)
    clear he0 he1 hu hy hkr
    go_wp2_with fail
    refine (HE.out _ t1 (N + sizes (ts.take k)) vi' vf' _ HU.out HMX.out HNs.out.1).mono ?_
    rintro e w1 ⟨v1, vi1, vf1, rfl, hM1, hS1, hd1⟩
    obtain ⟨T1, p1, rfl⟩ := hd1.iface
    have qx0 := (hS1.cell (a := ⟨wp.heap.size, 0, none⟩) HSPx.out).trans q0x
    have qx1 := (hS1.cell (a := ⟨wp.heap.size, 1, none⟩) HSPx.out).trans q1x
    have qx2 := (hS1.cell (a := ⟨wp.heap.size, 2, none⟩) HSPx.out).trans q2x
    have bx9 := (hS1.cell (a := ⟨wr.heap.size, 9, none⟩) HSX.out).trans b9x
    have HSP1 := Lib.hid (hS1.keep _ HSPx.out).1
    have HSB1 := Lib.hid (hS1.keep _ HSX.out).1
    clear y0 y1 y2 y3 y4 y5 y6 y7 y8 y9 y10
    obtain ⟨y0, y1, y2, y3, y4, y5, y6, y7, y8, y9, y10⟩ := ev_cells1 hM1.bel HE1.out
    dsimp only at y0 y1 y2 y3 y4 y5 y6 y7 y8 y9 y10
    have HM1 := Lib.hid hM1
    have HS1 := Lib.hid hS1
    have HD1 := Lib.hid hd1
    clear hM1 hS1 hd1 q0x q1x q2x b9x
    go_wp2_with fail
    go_region_held3 (fun w' => w'.cell? ⟨wp.heap.size, 0, none⟩ = some (.pointer (some ⟨gm, 0, none⟩)) ∧ w'.cell? ⟨wp.heap.size, 1, none⟩ = some (.int .i32 l0) ∧ w'.cell? ⟨wp.heap.size, 2, none⟩ = some (.int .i32 1) ∧ w'.cell? ⟨wr.heap.size, 9, none⟩ = some (.slice (some ⟨g3, o3, none⟩) 2 xm3) ∧ w'.cell? ⟨g3, o3 + 11, none⟩ = some (.int .i64 yk) ∧ w'.cell? ⟨g3, o3 + 11 + 1, none⟩ = some (.int .i64 yo) ∧ w'.cell? ⟨g3, o3 + 11 + 2, none⟩ = some (.string yt) ∧ w'.cell? ⟨g3, o3 + 11 + 3, none⟩ = some (.int .i64 yfk) ∧ w'.cell? ⟨g3, o3 + 11 + 4, none⟩ = some (.bool yfn) ∧ w'.cell? ⟨g3, o3 + 11 + 5, none⟩ = some (.slice ya1 yn1 ym1) ∧ w'.cell? ⟨g3, o3 + 11 + 6, none⟩ = some (.int .u64 yfb) ∧ w'.cell? ⟨g3, o3 + 11 + 7, none⟩ = some (.string yft) ∧ w'.cell? ⟨g3, o3 + 11 + 8, none⟩ = some (.slice ya2 yn2 ym2) ∧ w'.cell? ⟨g3, o3 + 11 + 9, none⟩ = some (.slice ya3 yn3 ym3) ∧ w'.cell? ⟨g3, o3 + 11 + 10, none⟩ = some (.slice ya4 yn4 ym4)) (first | (refine ⟨?_, ?_, ?_, ?_, ?_, ?_, ?_, ?_, ?_, ?_, ?_, ?_, ?_, ?_, ?_⟩ <;> assumption) | go_keep) ((first | (go_at_call 43; refine (HE.out _ t2 (N + sizes (ts.take k) + t1.size) vi1 vf1 _ HY.out (by first | exact HM1.out | exact HM1.out.after (Below.drewed (Below.refl _ _))) HN2.out).mono ?_; rintro e w2 ⟨v2, vi2, vf2, rfl, hM2, hS2, hd2⟩; obtain ⟨T2, p2, rfl⟩ := hd2.iface; have hS2' : Stp gm vi1 vf1 w1 vi2 vf2 w2 := ⟨fun k hk => hS2.keep k hk, hS2.size⟩; have hd2' : Nd (Sees w2 (New (w1).heap.size gm vi2 vf2 w2)) (.iface T2 p2) t2 := hd2; have z0 := (hS2'.cell (a := ⟨wp.heap.size, 0, none⟩) HSP1.out).trans qx0; have z1 := (hS2'.cell (a := ⟨wp.heap.size, 1, none⟩) HSP1.out).trans qx1; have z2 := (hS2'.cell (a := ⟨wp.heap.size, 2, none⟩) HSP1.out).trans qx2; have z9 := (hS2'.cell (a := ⟨wr.heap.size, 9, none⟩) HSB1.out).trans bx9; obtain ⟨r0, r1, r2, r3, r4, r5, r6, r7, r8, r9, r10⟩ := ev_cells1 hM2.bel HE1.out; dsimp only at r0 r1 r2 r3 r4 r5 r6 r7 r8 r9 r10; have HM2 := Lib.hid hM2; have HS2 := Lib.hid hS2'; have HD2 := Lib.hid hd2'; have HM5 := Lib.hid (hM2.after (w' := (w2.alloc (.cells #[.pointer none, .pointer (some ⟨gm, 0, none⟩), .int .i32 l0, .int .i32 1, .iface T1 p1, .pointer (some ⟨gm, 0, none⟩), .int .i32 l0, .int .i32 1, .iface T2 p2] 136))) bA); have hSa : Stp gm vi' vf' (wr.alloc (.cells #[.int .i64 21, .int .i64 xo, .string xt, .int .i64 xfk, .bool xfn, .slice xa1 xn1 xm1, .int .u64 xfb, .string xft, .slice xa2 xn2 xm2, .slice (some ⟨g3, o3, none⟩) 2 xm3, .slice xa4 xn4 xm4] 164)) vi2 vf2 w2 := HS1.out.trans hS2'; have HS5 := Lib.hid (hSa.trans (Stp.of_below (gm := gm) (vi := vi2) (vf := vf2) (w := w2) (w' := (w2.alloc (.cells #[.pointer none, .pointer (some ⟨gm, 0, none⟩), .int .i32 l0, .int .i32 1, .iface T1 p1, .pointer (some ⟨gm, 0, none⟩), .int .i32 l0, .int .i32 1, .iface T2 p2] 136))) bA)); have HD5 : Hid (Nd (Sees (w2.alloc (.cells #[.pointer none, .pointer (some ⟨gm, 0, none⟩), .int .i32 l0, .int .i32 1, .iface T1 p1, .pointer (some ⟨gm, 0, none⟩), .int .i32 l0, .int .i32 1, .iface T2 p2] 136)) (New ((wr.alloc (.cells #[.int .i64 21, .int .i64 xo, .string xt, .int .i64 xfk, .bool xfn, .slice xa1 xn1 xm1, .int .u64 xfb, .string xft, .slice xa2 xn2 xm2, .slice (some ⟨g3, o3, none⟩) 2 xm3, .slice xa4 xn4 xm4] 164))).heap.size gm vi2 vf2 (w2.alloc (.cells #[.pointer none, .pointer (some ⟨gm, 0, none⟩), .int .i32 l0, .int .i32 1, .iface T1 p1, .pointer (some ⟨gm, 0, none⟩), .int .i32 l0, .int .i32 1, .iface T2 p2] 136)))) (.iface 134 (.pointer (some ⟨w2.heap.size, 0, none⟩))) (.mk none [t1, t2])) := Lib.hid (nd_two hM2 (HD1.out.step hS2' (Nat.le_refl _)) (hd2'.step (Stp.refl ..) HS1.out.size) hSa.size 134 4 8 #[.pointer none, .pointer (some ⟨gm, 0, none⟩), .int .i32 l0, .int .i32 1, .iface T1 p1, .pointer (some ⟨gm, 0, none⟩), .int .i32 l0, .int .i32 1, .iface T2 p2] 136 rfl rfl rfl); have HRow : Hid (((w2.alloc (.cells #[.pointer none, .pointer (some ⟨gm, 0, none⟩), .int .i32 l0, .int .i32 1, .iface T1 p1, .pointer (some ⟨gm, 0, none⟩), .int .i32 l0, .int .i32 1, .iface T2 p2] 136)).alloc (.cells #[.iface 134 (.pointer (some ⟨w2.heap.size, 0, none⟩))] 52)).ownsRow wq.heap.size 52 1 (.slice VA k VC) k xs) := Lib.hid (by have := HO.out.rowAt HBX.out HS5.out (.cells #[.iface 134 (.pointer (some ⟨w2.heap.size, 0, none⟩))] 52); rwa [HTk.out] at this); have HSrc : Hid (SrcAt ((w2.alloc (.cells #[.pointer none, .pointer (some ⟨gm, 0, none⟩), .int .i32 l0, .int .i32 1, .iface T1 p1, .pointer (some ⟨gm, 0, none⟩), .int .i32 l0, .int .i32 1, .iface T2 p2] 136)).alloc (.cells #[.iface 134 (.pointer (some ⟨w2.heap.size, 0, none⟩))] 52)) (.slice (some ⟨w2.heap.size + 1, 0, none⟩) 1 1) 1 [.iface 134 (.pointer (some ⟨w2.heap.size, 0, none⟩))]) := Lib.hid (by have := src_one (w2.alloc (.cells #[.pointer none, .pointer (some ⟨gm, 0, none⟩), .int .i32 l0, .int .i32 1, .iface T1 p1, .pointer (some ⟨gm, 0, none⟩), .int .i32 l0, .int .i32 1, .iface T2 p2] 136)) (.iface 134 (.pointer (some ⟨w2.heap.size, 0, none⟩))) 52; rwa [sz1] at this); have HSz : Hid (wq.heap.size ≤ ((w2.alloc (.cells #[.pointer none, .pointer (some ⟨gm, 0, none⟩), .int .i32 l0, .int .i32 1, .iface T1 p1, .pointer (some ⟨gm, 0, none⟩), .int .i32 l0, .int .i32 1, .iface T2 p2] 136)).alloc (.cells #[.iface 134 (.pointer (some ⟨w2.heap.size, 0, none⟩))] 52)).heap.size) := Lib.hid (by have := HO.out.st.size; have := hSa.size; rw [sz1] at this; rw [sz1, sz1]; omega); clear hM2 hS2 hd2 hS2' hd2') | (refine step_append_blk rfl (.tmp 35) (.tmp 48) 69 rfl wq.heap.size 52 i0 .nilIface 1 16 Tryz.underlying69 hi hz0 hz1 hz2 rfl (by decide) (.slice VA k VC) k xs (by rfl) (own_heap HRow.out rfl) (.slice (some ⟨w2.heap.size + 1, 0, none⟩) 1 1) 1 [.iface 134 (.pointer (some ⟨w2.heap.size, 0, none⟩))] (by rfl) HSrc.out rfl (by intro y hy; obtain rfl := List.mem_singleton.1 hy; rfl) HL.out.1 HL.out.2 HSz.out ?_; intro v' w4 ho4 hg4 hv4; obtain ⟨A2, C2, rfl⟩ := own_len ho4; have HP : Hid (Outs W gm nm (N + sizes (ts.take k) + t1.size + t2.size) vi vf vi2 vf2 wq 52 (ts.take k ++ [.mk none [t1, t2]]) (xs ++ [.iface 134 (.pointer (some ⟨w2.heap.size, 0, none⟩))]) (.slice A2 (k + 1) C2) w4) := Lib.hid (Outs.push' (.cells #[.iface 134 (.pointer (some ⟨w2.heap.size, 0, none⟩))] 52) HO.out HBX.out HM5.out HS5.out HD5.out ⟨rfl, rfl, rfl, rfl⟩ (by rw [HTk.out]; exact ho4) hg4 hv4 HMP.out.bel.size); have zz0 : w4.cell? ⟨wp.heap.size, 0, none⟩ = some (.pointer (some ⟨gm, 0, none⟩)) := far_cell (w5 := (w2.alloc (.cells #[.pointer none, .pointer (some ⟨gm, 0, none⟩), .int .i32 l0, .int .i32 1, .iface T1 p1, .pointer (some ⟨gm, 0, none⟩), .int .i32 l0, .int .i32 1, .iface T2 p2] 136))) (o := (.cells #[.iface 134 (.pointer (some ⟨w2.heap.size, 0, none⟩))] 52)) rfl hg4 (cell_al _ z0) HNe0.out; have zz1 : w4.cell? ⟨wp.heap.size, 1, none⟩ = some (.int .i32 l0) := far_cell (w5 := (w2.alloc (.cells #[.pointer none, .pointer (some ⟨gm, 0, none⟩), .int .i32 l0, .int .i32 1, .iface T1 p1, .pointer (some ⟨gm, 0, none⟩), .int .i32 l0, .int .i32 1, .iface T2 p2] 136))) (o := (.cells #[.iface 134 (.pointer (some ⟨w2.heap.size, 0, none⟩))] 52)) rfl hg4 (cell_al _ z1) HNe0.out; have zz2 : w4.cell? ⟨wp.heap.size, 2, none⟩ = some (.int .i32 1) := far_cell (w5 := (w2.alloc (.cells #[.pointer none, .pointer (some ⟨gm, 0, none⟩), .int .i32 l0, .int .i32 1, .iface T1 p1, .pointer (some ⟨gm, 0, none⟩), .int .i32 l0, .int .i32 1, .iface T2 p2] 136))) (o := (.cells #[.iface 134 (.pointer (some ⟨w2.heap.size, 0, none⟩))] 52)) rfl hg4 (cell_al _ z2) HNe0.out; have zz9 : w4.cell? ⟨wr.heap.size, 9, none⟩ = some (.slice (some ⟨g3, o3, none⟩) 2 xm3) := far_cell (w5 := (w2.alloc (.cells #[.pointer none, .pointer (some ⟨gm, 0, none⟩), .int .i32 l0, .int .i32 1, .iface T1 p1, .pointer (some ⟨gm, 0, none⟩), .int .i32 l0, .int .i32 1, .iface T2 p2] 136))) (o := (.cells #[.iface 134 (.pointer (some ⟨w2.heap.size, 0, none⟩))] 52)) rfl hg4 (cell_al _ z9) HNe1.out; obtain ⟨rr0, rr1, rr2, rr3, rr4, rr5, rr6, rr7, rr8, rr9, rr10⟩ := ev_cells1 HP.out.maker.bel HE1.out; dsimp only at rr0 rr1 rr2 rr3 rr4 rr5 rr6 rr7 rr8 rr9 rr10; clear ho4 hg4 hv4)))
    go_wp2
    go_roundw
    case rel =>
     refine ⟨k + 1, vi2, vf2, xs ++ [.iface 134 (.pointer (some ⟨w2.heap.size, 0, none⟩))], by omega, by go_num, ?_⟩
     rw [HTT.out, sizes_append]
     exact HP.out.more (by simp only [sizes, Tr.size]; omega)
    case measure =>
     simp [intOf]
     omega
   ·obtain rfl : xn3 = 1 := hkr.len
    obtain ⟨g3, o3, cs0, rfl, ⟨_, he0⟩, y, rfl, hy⟩ := hkr.at 0 (by simp)
    have hys := HSh.out y _ hy
    obtain ⟨yk, yo, yt, yfk, yfn, yfm, yfb, yft, yfs, ygs, yhs⟩ := y
    obtain ⟨⟨ya1, yn1, ym1, rfl⟩, ⟨ya2, yn2, ym2, rfl⟩, ⟨ya3, yn3, ym3, rfl⟩, ⟨ya4, yn4, ym4, rfl⟩⟩ := hys
    have HE0 : Hid (∀ j, j < 11 → W.cell? ⟨g3, o3 + 0 * 11 + j, none⟩ = (EV.cells _)[j]?) := Lib.hid he0
    have HY : Hid (X _ t1) := Lib.hid hy
    obtain ⟨y0, y1, y2, y3, y4, y5, y6, y7, y8, y9, y10⟩ := ev_cells0 HMX.out.bel he0
    dsimp only at y0 y1 y2 y3 y4 y5 y6 y7 y8 y9 y10
    have qx0 : ((wr.alloc (.cells #[.int .i64 22, .int .i64 xo, .string xt, .int .i64 xfk, .bool xfn, .slice xa1 xn1 xm1, .int .u64 xfb, .string xft, .slice xa2 xn2 xm2, .slice (some ⟨g3, o3, none⟩) 1 xm3, .slice xa4 xn4 xm4] 164))).cell? ⟨wp.heap.size, 0, none⟩ = some (.pointer (some ⟨gm, 0, none⟩)) := cell_al _ q0
    have qx1 : ((wr.alloc (.cells #[.int .i64 22, .int .i64 xo, .string xt, .int .i64 xfk, .bool xfn, .slice xa1 xn1 xm1, .int .u64 xfb, .string xft, .slice xa2 xn2 xm2, .slice (some ⟨g3, o3, none⟩) 1 xm3, .slice xa4 xn4 xm4] 164))).cell? ⟨wp.heap.size, 1, none⟩ = some (.int .i32 l0) := cell_al _ q1
    have qx2 : ((wr.alloc (.cells #[.int .i64 22, .int .i64 xo, .string xt, .int .i64 xfk, .bool xfn, .slice xa1 xn1 xm1, .int .u64 xfb, .string xft, .slice xa2 xn2 xm2, .slice (some ⟨g3, o3, none⟩) 1 xm3, .slice xa4 xn4 xm4] 164))).cell? ⟨wp.heap.size, 2, none⟩ = some (.int .i32 1) := cell_al _ q2
    have bx9 : ((wr.alloc (.cells #[.int .i64 22, .int .i64 xo, .string xt, .int .i64 xfk, .bool xfn, .slice xa1 xn1 xm1, .int .u64 xfb, .string xft, .slice xa2 xn2 xm2, .slice (some ⟨g3, o3, none⟩) 1 xm3, .slice xa4 xn4 xm4] 164))).cell? ⟨wr.heap.size, 9, none⟩ = some (.slice (some ⟨g3, o3, none⟩) 1 xm3) := by simp [go_sem]
    have HN2 : Hid (N + sizes (ts.take k) + t1.size ≤ 1000000) := Lib.hid (by have := HZ.out; have := HN.out; simp only [Tr.size, sizes] at *; omega)
    have HL : Hid (k + 1 ≤ maxLen ∧ (k + 1) * 16 ≤ 140737488355328) := Lib.hid ⟨by unfold maxLen; omega, by omega⟩
    have HNe0 : Hid ((Value.slice VA k VC).ownBlock ≠ some wp.heap.size) := Lib.hid (fun e => by have := (HO.out.row.lt _ e).1; have := HSP.out.1; omega)
    have HNe1 : Hid ((Value.slice VA k VC).ownBlock ≠ some wr.heap.size) := Lib.hid (fun e => by have := (HO.out.row.lt _ e).2; omega)
    clear he0 hy hkr
    go_wp2_with fail
    go_region_held3 (fun w' => w'.cell? ⟨wp.heap.size, 0, none⟩ = some (.pointer (some ⟨gm, 0, none⟩)) ∧ w'.cell? ⟨wp.heap.size, 1, none⟩ = some (.int .i32 l0) ∧ w'.cell? ⟨wp.heap.size, 2, none⟩ = some (.int .i32 1) ∧ w'.cell? ⟨wr.heap.size, 9, none⟩ = some (.slice (some ⟨g3, o3, none⟩) 1 xm3) ∧ w'.cell? ⟨g3, o3, none⟩ = some (.int .i64 yk) ∧ w'.cell? ⟨g3, o3 + 1, none⟩ = some (.int .i64 yo) ∧ w'.cell? ⟨g3, o3 + 2, none⟩ = some (.string yt) ∧ w'.cell? ⟨g3, o3 + 3, none⟩ = some (.int .i64 yfk) ∧ w'.cell? ⟨g3, o3 + 4, none⟩ = some (.bool yfn) ∧ w'.cell? ⟨g3, o3 + 5, none⟩ = some (.slice ya1 yn1 ym1) ∧ w'.cell? ⟨g3, o3 + 6, none⟩ = some (.int .u64 yfb) ∧ w'.cell? ⟨g3, o3 + 7, none⟩ = some (.string yft) ∧ w'.cell? ⟨g3, o3 + 8, none⟩ = some (.slice ya2 yn2 ym2) ∧ w'.cell? ⟨g3, o3 + 9, none⟩ = some (.slice ya3 yn3 ym3) ∧ w'.cell? ⟨g3, o3 + 10, none⟩ = some (.slice ya4 yn4 ym4)) (first | (refine ⟨?_, ?_, ?_, ?_, ?_, ?_, ?_, ?_, ?_, ?_, ?_, ?_, ?_, ?_, ?_⟩ <;> assumption) | go_keep) ((first | (go_at_call 43; refine (HE.out _ t1 (N + sizes (ts.take k)) vi' vf' _ HY.out (by first | exact HMX.out | exact HMX.out.after (Below.drewed (Below.refl _ _))) HN2.out).mono ?_; rintro e w2 ⟨v2, vi2, vf2, rfl, hM2, hS2, hd2⟩; obtain ⟨T2, p2, rfl⟩ := hd2.iface; have hS2' : Stp gm vi' vf' (wr.alloc (.cells #[.int .i64 22, .int .i64 xo, .string xt, .int .i64 xfk, .bool xfn, .slice xa1 xn1 xm1, .int .u64 xfb, .string xft, .slice xa2 xn2 xm2, .slice (some ⟨g3, o3, none⟩) 1 xm3, .slice xa4 xn4 xm4] 164)) vi2 vf2 w2 := ⟨fun k hk => hS2.keep k hk, hS2.size⟩; have hd2' : Nd (Sees w2 (New ((wr.alloc (.cells #[.int .i64 22, .int .i64 xo, .string xt, .int .i64 xfk, .bool xfn, .slice xa1 xn1 xm1, .int .u64 xfb, .string xft, .slice xa2 xn2 xm2, .slice (some ⟨g3, o3, none⟩) 1 xm3, .slice xa4 xn4 xm4] 164))).heap.size gm vi2 vf2 w2)) (.iface T2 p2) t1 := hd2; have z0 := (hS2'.cell (a := ⟨wp.heap.size, 0, none⟩) HSPx.out).trans qx0; have z1 := (hS2'.cell (a := ⟨wp.heap.size, 1, none⟩) HSPx.out).trans qx1; have z2 := (hS2'.cell (a := ⟨wp.heap.size, 2, none⟩) HSPx.out).trans qx2; have z9 := (hS2'.cell (a := ⟨wr.heap.size, 9, none⟩) HSX.out).trans bx9; obtain ⟨r0, r1, r2, r3, r4, r5, r6, r7, r8, r9, r10⟩ := ev_cells0 hM2.bel HE0.out; dsimp only at r0 r1 r2 r3 r4 r5 r6 r7 r8 r9 r10; have HM2 := Lib.hid hM2; have HS2 := Lib.hid hS2'; have HD2 := Lib.hid hd2'; have HM5 := Lib.hid (hM2.after (w' := (w2.alloc (.cells #[.pointer none, .pointer (some ⟨gm, 0, none⟩), .int .i32 l0, .int .i32 1, .iface T2 p2] 133))) bA); have HS5 := Lib.hid (hS2'.trans (Stp.of_below (gm := gm) (vi := vi2) (vf := vf2) (w := w2) (w' := (w2.alloc (.cells #[.pointer none, .pointer (some ⟨gm, 0, none⟩), .int .i32 l0, .int .i32 1, .iface T2 p2] 133))) bA)); have HD5 : Hid (Nd (Sees (w2.alloc (.cells #[.pointer none, .pointer (some ⟨gm, 0, none⟩), .int .i32 l0, .int .i32 1, .iface T2 p2] 133)) (New ((wr.alloc (.cells #[.int .i64 22, .int .i64 xo, .string xt, .int .i64 xfk, .bool xfn, .slice xa1 xn1 xm1, .int .u64 xfb, .string xft, .slice xa2 xn2 xm2, .slice (some ⟨g3, o3, none⟩) 1 xm3, .slice xa4 xn4 xm4] 164))).heap.size gm vi2 vf2 (w2.alloc (.cells #[.pointer none, .pointer (some ⟨gm, 0, none⟩), .int .i32 l0, .int .i32 1, .iface T2 p2] 133)))) (.iface 131 (.pointer (some ⟨w2.heap.size, 0, none⟩))) (.mk none [t1])) := Lib.hid (nd_one hM2 hd2' hS2'.size 131 4 #[.pointer none, .pointer (some ⟨gm, 0, none⟩), .int .i32 l0, .int .i32 1, .iface T2 p2] 133 rfl rfl); have HRow : Hid (((w2.alloc (.cells #[.pointer none, .pointer (some ⟨gm, 0, none⟩), .int .i32 l0, .int .i32 1, .iface T2 p2] 133)).alloc (.cells #[.iface 131 (.pointer (some ⟨w2.heap.size, 0, none⟩))] 52)).ownsRow wq.heap.size 52 1 (.slice VA k VC) k xs) := Lib.hid (by have := HO.out.rowAt HBX.out HS5.out (.cells #[.iface 131 (.pointer (some ⟨w2.heap.size, 0, none⟩))] 52); rwa [HTk.out] at this); have HSrc : Hid (SrcAt ((w2.alloc (.cells #[.pointer none, .pointer (some ⟨gm, 0, none⟩), .int .i32 l0, .int .i32 1, .iface T2 p2] 133)).alloc (.cells #[.iface 131 (.pointer (some ⟨w2.heap.size, 0, none⟩))] 52)) (.slice (some ⟨w2.heap.size + 1, 0, none⟩) 1 1) 1 [.iface 131 (.pointer (some ⟨w2.heap.size, 0, none⟩))]) := Lib.hid (by have := src_one (w2.alloc (.cells #[.pointer none, .pointer (some ⟨gm, 0, none⟩), .int .i32 l0, .int .i32 1, .iface T2 p2] 133)) (.iface 131 (.pointer (some ⟨w2.heap.size, 0, none⟩))) 52; rwa [sz1] at this); have HSz : Hid (wq.heap.size ≤ ((w2.alloc (.cells #[.pointer none, .pointer (some ⟨gm, 0, none⟩), .int .i32 l0, .int .i32 1, .iface T2 p2] 133)).alloc (.cells #[.iface 131 (.pointer (some ⟨w2.heap.size, 0, none⟩))] 52)).heap.size) := Lib.hid (by have := HO.out.st.size; have := hS2'.size; rw [sz1] at this; rw [sz1, sz1]; omega); clear hM2 hS2 hd2 hS2' hd2') | (refine step_append_blk rfl (.tmp 60) (.tmp 71) 69 rfl wq.heap.size 52 i0 .nilIface 1 16 Tryz.underlying69 hi hz0 hz1 hz2 rfl (by decide) (.slice VA k VC) k xs (by rfl) (own_heap HRow.out rfl) (.slice (some ⟨w2.heap.size + 1, 0, none⟩) 1 1) 1 [.iface 131 (.pointer (some ⟨w2.heap.size, 0, none⟩))] (by rfl) HSrc.out rfl (by intro y hy; obtain rfl := List.mem_singleton.1 hy; rfl) HL.out.1 HL.out.2 HSz.out ?_; intro v' w4 ho4 hg4 hv4; obtain ⟨A2, C2, rfl⟩ := own_len ho4; have HP : Hid (Outs W gm nm (N + sizes (ts.take k) + t1.size) vi vf vi2 vf2 wq 52 (ts.take k ++ [.mk none [t1]]) (xs ++ [.iface 131 (.pointer (some ⟨w2.heap.size, 0, none⟩))]) (.slice A2 (k + 1) C2) w4) := Lib.hid (Outs.push' (.cells #[.iface 131 (.pointer (some ⟨w2.heap.size, 0, none⟩))] 52) HO.out HBX.out HM5.out HS5.out HD5.out ⟨rfl, rfl, rfl, rfl⟩ (by rw [HTk.out]; exact ho4) hg4 hv4 HMP.out.bel.size); have zz0 : w4.cell? ⟨wp.heap.size, 0, none⟩ = some (.pointer (some ⟨gm, 0, none⟩)) := far_cell (w5 := (w2.alloc (.cells #[.pointer none, .pointer (some ⟨gm, 0, none⟩), .int .i32 l0, .int .i32 1, .iface T2 p2] 133))) (o := (.cells #[.iface 131 (.pointer (some ⟨w2.heap.size, 0, none⟩))] 52)) rfl hg4 (cell_al _ z0) HNe0.out; have zz1 : w4.cell? ⟨wp.heap.size, 1, none⟩ = some (.int .i32 l0) := far_cell (w5 := (w2.alloc (.cells #[.pointer none, .pointer (some ⟨gm, 0, none⟩), .int .i32 l0, .int .i32 1, .iface T2 p2] 133))) (o := (.cells #[.iface 131 (.pointer (some ⟨w2.heap.size, 0, none⟩))] 52)) rfl hg4 (cell_al _ z1) HNe0.out; have zz2 : w4.cell? ⟨wp.heap.size, 2, none⟩ = some (.int .i32 1) := far_cell (w5 := (w2.alloc (.cells #[.pointer none, .pointer (some ⟨gm, 0, none⟩), .int .i32 l0, .int .i32 1, .iface T2 p2] 133))) (o := (.cells #[.iface 131 (.pointer (some ⟨w2.heap.size, 0, none⟩))] 52)) rfl hg4 (cell_al _ z2) HNe0.out; have zz9 : w4.cell? ⟨wr.heap.size, 9, none⟩ = some (.slice (some ⟨g3, o3, none⟩) 1 xm3) := far_cell (w5 := (w2.alloc (.cells #[.pointer none, .pointer (some ⟨gm, 0, none⟩), .int .i32 l0, .int .i32 1, .iface T2 p2] 133))) (o := (.cells #[.iface 131 (.pointer (some ⟨w2.heap.size, 0, none⟩))] 52)) rfl hg4 (cell_al _ z9) HNe1.out; obtain ⟨rr0, rr1, rr2, rr3, rr4, rr5, rr6, rr7, rr8, rr9, rr10⟩ := ev_cells0 HP.out.maker.bel HE0.out; dsimp only at rr0 rr1 rr2 rr3 rr4 rr5 rr6 rr7 rr8 rr9 rr10; clear ho4 hg4 hv4)))
    go_wp2
    go_roundw
    case rel =>
     refine ⟨k + 1, vi2, vf2, xs ++ [.iface 131 (.pointer (some ⟨w2.heap.size, 0, none⟩))], by omega, by go_num, ?_⟩
     rw [HTT.out, sizes_append]
     exact HP.out.more (by simp only [sizes, Tr.size]; omega)
    case measure =>
     simp [intOf]
     omega
  ·go_wp2
   go_ret
   obtain rfl : k = ts.length := by omega
   have hO := HO.out
   rw [List.take_length] at hO ⊢
   exact ⟨_, vi', vf', rfl, hO.maker, (Stp.of_below HBP.out).trans hO.st, hO.rowQ.mono (Sees.mono (fun k hk => ⟨Nat.le_trans HBP.out.size hk.1, hk.2⟩) fun _ _ => rfl)⟩
end Go.Proofs.YtabeokminikfdaaGreat
