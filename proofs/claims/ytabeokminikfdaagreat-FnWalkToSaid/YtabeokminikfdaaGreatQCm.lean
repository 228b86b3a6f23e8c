import Derived.Test.YtabeokminikfdaaGreatQCk
import Derived.Test.YtabeokminikfdaaGreatQCh
import Derived.Test.YtabeokminikfdaaGreatQBi
import Derived.Test.YtabeokminikfdaaGreatQA1
set_option linter.all false
set_option maxRecDepth 100000
set_option maxHeartbeats 16000000
namespace Go.Proofs.YtabeokminikfdaaGreat
open Go.RowKit
theorem f41_any (W : World) (gm : Nat) (nm : ByteArray) (X : EV → Tr → Prop) (hE : MakeE W gm nm X) (hSh : ∀ e t, X e t → EvSh e) (v : Value) (ts : List Tr) (N : Nat) (vi vf : Value) (w : World) (hv : RowOf W 3 (PQ W X) v ts) (hM : Mk W gm nm vi vf N w) (hN : N + sizes ts ≤ 1000000) :
  Calls Tryz.prog 41 #[.pointer (some ⟨gm, 0, none⟩), v] w (Made W gm nm (N + sizes ts) vi vf w (RowQ 0 ts)) := by
 obtain ⟨i0, hi, hz0, hz1, hz2⟩ := info_parts info81
 obtain ⟨a, c, rfl⟩ := hv.val
 have hlen : ts.length ≤ 1000000 := by have := length_sizes ts; omega
 have HE := Lib.hid hE
 have HSh := Lib.hid hSh
 have HV := Lib.hid hv
 have HM := Lib.hid hM
 have HN := Lib.hid hN
 clear hE hSh hv hM hN
 go_enter Tryz.func41, Tryz.ntmps41
 go_wp2_with fail
 refine (f33_mk W gm nm vi vf N w HM.out).mono ?_
 rintro e wp ⟨l0, rfl, hbp⟩
 have HBP : Hid (Below w.heap.size w (wp.alloc (.cells #[.pointer (some ⟨gm, 0, none⟩), .int .i32 l0, .int .i32 1] 60))) := Lib.hid (hbp.alloc hbp.size _)
 have HMP := Lib.hid (HM.out.after HBP.out)
 have HSP : Hid (Safe gm vi vf (wp.alloc (.cells #[.pointer (some ⟨gm, 0, none⟩), .int .i32 l0, .int .i32 1] 60)) wp.heap.size) := Lib.hid ((HM.out.after hbp).safe_new (Nat.le_refl _) (lt1 _ _))
 have HPB : Hid ((wp.alloc (.cells #[.pointer (some ⟨gm, 0, none⟩), .int .i32 l0, .int .i32 1] 60)).heap[wp.heap.size]? = some (.cells #[.pointer (some ⟨gm, 0, none⟩), .int .i32 l0, .int .i32 1] 60)) := Lib.hid (heap_alloc_new wp _)
 clear hbp
 go_wp2
 generalize hwq : wp.alloc (.cells #[.pointer (some ⟨gm, 0, none⟩), .int .i32 l0, .int .i32 1] 60) = wq at *
 clear hwq
 go_loopw [4, 13] (fun s4 i wr => ∃ (k : Nat) (vi' vf' : Value) (xs : List Value), k ≤ ts.length ∧ i = .int .i64 k ∧ Outs W gm nm (N + sizes (ts.take k)) vi vf vi' vf' wq 81 (ts.take k) xs s4 wr) (fun _ i _ => ts.length - (intOf i).toNat)
 case atStart => exact ⟨0, vi, vf, [], Nat.zero_le _, rfl, (Outs.start HMP.out).more (Nat.le_add_right _ _)⟩
 case round =>
  obtain ⟨k, vi', vf', xs, hk, rfl, hO⟩ := hrel
  have htk : (ts.take k).length = k := by rw [List.length_take]; omega
  obtain ⟨VA, VC, rfl⟩ := own_len hO.row
  rw [show Value.slice VA (ts.take k).length VC = .slice VA k VC by rw [htk]] at hO ⊢
  have HO := Lib.hid hO
  have HTk := Lib.hid htk
  clear hO
  by_cases hlt : k < ts.length
  ·have hk' : k < ts.length := by omega
   obtain ⟨g, off, cs, rfl, ⟨hsz, hcs⟩, x, rfl, hds, hx⟩ := HV.out.at k hk'
   obtain ⟨xk, xt, xd⟩ := x
   obtain ⟨a3, n3, m3, rfl⟩ := hds
   obtain ⟨c0, c1, c2⟩ := pv_cells HO.out.maker.bel hcs
   dsimp only at c0 c1 c2 hx
   have HZ := Lib.hid (sizes_take_le ts k hk')
   have HTT := Lib.hid (List.take_succ_eq_append_getElem hk')
   generalize htt : ts[k] = tt at *
   clear htt
   have HSPr := Lib.hid (HO.out.st.keep _ HSP.out).1
   have hpb : wr.heap[wp.heap.size]? = some (.cells #[.pointer (some ⟨gm, 0, none⟩), .int .i32 l0, .int .i32 1] 60) := (HO.out.st.keep _ HSP.out).2.trans HPB.out
   have q0 : wr.cell? ⟨wp.heap.size, 0, none⟩ = some (.pointer (some ⟨gm, 0, none⟩)) := by simp [World.cell?, hpb]
   have q1 : wr.cell? ⟨wp.heap.size, 1, none⟩ = some (.int .i32 l0) := by simp [World.cell?, hpb]
   have q2 : wr.cell? ⟨wp.heap.size, 2, none⟩ = some (.int .i32 1) := by simp [World.cell?, hpb]
   have hplt : wp.heap.size < wr.heap.size := HSPr.out.1
   have HBX : Hid (Below wr.heap.size wr (wr.alloc (.cells #[.int .i64 xk, .string xt, .slice a3 n3 m3] 167))) := Lib.hid bA
   have HMX := Lib.hid (HO.out.maker.after HBX.out)
   have HSX : Hid (Safe gm vi' vf' (wr.alloc (.cells #[.int .i64 xk, .string xt, .slice a3 n3 m3] 167)) wr.heap.size) := Lib.hid (HO.out.maker.safe_new (Nat.le_refl _) (lt1 _ _))
   have HSPx : Hid (Safe gm vi' vf' (wr.alloc (.cells #[.int .i64 xk, .string xt, .slice a3 n3 m3] 167)) wp.heap.size) := Lib.hid ((Stp.of_below HBX.out).keep _ HSPr.out).1
   have qx0 : (wr.alloc (.cells #[.int .i64 xk, .string xt, .slice a3 n3 m3] 167)).cell? ⟨wp.heap.size, 0, none⟩ = some (.pointer (some ⟨gm, 0, none⟩)) := cell_al _ q0
   have qx1 : (wr.alloc (.cells #[.int .i64 xk, .string xt, .slice a3 n3 m3] 167)).cell? ⟨wp.heap.size, 1, none⟩ = some (.int .i32 l0) := cell_al _ q1
   have qx2 : (wr.alloc (.cells #[.int .i64 xk, .string xt, .slice a3 n3 m3] 167)).cell? ⟨wp.heap.size, 2, none⟩ = some (.int .i32 1) := cell_al _ q2
   have bx1 : (wr.alloc (.cells #[.int .i64 xk, .string xt, .slice a3 n3 m3] 167)).cell? ⟨wr.heap.size, 1, none⟩ = some (.string xt) := by simp [go_sem]
   have HL : Hid (k + 1 ≤ maxLen ∧ (k + 1) * 16 ≤ 140737488355328) := Lib.hid ⟨by unfold maxLen; omega, by omega⟩
   have HNe0 : Hid ((Value.slice VA k VC).ownBlock ≠ some wp.heap.size) := Lib.hid (fun e => by have := (HO.out.row.lt _ e).1; have := HSP.out.1; omega)
   have HNe1 : Hid ((Value.slice VA k VC).ownBlock ≠ some wr.heap.size) := Lib.hid (fun e => by have := (HO.out.row.lt _ e).2; omega)
   clear hcs hsz htk hpb
   rcases hx with ⟨rfl, rfl⟩ | ⟨rfl, t1, hkr, rfl⟩ | ⟨rfl | rfl, rfl⟩ | ⟨rfl, rfl⟩
   ·have HN1 : Hid (N + sizes (ts.take k) + 1 ≤ 1000000) := Lib.hid (by have := HZ.out; have := HN.out; simp only [Tr.size, sizes, idt] at *; omega)
    go_wp2_with fail
    refine (f40_mk W gm nm xt vi' vf' (N + sizes (ts.take k)) _ HMX.out HN1.out).mono ?_
    rintro e w2 ⟨v2, vi2, vf2, rfl, hM2, hS2, g2, rfl, hd2⟩
    have HM5 := Lib.hid hM2
    have HS5 := Lib.hid hS2
    have HD5 := Lib.hid hd2
    clear hM2 hS2 hd2
    have HRow : Hid ((w2.alloc (.cells #[.iface 53 (.pointer (some ⟨g2, 0, none⟩))] 81)).ownsRow wq.heap.size 81 1 (.slice VA k VC) k xs) := Lib.hid (by have := HO.out.rowAt HBX.out HS5.out (.cells #[.iface 53 (.pointer (some ⟨g2, 0, none⟩))] 81); rwa [HTk.out] at this)
    have HSrc : Hid (SrcAt (w2.alloc (.cells #[.iface 53 (.pointer (some ⟨g2, 0, none⟩))] 81)) (.slice (some ⟨w2.heap.size, 0, none⟩) 1 1) 1 [.iface 53 (.pointer (some ⟨g2, 0, none⟩))]) := Lib.hid (src_one w2 (.iface 53 (.pointer (some ⟨g2, 0, none⟩))) 81)
    have HSz : Hid (wq.heap.size ≤ (w2.alloc (.cells #[.iface 53 (.pointer (some ⟨g2, 0, none⟩))] 81)).heap.size) := Lib.hid (by have := HO.out.st.size; have := HS5.out.size; have := HBX.out.size; rw [sz1 w2]; omega)
    go_wp2_with (at_builtin; refine wpList_append_blk rfl (.tmp 23) (.tmp 29) 94 rfl wq.heap.size 81 i0 .nilIface 1 16 Tryz.underlying94 hi hz0 hz1 hz2 rfl (by decide) (.slice VA k VC) k xs rfl HRow.out (.slice (some ⟨w2.heap.size, 0, none⟩) 1 1) 1 [.iface 53 (.pointer (some ⟨g2, 0, none⟩))] rfl HSrc.out rfl (by intro y hy; obtain rfl := List.mem_singleton.1 hy; rfl) HL.out.1 HL.out.2 HSz.out ?_)
    intro v' w4 ho4 hg4 hv4
    obtain ⟨A2, C2, rfl⟩ := own_len ho4
    have HP : Hid (Outs W gm nm (N + sizes (ts.take k) + 1) vi vf vi2 vf2 wq 81 (ts.take k ++ [idt xt]) (xs ++ [.iface 53 (.pointer (some ⟨g2, 0, none⟩))]) (.slice A2 (k + 1) C2) w4) := Lib.hid (Outs.push' (.cells #[.iface 53 (.pointer (some ⟨g2, 0, none⟩))] 81) HO.out HBX.out HM5.out HS5.out HD5.out ⟨rfl, rfl, rfl, rfl⟩ (by rw [HTk.out]; exact ho4) hg4 hv4 HMP.out.bel.size)
    clear ho4 hg4 hv4
    go_wp2
    go_roundw
    case rel =>
     refine ⟨k + 1, vi2, vf2, xs ++ [.iface 53 (.pointer (some ⟨g2, 0, none⟩))], by omega, by go_num, ?_⟩
     rw [HTT.out, sizes_append]
     exact HP.out.more (by simp only [sizes, Tr.size, idt]; omega)
    case measure =>
     simp [intOf]
     omega
   ·obtain rfl : n3 = 1 := hkr.len
    obtain ⟨g3, o3, cs0, rfl, ⟨_, he0⟩, y, rfl, hy⟩ := hkr.at 0 (by simp)
    have hys := HSh.out y _ hy
    obtain ⟨yk, yo, yt, yfk, yfn, yfm, yfb, yft, yfs, ygs, yhs⟩ := y
    obtain ⟨⟨ya1, yn1, ym1, rfl⟩, ⟨ya2, yn2, ym2, rfl⟩, ⟨ya3, yn3, ym3, rfl⟩, ⟨ya4, yn4, ym4, rfl⟩⟩ := hys
    have HE0 : Hid (∀ j, j < 11 → W.cell? ⟨g3, o3 + 0 * 11 + j, none⟩ = (EV.cells _)[j]?) := Lib.hid he0
    have HY : Hid (X _ t1) := Lib.hid hy
    have HNs : Hid (N + sizes (ts.take k) + 1 + t1.size ≤ 1000000) := Lib.hid (by have := HZ.out; have := HN.out; simp only [Tr.size, sizes, idt] at *; omega)
    clear he0 hy hkr
    have HN1 : Hid (N + sizes (ts.take k) + 1 ≤ 1000000) := Lib.hid (by have := HZ.out; have := HN.out; simp only [Tr.size, sizes, idt] at *; omega)
    go_wp2_with fail
    go_region_held3 (fun w' => w'.cell? ⟨wp.heap.size, 0, none⟩ = some (.pointer (some ⟨gm, 0, none⟩)) ∧ w'.cell? ⟨wp.heap.size, 1, none⟩ = some (.int .i32 l0) ∧ w'.cell? ⟨wp.heap.size, 2, none⟩ = some (.int .i32 1) ∧ w'.cell? ⟨wr.heap.size, 1, none⟩ = some (.string xt)) (first | (refine ⟨?_, ?_, ?_, ?_⟩ <;> assumption) | go_keep) ((go_at_call 40; refine (f40_mk W gm nm xt vi' vf' (N + sizes (ts.take k)) _ (by first | exact HMX.out | exact HMX.out.after (Below.drewed (Below.refl _ _))) HN1.out).mono ?_; rintro e w2 ⟨v2, vi2, vf2, rfl, hM2, hS2, g2, rfl, hd2⟩; have hS2' : Stp gm vi' vf' (wr.alloc (.cells #[.int .i64 1, .string xt, .slice (some ⟨g3, o3, none⟩) 1 m3] 167)) vi2 vf2 w2 := ⟨fun k hk => hS2.keep k hk, hS2.size⟩; have hd2' : Nd (Sees w2 (New (wr.alloc (.cells #[.int .i64 1, .string xt, .slice (some ⟨g3, o3, none⟩) 1 m3] 167)).heap.size gm vi2 vf2 w2)) (.iface 53 (.pointer (some ⟨g2, 0, none⟩))) (idt xt) := hd2; have z0 := (hS2'.cell (a := ⟨wp.heap.size, 0, none⟩) HSPx.out).trans qx0; have z1 := (hS2'.cell (a := ⟨wp.heap.size, 1, none⟩) HSPx.out).trans qx1; have z2 := (hS2'.cell (a := ⟨wp.heap.size, 2, none⟩) HSPx.out).trans qx2; have z9 := (hS2'.cell (a := ⟨wr.heap.size, 1, none⟩) HSX.out).trans bx1; have HM2 := Lib.hid hM2; have HS2 := Lib.hid hS2'; have HD2 := Lib.hid hd2'; clear hM2 hS2 hd2 hS2' hd2'))
    have bx2 : (wr.alloc (.cells #[.int .i64 1, .string xt, .slice (some ⟨g3, o3, none⟩) 1 m3] 167)).cell? ⟨wr.heap.size, 2, none⟩ = some (.slice (some ⟨g3, o3, none⟩) 1 m3) := by simp [go_sem]
    have z2b := (HS2.out.cell (a := ⟨wr.heap.size, 2, none⟩) HSX.out).trans bx2
    have hltX : wr.heap.size < w2.heap.size := (HS2.out.keep _ HSX.out).1.1
    have HBB : Hid (Below w2.heap.size w2 (w2.alloc (.cells #[.pointer none, .iface 53 (.pointer (some ⟨g2, 0, none⟩)), .pointer (some ⟨gm, 0, none⟩), .int .i32 l0, .int .i32 1, .int .i8 24, .nilIface] 148))) := Lib.hid bA
    have HMb := Lib.hid (HM2.out.after HBB.out)
    have HSXb : Hid (Safe gm vi2 vf2 (w2.alloc (.cells #[.pointer none, .iface 53 (.pointer (some ⟨g2, 0, none⟩)), .pointer (some ⟨gm, 0, none⟩), .int .i32 l0, .int .i32 1, .int .i8 24, .nilIface] 148)) wr.heap.size) := Lib.hid ((HS2.out.trans (Stp.of_below HBB.out)).keep _ HSX.out).1
    have z2c : (w2.alloc (.cells #[.pointer none, .iface 53 (.pointer (some ⟨g2, 0, none⟩)), .pointer (some ⟨gm, 0, none⟩), .int .i32 l0, .int .i32 1, .int .i8 24, .nilIface] 148)).cell? ⟨wr.heap.size, 2, none⟩ = some (.slice (some ⟨g3, o3, none⟩) 1 m3) := cell_al _ z2b
    have HSGb : Hid (Safe gm vi2 vf2 (w2.alloc (.cells #[.pointer none, .iface 53 (.pointer (some ⟨g2, 0, none⟩)), .pointer (some ⟨gm, 0, none⟩), .int .i32 l0, .int .i32 1, .int .i8 24, .nilIface] 148)) w2.heap.size) := Lib.hid (HM2.out.safe_new (Nat.le_refl _) (lt1 _ _))
    have HOb : Hid ((w2.alloc (.cells #[.pointer none, .iface 53 (.pointer (some ⟨g2, 0, none⟩)), .pointer (some ⟨gm, 0, none⟩), .int .i32 l0, .int .i32 1, .int .i8 24, .nilIface] 148)).heap[w2.heap.size]? = some (.cells #[.pointer none, .iface 53 (.pointer (some ⟨g2, 0, none⟩)), .pointer (some ⟨gm, 0, none⟩), .int .i32 l0, .int .i32 1, .int .i8 24, .nilIface] 148)) := Lib.hid (heap_alloc_new w2 _)
    go_wp2_with fail
    refine (f34_mk W gm nm vi2 vf2 _ _ HMb.out).mono ?_
    rintro e w3 ⟨rfl, hM3, hS3⟩
    have z2d := (hS3.cell (a := ⟨wr.heap.size, 2, none⟩) HSXb.out).trans z2c
    obtain ⟨y0, y1, y2, y3, y4, y5, y6, y7, y8, y9, y10⟩ := ev_cells0 hM3.bel HE0.out
    dsimp only at y0 y1 y2 y3 y4 y5 y6 y7 y8 y9 y10
    have HM3 := Lib.hid hM3
    have HS3 := Lib.hid hS3
    clear hM3 hS3 z2b z2c bx2
    go_wp2_with fail
    refine (HE.out _ t1 (N + sizes (ts.take k) + 1) vi2 vf2 w3 HY.out HM3.out HNs.out).mono ?_
    rintro e w6 ⟨v6, vi6, vf6, rfl, hM6, hS6, hd6⟩
    obtain ⟨T6, p6, rfl⟩ := hd6.iface
    have hO6 : w6.heap[w2.heap.size]? = some (.cells #[.pointer none, .iface 53 (.pointer (some ⟨g2, 0, none⟩)), .pointer (some ⟨gm, 0, none⟩), .int .i32 l0, .int .i32 1, .int .i8 24, .nilIface] 148) := ((HS3.out.trans hS6).keep _ HSGb.out).2.trans HOb.out
    have h6c := obj_cell hO6 6 .nilIface rfl
    have h6f := obj_free hO6
    have HSG6 := Lib.hid ((HS3.out.trans hS6).keep _ HSGb.out).1
    have hX2 : (wr.alloc (.cells #[.int .i64 1, .string xt, .slice (some ⟨g3, o3, none⟩) 1 m3] 167)).heap.size ≤ w2.heap.size := HS2.out.size
    have hall : Stp gm vi2 vf2 w2 vi6 vf6 w6 := (Stp.of_below HBB.out).trans (HS3.out.trans hS6)
    have HM5 : Hid (Mk W gm nm vi6 vf6 (N + sizes (ts.take k) + 1 + t1.size) (w6.setCell ⟨w2.heap.size, 6, none⟩ (.iface T6 p6))) := Lib.hid (hM6.setNew HSG6.out (Nat.le_trans HM2.out.bel.size (Nat.le_refl _)) 6 _)
    have HS5 : Hid (Stp gm vi' vf' (wr.alloc (.cells #[.int .i64 1, .string xt, .slice (some ⟨g3, o3, none⟩) 1 m3] 167)) vi6 vf6 (w6.setCell ⟨w2.heap.size, 6, none⟩ (.iface T6 p6))) := Lib.hid ((HS2.out.trans hall).setNew hX2 6 _)
    have HD5 : Hid (Nd (Sees (w6.setCell ⟨w2.heap.size, 6, none⟩ (.iface T6 p6)) (New (wr.alloc (.cells #[.int .i64 1, .string xt, .slice (some ⟨g3, o3, none⟩) 1 m3] 167)).heap.size gm vi6 vf6 (w6.setCell ⟨w2.heap.size, 6, none⟩ (.iface T6 p6)))) (.iface 146 (.pointer (some ⟨w2.heap.size, 0, none⟩))) (.mk none [idt xt, t1])) := Lib.hid (by
     have hn : New (wr.alloc (.cells #[.int .i64 1, .string xt, .slice (some ⟨g3, o3, none⟩) 1 m3] 167)).heap.size gm vi6 vf6 (w6.setCell ⟨w2.heap.size, 6, none⟩ (.iface T6 p6)) w2.heap.size := ⟨hX2, HSG6.out.set _ _⟩
     have hg3 : w2.heap.size < w3.heap.size := (HS3.out.keep _ HSGb.out).1.1
     exact .other 146 _ [(1, .node), (6, .node)] _ rfl (.node _ 1 _ _ _ _ (sees_at (obj_set hO6 6 _) hn 1 _ rfl) (HD2.out.mono fun a x h => sees_drop a x (sees_set 6 _ a x (sees_but1 hall (Nat.le_refl _) a x h))) (.node _ 6 _ _ _ _ (sees_at (obj_set hO6 6 _) hn 6 _ rfl) (hd6.mono fun a x h => sees_drop a x (sees_set 6 _ a x (sees_but2 hg3 (Nat.le_trans hX2 (Nat.le_of_lt hg3)) a x h))) (.nil _))))
    clear hM6 hS6 hd6 hO6 hall z2d y0 y1 y2 y3 y4 y5 y6 y7 y8 y9 y10
    have HRow : Hid (((w6.setCell ⟨w2.heap.size, 6, none⟩ (.iface T6 p6)).alloc (.cells #[.iface 146 (.pointer (some ⟨w2.heap.size, 0, none⟩))] 81)).ownsRow wq.heap.size 81 1 (.slice VA k VC) k xs) := Lib.hid (by have := HO.out.rowAt HBX.out HS5.out (.cells #[.iface 146 (.pointer (some ⟨w2.heap.size, 0, none⟩))] 81); rwa [HTk.out] at this)
    have HSrc : Hid (SrcAt ((w6.setCell ⟨w2.heap.size, 6, none⟩ (.iface T6 p6)).alloc (.cells #[.iface 146 (.pointer (some ⟨w2.heap.size, 0, none⟩))] 81)) (.slice (some ⟨w6.heap.size, 0, none⟩) 1 1) 1 [.iface 146 (.pointer (some ⟨w2.heap.size, 0, none⟩))]) := Lib.hid (by have := src_one (w6.setCell ⟨w2.heap.size, 6, none⟩ (.iface T6 p6)) (.iface 146 (.pointer (some ⟨w2.heap.size, 0, none⟩))) 81; rwa [show (w6.setCell ⟨w2.heap.size, 6, none⟩ (.iface T6 p6)).heap.size = w6.heap.size by simp] at this)
    have HSz : Hid (wq.heap.size ≤ ((w6.setCell ⟨w2.heap.size, 6, none⟩ (.iface T6 p6)).alloc (.cells #[.iface 146 (.pointer (some ⟨w2.heap.size, 0, none⟩))] 81)).heap.size) := Lib.hid (by have := HO.out.st.size; have := HS5.out.size; have := HBX.out.size; rw [sz1 (w6.setCell ⟨w2.heap.size, 6, none⟩ (.iface T6 p6))]; omega)
    go_wp2_with (at_builtin; refine wpList_append_blk rfl (.tmp 56) (.tmp 59) 94 rfl wq.heap.size 81 i0 .nilIface 1 16 Tryz.underlying94 hi hz0 hz1 hz2 rfl (by decide) (.slice VA k VC) k xs rfl HRow.out (.slice (some ⟨w6.heap.size, 0, none⟩) 1 1) 1 [.iface 146 (.pointer (some ⟨w2.heap.size, 0, none⟩))] rfl HSrc.out rfl (by intro y hy; obtain rfl := List.mem_singleton.1 hy; rfl) HL.out.1 HL.out.2 HSz.out ?_)
    intro v' w4 ho4 hg4 hv4
    obtain ⟨A2, C2, rfl⟩ := own_len ho4
    have HP : Hid (Outs W gm nm (N + sizes (ts.take k) + 1 + t1.size) vi vf vi6 vf6 wq 81 (ts.take k ++ [.mk none [idt xt, t1]]) (xs ++ [.iface 146 (.pointer (some ⟨w2.heap.size, 0, none⟩))]) (.slice A2 (k + 1) C2) w4) := Lib.hid (Outs.push' (.cells #[.iface 146 (.pointer (some ⟨w2.heap.size, 0, none⟩))] 81) HO.out HBX.out HM5.out HS5.out HD5.out ⟨rfl, rfl, rfl, rfl⟩ (by rw [HTk.out]; exact ho4) hg4 hv4 HMP.out.bel.size)
    clear ho4 hg4 hv4
    go_wp2
    go_roundw
    case rel =>
     refine ⟨k + 1, vi6, vf6, xs ++ [.iface 146 (.pointer (some ⟨w2.heap.size, 0, none⟩))], by omega, by go_num, ?_⟩
     rw [HTT.out, sizes_append]
     exact HP.out.more (by simp only [sizes, Tr.size, idt]; omega)
    case measure =>
     simp [intOf]
     omega
   ·have HN1 : Hid (N + sizes (ts.take k) + 1 ≤ 1000000) := Lib.hid (by have := HZ.out; have := HN.out; simp only [Tr.size, sizes, idt] at *; omega)
    go_wp2_with fail
    go_region_held3 (fun w' => w'.cell? ⟨wp.heap.size, 0, none⟩ = some (.pointer (some ⟨gm, 0, none⟩)) ∧ w'.cell? ⟨wp.heap.size, 1, none⟩ = some (.int .i32 l0) ∧ w'.cell? ⟨wp.heap.size, 2, none⟩ = some (.int .i32 1) ∧ w'.cell? ⟨wr.heap.size, 1, none⟩ = some (.string xt)) (first | (refine ⟨?_, ?_, ?_, ?_⟩ <;> assumption) | go_keep) ((first | (go_at_call 40; refine (f40_mk W gm nm xt vi' vf' (N + sizes (ts.take k)) _ (by first | exact HMX.out | exact HMX.out.after (Below.drewed (Below.refl _ _))) HN1.out).mono ?_; rintro e w2 ⟨v2, vi2, vf2, rfl, hM2, hS2, g2, rfl, hd2⟩; have hS2' : Stp gm vi' vf' (wr.alloc (.cells #[.int .i64 2, .string xt, .slice a3 n3 m3] 167)) vi2 vf2 w2 := ⟨fun k hk => hS2.keep k hk, hS2.size⟩; have hd2' : Nd (Sees w2 (New (wr.alloc (.cells #[.int .i64 2, .string xt, .slice a3 n3 m3] 167)).heap.size gm vi2 vf2 w2)) (.iface 53 (.pointer (some ⟨g2, 0, none⟩))) (idt xt) := hd2; have z0 := (hS2'.cell (a := ⟨wp.heap.size, 0, none⟩) HSPx.out).trans qx0; have z1 := (hS2'.cell (a := ⟨wp.heap.size, 1, none⟩) HSPx.out).trans qx1; have z2 := (hS2'.cell (a := ⟨wp.heap.size, 2, none⟩) HSPx.out).trans qx2; have z9 := (hS2'.cell (a := ⟨wr.heap.size, 1, none⟩) HSX.out).trans bx1; have HM2 := Lib.hid hM2; have HM5 := Lib.hid (hM2.after (w' := (w2.alloc (.cells #[.pointer none, .pointer (some ⟨gm, 0, none⟩), .int .i32 l0, .int .i32 1, .int .i8 12, .iface 53 (.pointer (some ⟨g2, 0, none⟩))] 145))) bA); have HS5 := Lib.hid (hS2'.trans (Stp.of_below (gm := gm) (vi := vi2) (vf := vf2) (w := w2) (w' := (w2.alloc (.cells #[.pointer none, .pointer (some ⟨gm, 0, none⟩), .int .i32 l0, .int .i32 1, .int .i8 12, .iface 53 (.pointer (some ⟨g2, 0, none⟩))] 145))) bA)); have HD5 : Hid (Nd (Sees (w2.alloc (.cells #[.pointer none, .pointer (some ⟨gm, 0, none⟩), .int .i32 l0, .int .i32 1, .int .i8 12, .iface 53 (.pointer (some ⟨g2, 0, none⟩))] 145)) (New (wr.alloc (.cells #[.int .i64 2, .string xt, .slice a3 n3 m3] 167)).heap.size gm vi2 vf2 (w2.alloc (.cells #[.pointer none, .pointer (some ⟨gm, 0, none⟩), .int .i32 l0, .int .i32 1, .int .i8 12, .iface 53 (.pointer (some ⟨g2, 0, none⟩))] 145)))) (.iface 143 (.pointer (some ⟨w2.heap.size, 0, none⟩))) (.mk none [idt xt])) := Lib.hid (nd_opt1 hM2 hd2' hS2'.size 143 5 (#[.pointer none, .pointer (some ⟨gm, 0, none⟩), .int .i32 l0, .int .i32 1, .int .i8 12, .iface 53 (.pointer (some ⟨g2, 0, none⟩))]) 145 rfl rfl); have HRow : Hid (((w2.alloc (.cells #[.pointer none, .pointer (some ⟨gm, 0, none⟩), .int .i32 l0, .int .i32 1, .int .i8 12, .iface 53 (.pointer (some ⟨g2, 0, none⟩))] 145)).alloc (.cells #[.iface 143 (.pointer (some ⟨w2.heap.size, 0, none⟩))] 81)).ownsRow wq.heap.size 81 1 (.slice VA k VC) k xs) := Lib.hid (by have := HO.out.rowAt HBX.out HS5.out (.cells #[.iface 143 (.pointer (some ⟨w2.heap.size, 0, none⟩))] 81); rwa [HTk.out] at this); have HSrc : Hid (SrcAt ((w2.alloc (.cells #[.pointer none, .pointer (some ⟨gm, 0, none⟩), .int .i32 l0, .int .i32 1, .int .i8 12, .iface 53 (.pointer (some ⟨g2, 0, none⟩))] 145)).alloc (.cells #[.iface 143 (.pointer (some ⟨w2.heap.size, 0, none⟩))] 81)) (.slice (some ⟨w2.heap.size + 1, 0, none⟩) 1 1) 1 [.iface 143 (.pointer (some ⟨w2.heap.size, 0, none⟩))]) := Lib.hid (by have := src_one (w2.alloc (.cells #[.pointer none, .pointer (some ⟨gm, 0, none⟩), .int .i32 l0, .int .i32 1, .int .i8 12, .iface 53 (.pointer (some ⟨g2, 0, none⟩))] 145)) (.iface 143 (.pointer (some ⟨w2.heap.size, 0, none⟩))) 81; rwa [sz1 w2] at this); have HSz : Hid (wq.heap.size ≤ ((w2.alloc (.cells #[.pointer none, .pointer (some ⟨gm, 0, none⟩), .int .i32 l0, .int .i32 1, .int .i8 12, .iface 53 (.pointer (some ⟨g2, 0, none⟩))] 145)).alloc (.cells #[.iface 143 (.pointer (some ⟨w2.heap.size, 0, none⟩))] 81)).heap.size) := Lib.hid (by have := HO.out.st.size; have := HS5.out.size; have := HBX.out.size; rw [sz1 (w2.alloc (.cells #[.pointer none, .pointer (some ⟨gm, 0, none⟩), .int .i32 l0, .int .i32 1, .int .i8 12, .iface 53 (.pointer (some ⟨g2, 0, none⟩))] 145))]; omega); clear hM2 hS2 hd2 hS2' hd2') | (refine step_append_blk rfl (.tmp 63) (.tmp 73) 94 rfl wq.heap.size 81 i0 .nilIface 1 16 Tryz.underlying94 hi hz0 hz1 hz2 rfl (by decide) (.slice VA k VC) k xs (by rfl) (own_heap HRow.out rfl) (.slice (some ⟨w2.heap.size + 1, 0, none⟩) 1 1) 1 [.iface 143 (.pointer (some ⟨w2.heap.size, 0, none⟩))] (by rfl) HSrc.out rfl (by intro y hy; obtain rfl := List.mem_singleton.1 hy; rfl) HL.out.1 HL.out.2 HSz.out ?_; intro v' w4 ho4 hg4 hv4; obtain ⟨A2, C2, rfl⟩ := own_len ho4; have HP : Hid (Outs W gm nm (N + sizes (ts.take k) + 1) vi vf vi2 vf2 wq 81 (ts.take k ++ [.mk none [idt xt]]) (xs ++ [.iface 143 (.pointer (some ⟨w2.heap.size, 0, none⟩))]) (.slice A2 (k + 1) C2) w4) := Lib.hid (Outs.push' (.cells #[.iface 143 (.pointer (some ⟨w2.heap.size, 0, none⟩))] 81) HO.out HBX.out HM5.out HS5.out HD5.out ⟨rfl, rfl, rfl, rfl⟩ (by rw [HTk.out]; exact ho4) hg4 hv4 HMP.out.bel.size); have zz0 : w4.cell? ⟨wp.heap.size, 0, none⟩ = some (.pointer (some ⟨gm, 0, none⟩)) := far_cell (w5 := (w2.alloc (.cells #[.pointer none, .pointer (some ⟨gm, 0, none⟩), .int .i32 l0, .int .i32 1, .int .i8 12, .iface 53 (.pointer (some ⟨g2, 0, none⟩))] 145))) (o := (.cells #[.iface 143 (.pointer (some ⟨w2.heap.size, 0, none⟩))] 81)) rfl hg4 (cell_al _ z0) HNe0.out; have zz1 : w4.cell? ⟨wp.heap.size, 1, none⟩ = some (.int .i32 l0) := far_cell (w5 := (w2.alloc (.cells #[.pointer none, .pointer (some ⟨gm, 0, none⟩), .int .i32 l0, .int .i32 1, .int .i8 12, .iface 53 (.pointer (some ⟨g2, 0, none⟩))] 145))) (o := (.cells #[.iface 143 (.pointer (some ⟨w2.heap.size, 0, none⟩))] 81)) rfl hg4 (cell_al _ z1) HNe0.out; have zz2 : w4.cell? ⟨wp.heap.size, 2, none⟩ = some (.int .i32 1) := far_cell (w5 := (w2.alloc (.cells #[.pointer none, .pointer (some ⟨gm, 0, none⟩), .int .i32 l0, .int .i32 1, .int .i8 12, .iface 53 (.pointer (some ⟨g2, 0, none⟩))] 145))) (o := (.cells #[.iface 143 (.pointer (some ⟨w2.heap.size, 0, none⟩))] 81)) rfl hg4 (cell_al _ z2) HNe0.out; have zz9 : w4.cell? ⟨wr.heap.size, 1, none⟩ = some (.string xt) := far_cell (w5 := (w2.alloc (.cells #[.pointer none, .pointer (some ⟨gm, 0, none⟩), .int .i32 l0, .int .i32 1, .int .i8 12, .iface 53 (.pointer (some ⟨g2, 0, none⟩))] 145))) (o := (.cells #[.iface 143 (.pointer (some ⟨w2.heap.size, 0, none⟩))] 81)) rfl hg4 (cell_al _ z9) HNe1.out; clear ho4 hg4 hv4)))
    go_wp2
    go_roundw
    case rel =>
     refine ⟨k + 1, vi2, vf2, xs ++ [.iface 143 (.pointer (some ⟨w2.heap.size, 0, none⟩))], by omega, by go_num, ?_⟩
     rw [HTT.out, sizes_append]
     exact HP.out.more (by simp only [sizes, Tr.size, idt]; omega)
    case measure =>
     simp [intOf]
     omega
   ·have HN1 : Hid (N + sizes (ts.take k) + 1 ≤ 1000000) := Lib.hid (by have := HZ.out; have := HN.out; simp only [Tr.size, sizes, idt] at *; omega)
    go_wp2_with fail
    go_region_held3 (fun w' => w'.cell? ⟨wp.heap.size, 0, none⟩ = some (.pointer (some ⟨gm, 0, none⟩)) ∧ w'.cell? ⟨wp.heap.size, 1, none⟩ = some (.int .i32 l0) ∧ w'.cell? ⟨wp.heap.size, 2, none⟩ = some (.int .i32 1) ∧ w'.cell? ⟨wr.heap.size, 1, none⟩ = some (.string xt)) (first | (refine ⟨?_, ?_, ?_, ?_⟩ <;> assumption) | go_keep) ((first | (go_at_call 40; refine (f40_mk W gm nm xt vi' vf' (N + sizes (ts.take k)) _ (by first | exact HMX.out | exact HMX.out.after (Below.drewed (Below.refl _ _))) HN1.out).mono ?_; rintro e w2 ⟨v2, vi2, vf2, rfl, hM2, hS2, g2, rfl, hd2⟩; have hS2' : Stp gm vi' vf' (wr.alloc (.cells #[.int .i64 4, .string xt, .slice a3 n3 m3] 167)) vi2 vf2 w2 := ⟨fun k hk => hS2.keep k hk, hS2.size⟩; have hd2' : Nd (Sees w2 (New (wr.alloc (.cells #[.int .i64 4, .string xt, .slice a3 n3 m3] 167)).heap.size gm vi2 vf2 w2)) (.iface 53 (.pointer (some ⟨g2, 0, none⟩))) (idt xt) := hd2; have z0 := (hS2'.cell (a := ⟨wp.heap.size, 0, none⟩) HSPx.out).trans qx0; have z1 := (hS2'.cell (a := ⟨wp.heap.size, 1, none⟩) HSPx.out).trans qx1; have z2 := (hS2'.cell (a := ⟨wp.heap.size, 2, none⟩) HSPx.out).trans qx2; have z9 := (hS2'.cell (a := ⟨wr.heap.size, 1, none⟩) HSX.out).trans bx1; have HM2 := Lib.hid hM2; have HM5 := Lib.hid (hM2.after (w' := (w2.alloc (.cells #[.pointer none, .pointer (some ⟨gm, 0, none⟩), .int .i32 l0, .int .i32 1, .int .i8 50, .iface 53 (.pointer (some ⟨g2, 0, none⟩))] 145))) bA); have HS5 := Lib.hid (hS2'.trans (Stp.of_below (gm := gm) (vi := vi2) (vf := vf2) (w := w2) (w' := (w2.alloc (.cells #[.pointer none, .pointer (some ⟨gm, 0, none⟩), .int .i32 l0, .int .i32 1, .int .i8 50, .iface 53 (.pointer (some ⟨g2, 0, none⟩))] 145))) bA)); have HD5 : Hid (Nd (Sees (w2.alloc (.cells #[.pointer none, .pointer (some ⟨gm, 0, none⟩), .int .i32 l0, .int .i32 1, .int .i8 50, .iface 53 (.pointer (some ⟨g2, 0, none⟩))] 145)) (New (wr.alloc (.cells #[.int .i64 4, .string xt, .slice a3 n3 m3] 167)).heap.size gm vi2 vf2 (w2.alloc (.cells #[.pointer none, .pointer (some ⟨gm, 0, none⟩), .int .i32 l0, .int .i32 1, .int .i8 50, .iface 53 (.pointer (some ⟨g2, 0, none⟩))] 145)))) (.iface 143 (.pointer (some ⟨w2.heap.size, 0, none⟩))) (.mk none [idt xt])) := Lib.hid (nd_opt1 hM2 hd2' hS2'.size 143 5 (#[.pointer none, .pointer (some ⟨gm, 0, none⟩), .int .i32 l0, .int .i32 1, .int .i8 50, .iface 53 (.pointer (some ⟨g2, 0, none⟩))]) 145 rfl rfl); have HRow : Hid (((w2.alloc (.cells #[.pointer none, .pointer (some ⟨gm, 0, none⟩), .int .i32 l0, .int .i32 1, .int .i8 50, .iface 53 (.pointer (some ⟨g2, 0, none⟩))] 145)).alloc (.cells #[.iface 143 (.pointer (some ⟨w2.heap.size, 0, none⟩))] 81)).ownsRow wq.heap.size 81 1 (.slice VA k VC) k xs) := Lib.hid (by have := HO.out.rowAt HBX.out HS5.out (.cells #[.iface 143 (.pointer (some ⟨w2.heap.size, 0, none⟩))] 81); rwa [HTk.out] at this); have HSrc : Hid (SrcAt ((w2.alloc (.cells #[.pointer none, .pointer (some ⟨gm, 0, none⟩), .int .i32 l0, .int .i32 1, .int .i8 50, .iface 53 (.pointer (some ⟨g2, 0, none⟩))] 145)).alloc (.cells #[.iface 143 (.pointer (some ⟨w2.heap.size, 0, none⟩))] 81)) (.slice (some ⟨w2.heap.size + 1, 0, none⟩) 1 1) 1 [.iface 143 (.pointer (some ⟨w2.heap.size, 0, none⟩))]) := Lib.hid (by have := src_one (w2.alloc (.cells #[.pointer none, .pointer (some ⟨gm, 0, none⟩), .int .i32 l0, .int .i32 1, .int .i8 50, .iface 53 (.pointer (some ⟨g2, 0, none⟩))] 145)) (.iface 143 (.pointer (some ⟨w2.heap.size, 0, none⟩))) 81; rwa [sz1 w2] at this); have HSz : Hid (wq.heap.size ≤ ((w2.alloc (.cells #[.pointer none, .pointer (some ⟨gm, 0, none⟩), .int .i32 l0, .int .i32 1, .int .i8 50, .iface 53 (.pointer (some ⟨g2, 0, none⟩))] 145)).alloc (.cells #[.iface 143 (.pointer (some ⟨w2.heap.size, 0, none⟩))] 81)).heap.size) := Lib.hid (by have := HO.out.st.size; have := HS5.out.size; have := HBX.out.size; rw [sz1 (w2.alloc (.cells #[.pointer none, .pointer (some ⟨gm, 0, none⟩), .int .i32 l0, .int .i32 1, .int .i8 50, .iface 53 (.pointer (some ⟨g2, 0, none⟩))] 145))]; omega); clear hM2 hS2 hd2 hS2' hd2') | (refine step_append_blk rfl (.tmp 86) (.tmp 96) 94 rfl wq.heap.size 81 i0 .nilIface 1 16 Tryz.underlying94 hi hz0 hz1 hz2 rfl (by decide) (.slice VA k VC) k xs (by rfl) (own_heap HRow.out rfl) (.slice (some ⟨w2.heap.size + 1, 0, none⟩) 1 1) 1 [.iface 143 (.pointer (some ⟨w2.heap.size, 0, none⟩))] (by rfl) HSrc.out rfl (by intro y hy; obtain rfl := List.mem_singleton.1 hy; rfl) HL.out.1 HL.out.2 HSz.out ?_; intro v' w4 ho4 hg4 hv4; obtain ⟨A2, C2, rfl⟩ := own_len ho4; have HP : Hid (Outs W gm nm (N + sizes (ts.take k) + 1) vi vf vi2 vf2 wq 81 (ts.take k ++ [.mk none [idt xt]]) (xs ++ [.iface 143 (.pointer (some ⟨w2.heap.size, 0, none⟩))]) (.slice A2 (k + 1) C2) w4) := Lib.hid (Outs.push' (.cells #[.iface 143 (.pointer (some ⟨w2.heap.size, 0, none⟩))] 81) HO.out HBX.out HM5.out HS5.out HD5.out ⟨rfl, rfl, rfl, rfl⟩ (by rw [HTk.out]; exact ho4) hg4 hv4 HMP.out.bel.size); have zz0 : w4.cell? ⟨wp.heap.size, 0, none⟩ = some (.pointer (some ⟨gm, 0, none⟩)) := far_cell (w5 := (w2.alloc (.cells #[.pointer none, .pointer (some ⟨gm, 0, none⟩), .int .i32 l0, .int .i32 1, .int .i8 50, .iface 53 (.pointer (some ⟨g2, 0, none⟩))] 145))) (o := (.cells #[.iface 143 (.pointer (some ⟨w2.heap.size, 0, none⟩))] 81)) rfl hg4 (cell_al _ z0) HNe0.out; have zz1 : w4.cell? ⟨wp.heap.size, 1, none⟩ = some (.int .i32 l0) := far_cell (w5 := (w2.alloc (.cells #[.pointer none, .pointer (some ⟨gm, 0, none⟩), .int .i32 l0, .int .i32 1, .int .i8 50, .iface 53 (.pointer (some ⟨g2, 0, none⟩))] 145))) (o := (.cells #[.iface 143 (.pointer (some ⟨w2.heap.size, 0, none⟩))] 81)) rfl hg4 (cell_al _ z1) HNe0.out; have zz2 : w4.cell? ⟨wp.heap.size, 2, none⟩ = some (.int .i32 1) := far_cell (w5 := (w2.alloc (.cells #[.pointer none, .pointer (some ⟨gm, 0, none⟩), .int .i32 l0, .int .i32 1, .int .i8 50, .iface 53 (.pointer (some ⟨g2, 0, none⟩))] 145))) (o := (.cells #[.iface 143 (.pointer (some ⟨w2.heap.size, 0, none⟩))] 81)) rfl hg4 (cell_al _ z2) HNe0.out; have zz9 : w4.cell? ⟨wr.heap.size, 1, none⟩ = some (.string xt) := far_cell (w5 := (w2.alloc (.cells #[.pointer none, .pointer (some ⟨gm, 0, none⟩), .int .i32 l0, .int .i32 1, .int .i8 50, .iface 53 (.pointer (some ⟨g2, 0, none⟩))] 145))) (o := (.cells #[.iface 143 (.pointer (some ⟨w2.heap.size, 0, none⟩))] 81)) rfl hg4 (cell_al _ z9) HNe1.out; clear ho4 hg4 hv4)))
    go_wp2
    go_roundw
    case rel =>
     refine ⟨k + 1, vi2, vf2, xs ++ [.iface 143 (.pointer (some ⟨w2.heap.size, 0, none⟩))], by omega, by go_num, ?_⟩
     rw [HTT.out, sizes_append]
     exact HP.out.more (by simp only [sizes, Tr.size, idt]; omega)
    case measure =>
     simp [intOf]
     omega
   ·have HM5 : Hid (Mk W gm nm vi' vf' (N + sizes (ts.take k)) ((wr.alloc (.cells #[.int .i64 3, .string xt, .slice a3 n3 m3] 167)).alloc (.cells #[.pointer none, .pointer (some ⟨gm, 0, none⟩), .int .i32 l0, .int .i32 1, .int .i8 12, .nilIface] 145))) := Lib.hid (HMX.out.after bA)
    have HS5 : Hid (Stp gm vi' vf' (wr.alloc (.cells #[.int .i64 3, .string xt, .slice a3 n3 m3] 167)) vi' vf' ((wr.alloc (.cells #[.int .i64 3, .string xt, .slice a3 n3 m3] 167)).alloc (.cells #[.pointer none, .pointer (some ⟨gm, 0, none⟩), .int .i32 l0, .int .i32 1, .int .i8 12, .nilIface] 145))) := Lib.hid (Stp.of_below bA)
    have HD5 : Hid (Nd (Sees ((wr.alloc (.cells #[.int .i64 3, .string xt, .slice a3 n3 m3] 167)).alloc (.cells #[.pointer none, .pointer (some ⟨gm, 0, none⟩), .int .i32 l0, .int .i32 1, .int .i8 12, .nilIface] 145)) (New (wr.alloc (.cells #[.int .i64 3, .string xt, .slice a3 n3 m3] 167)).heap.size gm vi' vf' ((wr.alloc (.cells #[.int .i64 3, .string xt, .slice a3 n3 m3] 167)).alloc (.cells #[.pointer none, .pointer (some ⟨gm, 0, none⟩), .int .i32 l0, .int .i32 1, .int .i8 12, .nilIface] 145)))) (.iface 143 (.pointer (some ⟨wr.heap.size + 1, 0, none⟩))) (.mk none [])) := Lib.hid (by have := nd_opt0 HMX.out (Nat.le_refl _) 143 5 (#[.pointer none, .pointer (some ⟨gm, 0, none⟩), .int .i32 l0, .int .i32 1, .int .i8 12, .nilIface]) 145 rfl rfl; rwa [sz1 wr] at this ⊢)
    have HRow : Hid ((((wr.alloc (.cells #[.int .i64 3, .string xt, .slice a3 n3 m3] 167)).alloc (.cells #[.pointer none, .pointer (some ⟨gm, 0, none⟩), .int .i32 l0, .int .i32 1, .int .i8 12, .nilIface] 145)).alloc (.cells #[.iface 143 (.pointer (some ⟨wr.heap.size + 1, 0, none⟩))] 81)).ownsRow wq.heap.size 81 1 (.slice VA k VC) k xs) := Lib.hid (by have := HO.out.rowAt HBX.out HS5.out (.cells #[.iface 143 (.pointer (some ⟨wr.heap.size + 1, 0, none⟩))] 81); rwa [HTk.out] at this)
    have HSrc : Hid (SrcAt (((wr.alloc (.cells #[.int .i64 3, .string xt, .slice a3 n3 m3] 167)).alloc (.cells #[.pointer none, .pointer (some ⟨gm, 0, none⟩), .int .i32 l0, .int .i32 1, .int .i8 12, .nilIface] 145)).alloc (.cells #[.iface 143 (.pointer (some ⟨wr.heap.size + 1, 0, none⟩))] 81)) (.slice (some ⟨wr.heap.size + 1 + 1, 0, none⟩) 1 1) 1 [.iface 143 (.pointer (some ⟨wr.heap.size + 1, 0, none⟩))]) := Lib.hid (by have := src_one ((wr.alloc (.cells #[.int .i64 3, .string xt, .slice a3 n3 m3] 167)).alloc (.cells #[.pointer none, .pointer (some ⟨gm, 0, none⟩), .int .i32 l0, .int .i32 1, .int .i8 12, .nilIface] 145)) (.iface 143 (.pointer (some ⟨wr.heap.size + 1, 0, none⟩))) 81; rwa [sz1 (wr.alloc (.cells #[.int .i64 3, .string xt, .slice a3 n3 m3] 167)), sz1 wr] at this)
    have HSz : Hid (wq.heap.size ≤ (((wr.alloc (.cells #[.int .i64 3, .string xt, .slice a3 n3 m3] 167)).alloc (.cells #[.pointer none, .pointer (some ⟨gm, 0, none⟩), .int .i32 l0, .int .i32 1, .int .i8 12, .nilIface] 145)).alloc (.cells #[.iface 143 (.pointer (some ⟨wr.heap.size + 1, 0, none⟩))] 81)).heap.size) := Lib.hid (by have := HO.out.st.size; have := HS5.out.size; have := HBX.out.size; rw [sz1 ((wr.alloc (.cells #[.int .i64 3, .string xt, .slice a3 n3 m3] 167)).alloc (.cells #[.pointer none, .pointer (some ⟨gm, 0, none⟩), .int .i32 l0, .int .i32 1, .int .i8 12, .nilIface] 145))]; omega)
    go_wp2_with (at_builtin; refine wpList_append_blk rfl (.tmp 77) (.tmp 82) 94 rfl wq.heap.size 81 i0 .nilIface 1 16 Tryz.underlying94 hi hz0 hz1 hz2 rfl (by decide) (.slice VA k VC) k xs rfl HRow.out (.slice (some ⟨wr.heap.size + 1 + 1, 0, none⟩) 1 1) 1 [.iface 143 (.pointer (some ⟨wr.heap.size + 1, 0, none⟩))] rfl HSrc.out rfl (by intro y hy; obtain rfl := List.mem_singleton.1 hy; rfl) HL.out.1 HL.out.2 HSz.out ?_)
    intro v' w4 ho4 hg4 hv4
    obtain ⟨A2, C2, rfl⟩ := own_len ho4
    have HP : Hid (Outs W gm nm (N + sizes (ts.take k)) vi vf vi' vf' wq 81 (ts.take k ++ [.mk none []]) (xs ++ [.iface 143 (.pointer (some ⟨wr.heap.size + 1, 0, none⟩))]) (.slice A2 (k + 1) C2) w4) := Lib.hid (Outs.push' (.cells #[.iface 143 (.pointer (some ⟨wr.heap.size + 1, 0, none⟩))] 81) HO.out HBX.out HM5.out HS5.out HD5.out ⟨rfl, rfl, rfl, rfl⟩ (by rw [HTk.out]; exact ho4) hg4 hv4 HMP.out.bel.size)
    clear ho4 hg4 hv4
    go_wp2
    go_roundw
    case rel =>
     refine ⟨k + 1, vi', vf', xs ++ [.iface 143 (.pointer (some ⟨wr.heap.size + 1, 0, none⟩))], by omega, by go_num, ?_⟩
     rw [HTT.out, sizes_append]
     exact HP.out.more (by simp only [sizes, Tr.size, idt]; omega)
    case measure =>
     simp [intOf]
     omega
  ·go_wp2
   go_ret
   obtain rfl : k = ts.length := by omega
   have hO := HO.out
   rw [List.take_length] at hO
   exact ⟨_, vi', vf', rfl, hO.maker, (Stp.of_below HBP.out).trans hO.st, hO.rowQ.mono (Sees.mono (fun k hk => ⟨Nat.le_trans HBP.out.size hk.1, hk.2⟩) fun _ _ => rfl)⟩
end Go.Proofs.YtabeokminikfdaaGreat
