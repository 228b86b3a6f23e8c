import Derived.Test.YtabeokminikfdaaGreatQCh
import Derived.Test.YtabeokminikfdaaGreatQB1
import Derived.Test.YtabeokminikfdaaGreatQA1
set_option linter.all false
set_option maxRecDepth 100000
set_option maxHeartbeats 8000000
namespace Go.Proofs.YtabeokminikfdaaGreat
open Go.RowKit
theorem f38_any (W : World) (gm : Nat) (nm : ByteArray) (X : EV → Tr → Prop) (hE : MakeE W gm nm X) (hSh : ∀ e t, X e t → EvSh e) (v : Value) (ts : List Tr) (N : Nat) (vi vf : Value) (w : World) (hv : RowOf W 11 (EQ X) v ts) (hM : Mk W gm nm vi vf N w) (hN : N + sizes ts ≤ 1000000) :
  Calls Tryz.prog 38 #[.pointer (some ⟨gm, 0, none⟩), v] w (Made W gm nm (N + sizes ts) vi vf w (RowQ 0 ts)) := by
 obtain ⟨i0, hi, hz0, hz1, hz2⟩ := info_parts info81
 obtain ⟨a, c, rfl⟩ := hv.val
 have hlen : ts.length ≤ 1000000 := by have := length_sizes ts; omega
 have HE := Lib.hid hE
 have HSh := Lib.hid hSh
 have HV := Lib.hid hv
 have HM := Lib.hid hM
 have HN := Lib.hid hN
 clear hE hSh hv hM hN
 go_enter Tryz.func38, Tryz.ntmps38
 go_wp2
 go_loopw [4, 9] (fun s4 i wr => ∃ (k : Nat) (vi' vf' : Value) (xs : List Value), k ≤ ts.length ∧ i = .int .i64 k ∧ Outs W gm nm (N + sizes (ts.take k)) vi vf vi' vf' w 81 (ts.take k) xs s4 wr) (fun _ i _ => ts.length - (intOf i).toNat)
 case atStart => exact ⟨0, vi, vf, [], Nat.zero_le _, rfl, (Outs.start HM.out).more (Nat.le_add_right _ _)⟩
 case round =>
  obtain ⟨k, vi', vf', xs, hk, rfl, hO⟩ := hrel
  have htk : (ts.take k).length = k := by rw [List.length_take]; omega
  obtain ⟨VA, VC, rfl⟩ := own_len hO.row
  rw [show Value.slice VA (ts.take k).length VC = .slice VA k VC by rw [htk]] at hO
  have HO := Lib.hid hO
  have HTk := Lib.hid htk
  clear hO
  by_cases hlt : k < ts.length
  ·have hk' : k < ts.length := by omega
   obtain ⟨g, off, cs, rfl, ⟨hsz, hcs⟩, x, rfl, hx⟩ := HV.out.at k hk'
   have hsh := HSh.out x _ hx
   obtain ⟨xk, xo, xt, vk, vn, vm, vb, vt, vs, ks, ps⟩ := x
   obtain ⟨⟨a1, n1, m1, rfl⟩, ⟨a2, n2, m2, rfl⟩, ⟨a3, n3, m3, rfl⟩, ⟨a4, n4, m4, rfl⟩⟩ := hsh
   obtain ⟨c0, c1, c2, c3, c4, c5, c6, c7, c8, c9, c10⟩ := ev_cells HO.out.maker.bel hcs
   dsimp only at c0 c1 c2 c3 c4 c5 c6 c7 c8 c9 c10
   have HX := Lib.hid hx
   have HZ := Lib.hid (sizes_take_le ts k hk')
   have HZ2 := Lib.hid (sizes_take ts k hk')
   have HTT := Lib.hid (List.take_succ_eq_append_getElem hk')
   clear hcs hsz hx htk
   go_wp2_with fail
   have hz := HZ.out
   have hn := HN.out
   refine (HE.out _ ts[k] (N + sizes (ts.take k)) vi' vf' _ HX.out (HO.out.maker.after bA) (by omega)).mono ?_
   rintro e w1 ⟨v1, vi1, vf1, rfl, hM1, hS1, hd1⟩
   obtain ⟨T1, p1, rfl⟩ := hd1.iface
   have HM1 := Lib.hid hM1
   have HS1 := Lib.hid hS1
   have HD1 := Lib.hid hd1
   have HRow : Hid ((w1.alloc (.cells #[.iface T1 p1] 81)).ownsRow w.heap.size 81 1 (.slice VA k VC) k xs) := Lib.hid (by
    have := HO.out.rowAt (X := wr.alloc (.cells #[.int .i64 xk, .int .i64 xo, .string xt, .int .i64 vk, .bool vn, .slice a1 n1 m1, .int .u64 vb, .string vt, .slice a2 n2 m2, .slice a3 n3 m3, .slice a4 n4 m4] 164)) bA hS1 (.cells #[.iface T1 p1] 81)
    rwa [HTk.out] at this)
   have HSrc := Lib.hid (src_one w1 (.iface T1 p1) 81)
   have HSz : Hid (w.heap.size ≤ (w1.alloc (.cells #[.iface T1 p1] 81)).heap.size) := Lib.hid (by have := HO.out.st.size; have := hS1.size; rw [sz1] at *; omega)
   have HL : Hid (k + 1 ≤ maxLen ∧ (k + 1) * 16 ≤ 140737488355328) := Lib.hid ⟨by unfold maxLen; omega, by omega⟩
   clear hM1 hS1 hd1 hz hn c0 c1 c2 c3 c4 c5 c6 c7 c8 c9 c10
   go_wp2_with (at_builtin; refine wpList_append_blk rfl (.tmp 13) (.tmp 17) 94 rfl w.heap.size 81 i0 .nilIface 1 16 Tryz.underlying94 hi hz0 hz1 hz2 rfl (by decide) (.slice VA k VC) k xs rfl HRow.out (.slice (some ⟨w1.heap.size, 0, none⟩) 1 1) 1 [.iface T1 p1] rfl HSrc.out rfl (by intro y hy; obtain rfl := List.mem_singleton.1 hy; rfl) HL.out.1 HL.out.2 HSz.out ?_)
   intro v' w2 ho2 hg2 hv2
   obtain ⟨A2, C2, rfl⟩ := own_len ho2
   have HP := Lib.hid (HO.out.push (X := wr.alloc (.cells #[.int .i64 xk, .int .i64 xo, .string xt, .int .i64 vk, .bool vn, .slice a1 n1 m1, .int .u64 vb, .string vt, .slice a2 n2 m2, .slice a3 n3 m3, .slice a4 n4 m4] 164)) bA HM1.out HS1.out HD1.out (by rw [HTk.out]; exact ho2) hg2 hv2 HM.out.bel.size)
   clear ho2 hg2 hv2
   go_wp2
   go_roundw
   case rel =>
    refine ⟨k + 1, vi1, vf1, xs ++ [.iface T1 p1], by omega, by go_num, ?_⟩
    rw [HTT.out, sizes_append]
    have := HP.out
    simpa only [sizes, Nat.add_zero, Nat.add_assoc] using this
   case measure =>
    simp [intOf]
    omega
  ·go_wp2
   go_ret
   obtain rfl : k = ts.length := by omega
   have hO := HO.out
   rw [List.take_length] at hO ⊢
   exact ⟨_, vi', vf', rfl, hO.maker, hO.st, hO.rowQ⟩
end Go.Proofs.YtabeokminikfdaaGreat
namespace Go.Proofs.YtabeokminikfdaaGreat
open Go.RowKit
theorem f49_any (W : World) (gm : Nat) (nm : ByteArray) (X : EV → Tr → Prop) (hE : MakeE W gm nm X) (hSh : ∀ e t, X e t → EvSh e) (x y : EV) (t1 t2 : Tr) (hx : X x t1) (hy : X y t2) (N : Nat) (vi vf : Value) (w : World) (hM : Mk W gm nm vi vf N w) (hN : N + (1 + (t1.size + (t2.size + 0))) ≤ 1000000) :
  Calls Tryz.prog 49 #[.pointer (some ⟨gm, 0, none⟩), x.val, y.val] w (Made W gm nm (N + (1 + (t1.size + (t2.size + 0)))) vi vf w fun R u => ∃ g, u = .pointer (some ⟨g, 0, none⟩) ∧ Nd R (.iface 122 u) (.mk none [t1, t2])) := by
 have hs1 := hSh x t1 hx
 have hs2 := hSh y t2 hy
 obtain ⟨xk, xo, xt, xfk, xfn, xfm, xfb, xft, xfs, xgs, xhs⟩ := x
 obtain ⟨⟨xa1, xn1, xm1, rfl⟩, ⟨xa2, xn2, xm2, rfl⟩, ⟨xa3, xn3, xm3, rfl⟩, ⟨xa4, xn4, xm4, rfl⟩⟩ := hs1
 obtain ⟨yk, yo, yt, yfk, yfn, yfm, yfb, yft, yfs, ygs, yhs⟩ := y
 obtain ⟨⟨ya1, yn1, ym1, rfl⟩, ⟨ya2, yn2, ym2, rfl⟩, ⟨ya3, yn3, ym3, rfl⟩, ⟨ya4, yn4, ym4, rfl⟩⟩ := hs2
 have HE := Lib.hid hE
 have HX := Lib.hid hx
 have HY := Lib.hid hy
 have HN := Lib.hid hN
 have HB0 : Hid (Below w.heap.size w ((w.alloc (.cells #[.int .i64 xk, .int .i64 xo, .string xt, .int .i64 xfk, .bool xfn, .slice xa1 xn1 xm1, .int .u64 xfb, .string xft, .slice xa2 xn2 xm2, .slice xa3 xn3 xm3, .slice xa4 xn4 xm4] 164)).alloc (.cells #[.int .i64 yk, .int .i64 yo, .string yt, .int .i64 yfk, .bool yfn, .slice ya1 yn1 ym1, .int .u64 yfb, .string yft, .slice ya2 yn2 ym2, .slice ya3 yn3 ym3, .slice ya4 yn4 ym4] 164))) := Lib.hid (bA.alloc (Nat.le_of_lt (lt1 _ _)) _)
 have HMB := Lib.hid (hM.after HB0.out)
 have HSb : Hid (Safe gm vi vf ((w.alloc (.cells #[.int .i64 xk, .int .i64 xo, .string xt, .int .i64 xfk, .bool xfn, .slice xa1 xn1 xm1, .int .u64 xfb, .string xft, .slice xa2 xn2 xm2, .slice xa3 xn3 xm3, .slice xa4 xn4 xm4] 164)).alloc (.cells #[.int .i64 yk, .int .i64 yo, .string yt, .int .i64 yfk, .bool yfn, .slice ya1 yn1 ym1, .int .u64 yfb, .string yft, .slice ya2 yn2 ym2, .slice ya3 yn3 ym3, .slice ya4 yn4 ym4] 164)) (w.heap.size + 1)) := Lib.hid (hM.safe_new (Nat.le_succ _) (by rw [sz1, sz1]; omega))
 have HM := Lib.hid hM
 clear hE hSh hx hy hM hN
 unfold EV.val EV.cells
 go_enter Tryz.func49, Tryz.ntmps49
 go_wp2_with fail
 have hn := HN.out
 refine (HE.out _ t1 N vi vf _ HX.out HMB.out (by omega)).mono ?_
 rintro e w1 ⟨v1, vi1, vf1, rfl, hM1, hS1, hd1⟩
 obtain ⟨T1, p1, rfl⟩ := hd1.iface
 have HM1 := Lib.hid hM1
 have HS1 := Lib.hid hS1
 have HD1 := Lib.hid hd1
 have HSb1 := Lib.hid (hS1.keep _ HSb.out).1
 have hblk : w1.heap[w.heap.size + 1]? = some (.cells #[.int .i64 yk, .int .i64 yo, .string yt, .int .i64 yfk, .bool yfn, .slice ya1 yn1 ym1, .int .u64 yfb, .string yft, .slice ya2 yn2 ym2, .slice ya3 yn3 ym3, .slice ya4 yn4 ym4] 164) := (hS1.keep _ HSb.out).2.trans (new2 w _ _)
 have b0 : w1.cell? ⟨w.heap.size + 1, 0, none⟩ = some (.int .i64 yk) := by simp [World.cell?, hblk]
 have b1 : w1.cell? ⟨w.heap.size + 1, 1, none⟩ = some (.int .i64 yo) := by simp [World.cell?, hblk]
 have b2 : w1.cell? ⟨w.heap.size + 1, 2, none⟩ = some (.string yt) := by simp [World.cell?, hblk]
 have b3 : w1.cell? ⟨w.heap.size + 1, 3, none⟩ = some (.int .i64 yfk) := by simp [World.cell?, hblk]
 have b4 : w1.cell? ⟨w.heap.size + 1, 4, none⟩ = some (.bool yfn) := by simp [World.cell?, hblk]
 have b5 : w1.cell? ⟨w.heap.size + 1, 5, none⟩ = some (.slice ya1 yn1 ym1) := by simp [World.cell?, hblk]
 have b6 : w1.cell? ⟨w.heap.size + 1, 6, none⟩ = some (.int .u64 yfb) := by simp [World.cell?, hblk]
 have b7 : w1.cell? ⟨w.heap.size + 1, 7, none⟩ = some (.string yft) := by simp [World.cell?, hblk]
 have b8 : w1.cell? ⟨w.heap.size + 1, 8, none⟩ = some (.slice ya2 yn2 ym2) := by simp [World.cell?, hblk]
 have b9 : w1.cell? ⟨w.heap.size + 1, 9, none⟩ = some (.slice ya3 yn3 ym3) := by simp [World.cell?, hblk]
 have b10 : w1.cell? ⟨w.heap.size + 1, 10, none⟩ = some (.slice ya4 yn4 ym4) := by simp [World.cell?, hblk]
 have HN2 : Hid (N + t1.size + t2.size ≤ 1000000) := Lib.hid (by omega)
 clear hM1 hS1 hd1 hblk hn
 go_wp2_with fail
 go_region_held3 (fun w' => w'.cell? ⟨w.heap.size + 1, 0, none⟩ = some (.int .i64 yk) ∧ w'.cell? ⟨w.heap.size + 1, 1, none⟩ = some (.int .i64 yo) ∧ w'.cell? ⟨w.heap.size + 1, 2, none⟩ = some (.string yt) ∧ w'.cell? ⟨w.heap.size + 1, 3, none⟩ = some (.int .i64 yfk) ∧ w'.cell? ⟨w.heap.size + 1, 4, none⟩ = some (.bool yfn) ∧ w'.cell? ⟨w.heap.size + 1, 5, none⟩ = some (.slice ya1 yn1 ym1) ∧ w'.cell? ⟨w.heap.size + 1, 6, none⟩ = some (.int .u64 yfb) ∧ w'.cell? ⟨w.heap.size + 1, 7, none⟩ = some (.string yft) ∧ w'.cell? ⟨w.heap.size + 1, 8, none⟩ = some (.slice ya2 yn2 ym2) ∧ w'.cell? ⟨w.heap.size + 1, 9, none⟩ = some (.slice ya3 yn3 ym3) ∧ w'.cell? ⟨w.heap.size + 1, 10, none⟩ = some (.slice ya4 yn4 ym4)) (first | (refine ⟨?_, ?_, ?_, ?_, ?_, ?_, ?_, ?_, ?_, ?_, ?_⟩ <;> assumption) | go_keep) ((first | (go_at_call 33; refine (f33_mk W gm nm vi1 vf1 (N + t1.size) _ (by first | exact HM1.out | exact HM1.out.after (Below.drewed (Below.refl _ _)))).mono ?_; rintro e w2 ⟨l0, rfl, hb2⟩; have d0 := (hb2.cell (p := ⟨w.heap.size + 1, 0, none⟩) HSb1.out.1).trans b0; have d1 := (hb2.cell (p := ⟨w.heap.size + 1, 1, none⟩) HSb1.out.1).trans b1; have d2 := (hb2.cell (p := ⟨w.heap.size + 1, 2, none⟩) HSb1.out.1).trans b2; have d3 := (hb2.cell (p := ⟨w.heap.size + 1, 3, none⟩) HSb1.out.1).trans b3; have d4 := (hb2.cell (p := ⟨w.heap.size + 1, 4, none⟩) HSb1.out.1).trans b4; have d5 := (hb2.cell (p := ⟨w.heap.size + 1, 5, none⟩) HSb1.out.1).trans b5; have d6 := (hb2.cell (p := ⟨w.heap.size + 1, 6, none⟩) HSb1.out.1).trans b6; have d7 := (hb2.cell (p := ⟨w.heap.size + 1, 7, none⟩) HSb1.out.1).trans b7; have d8 := (hb2.cell (p := ⟨w.heap.size + 1, 8, none⟩) HSb1.out.1).trans b8; have d9 := (hb2.cell (p := ⟨w.heap.size + 1, 9, none⟩) HSb1.out.1).trans b9; have d10 := (hb2.cell (p := ⟨w.heap.size + 1, 10, none⟩) HSb1.out.1).trans b10; have hB2 : Below w1.heap.size w1 w2 := bel_from hb2 ⟨rfl, rfl, rfl, rfl⟩; have HB2 := Lib.hid hB2; clear hb2 hB2) | (go_at_call 43; refine (HE.out _ t2 (N + t1.size) vi1 vf1 w2 HY.out (HM1.out.after HB2.out) HN2.out).mono ?_; rintro e w3 ⟨v2, vi2, vf2, rfl, hM2, hS2, hd2⟩; have hs2 : Safe gm vi1 vf1 w2 (w.heap.size + 1) := ((Stp.of_below HB2.out).keep _ HSb1.out).1; have f0 := (hS2.cell (a := ⟨w.heap.size + 1, 0, none⟩) hs2).trans d0; have f1 := (hS2.cell (a := ⟨w.heap.size + 1, 1, none⟩) hs2).trans d1; have f2 := (hS2.cell (a := ⟨w.heap.size + 1, 2, none⟩) hs2).trans d2; have f3 := (hS2.cell (a := ⟨w.heap.size + 1, 3, none⟩) hs2).trans d3; have f4 := (hS2.cell (a := ⟨w.heap.size + 1, 4, none⟩) hs2).trans d4; have f5 := (hS2.cell (a := ⟨w.heap.size + 1, 5, none⟩) hs2).trans d5; have f6 := (hS2.cell (a := ⟨w.heap.size + 1, 6, none⟩) hs2).trans d6; have f7 := (hS2.cell (a := ⟨w.heap.size + 1, 7, none⟩) hs2).trans d7; have f8 := (hS2.cell (a := ⟨w.heap.size + 1, 8, none⟩) hs2).trans d8; have f9 := (hS2.cell (a := ⟨w.heap.size + 1, 9, none⟩) hs2).trans d9; have f10 := (hS2.cell (a := ⟨w.heap.size + 1, 10, none⟩) hs2).trans d10; obtain ⟨T2, p2, rfl⟩ := hd2.iface; have HM2 := Lib.hid hM2; have HS2 := Lib.hid hS2; have HD2 := Lib.hid hd2; clear hM2 hS2 hd2 hs2)))
 all_goals go_wp2
 all_goals go_ret
 all_goals
  have hst : Stp gm vi1 vf1 w1 vi2 vf2 w3 := (Stp.of_below HB2.out).trans HS2.out
  have hda := HD1.out.step hst (b' := w.heap.size) HB0.out.size
  have hdb := HD2.out.step (Stp.refl ..) (b' := w.heap.size) (Nat.le_trans (Nat.le_trans HB0.out.size HS1.out.size) HB2.out.size)
  have hall : Stp gm vi vf w vi2 vf2 w3 := (Stp.of_below HB0.out).trans (HS1.out.trans hst)
  have hm : Mk W gm nm vi2 vf2 (N + (1 + (t1.size + (t2.size + 0)))) w3 := HM2.out.more (by omega)
  refine made_b ?_
  first
   | exact made_news (b := w.heap.size) hm hall hall.size bA fun R hc ht => ⟨_, rfl, .other 122 w3.heap.size [(1, .node), (5, .node)] _ rfl (.node _ 1 _ _ _ _ (hc _ _ _ 1 _ (heap_alloc_new w3 _) (Nat.le_refl _) rfl) (hda.mono ht) (.node _ 5 _ _ _ _ (hc _ _ _ 5 _ (heap_alloc_new w3 _) (Nat.le_refl _) rfl) (hdb.mono ht) (.nil _)))⟩
   | exact made_news (b := w.heap.size) hm hall hall.size (Below.drewed bA) fun R hc ht => ⟨_, rfl, .other 122 w3.heap.size [(1, .node), (5, .node)] _ rfl (.node _ 1 _ _ _ _ (hc _ _ _ 1 _ (heap_alloc_new w3 _) (Nat.le_refl _) rfl) (hda.mono ht) (.node _ 5 _ _ _ _ (hc _ _ _ 5 _ (heap_alloc_new w3 _) (Nat.le_refl _) rfl) (hdb.mono ht) (.nil _)))⟩
end Go.Proofs.YtabeokminikfdaaGreat
