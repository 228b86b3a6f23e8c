import Derived.Test.YtabeokminikfdaaGreatQCd
import Derived.Test.YtabeokminikfdaaGreatQDu
import Derived.Test.YtabeokminikfdaaGreatQCg
import Derived.Test.YtabeokminikfdaaGreatQCi
import Derived.Test.YtabeokminikfdaaGreatQCk
import Derived.Test.YtabeokminikfdaaGreatQDt
import Derived.Test.YtabeokminikfdaaGreatQCq
import Derived.Test.YtabeokminikfdaaGreatQEc
import Derived.Test.YtabeokminikfdaaGreatQCh
import Derived.Test.YtabeokminikfdaaGreatQCm
import Derived.Test.YtabeokminikfdaaGreatQA1
set_option linter.all false
set_option maxRecDepth 100000
set_option maxHeartbeats 64000000
namespace Go.Proofs.YtabeokminikfdaaGreat
open Go.RowKit
theorem f45_any (W : World) (gm : Nat) (nm : ByteArray) (vk : Int) (vn : Bool) (vb : Nat) (vt : ByteArray) (ma sa : Option Addr) (mn mc sn sc : Nat) (N : Nat) (vi vf : Value) (w : World) (hM : Mk W gm nm vi vf N w) (hl : (vk = 2 ∧ vn = false ∧ ∃ n, Bytes W (.slice ma mn mc) n ∧ n ≤ 40) ∨ (vk = 3 ∧ vb < 2047 * 2 ^ 52) ∨ vk = 4 ∨ vk = 5) :
  Calls Tryz.prog 45 #[.pointer (some ⟨gm, 0, none⟩), .agg #[.int .i64 vk, .bool vn, .slice ma mn mc, .int .u64 vb, .string vt, .slice sa sn sc]] w (Made W gm nm N vi vf w fun R v => Nd R v (.mk none [])) := by
 rcases hl with ⟨rfl, rfl, h⟩ | ⟨rfl, h⟩ | rfl | rfl
 ·exact f45_2 W gm nm vb vt ma sa mn mc sn sc N vi vf w hM h
 ·exact f45_3 W gm nm vn vb vt ma sa mn mc sn sc N vi vf w hM h
 ·exact f45_4 W gm nm vn vb vt ma sa mn mc sn sc N vi vf w hM
 ·exact f45_5 W gm nm vn vb vt ma sa mn mc sn sc N vi vf w hM
theorem comp_tail {W : World} {X : EV → Tr → Prop} {m g o n c : Nat} {us ts : List Tr} (hm : us.length = m) (h : RowOf W 11 (CompQ W X m) (.slice (some ⟨g, o, none⟩) n c) (us ++ ts)) (hc : m < c) : RowOf W 11 (fun _ cs t => ∃ k : EV, cs = k.cells ∧ CX W X k t) (.slice (some ⟨g, o + m * 11, none⟩) ts.length (c - m)) ts := by
 obtain ⟨_, _, hv, h1, h2, h3⟩ := h
 cases hv
 simp only [List.length_append] at h1 h3
 refine ⟨_, _, rfl, by omega, by unfold maxLen at *; omega, fun h0 => ⟨g, o + m * 11, rfl, fun i hi => ?_⟩⟩
 obtain ⟨g', o', ha, hel⟩ := h3 (by omega)
 cases ha
 obtain ⟨cs, ⟨hs, hcc⟩, k, hk, _, hx, _⟩ := hel (m + i) (by omega)
 refine ⟨cs, ⟨hs, fun j hj => by rw [← hcc j hj, Nat.add_mul]; congr 2; omega⟩, k, hk, ?_⟩
 have := hx (Nat.le_add_right _ _)
 rw [List.getElem_append_right (by omega)] at this
 have e : m + i - us.length = i := by omega
 simpa only [e] using this
theorem twos_len : ∀ ts : List Tr, (twos ts).length = ts.length / 2
 | [] => by simp [twos]
 | [t] => by simp [twos]
 | a :: b :: r => by simp only [twos, List.length_cons, twos_len r]; omega
theorem twos_at : ∀ (ts : List Tr) (k : Nat) (h : 2 * k + 1 < ts.length) (h' : k < (twos ts).length), (twos ts)[k] = .mk none [ts[2 * k], ts[2 * k + 1]]
 | [], k, h, _ => absurd h (Nat.not_lt_zero _)
 | [t], k, h, _ => by simp at h
 | a :: b :: r, 0, _, _ => rfl
 | a :: b :: r, k + 1, h, h' => by
  simp only [twos, List.getElem_cons_succ]
  exact twos_at r k (by simp only [List.length_cons] at h; omega) _
theorem f43_go (W : World) (gm : Nat) (nm : ByteArray) (X : EV → Tr → Prop) (hE : MakeE W gm nm X) (hSh : ∀ e t, X e t → EvSh e) (xk : Int) (xo : Int) (xt : ByteArray) (xfk : Int) (xfn : Bool) (xfb : Nat) (xft : ByteArray) (xa1 xa2 xa3 xa4 : Option Addr) (xn1 xn2 xn3 xn4 xm1 xm2 xm3 xm4 : Nat) (z : Nat) (t : Tr) (hzt : z = t.size) (hs : ShE W X ⟨xk, xo, xt, xfk, xfn, .slice xa1 xn1 xm1, xfb, xft, .slice xa2 xn2 xm2, .slice xa3 xn3 xm3, .slice xa4 xn4 xm4⟩ t) (hpl : (∀ ts : List Tr, ¬ Plain xk xo ts.length) ∧ xk ≠ 13) (N : Nat) (vi vf : Value) (w : World) (hM : Mk W gm nm vi vf N w) (hN : N + z ≤ 1000000) :
  Calls Tryz.prog 43 #[.pointer (some ⟨gm, 0, none⟩), .agg #[.int .i64 xk, .int .i64 xo, .string xt, .int .i64 xfk, .bool xfn, .slice xa1 xn1 xm1, .int .u64 xfb, .string xft, .slice xa2 xn2 xm2, .slice xa3 xn3 xm3, .slice xa4 xn4 xm4]] w (Made W gm nm (N + z) vi vf w fun R v => Nd R v (t)) := by
 have hl3 := hs.cap3
 have HSt := Lib.hid hs
 have HZt := Lib.hid hzt
 have HPL := Lib.hid hpl
 clear hpl
 clear hs hzt
 have HM := Lib.hid hM
 have HN := Lib.hid hN
 have HE := Lib.hid hE
 have HSh := Lib.hid hSh
 have HB0 : Hid (Below w.heap.size w (w.alloc (.cells #[.int .i64 xk, .int .i64 xo, .string xt, .int .i64 xfk, .bool xfn, .slice xa1 xn1 xm1, .int .u64 xfb, .string xft, .slice xa2 xn2 xm2, .slice xa3 xn3 xm3, .slice xa4 xn4 xm4] 164))) := Lib.hid bA
 clear hM hN hE hSh
 go_enter Tryz.func43, Tryz.ntmps43
 go_wp2_with fail
 refine (f44_sh W X xk xo xt xfk xfn xfb xft xa1 xa2 xa3 xa4 xn1 xn2 xn3 xn4 xm1 xm2 xm3 xm4 t _ (HM.out.after HB0.out).bel HSt.out).mono ?_
 rintro e w1 ⟨rfl, hb1⟩
 have HB1 : Hid (Below (w.alloc (.cells #[.int .i64 xk, .int .i64 xo, .string xt, .int .i64 xfk, .bool xfn, .slice xa1 xn1 xm1, .int .u64 xfb, .string xft, .slice xa2 xn2 xm2, .slice xa3 xn3 xm3, .slice xa4 xn4 xm4] 164)).heap.size (w.alloc (.cells #[.int .i64 xk, .int .i64 xo, .string xt, .int .i64 xfk, .bool xfn, .slice xa1 xn1 xm1, .int .u64 xfb, .string xft, .slice xa2 xn2 xm2, .slice xa3 xn3 xm3, .slice xa4 xn4 xm4] 164)) w1) := Lib.hid hb1
 have HM1 := Lib.hid ((HM.out.after HB0.out).after hb1)
 clear hb1
 go_wp2_with fail
 refine (f34_mk W gm nm vi vf N _ HM1.out).mono ?_
 rintro e w2 ⟨rfl, hM2, hS2⟩
 have HM2 := Lib.hid hM2
 have HS2 : Hid (Stp gm vi vf (w.alloc (.cells #[.int .i64 xk, .int .i64 xo, .string xt, .int .i64 xfk, .bool xfn, .slice xa1 xn1 xm1, .int .u64 xfb, .string xft, .slice xa2 xn2 xm2, .slice xa3 xn3 xm3, .slice xa4 xn4 xm4] 164)) vi vf w2) := Lib.hid ((Stp.of_below HB1.out).trans hS2)
 clear hM2 hS2
 have HSb : Hid (Safe gm vi vf w2 w.heap.size) := Lib.hid (HS2.out.keep _ (HM.out.safe_new (Nat.le_refl _) (lt1 _ _))).1
 go_wp2_with fail
 refine (f33_mk W gm nm vi vf N _ HM2.out).mono ?_
 rintro e wp ⟨l0, rfl, hbp⟩
 have HBq : Hid (Below w2.heap.size w2 (wp.alloc (.cells #[.pointer (some ⟨gm, 0, none⟩), .int .i32 l0, .int .i32 1] 60))) := Lib.hid (hbp.alloc hbp.size _)
 have HSq : Hid (Stp gm vi vf w vi vf (wp.alloc (.cells #[.pointer (some ⟨gm, 0, none⟩), .int .i32 l0, .int .i32 1] 60))) := Lib.hid ((Stp.of_below HB0.out).trans (HS2.out.trans (Stp.of_below HBq.out)))
 have HMq := Lib.hid (HM2.out.after HBq.out)
 have HSbq : Hid (Safe gm vi vf (wp.alloc (.cells #[.pointer (some ⟨gm, 0, none⟩), .int .i32 l0, .int .i32 1] 60)) w.heap.size) := Lib.hid ((Stp.of_below HBq.out).keep _ HSb.out).1
 have hbk : ∀ q v, (w.alloc (.cells #[.int .i64 xk, .int .i64 xo, .string xt, .int .i64 xfk, .bool xfn, .slice xa1 xn1 xm1, .int .u64 xfb, .string xft, .slice xa2 xn2 xm2, .slice xa3 xn3 xm3, .slice xa4 xn4 xm4] 164)).cell? ⟨w.heap.size, q, none⟩ = some v → (wp.alloc (.cells #[.pointer (some ⟨gm, 0, none⟩), .int .i32 l0, .int .i32 1] 60)).cell? ⟨w.heap.size, q, none⟩ = some v := fun q v h => ((HS2.out.trans (Stp.of_below HBq.out)).cell (a := ⟨w.heap.size, q, none⟩) (HM.out.safe_new (Nat.le_refl _) (lt1 _ _))).trans h
 have bx0 : (wp.alloc (.cells #[.pointer (some ⟨gm, 0, none⟩), .int .i32 l0, .int .i32 1] 60)).cell? ⟨w.heap.size, 0, none⟩ = some (.int .i64 xk) := hbk _ _ (by simp [go_sem])
 have bx1 : (wp.alloc (.cells #[.pointer (some ⟨gm, 0, none⟩), .int .i32 l0, .int .i32 1] 60)).cell? ⟨w.heap.size, 1, none⟩ = some (.int .i64 xo) := hbk _ _ (by simp [go_sem])
 have bx2 : (wp.alloc (.cells #[.pointer (some ⟨gm, 0, none⟩), .int .i32 l0, .int .i32 1] 60)).cell? ⟨w.heap.size, 2, none⟩ = some (.string xt) := hbk _ _ (by simp [go_sem])
 have bx3 : (wp.alloc (.cells #[.pointer (some ⟨gm, 0, none⟩), .int .i32 l0, .int .i32 1] 60)).cell? ⟨w.heap.size, 3, none⟩ = some (.int .i64 xfk) := hbk _ _ (by simp [go_sem])
 have bx4 : (wp.alloc (.cells #[.pointer (some ⟨gm, 0, none⟩), .int .i32 l0, .int .i32 1] 60)).cell? ⟨w.heap.size, 4, none⟩ = some (.bool xfn) := hbk _ _ (by simp [go_sem])
 have bx5 : (wp.alloc (.cells #[.pointer (some ⟨gm, 0, none⟩), .int .i32 l0, .int .i32 1] 60)).cell? ⟨w.heap.size, 5, none⟩ = some (.slice xa1 xn1 xm1) := hbk _ _ (by simp [go_sem])
 have bx6 : (wp.alloc (.cells #[.pointer (some ⟨gm, 0, none⟩), .int .i32 l0, .int .i32 1] 60)).cell? ⟨w.heap.size, 6, none⟩ = some (.int .u64 xfb) := hbk _ _ (by simp [go_sem])
 have bx7 : (wp.alloc (.cells #[.pointer (some ⟨gm, 0, none⟩), .int .i32 l0, .int .i32 1] 60)).cell? ⟨w.heap.size, 7, none⟩ = some (.string xft) := hbk _ _ (by simp [go_sem])
 have bx8 : (wp.alloc (.cells #[.pointer (some ⟨gm, 0, none⟩), .int .i32 l0, .int .i32 1] 60)).cell? ⟨w.heap.size, 8, none⟩ = some (.slice xa2 xn2 xm2) := hbk _ _ (by simp [go_sem])
 have bx9 : (wp.alloc (.cells #[.pointer (some ⟨gm, 0, none⟩), .int .i32 l0, .int .i32 1] 60)).cell? ⟨w.heap.size, 9, none⟩ = some (.slice xa3 xn3 xm3) := hbk _ _ (by simp [go_sem])
 have bx10 : (wp.alloc (.cells #[.pointer (some ⟨gm, 0, none⟩), .int .i32 l0, .int .i32 1] 60)).cell? ⟨w.heap.size, 10, none⟩ = some (.slice xa4 xn4 xm4) := hbk _ _ (by simp [go_sem])
 have hbpS := hbp.size
 clear hbp hbk
 have hs := HSt.out
 clear HSt
 cases hs with
 | name hk hK =>
  obtain rfl : xk = 1 := hk
  obtain rfl : xn3 = 0 := hK.len
  obtain rfl : z = 1 := by have := HZt.out; simp only [Tr.size, sizes, sizes_append, idt, Nat.add_zero] at this ⊢; omega
  go_wp2_with fail
  refine (f40_mk W gm nm xt vi vf N _ HMq.out (by have := HN.out; omega)).mono ?_
  rintro e w6 ⟨v6, vi6, vf6, rfl, hM6, hS6, g6, rfl, hd6⟩
  go_wp2
  go_ret
  exact ⟨_, vi6, vf6, rfl, hM6, HSq.out.trans hS6, hd6.step (Stp.refl ..) HSq.out.size⟩
 | lit hk hK hlit =>
  obtain rfl : xk = 2 := hk
  obtain rfl : xn3 = 0 := hK.len
  obtain rfl : z = 1 := by have := HZt.out; simp only [Tr.size, sizes, sizes_append, idt, Nat.add_zero] at this ⊢; omega
  have HLi := Lib.hid hlit
  clear hlit
  go_wp2_with fail
  refine (f45_any W gm nm xfk xfn xfb xft xa1 xa2 xn1 xm1 xn2 xm2 N vi vf _ HMq.out HLi.out).mono ?_
  rintro e w6 ⟨v6, vi6, vf6, rfl, hM6, hS6, hd6⟩
  obtain ⟨T6, p6, rfl⟩ := hd6.iface
  go_wp2
  go_ret
  exact ⟨_, vi6, vf6, rfl, hM6.more (Nat.le_succ _), HSq.out.trans hS6, hd6.step (Stp.refl ..) HSq.out.size⟩
 | dict ts hk hev hK =>
  obtain rfl : xk = 5 := hk
  obtain rfl : xn3 = ts.length := hK.len
  obtain rfl : z = 1 + sizes (twos ts) := by have := HZt.out; simp only [Tr.size, sizes, sizes_append, idt, Nat.add_zero] at this ⊢; omega
  have hE := HE.out
  have hSh := HSh.out
  obtain ⟨i0, hi, hz0, hz1, hz2⟩ := info_parts info81
  have hlen : ts.length ≤ 2000000 := by have := HN.out; have := twos_len ts; have := length_sizes (twos ts); omega
  have hnt := twos_len ts
  have HK := Lib.hid hK
  have HE := Lib.hid hE
  have HSh := Lib.hid hSh
  clear hK hE hSh
  have HEv := Lib.hid hev
  clear hev
  go_upto_region 28 with (fail)
  generalize hw2 : wp.alloc (.cells #[.pointer (some ⟨gm, 0, none⟩), .int .i32 l0, .int .i32 1] 60) = w2 at *
  have hwp : wp.heap.size < w2.heap.size := by rw [← hw2]; exact lt1 _ _
  have q0 : w2.cell? ⟨wp.heap.size, 0, none⟩ = some (.pointer (some ⟨gm, 0, none⟩)) := by rw [← hw2]; simp [go_sem]
  have q1 : w2.cell? ⟨wp.heap.size, 1, none⟩ = some (.int .i32 l0) := by rw [← hw2]; simp [go_sem]
  have q2 : w2.cell? ⟨wp.heap.size, 2, none⟩ = some (.int .i32 1) := by rw [← hw2]; simp [go_sem]
  clear hw2
  have HSG : Hid (Safe gm vi vf (w2.alloc (.cells #[.pointer none, .pointer (some ⟨gm, 0, none⟩), .int .i32 l0, .int .i32 1, .slice none 0 0, .pointer (some ⟨gm, 0, none⟩), .int .i32 l0, .int .i32 1] 142)) w2.heap.size) := Lib.hid (HMq.out.safe_new (Nat.le_refl _) (lt1 _ _))
  have HSBw : Hid (Safe gm vi vf w2 w.heap.size) := HSbq
  have HGo : Hid ((w2.alloc (.cells #[.pointer none, .pointer (some ⟨gm, 0, none⟩), .int .i32 l0, .int .i32 1, .slice none 0 0, .pointer (some ⟨gm, 0, none⟩), .int .i32 l0, .int .i32 1] 142)).heap[w2.heap.size]? = some (.cells #[.pointer none, .pointer (some ⟨gm, 0, none⟩), .int .i32 l0, .int .i32 1, .slice none 0 0, .pointer (some ⟨gm, 0, none⟩), .int .i32 l0, .int .i32 1] 142)) := Lib.hid (heap_alloc_new w2 _)
  have HO0 : Hid (OutsX w2.heap.size W gm nm (N + sizes ((twos ts).take 0)) vi vf vi vf w2 81 ((twos ts).take 0) [] (.slice none 0 0) (w2.alloc (.cells #[.pointer none, .pointer (some ⟨gm, 0, none⟩), .int .i32 l0, .int .i32 1, .slice none 0 0, .pointer (some ⟨gm, 0, none⟩), .int .i32 l0, .int .i32 1] 142))) := Lib.hid ⟨(HMq.out.after bA).more (Nat.le_add_right _ _), Stp.of_below bA, ⟨rfl, .inl ⟨rfl, rfl⟩⟩, fun i hi => absurd hi (Nat.not_lt_zero i), fun g hg => by cases hg⟩
  have HX9 := Lib.hid bx9
  go_wp2_with fail
  clear q0 q1 q2 bx0 bx1 bx2 bx3 bx4 bx5 bx6 bx7 bx8 bx9 bx10
  go_loopw [10] (fun i wr => ∃ (j k : Nat) (vi' vf' : Value) (xs : List Value) (vo : Value), j ≤ ts.length ∧ j = 2 * k ∧ i = .int .i64 j ∧ OutsX w2.heap.size W gm nm (N + sizes ((twos ts).take k)) vi vf vi' vf' w2 81 ((twos ts).take k) xs vo wr ∧ wr.heap[w2.heap.size]? = some (.cells #[.pointer none, .pointer (some ⟨gm, 0, none⟩), .int .i32 l0, .int .i32 1, vo, .pointer (some ⟨gm, 0, none⟩), .int .i32 l0, .int .i32 1] 142) ∧ vo.ownBlock ≠ some w2.heap.size ∧ Safe gm vi' vf' wr w2.heap.size) (fun i _ => ts.length - (intOf i).toNat)
  case atStart => exact ⟨0, 0, vi, vf, [], _, Nat.zero_le _, rfl, rfl, HO0.out, HGo.out, (fun e => by cases e), HSG.out⟩
  case round =>
   obtain ⟨j, k, vi', vf', xs, vo, hj, hjk, rfl, hO, hgo, hvg, hsg⟩ := hrel
   have htk : ((twos ts).take k).length = k := by rw [List.length_take]; omega
   obtain ⟨VA, VC, rfl⟩ := own_len hO.row
   rw [show Value.slice VA ((twos ts).take k).length VC = .slice VA k VC by rw [htk]] at hO hgo hvg
   have x4 : wr.cell? ⟨w2.heap.size, 4, none⟩ = some (.slice VA k VC) := obj_cell hgo 4 _ rfl
   have x9 : wr.cell? ⟨w.heap.size, 9, none⟩ = some (.slice xa3 ts.length xm3) := (hO.st.cell (a := ⟨w.heap.size, 9, none⟩) HSBw.out).trans HX9.out
   have HSBr : Hid (Safe gm vi' vf' wr w.heap.size) := Lib.hid (hO.st.keep _ HSBw.out).1
   have HVB : Hid ((Value.slice VA k VC).ownBlock ≠ some w.heap.size) := Lib.hid (fun e => by have := (hO.row.lt _ e).1; have := HSBw.out.1; omega)
   have HO := Lib.hid hO
   have HTk := Lib.hid htk
   have HG := Lib.hid hgo
   have HVG := Lib.hid hvg
   have HSGr := Lib.hid hsg
   have HJ := Lib.hid hjk
   clear hO hgo hvg hsg htk hjk
   by_cases hlt : j < ts.length
   ·have hj1 : j + 1 < ts.length := by have := HJ.out; have := HEv.out; omega
    obtain ⟨g3, o3, cs, rfl, ⟨hsz1, hcs1⟩, e1, rfl, hx1⟩ := HK.out.at j hlt
    obtain ⟨_, _, cs, hga, ⟨hsz2, hcs2⟩, e2, rfl, hx2⟩ := HK.out.at (j + 1) hj1
    cases hga
    have hys := HSh.out e1 _ hx1
    have hus := HSh.out e2 _ hx2
    obtain ⟨yk, yo, yt, yfk, yfn, yfm, yfb, yft, yfs, ygs, yhs⟩ := e1
    obtain ⟨⟨ya1, yn1, ym1, rfl⟩, ⟨ya2, yn2, ym2, rfl⟩, ⟨ya3, yn3, ym3, rfl⟩, ⟨ya4, yn4, ym4, rfl⟩⟩ := hys
    obtain ⟨uk, uo, ut, ufk, ufn, ufm, ufb, uft, ufs, ugs, uhs⟩ := e2
    obtain ⟨⟨ua1, un1, um1, rfl⟩, ⟨ua2, un2, um2, rfl⟩, ⟨ua3, un3, um3, rfl⟩, ⟨ua4, un4, um4, rfl⟩⟩ := hus
    obtain ⟨c0, c1, c2, c3, c4, c5, c6, c7, c8, c9, c10⟩ := ev_cells HO.out.maker.bel hcs1
    obtain ⟨d0, d1, d2, d3, d4, d5, d6, d7, d8, d9, d10⟩ := ev_cells HO.out.maker.bel hcs2
    dsimp only at c0 c1 c2 c3 c4 c5 c6 c7 c8 c9 c10 d0 d1 d2 d3 d4 d5 d6 d7 d8 d9 d10 hx1 hx2
    have HE1 : Hid (∀ q, q < 11 → W.cell? ⟨g3, o3 + j * 11 + q, none⟩ = (EV.cells _)[q]?) := Lib.hid hcs1
    have HE2 : Hid (∀ q, q < 11 → W.cell? ⟨g3, o3 + (j + 1) * 11 + q, none⟩ = (EV.cells _)[q]?) := Lib.hid hcs2
    have hkt : k < (twos ts).length := by have := HJ.out; omega
    have hat : (twos ts)[k] = .mk none [ts[j], ts[j + 1]] := by have := HJ.out; subst this; exact twos_at ts k hj1 hkt
    have HZ := Lib.hid (sizes_take_le (twos ts) k hkt)
    have HTT := Lib.hid (List.take_succ_eq_append_getElem hkt)
    rw [hat] at HZ HTT
    generalize ts[j] = tx at *
    generalize ts[j + 1] = ty at *
    clear hat hcs1 hcs2 hsz1 hsz2 hkt
    have HX1 := Lib.hid hx1
    have HX2 := Lib.hid hx2
    have HN6 : Hid (N + sizes ((twos ts).take k) + (1 + (tx.size + (ty.size + 0))) ≤ 1000000) := Lib.hid (by have := HZ.out; have := HN.out; simp only [Tr.size, sizes] at *; omega)
    have HL : Hid (k + 1 ≤ maxLen ∧ (k + 1) * 16 ≤ 140737488355328) := Lib.hid (by have := HJ.out; exact ⟨by unfold maxLen; omega, by omega⟩)
    clear hx1 hx2
    have hwr : IntKind.i64.wrap ((j : Int) + 1) = (j : Int) + 1 := by rw [IntKind.wrap_i64]; omega
    have htn : ((j : Int) + 1).toNat = j + 1 := by omega
    have hij : (0 : Int) ≤ (j : Int) + 1 ∧ (j : Int) + 1 < (ts.length : Int) := by omega
    obtain ⟨LQ, QP, QI⟩ := named (fun w' => w'.cell? ⟨w2.heap.size, 4, none⟩ = some (.slice VA k VC) ∧ w'.cell? ⟨w.heap.size, 9, none⟩ = some (.slice (some ⟨g3, o3, none⟩) ts.length xm3) ∧ w'.cell? ⟨g3, o3 + j * 11, none⟩ = some (.int .i64 yk) ∧ w'.cell? ⟨g3, o3 + j * 11 + 1, none⟩ = some (.int .i64 yo) ∧ w'.cell? ⟨g3, o3 + j * 11 + 2, none⟩ = some (.string yt) ∧ w'.cell? ⟨g3, o3 + j * 11 + 3, none⟩ = some (.int .i64 yfk) ∧ w'.cell? ⟨g3, o3 + j * 11 + 4, none⟩ = some (.bool yfn) ∧ w'.cell? ⟨g3, o3 + j * 11 + 5, none⟩ = some (.slice ya1 yn1 ym1) ∧ w'.cell? ⟨g3, o3 + j * 11 + 6, none⟩ = some (.int .u64 yfb) ∧ w'.cell? ⟨g3, o3 + j * 11 + 7, none⟩ = some (.string yft) ∧ w'.cell? ⟨g3, o3 + j * 11 + 8, none⟩ = some (.slice ya2 yn2 ym2) ∧ w'.cell? ⟨g3, o3 + j * 11 + 9, none⟩ = some (.slice ya3 yn3 ym3) ∧ w'.cell? ⟨g3, o3 + j * 11 + 10, none⟩ = some (.slice ya4 yn4 ym4) ∧ w'.cell? ⟨g3, o3 + (j + 1) * 11, none⟩ = some (.int .i64 uk) ∧ w'.cell? ⟨g3, o3 + (j + 1) * 11 + 1, none⟩ = some (.int .i64 uo) ∧ w'.cell? ⟨g3, o3 + (j + 1) * 11 + 2, none⟩ = some (.string ut) ∧ w'.cell? ⟨g3, o3 + (j + 1) * 11 + 3, none⟩ = some (.int .i64 ufk) ∧ w'.cell? ⟨g3, o3 + (j + 1) * 11 + 4, none⟩ = some (.bool ufn) ∧ w'.cell? ⟨g3, o3 + (j + 1) * 11 + 5, none⟩ = some (.slice ua1 un1 um1) ∧ w'.cell? ⟨g3, o3 + (j + 1) * 11 + 6, none⟩ = some (.int .u64 ufb) ∧ w'.cell? ⟨g3, o3 + (j + 1) * 11 + 7, none⟩ = some (.string uft) ∧ w'.cell? ⟨g3, o3 + (j + 1) * 11 + 8, none⟩ = some (.slice ua2 un2 um2) ∧ w'.cell? ⟨g3, o3 + (j + 1) * 11 + 9, none⟩ = some (.slice ua3 un3 um3) ∧ w'.cell? ⟨g3, o3 + (j + 1) * 11 + 10, none⟩ = some (.slice ua4 un4 um4))
    have hL : LQ (wr.drew) := QI _ ⟨cell_dr x4, cell_dr x9, cell_dr c0, cell_dr c1, cell_dr c2, cell_dr c3, cell_dr c4, cell_dr c5, cell_dr c6, cell_dr c7, cell_dr c8, cell_dr c9, cell_dr c10, cell_dr d0, cell_dr d1, cell_dr d2, cell_dr d3, cell_dr d4, cell_dr d5, cell_dr d6, cell_dr d7, cell_dr d8, cell_dr d9, cell_dr d10⟩
    go_wp2_with fail
    refine wp_region_but LQ 23 (by kernel_rfl) ?_
    refine AnyBut.take (i := 0) (oi := ?o_1) (v := ?v_1) ?h_1 (by kernel_rfl) (by kernel_rfl) (by kernel_rfl) (by kernel_rfl) ?q_1 (Or.inl ⟨?g_1, ?y_1⟩) hL ?r_1
    case h_1 => (simp only [List.getElem?_toArray, List.getElem?_cons_zero]; exact rfl)
    case q_1 => exact fun _ _ _ h => h
    case g_1 => rfl
    case y_1 =>
     intro W hSw
     replace hSw := QP _ hSw
     try dsimp only at hSw
     go_simp
     try with_reducible rfl
    try simp only [Act.put, List.setIfInBounds_toArray, List.set_cons_zero, List.set_cons_succ]
    refine AnyBut.take (i := 1) (oi := ?o_2) (v := ?v_2) ?h_2 (by kernel_rfl) (by kernel_rfl) (by kernel_rfl) (by kernel_rfl) ?q_2 (Or.inl ⟨?g_2, ?y_2⟩) hL ?r_2
    case h_2 => (simp only [List.getElem?_toArray, List.getElem?_cons_succ, List.getElem?_cons_zero]; exact rfl)
    case q_2 => exact fun _ _ _ h => h
    case g_2 => rfl
    case y_2 =>
     intro W hSw
     replace hSw := QP _ hSw
     try dsimp only at hSw
     go_simp
     try with_reducible rfl
    try simp only [Act.put, List.setIfInBounds_toArray, List.set_cons_zero, List.set_cons_succ]
    refine AnyBut.take (i := 2) (oi := ?o_3) (v := ?v_3) ?h_3 (by kernel_rfl) (by kernel_rfl) (by kernel_rfl) (by kernel_rfl) ?q_3 (Or.inl ⟨?g_3, ?y_3⟩) hL ?r_3
    case h_3 => (simp only [List.getElem?_toArray, List.getElem?_cons_succ, List.getElem?_cons_zero]; exact rfl)
    case q_3 => exact fun _ _ _ h => h
    case g_3 => rfl
    case y_3 =>
     intro W hSw
     replace hSw := QP _ hSw
     try dsimp only at hSw
     go_simp
     try with_reducible rfl
    try simp only [Act.put, List.setIfInBounds_toArray, List.set_cons_zero, List.set_cons_succ]
    refine AnyBut.take (i := 3) (oi := ?o_4) (v := ?v_4) ?h_4 (by kernel_rfl) (by kernel_rfl) (by kernel_rfl) (by kernel_rfl) ?q_4 (Or.inl ⟨?g_4, ?y_4⟩) hL ?r_4
    case h_4 => (simp only [List.getElem?_toArray, List.getElem?_cons_succ, List.getElem?_cons_zero]; exact rfl)
    case q_4 => exact fun _ _ _ h => h
    case g_4 => rfl
    case y_4 =>
     intro W hSw
     replace hSw := QP _ hSw
     try dsimp only at hSw
     go_simp
     try with_reducible rfl
    try simp only [Act.put, List.setIfInBounds_toArray, List.set_cons_zero, List.set_cons_succ]
    refine AnyBut.take (i := 4) (oi := ?o_5) (v := ?v_5) ?h_5 (by kernel_rfl) (by kernel_rfl) (by kernel_rfl) (by kernel_rfl) ?q_5 (Or.inl ⟨?g_5, ?y_5⟩) hL ?r_5
    case h_5 => (simp only [List.getElem?_toArray, List.getElem?_cons_succ, List.getElem?_cons_zero]; exact rfl)
    case q_5 => exact fun _ _ _ h => h
    case g_5 => rfl
    case y_5 =>
     intro W hSw
     replace hSw := QP _ hSw
     try dsimp only at hSw
     go_simp
     try with_reducible rfl
    try simp only [Act.put, List.setIfInBounds_toArray, List.set_cons_zero, List.set_cons_succ]
    refine AnyBut.take (i := 5) (oi := ?o_6) (v := ?v_6) ?h_6 (by kernel_rfl) (by kernel_rfl) (by kernel_rfl) (by kernel_rfl) ?q_6 (Or.inl ⟨?g_6, ?y_6⟩) hL ?r_6
    case h_6 => (simp only [List.getElem?_toArray, List.getElem?_cons_succ, List.getElem?_cons_zero]; exact rfl)
    case q_6 => exact fun _ _ _ h => h
    case g_6 => rfl
    case y_6 =>
     intro W hSw
     replace hSw := QP _ hSw
     try dsimp only at hSw
     go_simp
     try with_reducible rfl
    try simp only [Act.put, List.setIfInBounds_toArray, List.set_cons_zero, List.set_cons_succ]
    refine AnyBut.take (i := 6) (oi := ?o_7) (v := ?v_7) ?h_7 (by kernel_rfl) (by kernel_rfl) (by kernel_rfl) (by kernel_rfl) ?q_7 (Or.inl ⟨?g_7, ?y_7⟩) hL ?r_7
    case h_7 => (simp only [List.getElem?_toArray, List.getElem?_cons_succ, List.getElem?_cons_zero]; exact rfl)
    case q_7 => exact fun _ _ _ h => h
    case g_7 => rfl
    case y_7 =>
     intro W hSw
     replace hSw := QP _ hSw
     try dsimp only at hSw
     go_simp
     try with_reducible rfl
    try simp only [Act.put, List.setIfInBounds_toArray, List.set_cons_zero, List.set_cons_succ]
    refine AnyBut.take (i := 7) (oi := ?o_8) (v := ?v_8) ?h_8 (by kernel_rfl) (by kernel_rfl) (by kernel_rfl) (by kernel_rfl) ?q_8 (Or.inl ⟨?g_8, ?y_8⟩) hL ?r_8
    case h_8 => (simp only [List.getElem?_toArray, List.getElem?_cons_succ, List.getElem?_cons_zero]; exact rfl)
    case q_8 => exact fun _ _ _ h => h
    case g_8 => rfl
    case y_8 =>
     intro W hSw
     replace hSw := QP _ hSw
     try dsimp only at hSw
     go_simp
     try with_reducible rfl
    try simp only [Act.put, List.setIfInBounds_toArray, List.set_cons_zero, List.set_cons_succ]
    refine AnyBut.take (i := 8) (oi := ?o_9) (v := ?v_9) ?h_9 (by kernel_rfl) (by kernel_rfl) (by kernel_rfl) (by kernel_rfl) ?q_9 (Or.inl ⟨?g_9, ?y_9⟩) hL ?r_9
    case h_9 => (simp only [List.getElem?_toArray, List.getElem?_cons_succ, List.getElem?_cons_zero]; exact rfl)
    case q_9 => exact fun _ _ _ h => h
    case g_9 => rfl
    case y_9 =>
     intro W hSw
     replace hSw := QP _ hSw
     try dsimp only at hSw
     go_simp
     try with_reducible rfl
    try simp only [Act.put, List.setIfInBounds_toArray, List.set_cons_zero, List.set_cons_succ]
    refine AnyBut.take (i := 9) (oi := ?o_10) (v := ?v_10) ?h_10 (by kernel_rfl) (by kernel_rfl) (by kernel_rfl) (by kernel_rfl) ?q_10 (Or.inl ⟨?g_10, ?y_10⟩) hL ?r_10
    case h_10 => (simp only [List.getElem?_toArray, List.getElem?_cons_succ, List.getElem?_cons_zero]; exact rfl)
    case q_10 => exact fun _ _ _ h => h
    case g_10 => rfl
    case y_10 =>
     intro W hSw
     replace hSw := QP _ hSw
     try dsimp only at hSw
     go_simp
     try with_reducible rfl
    try simp only [Act.put, List.setIfInBounds_toArray, List.set_cons_zero, List.set_cons_succ]
    refine AnyBut.take (i := 10) (oi := ?o_11) (v := ?v_11) ?h_11 (by kernel_rfl) (by kernel_rfl) (by kernel_rfl) (by kernel_rfl) ?q_11 (Or.inl ⟨?g_11, ?y_11⟩) hL ?r_11
    case h_11 => (simp only [List.getElem?_toArray, List.getElem?_cons_succ, List.getElem?_cons_zero]; exact rfl)
    case q_11 => exact fun _ _ _ h => h
    case g_11 => rfl
    case y_11 =>
     intro W hSw
     replace hSw := QP _ hSw
     try dsimp only at hSw
     go_simp
     try with_reducible rfl
    try simp only [Act.put, List.setIfInBounds_toArray, List.set_cons_zero, List.set_cons_succ]
    refine AnyBut.take (i := 11) (oi := ?o_12) (v := ?v_12) ?h_12 (by kernel_rfl) (by kernel_rfl) (by kernel_rfl) (by kernel_rfl) ?q_12 (Or.inl ⟨?g_12, ?y_12⟩) hL ?r_12
    case h_12 => (simp only [List.getElem?_toArray, List.getElem?_cons_succ, List.getElem?_cons_zero]; exact rfl)
    case q_12 => exact fun _ _ _ h => h
    case g_12 => rfl
    case y_12 =>
     intro W hSw
     replace hSw := QP _ hSw
     try dsimp only at hSw
     go_simp
     try with_reducible rfl
    try simp only [Act.put, List.setIfInBounds_toArray, List.set_cons_zero, List.set_cons_succ]
    refine AnyBut.take (i := 12) (oi := ?o_13) (v := ?v_13) ?h_13 (by kernel_rfl) (by kernel_rfl) (by kernel_rfl) (by kernel_rfl) ?q_13 (Or.inl ⟨?g_13, ?y_13⟩) hL ?r_13
    case h_13 => (simp only [List.getElem?_toArray, List.getElem?_cons_succ, List.getElem?_cons_zero]; exact rfl)
    case q_13 => exact fun _ _ _ h => h
    case g_13 => rfl
    case y_13 =>
     intro W hSw
     replace hSw := QP _ hSw
     try dsimp only at hSw
     go_simp
     try with_reducible rfl
    try simp only [Act.put, List.setIfInBounds_toArray, List.set_cons_zero, List.set_cons_succ]
    refine AnyBut.take (i := 13) (oi := ?o_14) (v := ?v_14) ?h_14 (by kernel_rfl) (by kernel_rfl) (by kernel_rfl) (by kernel_rfl) ?q_14 (Or.inl ⟨?g_14, ?y_14⟩) hL ?r_14
    case h_14 => (simp only [List.getElem?_toArray, List.getElem?_cons_succ, List.getElem?_cons_zero]; exact rfl)
    case q_14 => exact fun _ _ _ h => h
    case g_14 => rfl
    case y_14 =>
     intro W hSw
     replace hSw := QP _ hSw
     try dsimp only at hSw
     go_simp
     try with_reducible rfl
    try simp only [Act.put, List.setIfInBounds_toArray, List.set_cons_zero, List.set_cons_succ]
    refine AnyBut.take (i := 14) (oi := ?o_15) (v := ?v_15) ?h_15 (by kernel_rfl) (by kernel_rfl) (by kernel_rfl) (by kernel_rfl) ?q_15 (Or.inl ⟨?g_15, ?y_15⟩) hL ?r_15
    case h_15 => (simp only [List.getElem?_toArray, List.getElem?_cons_succ, List.getElem?_cons_zero]; exact rfl)
    case q_15 => exact fun _ _ _ h => h
    case g_15 => rfl
    case y_15 =>
     intro W hSw
     replace hSw := QP _ hSw
     try dsimp only at hSw
     go_simp
     try with_reducible rfl
    try simp only [Act.put, List.setIfInBounds_toArray, List.set_cons_zero, List.set_cons_succ]
    refine AnyBut.take (i := 15) (oi := ?o_16) (v := ?v_16) ?h_16 (by kernel_rfl) (by kernel_rfl) (by kernel_rfl) (by kernel_rfl) ?q_16 (Or.inl ⟨?g_16, ?y_16⟩) hL ?r_16
    case h_16 => (simp only [List.getElem?_toArray, List.getElem?_cons_succ, List.getElem?_cons_zero]; exact rfl)
    case q_16 => exact fun _ _ _ h => h
    case g_16 => rfl
    case y_16 =>
     intro W hSw
     replace hSw := QP _ hSw
     try dsimp only at hSw
     go_simp
     try with_reducible rfl
    try simp only [Act.put, List.setIfInBounds_toArray, List.set_cons_zero, List.set_cons_succ]
    refine AnyBut.take (i := 16) (oi := ?o_17) (v := ?v_17) ?h_17 (by kernel_rfl) (by kernel_rfl) (by kernel_rfl) (by kernel_rfl) ?q_17 (Or.inl ⟨?g_17, ?y_17⟩) hL ?r_17
    case h_17 => (simp only [List.getElem?_toArray, List.getElem?_cons_succ, List.getElem?_cons_zero]; exact rfl)
    case q_17 => exact fun _ _ _ h => h
    case g_17 => rfl
    case y_17 =>
     intro W hSw
     replace hSw := QP _ hSw
     try dsimp only at hSw
     go_simp
     try with_reducible rfl
    try simp only [Act.put, List.setIfInBounds_toArray, List.set_cons_zero, List.set_cons_succ]
    refine AnyBut.ready (rs := [17]) (by kernel_rfl) (by simp) ?_
    refine Comes.cons (o := ?o_18) ?h_18 (fun K hK => ?s_18) Comes.nil
    case h_18 => (simp only [List.getElem?_toArray, List.getElem?_cons_succ, List.getElem?_cons_zero]; exact rfl)
    go_simp
    go_at_call 49
    refine (f49_any W gm nm X HE.out HSh.out _ _ tx ty HX1.out HX2.out (N + sizes ((twos ts).take k)) vi' vf' _ (HO.out.maker.after (Below.drewed (Below.refl _ _))) HN6.out).mono ?_
    rintro e w6 ⟨v6, vi6, vf6, rfl, hM6, hS6, g6, rfl, hd6⟩
    have hS6' : Stp gm vi' vf' wr vi6 vf6 w6 := ⟨fun k hk => hS6.keep k hk, hS6.size⟩
    obtain ⟨r0, r1, r2, r3, r4, r5, r6, r7, r8, r9, r10⟩ := ev_cells hM6.bel HE1.out
    obtain ⟨s0, s1, s2, s3, s4, s5, s6, s7, s8, s9, s10⟩ := ev_cells hM6.bel HE2.out
    dsimp only at r0 r1 r2 r3 r4 r5 r6 r7 r8 r9 r10 s0 s1 s2 s3 s4 s5 s6 s7 s8 s9 s10
    have hL6 : LQ (w6) := QI _ ⟨(hS6'.cell (a := ⟨w2.heap.size, 4, none⟩) HSGr.out).trans (QP _ hL).1, (hS6'.cell (a := ⟨w.heap.size, 9, none⟩) HSBr.out).trans (QP _ hL).2.1, r0, r1, r2, r3, r4, r5, r6, r7, r8, r9, r10, s0, s1, s2, s3, s4, s5, s6, s7, s8, s9, s10⟩
    have hd6' : Nd (Sees w6 (New wr.heap.size gm vi6 vf6 w6)) (.iface 122 (.pointer (some ⟨g6, 0, none⟩))) (.mk none [tx, ty]) := hd6
    have HM6 := Lib.hid hM6
    have HS6 := Lib.hid hS6'
    have HD6 := Lib.hid hd6'
    clear hM6 hS6 hd6 hd6' hS6' hL r0 r1 r2 r3 r4 r5 r6 r7 r8 r9 r10 s0 s1 s2 s3 s4 s5 s6 s7 s8 s9 s10
    refine hK.out _ _ (fun _ => hL6) ?_
    clear hK K
    try simp only [Act.put, List.setIfInBounds_toArray, List.set_cons_zero, List.set_cons_succ]
    refine AnyBut.ready (rs := [18]) (by kernel_rfl) (by simp) ?_
    refine Comes.cons (o := ?o_19) ?h_19 (fun K hK => ?s_19) Comes.nil
    case h_19 => (simp only [List.getElem?_toArray, List.getElem?_cons_succ, List.getElem?_cons_zero]; exact rfl)
    go_simp
    refine hK.out _ _ (fun _ => hL6) ?_
    clear hK K
    try simp only [Act.put, List.setIfInBounds_toArray, List.set_cons_zero, List.set_cons_succ]
    refine AnyBut.ready (rs := [19]) (by kernel_rfl) (by simp) ?_
    refine Comes.cons (o := ?o_20) ?h_20 (fun K hK => ?s_20) Comes.nil
    case h_20 => (simp only [List.getElem?_toArray, List.getElem?_cons_succ, List.getElem?_cons_zero]; exact rfl)
    go_simp
    have hL8 : LQ ((w6.alloc (.cells #[.iface 122 (.pointer (some ⟨g6, 0, none⟩))] 81))) := QI _ ⟨cell_al _ (QP _ hL6).1, cell_al _ (QP _ hL6).2.1, cell_al _ (QP _ hL6).2.2.1, cell_al _ (QP _ hL6).2.2.2.1, cell_al _ (QP _ hL6).2.2.2.2.1, cell_al _ (QP _ hL6).2.2.2.2.2.1, cell_al _ (QP _ hL6).2.2.2.2.2.2.1, cell_al _ (QP _ hL6).2.2.2.2.2.2.2.1, cell_al _ (QP _ hL6).2.2.2.2.2.2.2.2.1, cell_al _ (QP _ hL6).2.2.2.2.2.2.2.2.2.1, cell_al _ (QP _ hL6).2.2.2.2.2.2.2.2.2.2.1, cell_al _ (QP _ hL6).2.2.2.2.2.2.2.2.2.2.2.1, cell_al _ (QP _ hL6).2.2.2.2.2.2.2.2.2.2.2.2.1, cell_al _ (QP _ hL6).2.2.2.2.2.2.2.2.2.2.2.2.2.1, cell_al _ (QP _ hL6).2.2.2.2.2.2.2.2.2.2.2.2.2.2.1, cell_al _ (QP _ hL6).2.2.2.2.2.2.2.2.2.2.2.2.2.2.2.1, cell_al _ (QP _ hL6).2.2.2.2.2.2.2.2.2.2.2.2.2.2.2.2.1, cell_al _ (QP _ hL6).2.2.2.2.2.2.2.2.2.2.2.2.2.2.2.2.2.1, cell_al _ (QP _ hL6).2.2.2.2.2.2.2.2.2.2.2.2.2.2.2.2.2.2.1, cell_al _ (QP _ hL6).2.2.2.2.2.2.2.2.2.2.2.2.2.2.2.2.2.2.2.1, cell_al _ (QP _ hL6).2.2.2.2.2.2.2.2.2.2.2.2.2.2.2.2.2.2.2.2.1, cell_al _ (QP _ hL6).2.2.2.2.2.2.2.2.2.2.2.2.2.2.2.2.2.2.2.2.2.1, cell_al _ (QP _ hL6).2.2.2.2.2.2.2.2.2.2.2.2.2.2.2.2.2.2.2.2.2.2.1, cell_al _ (QP _ hL6).2.2.2.2.2.2.2.2.2.2.2.2.2.2.2.2.2.2.2.2.2.2.2⟩
    refine hK.out _ _ (fun _ => hL8) ?_
    clear hK K
    try simp only [Act.put, List.setIfInBounds_toArray, List.set_cons_zero, List.set_cons_succ]
    have HBr : Hid (Below wr.heap.size wr wr) := Lib.hid (Below.refl _ _)
    have HRow : Hid ((w6.alloc (.cells #[.iface 122 (.pointer (some ⟨g6, 0, none⟩))] 81)).ownsRow w2.heap.size 81 1 (.slice VA k VC) k xs) := Lib.hid (by have := HO.out.rowAt HBr.out HS6.out (.cells #[.iface 122 (.pointer (some ⟨g6, 0, none⟩))] 81); rwa [HTk.out] at this)
    have HSrc := Lib.hid (src_one w6 (.iface 122 (.pointer (some ⟨g6, 0, none⟩))) 81)
    have HSz : Hid (w2.heap.size ≤ (w6.alloc (.cells #[.iface 122 (.pointer (some ⟨g6, 0, none⟩))] 81)).heap.size) := Lib.hid (by have := HO.out.st.size; have := HS6.out.size; rw [sz1 w6]; omega)
    refine AnyBut.ready (rs := [20]) (by kernel_rfl) (by simp) ?_
    refine Comes.cons (o := ?o_21) ?h_21 (fun K hK => ?s_21) Comes.nil
    case h_21 => (simp only [List.getElem?_toArray, List.getElem?_cons_succ, List.getElem?_cons_zero]; exact rfl)
    refine step_append_blk rfl (.tmp 143) (.tmp 158) 94 rfl w2.heap.size 81 i0 .nilIface 1 16 Tryz.underlying94 hi hz0 hz1 hz2 rfl (by decide) (.slice VA k VC) k xs (by rfl) (own_heap HRow.out rfl) (.slice (some ⟨w6.heap.size, 0, none⟩) 1 1) 1 [.iface 122 (.pointer (some ⟨g6, 0, none⟩))] (by rfl) HSrc.out rfl (by intro y hy; obtain rfl := List.mem_singleton.1 hy; rfl) HL.out.1 HL.out.2 HSz.out ?_
    intro v' w4 ho4 hg4 hv4
    obtain ⟨A2, C2, rfl⟩ := own_len ho4
    have HP : Hid (OutsX w2.heap.size W gm nm ((N + sizes ((twos ts).take k)) + (1 + (tx.size + (ty.size + 0)))) vi vf vi6 vf6 w2 81 ((twos ts).take k ++ [(.mk none [tx, ty])]) (xs ++ [.iface 122 (.pointer (some ⟨g6, 0, none⟩))]) (.slice A2 (k + 1) C2) w4) := Lib.hid (OutsX.push' (.cells #[.iface 122 (.pointer (some ⟨g6, 0, none⟩))] 81) HO.out HBr.out HM6.out HS6.out HD6.out ⟨rfl, rfl, rfl, rfl⟩ (by rw [HTk.out]; exact ho4) hg4 hv4 HMq.out.bel.size HSGr.out.1)
    obtain ⟨r0, r1, r2, r3, r4, r5, r6, r7, r8, r9, r10⟩ := ev_cells HP.out.maker.bel HE1.out
    obtain ⟨s0, s1, s2, s3, s4, s5, s6, s7, s8, s9, s10⟩ := ev_cells HP.out.maker.bel HE2.out
    dsimp only at r0 r1 r2 r3 r4 r5 r6 r7 r8 r9 r10 s0 s1 s2 s3 s4 s5 s6 s7 s8 s9 s10
    have hL9 : LQ (w4) := QI _ ⟨far_cell (w5 := w6) (o := (.cells #[.iface 122 (.pointer (some ⟨g6, 0, none⟩))] 81)) rfl hg4 (QP _ hL6).1 HVG.out, far_cell (w5 := w6) (o := (.cells #[.iface 122 (.pointer (some ⟨g6, 0, none⟩))] 81)) rfl hg4 (QP _ hL6).2.1 HVB.out, r0, r1, r2, r3, r4, r5, r6, r7, r8, r9, r10, s0, s1, s2, s3, s4, s5, s6, s7, s8, s9, s10⟩
    have hgo4 : w4.heap[w2.heap.size]? = some (.cells #[.pointer none, .pointer (some ⟨gm, 0, none⟩), .int .i32 l0, .int .i32 1, .slice VA k VC, .pointer (some ⟨gm, 0, none⟩), .int .i32 l0, .int .i32 1] 142) := grown_obj hg4 HVG.out (HS6.out.keep _ HSGr.out).1.1 (HS6.out.keep _ HSGr.out).2 HG.out
    have HV4 : Hid ((Value.slice A2 (k + 1) C2).ownBlock ≠ some w2.heap.size) := Lib.hid (block_ne hv4 HVG.out (Nat.lt_trans (HS6.out.keep _ HSGr.out).1.1 (lt1 _ _)))
    have HSG4 : Hid (Safe gm vi6 vf6 w4 w2.heap.size) := Lib.hid ⟨(Array.getElem?_eq_some_iff.1 hgo4).1, (HS6.out.keep _ HSGr.out).1.2⟩
    have HPX := Lib.hid (HP.out.setX (Nat.le_refl _) HMq.out.bel.size HSG4.out HV4.out 4 (.slice A2 (k + 1) C2))
    have HGX := Lib.hid (obj_set hgo4 4 (.slice A2 (k + 1) C2))
    have HG4 := Lib.hid hgo4
    have hf4 := obj_free hgo4
    clear ho4 hg4 hv4 hgo4 r0 r1 r2 r3 r4 r5 r6 r7 r8 r9 r10 s0 s1 s2 s3 s4 s5 s6 s7 s8 s9 s10
    refine hK.out _ _ (fun _ => hL9) ?_
    clear hK K
    try simp only [Act.put, List.setIfInBounds_toArray, List.set_cons_zero, List.set_cons_succ]
    refine AnyBut.ready (rs := [21]) (by kernel_rfl) (by simp) ?_
    refine Comes.cons (o := ?o_22) ?h_22 (fun K hK => ?s_22) Comes.nil
    case h_22 => (simp only [List.getElem?_toArray, List.getElem?_cons_succ, List.getElem?_cons_zero]; exact rfl)
    go_simp
    refine hK.out _ _ (fun _ => hL9) ?_
    clear hK K
    try simp only [Act.put, List.setIfInBounds_toArray, List.set_cons_zero, List.set_cons_succ]
    refine AnyBut.ready (rs := [22]) (by kernel_rfl) (by simp) ?_
    refine Comes.cons (o := ?o_23) ?h_23 (fun K hK => ?s_23) Comes.nil
    case h_23 => (simp only [List.getElem?_toArray, List.getElem?_cons_succ, List.getElem?_cons_zero]; exact rfl)
    go_simp
    refine hK.out _ _ (fun _ => hL9) ?_
    clear hK K
    try simp only [Act.put, List.setIfInBounds_toArray, List.set_cons_zero, List.set_cons_succ]
    have h4 := (QP _ hL9).1
    refine AnyBut.ready (rs := [23]) (by kernel_rfl) (by simp) ?_
    refine Comes.cons (o := ?o_24) ?h_24 (fun K hK => ?s_24) Comes.nil
    case h_24 => (simp only [List.getElem?_toArray, List.getElem?_cons_succ, List.getElem?_cons_zero]; exact rfl)
    go_simp
    refine hK.out _ _ (fun h => absurd rfl h) ?_
    clear hK K
    try simp only [Act.put, List.setIfInBounds_toArray, List.set_cons_zero, List.set_cons_succ]
    refine AnyBut.done (by kernel_rfl) ?_ _
    go_wp2
    go_roundw
    case rel =>
     refine ⟨j + 2, k + 1, vi6, vf6, xs ++ [.iface 122 (.pointer (some ⟨g6, 0, none⟩))], _, by omega, by have := HJ.out; omega, by go_num, ?_, HGX.out, HV4.out, HSG4.out.set _ _⟩
     rw [HTT.out, sizes_append]
     exact HPX.out.more (by simp only [sizes, Tr.size]; omega)
    case measure =>
     simp [intOf]
     omega
   ·have HG2 := HG
    go_wp2
    go_ret
    obtain rfl : j = ts.length := by omega
    have hO := HO.out
    have hkl : k = (twos ts).length := by have := HJ.out; omega
    rw [hkl, List.take_length] at hO
    have hgn := HSGr.out
    have hwl : w.heap.size ≤ w2.heap.size := HSq.out.size
    obtain ⟨ra, rn, rc, hv, hrn, _, _, hnds⟩ := hO.rowQ
    cases hv
    have hfin := Nd.other (R := Sees wr (New w.heap.size gm vi' vf' wr)) 140 w2.heap.size _ _ rfl (.row _ 4 0 _ _ _ _ _ _ (sees_at HG.out ⟨hwl, hgn⟩ 4 _ rfl) (hnds.mono (Sees.mono (fun k hk => ⟨Nat.le_trans hwl hk.1, hk.2⟩) fun _ _ => rfl)) hkl (.nil _))
    rw [List.append_nil] at hfin
    exact ⟨_, vi', vf', rfl, hO.maker.more (by omega), HSq.out.trans hO.st, hfin⟩
 | slice t oa ob oc hk hK =>
  obtain rfl : xk = 12 := hk
  obtain rfl : xn3 = 4 := hK.len
  obtain rfl : z = 1 + (t.size + sizes (oa.toList ++ (ob.toList ++ (oc.toList ++ [])))) := by have := HZt.out; simp only [Tr.size, sizes, sizes_append, idt, Nat.add_zero] at this ⊢; omega
  have HKr := Lib.hid hK
  clear hK
  go_wp2_with fail
  refine (f46_any W gm nm X HE.out HSh.out _ _ _ _ _ _ _ _ _ _ _ _ _ _ _ _ _ _ t oa ob oc N vi vf _ HKr.out HMq.out HN.out).mono ?_
  rintro e w6 ⟨v6, vi6, vf6, rfl, hM6, hS6, hd6⟩
  obtain ⟨T6, p6, rfl⟩ := hd6.iface
  go_wp2
  go_ret
  exact ⟨_, vi6, vf6, rfl, hM6, HSq.out.trans hS6, hd6.step (Stp.refl ..) HSq.out.size⟩
 | call t ts hk hK =>
  obtain rfl : xk = 14 := hk
  obtain rfl : z = 1 + (t.size + sizes ts) := by have := HZt.out; simp only [Tr.size, sizes, sizes_append, idt, Nat.add_zero] at this ⊢; omega
  have hn1 : 1 ≤ xn3 := by have := hK.len; simp at this; omega
  have HKr := Lib.hid hK
  clear hK
  go_wp2_with fail
  refine (f47_any W gm nm X HE.out HSh.out _ _ _ _ _ _ _ _ _ _ _ _ _ _ _ _ _ _ t ts N vi vf _ HKr.out HMq.out HN.out).mono ?_
  rintro e w6 ⟨v6, vi6, vf6, rfl, hM6, hS6, hd6⟩
  obtain ⟨T6, p6, rfl⟩ := hd6.iface
  go_wp2
  go_ret
  exact ⟨_, vi6, vf6, rfl, hM6, HSq.out.trans hS6, hd6.step (Stp.refl ..) HSq.out.size⟩
 | lambda ps t hk hP hK =>
  obtain rfl : xk = 18 := hk
  obtain rfl : xn3 = 1 := hK.len
  obtain ⟨g3, o3, _, h3, _, _⟩ := hK.at 0 (by simp)
  obtain rfl : xa3 = some ⟨g3, o3, none⟩ := h3
  obtain rfl : z = 1 + (sizes ps + t.size) := by have := HZt.out; simp only [Tr.size, sizes, sizes_append, idt, Nat.add_zero] at this ⊢; omega
  have hE := HE.out
  have hSh := HSh.out
  obtain ⟨g0, o0, cs0, hga, ⟨_, he0⟩, y, rfl, hy⟩ := hK.at 0 (by simp)
  cases hga
  have hys := hSh y _ hy
  obtain ⟨yk, yo, yt, yfk, yfn, yfm, yfb, yft, yfs, ygs, yhs⟩ := y
  obtain ⟨⟨ya1, yn1, ym1, rfl⟩, ⟨ya2, yn2, ym2, rfl⟩, ⟨ya3, yn3, ym3, rfl⟩, ⟨ya4, yn4, ym4, rfl⟩⟩ := hys
  have HPs := Lib.hid hP
  have HE := Lib.hid hE
  have HSh := Lib.hid hSh
  have HE0 : Hid (∀ j, j < 11 → W.cell? ⟨g3, o3 + 0 * 11 + j, none⟩ = (EV.cells _)[j]?) := Lib.hid he0
  have HY : Hid (X _ t) := Lib.hid hy
  clear hK hP he0 hy hE hSh
  go_upto_region 22 with (fail)
  generalize hw2 : (wp.alloc (.cells #[.pointer (some ⟨gm, 0, none⟩), .int .i32 l0, .int .i32 1] 60)) = w2 at *
  have hwp : wp.heap.size < w2.heap.size := by rw [← hw2]; exact lt1 _ _
  have q0 : w2.cell? ⟨wp.heap.size, 0, none⟩ = some (.pointer (some ⟨gm, 0, none⟩)) := by rw [← hw2]; simp [go_sem]
  have q1 : w2.cell? ⟨wp.heap.size, 1, none⟩ = some (.int .i32 l0) := by rw [← hw2]; simp [go_sem]
  have q2 : w2.cell? ⟨wp.heap.size, 2, none⟩ = some (.int .i32 1) := by rw [← hw2]; simp [go_sem]
  clear hw2
  have HBD : Hid (Below w2.heap.size w2 (w2.alloc (.cells #[.pointer none, .pointer (some ⟨gm, 0, none⟩), .int .i32 l0, .int .i32 1, .slice none 0 0, .nilIface, .nilIface] 157))) := Lib.hid bA
  have HMd := Lib.hid (HMq.out.after HBD.out)
  have HSBd : Hid (Safe gm vi vf (w2.alloc (.cells #[.pointer none, .pointer (some ⟨gm, 0, none⟩), .int .i32 l0, .int .i32 1, .slice none 0 0, .nilIface, .nilIface] 157)) w.heap.size) := Lib.hid ((Stp.of_below HBD.out).keep _ HSbq.out).1
  have HSGd : Hid (Safe gm vi vf (w2.alloc (.cells #[.pointer none, .pointer (some ⟨gm, 0, none⟩), .int .i32 l0, .int .i32 1, .slice none 0 0, .nilIface, .nilIface] 157)) w2.heap.size) := Lib.hid (HMq.out.safe_new (Nat.le_refl _) (lt1 _ _))
  have t5' : (w2.alloc (.cells #[.pointer none, .pointer (some ⟨gm, 0, none⟩), .int .i32 l0, .int .i32 1, .slice none 0 0, .nilIface, .nilIface] 157)).cell? ⟨w.heap.size, 10, none⟩ = some (.slice xa4 xn4 xm4) := cell_al _ bx10
  have t6' : (w2.alloc (.cells #[.pointer none, .pointer (some ⟨gm, 0, none⟩), .int .i32 l0, .int .i32 1, .slice none 0 0, .nilIface, .nilIface] 157)).cell? ⟨w.heap.size, 9, none⟩ = some (.slice (some ⟨g3, o3, none⟩) 1 xm3) := cell_al _ bx9
  clear bx0 bx1 bx2 bx3 bx4 bx5 bx6 bx7 bx8
  obtain ⟨i0, hi, hz0, hz1, hz2⟩ := info_parts info52
  obtain ⟨c, l, ho0⟩ := HMd.out.obj
  obtain ⟨c0, c1, c2, c3, c4, c5, c6⟩ := ho0.cells
  obtain ⟨nf, xf, hnf, hrf⟩ := HMd.out.rf
  obtain ⟨VA, VC, rfl⟩ := own_len hrf
  have HX : Hid (Below (w2.alloc (.cells #[.pointer none, .pointer (some ⟨gm, 0, none⟩), .int .i32 l0, .int .i32 1, .slice none 0 0, .nilIface, .nilIface] 157)).heap.size (w2.alloc (.cells #[.pointer none, .pointer (some ⟨gm, 0, none⟩), .int .i32 l0, .int .i32 1, .slice none 0 0, .nilIface, .nilIface] 157)) ((w2.alloc (.cells #[.pointer none, .pointer (some ⟨gm, 0, none⟩), .int .i32 l0, .int .i32 1, .slice none 0 0, .nilIface, .nilIface] 157)).alloc (.cells #[.iface 155 (.pointer (some ⟨w2.heap.size, 0, none⟩))] 52))) := Lib.hid bA
  have HMX := Lib.hid (HMd.out.after HX.out)
  have HOX : Hid (MkAt ((w2.alloc (.cells #[.pointer none, .pointer (some ⟨gm, 0, none⟩), .int .i32 l0, .int .i32 1, .slice none 0 0, .nilIface, .nilIface] 157)).alloc (.cells #[.iface 155 (.pointer (some ⟨w2.heap.size, 0, none⟩))] 52)) gm nm c l vi (.slice VA nf VC)) := Lib.hid ((HX.out.block gm HMd.out.lt).trans ho0)
  have HNf := Lib.hid hnf
  have HRX := Lib.hid (own_below hrf HX.out)
  have HLx : Hid (nf + 1 ≤ maxLen ∧ (nf + 1) * 16 ≤ 140737488355328) := Lib.hid (by have := HNf.out; have := HN.out; exact ⟨by unfold maxLen; omega, by omega⟩)
  have HSrc : Hid (SrcAt ((w2.alloc (.cells #[.pointer none, .pointer (some ⟨gm, 0, none⟩), .int .i32 l0, .int .i32 1, .slice none 0 0, .nilIface, .nilIface] 157)).alloc (.cells #[.iface 155 (.pointer (some ⟨w2.heap.size, 0, none⟩))] 52)) (.slice (some ⟨w2.heap.size + 1, 0, none⟩) 1 1) 1 [.iface 155 (.pointer (some ⟨w2.heap.size, 0, none⟩))]) := Lib.hid (by have := src_one (w2.alloc (.cells #[.pointer none, .pointer (some ⟨gm, 0, none⟩), .int .i32 l0, .int .i32 1, .slice none 0 0, .nilIface, .nilIface] 157)) (.iface 155 (.pointer (some ⟨w2.heap.size, 0, none⟩))) 52; simpa only [sz1] using this)
  have HBX := Lib.hid HMX.out.bel.size
  clear ho0 hnf hrf c0 c1 c2 c3 c5
  go_wp2_with (at_builtin; refine wpList_append_blk rfl (.tmp 101) (.tmp 104) 69 rfl W.heap.size 52 i0 .nilIface 1 16 Tryz.underlying69 hi hz0 hz1 hz2 rfl (by decide) (.slice VA nf VC) nf xf rfl HRX.out (.slice (some ⟨w2.heap.size + 1, 0, none⟩) 1 1) 1 [.iface 155 (.pointer (some ⟨w2.heap.size, 0, none⟩))] rfl HSrc.out rfl (by intro y hy; obtain rfl := List.mem_singleton.1 hy; rfl) HLx.out.1 HLx.out.2 HBX.out ?_)
  intro v' wf ho2 hg2 hv2
  obtain ⟨A2', C2, rfl⟩ := own_len ho2
  have HSF := Lib.hid (HMX.out.funs HOX.out HNf.out ho2 hg2 hv2)
  have y0 : wf.heap[gm]? = some _ := (hg2.block gm HMX.out.lt (fun e => HMX.out.nf e.symm)).trans HOX.out
  obtain ⟨-, -, -, -, y4, -, y6⟩ := MkAt.cells (w := wf) (gm := gm) y0
  have v5 : wf.cell? ⟨w.heap.size, 10, none⟩ = some (.slice xa4 xn4 xm4) := (World.cell?_of_block (w := (w2.alloc (.cells #[.pointer none, .pointer (some ⟨gm, 0, none⟩), .int .i32 l0, .int .i32 1, .slice none 0 0, .nilIface, .nilIface] 157))) (a := ⟨w.heap.size, 10, none⟩) ((hg2.block (w.heap.size) (Nat.lt_of_lt_of_le HSBd.out.1 HX.out.size) (fun e => HSBd.out.2.2.2 e.symm)).trans (HX.out.block (w.heap.size) HSBd.out.1))).trans t5'
  have v6 : wf.cell? ⟨w.heap.size, 9, none⟩ = some (.slice (some ⟨g3, o3, none⟩) 1 xm3) := (World.cell?_of_block (w := (w2.alloc (.cells #[.pointer none, .pointer (some ⟨gm, 0, none⟩), .int .i32 l0, .int .i32 1, .slice none 0 0, .nilIface, .nilIface] 157))) (a := ⟨w.heap.size, 9, none⟩) ((hg2.block (w.heap.size) (Nat.lt_of_lt_of_le HSBd.out.1 HX.out.size) (fun e => HSBd.out.2.2.2 e.symm)).trans (HX.out.block (w.heap.size) HSBd.out.1))).trans t6'
  have HV6 := Lib.hid v6
  have H24 : Hid (Stp gm vi (.slice VA nf VC) w2 vi (.slice A2' (nf + 1) C2) (wf.setCell ⟨gm, 4, none⟩ (.slice A2' (nf + 1) C2))) := Lib.hid ((Stp.of_below HBD.out).trans ((Stp.of_below HX.out).trans HSF.out.2))
  have hkg := ((Stp.of_below HX.out).trans HSF.out.2).keep _ HSGd.out
  have HG4 := Lib.hid (hkg.2.trans (heap_alloc_new w2 _))
  have HSG4 := Lib.hid hkg.1
  have HSB4 := Lib.hid (((Stp.of_below HX.out).trans HSF.out.2).keep _ HSBd.out).1
  clear ho2 hg2 hv2 y0 c4 c6 t5' t6' hkg v6 bx9 bx10 q0 q1 q2
  go_wp2_with fail
  refine (f41_any W gm nm X HE.out HSh.out _ ps (N + 1) vi _ _ HPs.out HSF.out.1 (by have := HN.out; omega)).mono ?_
  rintro e w6 ⟨v6, vi6, vf6, rfl, hM6, hS6, hR6⟩
  obtain ⟨a6, n6, c6, rfl, rfl, e2, e3, e4⟩ := hR6
  have hk6 := hS6.keep _ HSG4.out
  have hg6 := hk6.2.trans HG4.out
  have hgc := obj_cell hg6 4 _ rfl
  have hgf := obj_free hg6
  have u6 := (hS6.cell (a := ⟨w.heap.size, 9, none⟩) HSB4.out).trans ((Stp.set (gm := gm) (vi := vi) (vf := .slice VA nf VC) (w := wf) 4 (.slice A2' (nf + 1) C2)).cell (a := ⟨w.heap.size, 9, none⟩) ⟨World.block_lt_of_cell? wf _ HV6.out, HSBd.out.2⟩ |>.trans HV6.out)
  have HU6 : Hid ((w6.setCell ⟨w2.heap.size, 4, none⟩ (.slice a6 ps.length c6)).cell? ⟨w.heap.size, 9, none⟩ = some (.slice (some ⟨g3, o3, none⟩) 1 xm3)) := Lib.hid ((World.cell?_of_block (w := w6) (a := ⟨w.heap.size, 9, none⟩) (Below.heap_setCell w6 ⟨w2.heap.size, 4, none⟩ _ w.heap.size (by have := HSbq.out.1; show w.heap.size ≠ w2.heap.size; omega))).trans u6)
  have HG6 := Lib.hid (obj_set hg6 4 (.slice a6 ps.length c6))
  have HSG6 := Lib.hid (hk6.1.set ⟨w2.heap.size, 4, none⟩ (.slice a6 ps.length c6))
  have HM6 := Lib.hid (hM6.setNew hk6.1 HMq.out.bel.size 4 (.slice a6 ps.length c6))
  have HS26 := Lib.hid ((H24.out.trans hS6).setNew (Nat.le_refl w2.heap.size) 4 (.slice a6 ps.length c6))
  have HX6 : Hid (w2.heap.size < (wf.setCell ⟨gm, 4, none⟩ (.slice A2' (nf + 1) C2)).heap.size) := Lib.hid HSG4.out.1
  have hw2 : w.heap.size ≤ w2.heap.size := HSq.out.size
  have HR6 := Lib.hid (e4.mono fun a x h => sees_set 4 (.slice a6 ps.length c6) a x (sees_but2 HX6.out (Nat.le_trans hw2 (Nat.le_of_lt HX6.out)) a x h))
  clear hM6 hS6 e4 hk6 hg6 v5
  go_upto_region 25 with (fail)
  generalize w6.setCell ⟨w2.heap.size, 4, none⟩ (.slice a6 ps.length c6) = w7 at *
  clear hgc hgf u6
  have u9 := HU6.out
  obtain ⟨y0, y1, y2, y3, y4, y5, y6, y7, y8, y9, y10⟩ := ev_cells0 HM6.out.bel HE0.out
  dsimp only at y0 y1 y2 y3 y4 y5 y6 y7 y8 y9 y10
  go_wp2_with fail
  refine (HE.out _ t (N + 1 + sizes ps) vi6 vf6 _ HY.out HM6.out (by have := HN.out; omega)).mono ?_
  rintro e w8 ⟨v8, vi8, vf8, rfl, hM8, hS8, hd8⟩
  obtain ⟨T8, p8, rfl⟩ := hd8.iface
  have hk8 := hS8.keep _ HSG6.out
  have hg8 := hk8.2.trans HG6.out
  have hgc8 := obj_cell hg8 5 _ rfl
  have hgf8 := obj_free hg8
  have HG8 := Lib.hid (obj_set hg8 5 (.iface T8 p8))
  have HSG8 := Lib.hid hk8.1
  have HM8 := Lib.hid hM8
  have HS8 := Lib.hid hS8
  have HD8 := Lib.hid hd8
  clear hM8 hS8 hd8 hk8 hg8 u9 y0 y1 y2 y3 y4 y5 y6 y7 y8 y9 y10
  go_wp2
  go_ret
  have hall := (HS26.out.trans HS8.out).setNew (Nat.le_refl w2.heap.size) 5 (.iface T8 p8)
  have hn : New w.heap.size gm vi8 vf8 (w8.setCell ⟨w2.heap.size, 5, none⟩ (.iface T8 p8)) w2.heap.size := ⟨hw2, HSG8.out.set _ _⟩
  have hx7 : w2.heap.size < w7.heap.size := HSG6.out.1
  have hps := HR6.out.mono fun a x h => sees_drop a x (sees_set 5 (.iface T8 p8) a x (sees_butS HS8.out a x h))
  have hbd := HD8.out.mono fun a x h => sees_drop a x (sees_set 5 (.iface T8 p8) a x (sees_but2 hx7 (Nat.le_trans hw2 (Nat.le_of_lt hx7)) a x h))
  exact ⟨_, vi8, vf8, rfl, (HM8.out.setNew HSG8.out HMq.out.bel.size 5 _).more (by omega), HSq.out.trans hall, .other 155 _ [(4, .row 0), (5, .node)] _ rfl (.row _ 4 0 _ _ _ _ _ _ (sees_at HG8.out hn 4 _ rfl) hps rfl (.node _ 5 _ _ _ _ (sees_at HG8.out hn 5 _ rfl) hbd (.nil _)))⟩
 | listOf t ts hk h0 hK =>
  obtain rfl : xk = 19 := hk
  obtain rfl : xn3 = ts.length + 1 := hK.len
  obtain ⟨g3, o3, _, h3, _, _⟩ := hK.at 0 (by simp)
  obtain rfl : xa3 = some ⟨g3, o3, none⟩ := h3
  obtain rfl : z = 1 + (t.size + sizes ts) := by have := HZt.out; simp only [Tr.size, sizes, sizes_append, idt, Nat.add_zero] at this ⊢; omega
  have hE := HE.out
  have hSh := HSh.out
  obtain ⟨g0, o0, cs1, hga, ⟨_, he1⟩, z, rfl, _, hz, hz21⟩ := hK.at 1 (by simp only [List.length_cons]; omega)
  cases hga
  obtain ⟨_, _, cs0, hga, ⟨_, he0⟩, y, rfl, hy0, _, _⟩ := hK.at 0 (by simp)
  cases hga
  have hy := hy0 (by decide)
  have hys := hSh y _ hy
  obtain ⟨yk, yo, yt, yfk, yfn, yfm, yfb, yft, yfs, ygs, yhs⟩ := y
  obtain ⟨⟨ya1, yn1, ym1, rfl⟩, ⟨ya2, yn2, ym2, rfl⟩, ⟨ya3, yn3, ym3, rfl⟩, ⟨ya4, yn4, ym4, rfl⟩⟩ := hys
  have hzs := (hz (Nat.le_refl 1)).1
  have hk21 := hz21 rfl
  obtain ⟨zk, zo, zt, zfk, zfn, zfm, zfb, zft, zfs, zgs, zhs⟩ := z
  obtain ⟨⟨za1, zn1, zm1, rfl⟩, ⟨za2, zn2, zm2, rfl⟩, ⟨za3, zn3, zm3, rfl⟩, ⟨za4, zn4, zm4, rfl⟩⟩ := hzs
  have hcap : ts.length + 1 ≤ xm3 ∧ xm3 ≤ 9223372036854775807 := by
   obtain ⟨_, _, hv, h1, h2, _⟩ := hK
   cases hv
   unfold maxLen at h2
   exact ⟨h1, by omega⟩
  obtain ⟨hcap1, hcap2⟩ := hcap
  have hn2 : 2 ≤ ts.length + 1 := by omega
  have HKr := Lib.hid (comp_tail (m := 1) (us := [t]) rfl hK (by omega))
  have HE := Lib.hid hE
  have HSh := Lib.hid hSh
  have HE0 : Hid (∀ j, j < 11 → W.cell? ⟨g3, o3 + 0 * 11 + j, none⟩ = (EV.cells _)[j]?) := Lib.hid he0
  have HY : Hid (X _ t) := Lib.hid hy
  clear hK hz hz21 he0 he1 hy hy0 hE hSh hk21
  have HSP : Hid (Safe gm vi vf (wp.alloc (.cells #[.pointer (some ⟨gm, 0, none⟩), .int .i32 l0, .int .i32 1] 60)) wp.heap.size) := Lib.hid (HM2.out.safe_new hbpS (lt1 _ _))
  have qx0 : (wp.alloc (.cells #[.pointer (some ⟨gm, 0, none⟩), .int .i32 l0, .int .i32 1] 60)).cell? ⟨wp.heap.size, 0, none⟩ = some (.pointer (some ⟨gm, 0, none⟩)) := by simp [go_sem]
  have qx1 : (wp.alloc (.cells #[.pointer (some ⟨gm, 0, none⟩), .int .i32 l0, .int .i32 1] 60)).cell? ⟨wp.heap.size, 1, none⟩ = some (.int .i32 l0) := by simp [go_sem]
  have qx2 : (wp.alloc (.cells #[.pointer (some ⟨gm, 0, none⟩), .int .i32 l0, .int .i32 1] 60)).cell? ⟨wp.heap.size, 2, none⟩ = some (.int .i32 1) := by simp [go_sem]
  obtain ⟨y0, y1, y2, y3, y4, y5, y6, y7, y8, y9, y10⟩ := ev_cells0 HMq.out.bel HE0.out
  dsimp only at y0 y1 y2 y3 y4 y5 y6 y7 y8 y9 y10
  have HN2 : Hid (N + t.size ≤ 1000000) := Lib.hid (by have := HN.out; omega)
  go_wp2_with fail
  go_region_held3 (fun w' => w'.cell? ⟨wp.heap.size, 0, none⟩ = some (.pointer (some ⟨gm, 0, none⟩)) ∧ w'.cell? ⟨wp.heap.size, 1, none⟩ = some (.int .i32 l0) ∧ w'.cell? ⟨wp.heap.size, 2, none⟩ = some (.int .i32 1) ∧ w'.cell? ⟨w.heap.size, 9, none⟩ = some (.slice (some ⟨g3, o3, none⟩) (ts.length + 1) xm3) ∧ w'.cell? ⟨g3, o3, none⟩ = some (.int .i64 yk) ∧ w'.cell? ⟨g3, o3 + 1, none⟩ = some (.int .i64 yo) ∧ w'.cell? ⟨g3, o3 + 2, none⟩ = some (.string yt) ∧ w'.cell? ⟨g3, o3 + 3, none⟩ = some (.int .i64 yfk) ∧ w'.cell? ⟨g3, o3 + 4, none⟩ = some (.bool yfn) ∧ w'.cell? ⟨g3, o3 + 5, none⟩ = some (.slice ya1 yn1 ym1) ∧ w'.cell? ⟨g3, o3 + 6, none⟩ = some (.int .u64 yfb) ∧ w'.cell? ⟨g3, o3 + 7, none⟩ = some (.string yft) ∧ w'.cell? ⟨g3, o3 + 8, none⟩ = some (.slice ya2 yn2 ym2) ∧ w'.cell? ⟨g3, o3 + 9, none⟩ = some (.slice ya3 yn3 ym3) ∧ w'.cell? ⟨g3, o3 + 10, none⟩ = some (.slice ya4 yn4 ym4)) (first | (refine ⟨?_, ?_, ?_, ?_, ?_, ?_, ?_, ?_, ?_, ?_, ?_, ?_, ?_, ?_, ?_⟩ <;> assumption) | go_keep) ((go_at_call 43; refine (HE.out _ t (N) vi vf _ HY.out (by first | exact HMq.out | exact HMq.out.after (Below.drewed (Below.refl _ _))) HN2.out).mono ?_; rintro e w2 ⟨v2, vi2, vf2, rfl, hM2, hS2, hd2⟩; obtain ⟨T2, p2, rfl⟩ := hd2.iface; have hS2' : Stp gm vi vf (wp.alloc (.cells #[.pointer (some ⟨gm, 0, none⟩), .int .i32 l0, .int .i32 1] 60)) vi2 vf2 w2 := ⟨fun k hk => hS2.keep k hk, hS2.size⟩; have hd2' : Nd (Sees w2 (New ((wp.alloc (.cells #[.pointer (some ⟨gm, 0, none⟩), .int .i32 l0, .int .i32 1] 60))).heap.size gm vi2 vf2 w2)) (.iface T2 p2) t := hd2; have z0 := (hS2'.cell (a := ⟨wp.heap.size, 0, none⟩) HSP.out).trans qx0; have z1 := (hS2'.cell (a := ⟨wp.heap.size, 1, none⟩) HSP.out).trans qx1; have z2 := (hS2'.cell (a := ⟨wp.heap.size, 2, none⟩) HSP.out).trans qx2; have z9 := (hS2'.cell (a := ⟨w.heap.size, 9, none⟩) HSbq.out).trans bx9; obtain ⟨r0, r1, r2, r3, r4, r5, r6, r7, r8, r9, r10⟩ := ev_cells0 hM2.bel HE0.out; dsimp only at r0 r1 r2 r3 r4 r5 r6 r7 r8 r9 r10; have HM2 := Lib.hid hM2; have HS2 := Lib.hid hS2'; have HD2 := Lib.hid hd2'; clear hM2 hS2 hd2 hS2' hd2'))
  have z9x : (w2.alloc (.cells #[.pointer none, .bool false, .pointer (some ⟨gm, 0, none⟩), .int .i32 l0, .int .i32 1, .iface T2 p2, .slice none 0 0, .pointer (some ⟨gm, 0, none⟩), .int .i32 l0, .int .i32 1] 130)).cell? ⟨w.heap.size, 9, none⟩ = some (.slice (some ⟨g3, o3, none⟩) (ts.length + 1) xm3) := cell_al _ z9
  clear y0 y1 y2 y3 y4 y5 y6 y7 y8 y9 y10 z0 z1 z2 z9 r0 r1 r2 r3 r4 r5 r6 r7 r8 r9 r10 qx0 qx1 qx2
  have HMx : Hid (Mk W gm nm vi2 vf2 (N + t.size) (w2.alloc (.cells #[.pointer none, .bool false, .pointer (some ⟨gm, 0, none⟩), .int .i32 l0, .int .i32 1, .iface T2 p2, .slice none 0 0, .pointer (some ⟨gm, 0, none⟩), .int .i32 l0, .int .i32 1] 130))) := Lib.hid (HM2.out.after bA)
  have HSG : Hid (Safe gm vi2 vf2 (w2.alloc (.cells #[.pointer none, .bool false, .pointer (some ⟨gm, 0, none⟩), .int .i32 l0, .int .i32 1, .iface T2 p2, .slice none 0 0, .pointer (some ⟨gm, 0, none⟩), .int .i32 l0, .int .i32 1] 130)) w2.heap.size) := Lib.hid (HM2.out.safe_new (Nat.le_refl _) (lt1 _ _))
  go_wp2_with fail
  refine (f48_any W gm nm X HE.out HSh.out _ ts (N + t.size) vi2 vf2 _ HKr.out HMx.out (by have := HN.out; omega)).mono ?_
  rintro e w6 ⟨v6, vi6, vf6, rfl, hM6, hS6, hR6⟩
  obtain ⟨a6, n6, c6, rfl, rfl, e2, e3, e4⟩ := hR6
  have hk6 := hS6.keep _ HSG.out
  have hg6 := hk6.2.trans (heap_alloc_new w2 _)
  have hgc := obj_cell hg6 6 _ rfl
  have hgf := obj_free hg6
  have HG6 := Lib.hid hg6
  have HSG6 := Lib.hid hk6.1
  have HM6 := Lib.hid hM6
  have HS6 := Lib.hid hS6
  have HR6 := Lib.hid e4
  clear hM6 hS6 e4 hk6 hg6
  go_wp2
  go_ret
  have hX : (wp.alloc (.cells #[.pointer (some ⟨gm, 0, none⟩), .int .i32 l0, .int .i32 1] 60)).heap.size ≤ w2.heap.size := HS2.out.size
  have hall := (Stp.of_below (gm := gm) (vi := vi2) (vf := vf2) (w := w2) bA).trans HS6.out
  have hn : New (wp.alloc (.cells #[.pointer (some ⟨gm, 0, none⟩), .int .i32 l0, .int .i32 1] 60)).heap.size gm vi6 vf6 (w6.setCell ⟨w2.heap.size, 6, none⟩ (.slice a6 ts.length c6)) w2.heap.size := ⟨hX, HSG6.out.set _ _⟩
  refine ⟨_, vi6, vf6, rfl, (HM6.out.setNew HSG6.out HM2.out.bel.size 6 _).more (by omega), HSq.out.trans ((HS2.out.trans hall).setNew hX 6 _), Nd.step (b := (wp.alloc (.cells #[.pointer (some ⟨gm, 0, none⟩), .int .i32 l0, .int .i32 1] 60)).heap.size) (.other 128 _ [(5, .node), (6, .row 0)] _ rfl (.node _ 5 _ _ _ _ (sees_at (obj_set HG6.out 6 _) hn 5 _ rfl) (HD2.out.mono fun a x h => sees_drop a x (sees_set 6 _ a x (sees_but1 hall (Nat.le_refl _) a x h))) (.row _ 6 0 _ _ _ _ _ _ (sees_at (obj_set HG6.out 6 _) hn 6 _ rfl) (HR6.out.mono fun a x h => sees_drop a x (sees_set 6 _ a x (sees_but2 (lt1 _ _) (Nat.le_trans hX (Nat.le_of_lt (lt1 _ _))) a x h))) rfl (.nil _)))) (Stp.refl ..) HSq.out.size⟩
 | dictOf t t' ts hk h0 hK =>
  obtain rfl : xk = 20 := hk
  obtain rfl : xn3 = ts.length + 1 + 1 := hK.len
  obtain ⟨g3, o3, _, h3, _, _⟩ := hK.at 0 (by simp)
  obtain rfl : xa3 = some ⟨g3, o3, none⟩ := h3
  obtain rfl : z = 1 + (1 + (t.size + (t'.size + 0)) + sizes ts) := by have := HZt.out; simp only [Tr.size, sizes, sizes_append, idt, Nat.add_zero] at this ⊢; omega
  have hE := HE.out
  have hSh := HSh.out
  obtain ⟨g0, o0, cs1, hga, ⟨_, he2⟩, z, rfl, _, hz, hz21⟩ := hK.at 2 (by simp only [List.length_cons]; omega)
  cases hga
  obtain ⟨_, _, cs0, hga, ⟨_, he0⟩, y, rfl, hy0, _, _⟩ := hK.at 0 (by simp)
  cases hga
  obtain ⟨_, _, cs1, hga, ⟨_, he1⟩, u, rfl, hu0, _, _⟩ := hK.at 1 (by simp)
  cases hga
  have hy := hy0 (by decide)
  have hu := hu0 (by decide)
  have hys := hSh y _ hy
  have hus := hSh u _ hu
  obtain ⟨yk, yo, yt, yfk, yfn, yfm, yfb, yft, yfs, ygs, yhs⟩ := y
  obtain ⟨⟨ya1, yn1, ym1, rfl⟩, ⟨ya2, yn2, ym2, rfl⟩, ⟨ya3, yn3, ym3, rfl⟩, ⟨ya4, yn4, ym4, rfl⟩⟩ := hys
  obtain ⟨uk, uo, ut, ufk, ufn, ufm, ufb, uft, ufs, ugs, uhs⟩ := u
  obtain ⟨⟨ua1, un1, um1, rfl⟩, ⟨ua2, un2, um2, rfl⟩, ⟨ua3, un3, um3, rfl⟩, ⟨ua4, un4, um4, rfl⟩⟩ := hus
  have hzs := (hz (Nat.le_refl 2)).1
  have hk21 := hz21 rfl
  obtain ⟨zk, zo, zt, zfk, zfn, zfm, zfb, zft, zfs, zgs, zhs⟩ := z
  obtain ⟨⟨za1, zn1, zm1, rfl⟩, ⟨za2, zn2, zm2, rfl⟩, ⟨za3, zn3, zm3, rfl⟩, ⟨za4, zn4, zm4, rfl⟩⟩ := hzs
  have hcap : ts.length + 1 + 1 ≤ xm3 ∧ xm3 ≤ 9223372036854775807 := by
   obtain ⟨_, _, hv, h1, h2, _⟩ := hK
   cases hv
   unfold maxLen at h2
   exact ⟨h1, by omega⟩
  obtain ⟨hcap1, hcap2⟩ := hcap
  have hn2 : 3 ≤ ts.length + 1 + 1 := by omega
  have hi0 : (0 : Int) < (ts.length : Int) + 1 + 1 := by omega
  have hi1 : (1 : Int) < (ts.length : Int) + 1 + 1 := by omega
  have hi2 : (2 : Int) ≤ (ts.length : Int) + 1 + 1 := by omega
  have HKr := Lib.hid (comp_tail (m := 2) (us := [t, t']) rfl hK (by omega))
  have HE := Lib.hid hE
  have HSh := Lib.hid hSh
  have HE0 : Hid (∀ j, j < 11 → W.cell? ⟨g3, o3 + 0 * 11 + j, none⟩ = (EV.cells _)[j]?) := Lib.hid he0
  have HE1 : Hid (∀ j, j < 11 → W.cell? ⟨g3, o3 + 1 * 11 + j, none⟩ = (EV.cells _)[j]?) := Lib.hid he1
  have HY : Hid (X _ t) := Lib.hid hy
  have HU : Hid (X _ t') := Lib.hid hu
  clear hK hz hz21 he0 he1 he2 hy hy0 hu hu0 hE hSh hk21
  have HSP : Hid (Safe gm vi vf (wp.alloc (.cells #[.pointer (some ⟨gm, 0, none⟩), .int .i32 l0, .int .i32 1] 60)) wp.heap.size) := Lib.hid (HM2.out.safe_new hbpS (lt1 _ _))
  have qx0 : (wp.alloc (.cells #[.pointer (some ⟨gm, 0, none⟩), .int .i32 l0, .int .i32 1] 60)).cell? ⟨wp.heap.size, 0, none⟩ = some (.pointer (some ⟨gm, 0, none⟩)) := by simp [go_sem]
  have qx1 : (wp.alloc (.cells #[.pointer (some ⟨gm, 0, none⟩), .int .i32 l0, .int .i32 1] 60)).cell? ⟨wp.heap.size, 1, none⟩ = some (.int .i32 l0) := by simp [go_sem]
  have qx2 : (wp.alloc (.cells #[.pointer (some ⟨gm, 0, none⟩), .int .i32 l0, .int .i32 1] 60)).cell? ⟨wp.heap.size, 2, none⟩ = some (.int .i32 1) := by simp [go_sem]
  obtain ⟨y0, y1, y2, y3, y4, y5, y6, y7, y8, y9, y10⟩ := ev_cells0 HMq.out.bel HE0.out
  dsimp only at y0 y1 y2 y3 y4 y5 y6 y7 y8 y9 y10
  obtain ⟨v0, v1, v2, v3, v4, v5, v6, v7, v8, v9, v10⟩ := ev_cells1 HMq.out.bel HE1.out
  dsimp only at v0 v1 v2 v3 v4 v5 v6 v7 v8 v9 v10
  have HN2 : Hid (N + (1 + (t.size + (t'.size + 0))) ≤ 1000000) := Lib.hid (by have := HN.out; omega)
  go_wp2_with fail
  go_region_held3 (fun w' => w'.cell? ⟨wp.heap.size, 0, none⟩ = some (.pointer (some ⟨gm, 0, none⟩)) ∧ w'.cell? ⟨wp.heap.size, 1, none⟩ = some (.int .i32 l0) ∧ w'.cell? ⟨wp.heap.size, 2, none⟩ = some (.int .i32 1) ∧ w'.cell? ⟨w.heap.size, 9, none⟩ = some (.slice (some ⟨g3, o3, none⟩) (ts.length + 1 + 1) xm3) ∧ w'.cell? ⟨g3, o3, none⟩ = some (.int .i64 yk) ∧ w'.cell? ⟨g3, o3 + 1, none⟩ = some (.int .i64 yo) ∧ w'.cell? ⟨g3, o3 + 2, none⟩ = some (.string yt) ∧ w'.cell? ⟨g3, o3 + 3, none⟩ = some (.int .i64 yfk) ∧ w'.cell? ⟨g3, o3 + 4, none⟩ = some (.bool yfn) ∧ w'.cell? ⟨g3, o3 + 5, none⟩ = some (.slice ya1 yn1 ym1) ∧ w'.cell? ⟨g3, o3 + 6, none⟩ = some (.int .u64 yfb) ∧ w'.cell? ⟨g3, o3 + 7, none⟩ = some (.string yft) ∧ w'.cell? ⟨g3, o3 + 8, none⟩ = some (.slice ya2 yn2 ym2) ∧ w'.cell? ⟨g3, o3 + 9, none⟩ = some (.slice ya3 yn3 ym3) ∧ w'.cell? ⟨g3, o3 + 10, none⟩ = some (.slice ya4 yn4 ym4) ∧ w'.cell? ⟨g3, o3 + 11, none⟩ = some (.int .i64 uk) ∧ w'.cell? ⟨g3, o3 + 11 + 1, none⟩ = some (.int .i64 uo) ∧ w'.cell? ⟨g3, o3 + 11 + 2, none⟩ = some (.string ut) ∧ w'.cell? ⟨g3, o3 + 11 + 3, none⟩ = some (.int .i64 ufk) ∧ w'.cell? ⟨g3, o3 + 11 + 4, none⟩ = some (.bool ufn) ∧ w'.cell? ⟨g3, o3 + 11 + 5, none⟩ = some (.slice ua1 un1 um1) ∧ w'.cell? ⟨g3, o3 + 11 + 6, none⟩ = some (.int .u64 ufb) ∧ w'.cell? ⟨g3, o3 + 11 + 7, none⟩ = some (.string uft) ∧ w'.cell? ⟨g3, o3 + 11 + 8, none⟩ = some (.slice ua2 un2 um2) ∧ w'.cell? ⟨g3, o3 + 11 + 9, none⟩ = some (.slice ua3 un3 um3) ∧ w'.cell? ⟨g3, o3 + 11 + 10, none⟩ = some (.slice ua4 un4 um4)) (first | (refine ⟨?_, ?_, ?_, ?_, ?_, ?_, ?_, ?_, ?_, ?_, ?_, ?_, ?_, ?_, ?_, ?_, ?_, ?_, ?_, ?_, ?_, ?_, ?_, ?_, ?_, ?_⟩ <;> assumption) | go_keep) ((go_at_call 49; refine (f49_any W gm nm X HE.out HSh.out _ _ t t' HY.out HU.out N vi vf _ (by first | exact HMq.out | exact HMq.out.after (Below.drewed (Below.refl _ _))) HN2.out).mono ?_; rintro e w2 ⟨v2, vi2, vf2, rfl, hM2, hS2, g2, rfl, hd2⟩; have hS2' : Stp gm vi vf (wp.alloc (.cells #[.pointer (some ⟨gm, 0, none⟩), .int .i32 l0, .int .i32 1] 60)) vi2 vf2 w2 := ⟨fun k hk => hS2.keep k hk, hS2.size⟩; have hd2' : Nd (Sees w2 (New (wp.alloc (.cells #[.pointer (some ⟨gm, 0, none⟩), .int .i32 l0, .int .i32 1] 60)).heap.size gm vi2 vf2 w2)) (.iface 122 (.pointer (some ⟨g2, 0, none⟩))) (.mk none [t, t']) := hd2; have z0 := (hS2'.cell (a := ⟨wp.heap.size, 0, none⟩) HSP.out).trans qx0; have z1 := (hS2'.cell (a := ⟨wp.heap.size, 1, none⟩) HSP.out).trans qx1; have z2 := (hS2'.cell (a := ⟨wp.heap.size, 2, none⟩) HSP.out).trans qx2; have z9 := (hS2'.cell (a := ⟨w.heap.size, 9, none⟩) HSbq.out).trans bx9; obtain ⟨r0, r1, r2, r3, r4, r5, r6, r7, r8, r9, r10⟩ := ev_cells0 hM2.bel HE0.out; dsimp only at r0 r1 r2 r3 r4 r5 r6 r7 r8 r9 r10; obtain ⟨s0, s1, s2, s3, s4, s5, s6, s7, s8, s9, s10⟩ := ev_cells1 hM2.bel HE1.out; dsimp only at s0 s1 s2 s3 s4 s5 s6 s7 s8 s9 s10; have HM2 := Lib.hid hM2; have HS2 := Lib.hid hS2'; have HD2 := Lib.hid hd2'; clear hM2 hS2 hd2 hS2' hd2'))
  have z9x : (w2.alloc (.cells #[.pointer none, .bool true, .pointer (some ⟨gm, 0, none⟩), .int .i32 l0, .int .i32 1, .iface 122 (.pointer (some ⟨g2, 0, none⟩)), .slice none 0 0, .pointer (some ⟨gm, 0, none⟩), .int .i32 l0, .int .i32 1] 130)).cell? ⟨w.heap.size, 9, none⟩ = some (.slice (some ⟨g3, o3, none⟩) (ts.length + 1 + 1) xm3) := cell_al _ z9
  clear y0 y1 y2 y3 y4 y5 y6 y7 y8 y9 y10 z0 z1 z2 z9 r0 r1 r2 r3 r4 r5 r6 r7 r8 r9 r10 s0 s1 s2 s3 s4 s5 s6 s7 s8 s9 s10 v0 v1 v2 v3 v4 v5 v6 v7 v8 v9 v10 qx0 qx1 qx2
  have HMx : Hid (Mk W gm nm vi2 vf2 (N + (1 + (t.size + (t'.size + 0)))) (w2.alloc (.cells #[.pointer none, .bool true, .pointer (some ⟨gm, 0, none⟩), .int .i32 l0, .int .i32 1, .iface 122 (.pointer (some ⟨g2, 0, none⟩)), .slice none 0 0, .pointer (some ⟨gm, 0, none⟩), .int .i32 l0, .int .i32 1] 130))) := Lib.hid (HM2.out.after bA)
  have HSG : Hid (Safe gm vi2 vf2 (w2.alloc (.cells #[.pointer none, .bool true, .pointer (some ⟨gm, 0, none⟩), .int .i32 l0, .int .i32 1, .iface 122 (.pointer (some ⟨g2, 0, none⟩)), .slice none 0 0, .pointer (some ⟨gm, 0, none⟩), .int .i32 l0, .int .i32 1] 130)) w2.heap.size) := Lib.hid (HM2.out.safe_new (Nat.le_refl _) (lt1 _ _))
  go_wp2_with fail
  refine (f48_any W gm nm X HE.out HSh.out _ ts (N + (1 + (t.size + (t'.size + 0)))) vi2 vf2 _ HKr.out HMx.out (by have := HN.out; omega)).mono ?_
  rintro e w6 ⟨v6, vi6, vf6, rfl, hM6, hS6, hR6⟩
  obtain ⟨a6, n6, c6, rfl, rfl, e2, e3, e4⟩ := hR6
  have hk6 := hS6.keep _ HSG.out
  have hg6 := hk6.2.trans (heap_alloc_new w2 _)
  have hgc := obj_cell hg6 6 _ rfl
  have hgf := obj_free hg6
  have HG6 := Lib.hid hg6
  have HSG6 := Lib.hid hk6.1
  have HM6 := Lib.hid hM6
  have HS6 := Lib.hid hS6
  have HR6 := Lib.hid e4
  clear hM6 hS6 e4 hk6 hg6
  go_wp2
  go_ret
  have hX : (wp.alloc (.cells #[.pointer (some ⟨gm, 0, none⟩), .int .i32 l0, .int .i32 1] 60)).heap.size ≤ w2.heap.size := HS2.out.size
  have hall := (Stp.of_below (gm := gm) (vi := vi2) (vf := vf2) (w := w2) bA).trans HS6.out
  have hn : New (wp.alloc (.cells #[.pointer (some ⟨gm, 0, none⟩), .int .i32 l0, .int .i32 1] 60)).heap.size gm vi6 vf6 (w6.setCell ⟨w2.heap.size, 6, none⟩ (.slice a6 ts.length c6)) w2.heap.size := ⟨hX, HSG6.out.set _ _⟩
  refine ⟨_, vi6, vf6, rfl, (HM6.out.setNew HSG6.out HM2.out.bel.size 6 _).more (by omega), HSq.out.trans ((HS2.out.trans hall).setNew hX 6 _), Nd.step (b := (wp.alloc (.cells #[.pointer (some ⟨gm, 0, none⟩), .int .i32 l0, .int .i32 1] 60)).heap.size) (.other 128 _ [(5, .node), (6, .row 0)] _ rfl (.node _ 5 _ _ _ _ (sees_at (obj_set HG6.out 6 _) hn 5 _ rfl) (HD2.out.mono fun a x h => sees_drop a x (sees_set 6 _ a x (sees_but1 hall (Nat.le_refl _) a x h))) (.row _ 6 0 _ _ _ _ _ _ (sees_at (obj_set HG6.out 6 _) hn 6 _ rfl) (HR6.out.mono fun a x h => sees_drop a x (sees_set 6 _ a x (sees_but2 (lt1 _ _) (Nat.le_trans hX (Nat.le_of_lt (lt1 _ _))) a x h))) rfl (.nil _)))) (Stp.refl ..) HSq.out.size⟩
 | plain ts hp hr =>
  exact HPL.out.elim fun h _ => absurd hp (h ts)
 | dot t hk hr => exact absurd hk (HPL.out.2)
end Go.Proofs.YtabeokminikfdaaGreat
namespace Go.Proofs.YtabeokminikfdaaGreat
open Go.RowKit
theorem GE.sh {W : World} : ∀ {d : Nat} (e : EV) (t : Tr), GE W d e t → EvSh e
 | 0, _, _, h => h.elim
 | _ + 1, _, _, h => h.2
theorem make_expr (W : World) (gm : Nat) (nm : ByteArray) : ∀ d, MakeE W gm nm (GE W d)
 | 0 => fun _ _ _ _ _ _ h _ _ => h.elim
 | d + 1 => by
  intro e t N vi vf w hx hM hN
  have hE := make_expr W gm nm d
  obtain ⟨hx, hsh⟩ := hx
  obtain ⟨xk, xo, xt, xfk, xfn, xfm, xfb, xft, xfs, xgs, xhs⟩ := e
  obtain ⟨⟨xa1, xn1, xm1, rfl⟩, ⟨xa2, xn2, xm2, rfl⟩, ⟨xa3, xn3, xm3, rfl⟩, ⟨xa4, xn4, xm4, rfl⟩⟩ := hsh
  have go : (xk = 1 ∨ xk = 2 ∨ xk = 5 ∨ xk = 12 ∨ xk = 14 ∨ xk = 18 ∨ xk = 19 ∨ xk = 20) → Calls Tryz.prog 43 #[.pointer (some ⟨gm, 0, none⟩), EV.val ⟨xk, xo, xt, xfk, xfn, .slice xa1 xn1 xm1, xfb, xft, .slice xa2 xn2 xm2, .slice xa3 xn3 xm3, .slice xa4 xn4 xm4⟩] w (Made W gm nm (N + t.size) vi vf w fun R v => Nd R v t) := fun hk =>
   f43_go W gm nm _ hE GE.sh xk xo xt xfk xfn xfb xft xa1 xa2 xa3 xa4 xn1 xn2 xn3 xn4 xm1 xm2 xm3 xm4 t.size t rfl hx ⟨fun ts h => by unfold Plain at h; omega, by omega⟩ N vi vf w hM hN
  cases hx with
  | plain ts hp hr => exact f43_pl W gm nm _ hE GE.sh xk xo xt xfk xfn xfb xft xa1 xa2 xa3 xa4 xn1 xn2 xn3 xn4 xm1 xm2 xm3 xm4 ts _ (.inl ⟨hp, rfl⟩) hr N vi vf w hM hN
  | dot t hk hr => exact f43_pl W gm nm _ hE GE.sh xk xo xt xfk xfn xfb xft xa1 xa2 xa3 xa4 xn1 xn2 xn3 xn4 xm1 xm2 xm3 xm4 [t] _ (.inr ⟨hk, t, rfl, rfl⟩) hr N vi vf w hM hN
  | name hk hr => exact go (.inl hk)
  | lit hk hr hl => exact go (.inr (.inl hk))
  | dict ts hk hev hr => exact go (.inr (.inr (.inl hk)))
  | slice t a b c hk hr => exact go (.inr (.inr (.inr (.inl hk))))
  | call t ts hk hr => exact go (.inr (.inr (.inr (.inr (.inl hk)))))
  | lambda ps t hk hP hr => exact go (.inr (.inr (.inr (.inr (.inr (.inl hk))))))
  | listOf t ts hk h0 hr => exact go (.inr (.inr (.inr (.inr (.inr (.inr (.inl hk)))))))
  | dictOf a b ts hk h0 hr => exact go (.inr (.inr (.inr (.inr (.inr (.inr (.inr hk)))))))
end Go.Proofs.YtabeokminikfdaaGreat
