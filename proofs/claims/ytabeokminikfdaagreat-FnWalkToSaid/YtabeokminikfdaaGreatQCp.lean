import Derived.Test.YtabeokminikfdaaGreatQCm
import Derived.Deep.DeepCutAuto
import Derived.Test.YtabeokminikfdaaGreatQCh
import Derived.Test.YtabeokminikfdaaGreatQCo
import Derived.Test.YtabeokminikfdaaGreatQA1
set_option linter.all false
set_option maxRecDepth 100000
set_option maxHeartbeats 32000000
namespace Go.Proofs.YtabeokminikfdaaGreat
open Go.RowKit
def CutC (W : World) (X : EV → Tr → Prop) (ts : List Tr) (w0 : World) (s24 s25 s26 : Value) (wx : World) : Prop := wx = w0 ∧ ∃ ta tc, s24 = .slice ta ts.length tc ∧ s25 = .int .i64 ts.length ∧ s26 = .int .i64 0 ∧ RowOf W 11 (fun _ cs t => ∃ k : EV, cs = k.cells ∧ AX W X k t) (.slice ta ts.length tc) ts
theorem tail_c {W : World} {X : EV → Tr → Prop} {g o n m : Nat} {t : Tr} {ts : List Tr} (h : RowOf W 11 (CallQ W X) (.slice (some ⟨g, o, none⟩) n m) (t :: ts)) (hm : 1 < m) : RowOf W 11 (fun _ cs t => ∃ k : EV, cs = k.cells ∧ AX W X k t) (.slice (some ⟨g, o + 11, none⟩) ts.length (m - 1)) ts := by
 obtain ⟨_, _, hv, h1, h2, h3⟩ := h
 cases hv
 simp only [List.length_cons] at h1 h3
 refine ⟨_, _, rfl, by omega, by unfold maxLen at *; omega, fun h0 => ⟨g, o + 11, rfl, fun i hi => ?_⟩⟩
 obtain ⟨g', o', ha, hel⟩ := h3 (by omega)
 cases ha
 obtain ⟨cs, ⟨hs, hc⟩, k, hk, _, ha⟩ := hel (i + 1) (by omega)
 exact ⟨cs, ⟨hs, fun j hj => by rw [← hc j hj]; congr 2; omega⟩, k, hk, by simpa using ha (by omega)⟩
theorem tail_0 {W : World} {X : EV → Tr → Prop} {a : Option Addr} {n : Nat} {t : Tr} {ts : List Tr} (h : RowOf W 11 (CallQ W X) (.slice a n 1) (t :: ts)) : ts = [] := by
 obtain ⟨_, _, hv, h1, _, _⟩ := h
 cases hv
 exact List.eq_nil_of_length_eq_zero (by simpa using h1)
theorem row_0 {W : World} {X : EV → Tr → Prop} (a : Option Addr) : RowOf W 11 (fun _ cs t => ∃ k : EV, cs = k.cells ∧ AX W X k t) (.slice a 0 0) [] := ⟨_, _, rfl, Nat.le_refl _, by decide, fun h => absurd h (Nat.lt_irrefl 0)⟩
theorem named (C : World → Prop) : ∃ P : World → Prop, (∀ w, P w → C w) ∧ ∀ w, C w → P w := ⟨C, fun _ h => h, fun _ h => h⟩
theorem block_ne {Y : World} {v v' : Value} {g : Nat} (h : BlockOf Y v v') (hv : v.ownBlock ≠ some g) (hg : g < Y.heap.size) : v'.ownBlock ≠ some g := fun e => by
 rcases h with h | ⟨g', h, hs⟩
 ·exact hv (h ▸ e)
 ·rw [h] at e
  cases e
  omega
theorem grown_obj {X w6 w4 : World} {SL o : Obj} {g : Nat} {r : Option Nat} (hg4 : (w6.alloc SL).grownBy w4 r) (hr : r ≠ some g) (hlt : g < w6.heap.size) (hs : w6.heap[g]? = X.heap[g]?) (h : X.heap[g]? = some o) : w4.heap[g]? = some o :=
 (hg4.block g (Nat.lt_trans hlt (lt1 _ _)) (fun e => hr e.symm)).trans ((Below.heap_alloc w6 SL g hlt).trans (hs.trans h))
theorem f47_any (W : World) (gm : Nat) (nm : ByteArray) (X : EV → Tr → Prop) (hE : MakeE W gm nm X) (hSh : ∀ e t, X e t → EvSh e) (xo : Int) (xt : ByteArray) (xfk : Int) (xfn : Bool) (xfb : Nat) (xft : ByteArray) (xa1 xa2 xa3 xa4 : Option Addr) (xn1 xn2 xn3 xn4 xm1 xm2 xm3 xm4 : Nat) (t : Tr) (ts : List Tr) (N : Nat) (vi vf : Value) (w : World)
  (hK : RowOf W 11 (CallQ W X) (.slice xa3 xn3 xm3) (t :: ts)) (hM : Mk W gm nm vi vf N w) (hN : N + (1 + (t.size + sizes ts)) ≤ 1000000) :
  Calls Tryz.prog 47 #[.pointer (some ⟨gm, 0, none⟩), .agg #[.int .i64 14, .int .i64 xo, .string xt, .int .i64 xfk, .bool xfn, .slice xa1 xn1 xm1, .int .u64 xfb, .string xft, .slice xa2 xn2 xm2, .slice xa3 xn3 xm3, .slice xa4 xn4 xm4]] w (Made W gm nm (N + (1 + (t.size + sizes ts))) vi vf w fun R v => Nd R v (.mk none (t :: (ts ++ [])))) := by
 obtain ⟨i0, hi, hz0, hz1, hz2⟩ := info_parts info81
 obtain rfl : xn3 = ts.length + 1 := hK.len
 obtain ⟨g3, o3, cs0, rfl, ⟨_, he0⟩, y, rfl, hy0, -⟩ := hK.at 0 (by simp)
 have hy := hy0 rfl
 have hys := hSh y _ hy
 have hlen : ts.length ≤ 1000000 := by have := length_sizes ts; omega
 have hcap : ts.length + 1 ≤ xm3 ∧ xm3 ≤ 9223372036854775807 := by
  obtain ⟨_, _, hv, h1, h2, _⟩ := hK
  cases hv
  unfold maxLen at h2
  exact ⟨h1, by omega⟩
 obtain ⟨hcap1, hcap2⟩ := hcap
 obtain ⟨yk, yo, yt, yfk, yfn, yfm, yfb, yft, yfs, ygs, yhs⟩ := y
 obtain ⟨⟨ya1, yn1, ym1, rfl⟩, ⟨ya2, yn2, ym2, rfl⟩, ⟨ya3, yn3, ym3, rfl⟩, ⟨ya4, yn4, ym4, rfl⟩⟩ := hys
 have HE := Lib.hid hE
 have HSh := Lib.hid hSh
 have HK := Lib.hid hK
 have HN := Lib.hid hN
 have HE0 : Hid (∀ j, j < 11 → W.cell? ⟨g3, o3 + 0 * 11 + j, none⟩ = (EV.cells _)[j]?) := Lib.hid he0
 have HY : Hid (X _ t) := Lib.hid hy
 have HM := Lib.hid hM
 clear hE hSh hK hN he0 hy hy0 hM
 go_enter Tryz.func47, Tryz.ntmps47
 go_wp2_with fail
 refine (f33_mk W gm nm vi vf N _ (HM.out.after bA)).mono ?_
 rintro e wp ⟨l0, rfl, hbp⟩
 have HBq : Hid (Below w.heap.size w (wp.alloc (.cells #[.pointer (some ⟨gm, 0, none⟩), .int .i32 l0, .int .i32 1] 60))) := Lib.hid ((bA.trans (hbp.mono (by simp))).alloc (Nat.le_trans (Nat.le_of_lt (lt1 _ _)) hbp.size) _)
 have hwp : w.heap.size < wp.heap.size := Nat.lt_of_lt_of_le (lt1 _ _) hbp.size
 have HMq := Lib.hid (HM.out.after HBq.out)
 have HSP : Hid (Safe gm vi vf (wp.alloc (.cells #[.pointer (some ⟨gm, 0, none⟩), .int .i32 l0, .int .i32 1] 60)) wp.heap.size) := Lib.hid (HM.out.safe_new (Nat.le_of_lt hwp) (lt1 _ _))
 have HSB : Hid (Safe gm vi vf (wp.alloc (.cells #[.pointer (some ⟨gm, 0, none⟩), .int .i32 l0, .int .i32 1] 60)) w.heap.size) := Lib.hid (HM.out.safe_new (Nat.le_refl _) (Nat.lt_trans hwp (lt1 _ _)))
 have bp0 : wp.cell? ⟨w.heap.size, 0, none⟩ = some (.int .i64 14) := (hbp.cell (p := ⟨w.heap.size, 0, none⟩) (lt1 _ _)).trans (by simp [go_sem])
 have bp9 : wp.cell? ⟨w.heap.size, 9, none⟩ = some (.slice (some ⟨g3, o3, none⟩) (ts.length + 1) xm3) := (hbp.cell (p := ⟨w.heap.size, 9, none⟩) (lt1 _ _)).trans (by simp [go_sem])
 have bx9 : (wp.alloc (.cells #[.pointer (some ⟨gm, 0, none⟩), .int .i32 l0, .int .i32 1] 60)).cell? ⟨w.heap.size, 9, none⟩ = some (.slice (some ⟨g3, o3, none⟩) (ts.length + 1) xm3) := cell_al _ bp9
 have qx0 : (wp.alloc (.cells #[.pointer (some ⟨gm, 0, none⟩), .int .i32 l0, .int .i32 1] 60)).cell? ⟨wp.heap.size, 0, none⟩ = some (.pointer (some ⟨gm, 0, none⟩)) := by simp [go_sem]
 have qx1 : (wp.alloc (.cells #[.pointer (some ⟨gm, 0, none⟩), .int .i32 l0, .int .i32 1] 60)).cell? ⟨wp.heap.size, 1, none⟩ = some (.int .i32 l0) := by simp [go_sem]
 have qx2 : (wp.alloc (.cells #[.pointer (some ⟨gm, 0, none⟩), .int .i32 l0, .int .i32 1] 60)).cell? ⟨wp.heap.size, 2, none⟩ = some (.int .i32 1) := by simp [go_sem]
 obtain ⟨y0, y1, y2, y3, y4, y5, y6, y7, y8, y9, y10⟩ := ev_cells0 HMq.out.bel HE0.out
 dsimp only at y0 y1 y2 y3 y4 y5 y6 y7 y8 y9 y10
 have HN2 : Hid (N + t.size ≤ 1000000) := Lib.hid (by have := HN.out; omega)
 clear hbp
 go_wp2_with fail
 go_region_held3 (fun w' => w'.cell? ⟨wp.heap.size, 0, none⟩ = some (.pointer (some ⟨gm, 0, none⟩)) ∧ w'.cell? ⟨wp.heap.size, 1, none⟩ = some (.int .i32 l0) ∧ w'.cell? ⟨wp.heap.size, 2, none⟩ = some (.int .i32 1) ∧ w'.cell? ⟨w.heap.size, 9, none⟩ = some (.slice (some ⟨g3, o3, none⟩) (ts.length + 1) xm3) ∧ w'.cell? ⟨g3, o3, none⟩ = some (.int .i64 yk) ∧ w'.cell? ⟨g3, o3 + 1, none⟩ = some (.int .i64 yo) ∧ w'.cell? ⟨g3, o3 + 2, none⟩ = some (.string yt) ∧ w'.cell? ⟨g3, o3 + 3, none⟩ = some (.int .i64 yfk) ∧ w'.cell? ⟨g3, o3 + 4, none⟩ = some (.bool yfn) ∧ w'.cell? ⟨g3, o3 + 5, none⟩ = some (.slice ya1 yn1 ym1) ∧ w'.cell? ⟨g3, o3 + 6, none⟩ = some (.int .u64 yfb) ∧ w'.cell? ⟨g3, o3 + 7, none⟩ = some (.string yft) ∧ w'.cell? ⟨g3, o3 + 8, none⟩ = some (.slice ya2 yn2 ym2) ∧ w'.cell? ⟨g3, o3 + 9, none⟩ = some (.slice ya3 yn3 ym3) ∧ w'.cell? ⟨g3, o3 + 10, none⟩ = some (.slice ya4 yn4 ym4)) (first | (refine ⟨?_, ?_, ?_, ?_, ?_, ?_, ?_, ?_, ?_, ?_, ?_, ?_, ?_, ?_, ?_⟩ <;> assumption) | go_keep) ((go_at_call 43; refine (HE.out _ t (N) vi vf _ HY.out (by first | exact HMq.out | exact HMq.out.after (Below.drewed (Below.refl _ _))) HN2.out).mono ?_; rintro e w2 ⟨v2, vi2, vf2, rfl, hM2, hS2, hd2⟩; obtain ⟨T2, p2, rfl⟩ := hd2.iface; have hS2' : Stp gm vi vf (wp.alloc (.cells #[.pointer (some ⟨gm, 0, none⟩), .int .i32 l0, .int .i32 1] 60)) vi2 vf2 w2 := ⟨fun k hk => hS2.keep k hk, hS2.size⟩; have hd2' : Nd (Sees w2 (New ((wp.alloc (.cells #[.pointer (some ⟨gm, 0, none⟩), .int .i32 l0, .int .i32 1] 60))).heap.size gm vi2 vf2 w2)) (.iface T2 p2) t := hd2; have z0 := (hS2'.cell (a := ⟨wp.heap.size, 0, none⟩) HSP.out).trans qx0; have z1 := (hS2'.cell (a := ⟨wp.heap.size, 1, none⟩) HSP.out).trans qx1; have z2 := (hS2'.cell (a := ⟨wp.heap.size, 2, none⟩) HSP.out).trans qx2; have z9 := (hS2'.cell (a := ⟨w.heap.size, 9, none⟩) HSB.out).trans bx9; obtain ⟨r0, r1, r2, r3, r4, r5, r6, r7, r8, r9, r10⟩ := ev_cells0 hM2.bel HE0.out; dsimp only at r0 r1 r2 r3 r4 r5 r6 r7 r8 r9 r10; have HM2 := Lib.hid hM2; have HS2 := Lib.hid hS2'; have HD2 := Lib.hid hd2'; clear hM2 hS2 hd2 hS2' hd2'))
 clear y0 y1 y2 y3 y4 y5 y6 y7 y8 y9 y10
 go_upto_region 3 with (fail)
 go_cut [24, 25, 26] (fun s24 s25 s26 wx => CutC W X ts (w2.alloc (.cells #[.pointer none, .iface T2 p2, .pointer (some ⟨gm, 0, none⟩), .int .i32 l0, .int .i32 1, .slice none 0 0, .pointer (some ⟨gm, 0, none⟩), .int .i32 l0, .int .i32 1] 154)) s24 s25 s26 wx)
 case first =>
  by_cases hm3 : xm3 = 1
  ·subst hm3
   obtain rfl := tail_0 HK.out
   go_wp2
   go_meet
   exact ⟨rfl, _, _, rfl, rfl, rfl, row_0 _⟩
  ·have hm3' : 1 < xm3 := by omega
   go_wp2
   go_meet
   exact ⟨rfl, _, _, rfl, rfl, rfl, tail_c HK.out hm3'⟩
 case rest =>
  obtain ⟨rfl, ta, tc, rfl, rfl, rfl, hrow⟩ := hcut
  have HRw := Lib.hid hrow
  have HMx : Hid (Mk W gm nm vi2 vf2 (N + t.size) (w2.alloc (.cells #[.pointer none, .iface T2 p2, .pointer (some ⟨gm, 0, none⟩), .int .i32 l0, .int .i32 1, .slice none 0 0, .pointer (some ⟨gm, 0, none⟩), .int .i32 l0, .int .i32 1] 154))) := Lib.hid (HM2.out.after bA)
  have HSG : Hid (Safe gm vi2 vf2 (w2.alloc (.cells #[.pointer none, .iface T2 p2, .pointer (some ⟨gm, 0, none⟩), .int .i32 l0, .int .i32 1, .slice none 0 0, .pointer (some ⟨gm, 0, none⟩), .int .i32 l0, .int .i32 1] 154)) w2.heap.size) := Lib.hid (HM2.out.safe_new (Nat.le_refl _) (lt1 _ _))
  have HSPw := Lib.hid (HS2.out.keep _ HSP.out).1
  have HSBw := Lib.hid (HS2.out.keep _ HSB.out).1
  have HPo : Hid (w2.heap[wp.heap.size]? = some (.cells #[.pointer (some ⟨gm, 0, none⟩), .int .i32 l0, .int .i32 1] 60)) := Lib.hid ((HS2.out.keep _ HSP.out).2.trans (heap_alloc_new wp _))
  have HGo : Hid ((w2.alloc (.cells #[.pointer none, .iface T2 p2, .pointer (some ⟨gm, 0, none⟩), .int .i32 l0, .int .i32 1, .slice none 0 0, .pointer (some ⟨gm, 0, none⟩), .int .i32 l0, .int .i32 1] 154)).heap[w2.heap.size]? = some (.cells #[.pointer none, .iface T2 p2, .pointer (some ⟨gm, 0, none⟩), .int .i32 l0, .int .i32 1, .slice none 0 0, .pointer (some ⟨gm, 0, none⟩), .int .i32 l0, .int .i32 1] 154)) := Lib.hid (heap_alloc_new w2 _)
  have HO0 : Hid (OutsX w2.heap.size W gm nm (N + t.size + sizes (ts.take 0)) vi2 vf2 vi2 vf2 w2 81 (ts.take 0) [] (.slice none 0 0) (w2.alloc (.cells #[.pointer none, .iface T2 p2, .pointer (some ⟨gm, 0, none⟩), .int .i32 l0, .int .i32 1, .slice none 0 0, .pointer (some ⟨gm, 0, none⟩), .int .i32 l0, .int .i32 1] 154))) := Lib.hid ⟨HMx.out.more (Nat.le_add_right _ _), Stp.of_below bA, ⟨rfl, .inl ⟨rfl, rfl⟩⟩, fun i hi => absurd hi (Nat.not_lt_zero i), fun g hg => by cases hg⟩
  clear hrow z0 z1 z2 z9 r0 r1 r2 r3 r4 r5 r6 r7 r8 r9 r10 bx9 qx0 qx1 qx2 bp0 bp9
  go_wp2_with fail
  go_loopw [26] (fun i wr => ∃ (k : Nat) (vi' vf' : Value) (xs : List Value) (vo : Value), k ≤ ts.length ∧ i = .int .i64 k ∧ OutsX w2.heap.size W gm nm (N + t.size + sizes (ts.take k)) vi2 vf2 vi' vf' w2 81 (ts.take k) xs vo wr ∧ wr.heap[w2.heap.size]? = some (.cells #[.pointer none, .iface T2 p2, .pointer (some ⟨gm, 0, none⟩), .int .i32 l0, .int .i32 1, vo, .pointer (some ⟨gm, 0, none⟩), .int .i32 l0, .int .i32 1] 154) ∧ vo.ownBlock ≠ some w2.heap.size ∧ Safe gm vi' vf' wr w2.heap.size) (fun i _ => ts.length - (intOf i).toNat)
  case atStart => exact ⟨0, vi2, vf2, [], _, Nat.zero_le _, rfl, HO0.out, HGo.out, (fun e => by cases e), HSG.out⟩
  case round =>
   obtain ⟨k, vi', vf', xs, vo, hk, rfl, hO, hgo, hvg, hsg⟩ := hrel
   have htk : (ts.take k).length = k := by rw [List.length_take]; omega
   obtain ⟨VA, VC, rfl⟩ := own_len hO.row
   rw [show Value.slice VA (ts.take k).length VC = .slice VA k VC by rw [htk]] at hO hgo hvg
   have HO := Lib.hid hO
   have HTk := Lib.hid htk
   have HG := Lib.hid hgo
   have HVG := Lib.hid hvg
   have HSGr := Lib.hid hsg
   clear hO hgo hvg hsg
   by_cases hlt : k < ts.length
   ·have hk' : k < ts.length := by omega
    obtain ⟨g4, o4, cs, rfl, ⟨hsz, hcs⟩, e0, rfl, hsh, hx⟩ := HRw.out.at k hk'
    obtain ⟨ek, eo, et, efk, efn, efm, efb, eft, efs, egs, ehs⟩ := e0
    obtain ⟨⟨ea1, en1, em1, rfl⟩, ⟨ea2, en2, em2, rfl⟩, ⟨ea3, en3, em3, rfl⟩, ⟨ea4, en4, em4, rfl⟩⟩ := hsh
    obtain ⟨c0, c1, c2, c3, c4, c5, c6, c7, c8, c9, c10⟩ := ev_cells HO.out.maker.bel hcs
    dsimp only at c0 c1 c2 c3 c4 c5 c6 c7 c8 c9 c10 hx
    have HZ := Lib.hid (sizes_take_le ts k hk')
    have HTT := Lib.hid (List.take_succ_eq_append_getElem hk')
    generalize htt : ts[k] = tt at *
    clear htt
    have x5 : wr.cell? ⟨w2.heap.size, 5, none⟩ = some (.slice VA k VC) := obj_cell HG.out 5 _ rfl
    have HBX : Hid (Below wr.heap.size wr (wr.alloc (.cells #[.int .i64 ek, .int .i64 eo, .string et, .int .i64 efk, .bool efn, .slice ea1 en1 em1, .int .u64 efb, .string eft, .slice ea2 en2 em2, .slice ea3 en3 em3, .slice ea4 en4 em4] 164))) := Lib.hid bA
    have HMX := Lib.hid (HO.out.maker.after HBX.out)
    have HSX : Hid (Safe gm vi' vf' (wr.alloc (.cells #[.int .i64 ek, .int .i64 eo, .string et, .int .i64 efk, .bool efn, .slice ea1 en1 em1, .int .u64 efb, .string eft, .slice ea2 en2 em2, .slice ea3 en3 em3, .slice ea4 en4 em4] 164)) wr.heap.size) := Lib.hid (HO.out.maker.safe_new (Nat.le_refl _) (lt1 _ _))
    have HSGx : Hid (Safe gm vi' vf' (wr.alloc (.cells #[.int .i64 ek, .int .i64 eo, .string et, .int .i64 efk, .bool efn, .slice ea1 en1 em1, .int .u64 efb, .string eft, .slice ea2 en2 em2, .slice ea3 en3 em3, .slice ea4 en4 em4] 164)) w2.heap.size) := Lib.hid ((Stp.of_below HBX.out).keep _ HSGr.out).1
    have HL : Hid (k + 1 ≤ maxLen ∧ (k + 1) * 16 ≤ 140737488355328) := Lib.hid ⟨by unfold maxLen; omega, by omega⟩
    have HNe1 : Hid ((Value.slice VA k VC).ownBlock ≠ some wr.heap.size) := Lib.hid (fun e => by have := (HO.out.row.lt _ e).2; omega)
    clear hcs hsz htk
    rcases hx with ⟨rfl, d, hkr, rfl⟩ | ⟨rfl | rfl, d, hkr, rfl⟩ | ⟨h15, h16, h17, hXk⟩
    ·obtain rfl : en3 = 1 := hkr.len
     obtain ⟨g5, o5, cs0, rfl, ⟨_, he5⟩, u, rfl, hu⟩ := hkr.at 0 (by simp)
     have hus := HSh.out u _ hu
     obtain ⟨uk, uo, ut, ufk, ufn, ufm, ufb, uft, ufs, ugs, uhs⟩ := u
     obtain ⟨⟨ua1, un1, um1, rfl⟩, ⟨ua2, un2, um2, rfl⟩, ⟨ua3, un3, um3, rfl⟩, ⟨ua4, un4, um4, rfl⟩⟩ := hus
     have HE5 : Hid (∀ j, j < 11 → W.cell? ⟨g5, o5 + 0 * 11 + j, none⟩ = (EV.cells _)[j]?) := Lib.hid he5
     have HU : Hid (X _ d) := Lib.hid hu
     have HNd : Hid (N + t.size + sizes (ts.take k) + d.size ≤ 1000000) := Lib.hid (by have := HZ.out; have := HN.out; simp only [Tr.size, sizes, idt] at *; omega)
     have qp : ∀ q v, w2.cell? ⟨wp.heap.size, q, none⟩ = some v → wr.cell? ⟨wp.heap.size, q, none⟩ = some v := fun q v h => ((HO.out.st.cell (a := ⟨wp.heap.size, q, none⟩) HSPw.out).trans h)
     have HSPr : Hid (Safe gm vi' vf' (wr.alloc (.cells #[.int .i64 15, .int .i64 eo, .string et, .int .i64 efk, .bool efn, .slice ea1 en1 em1, .int .u64 efb, .string eft, .slice ea2 en2 em2, .slice (some ⟨g5, o5, none⟩) 1 em3, .slice ea4 en4 em4] 164)) wp.heap.size) := Lib.hid ((HO.out.st.trans (Stp.of_below HBX.out)).keep _ HSPw.out).1
     have qx0 : (wr.alloc (.cells #[.int .i64 15, .int .i64 eo, .string et, .int .i64 efk, .bool efn, .slice ea1 en1 em1, .int .u64 efb, .string eft, .slice ea2 en2 em2, .slice (some ⟨g5, o5, none⟩) 1 em3, .slice ea4 en4 em4] 164)).cell? ⟨wp.heap.size, 0, none⟩ = some (.pointer (some ⟨gm, 0, none⟩)) := cell_al _ (qp _ _ (obj_cell HPo.out 0 _ rfl))
     have qx1 : (wr.alloc (.cells #[.int .i64 15, .int .i64 eo, .string et, .int .i64 efk, .bool efn, .slice ea1 en1 em1, .int .u64 efb, .string eft, .slice ea2 en2 em2, .slice (some ⟨g5, o5, none⟩) 1 em3, .slice ea4 en4 em4] 164)).cell? ⟨wp.heap.size, 1, none⟩ = some (.int .i32 l0) := cell_al _ (qp _ _ (obj_cell HPo.out 1 _ rfl))
     have qx2 : (wr.alloc (.cells #[.int .i64 15, .int .i64 eo, .string et, .int .i64 efk, .bool efn, .slice ea1 en1 em1, .int .u64 efb, .string eft, .slice ea2 en2 em2, .slice (some ⟨g5, o5, none⟩) 1 em3, .slice ea4 en4 em4] 164)).cell? ⟨wp.heap.size, 2, none⟩ = some (.int .i32 1) := cell_al _ (qp _ _ (obj_cell HPo.out 2 _ rfl))
     have HNe0 : Hid ((Value.slice VA k VC).ownBlock ≠ some wp.heap.size) := Lib.hid (fun e => by have := (HO.out.row.lt _ e).1; have := HSPw.out.1; omega)
     have x5X : (wr.alloc (.cells #[.int .i64 15, .int .i64 eo, .string et, .int .i64 efk, .bool efn, .slice ea1 en1 em1, .int .u64 efb, .string eft, .slice ea2 en2 em2, .slice (some ⟨g5, o5, none⟩) 1 em3, .slice ea4 en4 em4] 164)).cell? ⟨w2.heap.size, 5, none⟩ = some (.slice VA k VC) := cell_al _ x5
     have hbx := heap_alloc_new wr (.cells #[.int .i64 15, .int .i64 eo, .string et, .int .i64 efk, .bool efn, .slice ea1 en1 em1, .int .u64 efb, .string eft, .slice ea2 en2 em2, .slice (some ⟨g5, o5, none⟩) 1 em3, .slice ea4 en4 em4] 164)
     clear he5 hu hkr qp
     go_wp2_with fail
     refine (f34_mk W gm nm vi' vf' _ _ HMX.out).mono ?_
     rintro e w3 ⟨rfl, hM3, hS3⟩
     obtain ⟨y0, y1, y2, y3, y4, y5, y6, y7, y8, y9, y10⟩ := ev_cells0 hM3.bel HE5.out
     dsimp only at y0 y1 y2 y3 y4 y5 y6 y7 y8 y9 y10
     obtain ⟨LQ, QP, QI⟩ := named (fun w' => w'.cell? ⟨w2.heap.size, 5, none⟩ = some (.slice VA k VC) ∧ w'.cell? ⟨wp.heap.size, 0, none⟩ = some (.pointer (some ⟨gm, 0, none⟩)) ∧ w'.cell? ⟨wp.heap.size, 1, none⟩ = some (.int .i32 l0) ∧ w'.cell? ⟨wp.heap.size, 2, none⟩ = some (.int .i32 1) ∧ w'.cell? ⟨wr.heap.size, 0, none⟩ = some (.int .i64 15) ∧ w'.cell? ⟨wr.heap.size, 1, none⟩ = some (.int .i64 eo) ∧ w'.cell? ⟨wr.heap.size, 2, none⟩ = some (.string et) ∧ w'.cell? ⟨wr.heap.size, 3, none⟩ = some (.int .i64 efk) ∧ w'.cell? ⟨wr.heap.size, 4, none⟩ = some (.bool efn) ∧ w'.cell? ⟨wr.heap.size, 5, none⟩ = some (.slice ea1 en1 em1) ∧ w'.cell? ⟨wr.heap.size, 6, none⟩ = some (.int .u64 efb) ∧ w'.cell? ⟨wr.heap.size, 7, none⟩ = some (.string eft) ∧ w'.cell? ⟨wr.heap.size, 8, none⟩ = some (.slice ea2 en2 em2) ∧ w'.cell? ⟨wr.heap.size, 9, none⟩ = some (.slice (some ⟨g5, o5, none⟩) 1 em3) ∧ w'.cell? ⟨wr.heap.size, 10, none⟩ = some (.slice ea4 en4 em4) ∧ w'.cell? ⟨g5, o5, none⟩ = some (.int .i64 uk) ∧ w'.cell? ⟨g5, o5 + 1, none⟩ = some (.int .i64 uo) ∧ w'.cell? ⟨g5, o5 + 2, none⟩ = some (.string ut) ∧ w'.cell? ⟨g5, o5 + 3, none⟩ = some (.int .i64 ufk) ∧ w'.cell? ⟨g5, o5 + 4, none⟩ = some (.bool ufn) ∧ w'.cell? ⟨g5, o5 + 5, none⟩ = some (.slice ua1 un1 um1) ∧ w'.cell? ⟨g5, o5 + 6, none⟩ = some (.int .u64 ufb) ∧ w'.cell? ⟨g5, o5 + 7, none⟩ = some (.string uft) ∧ w'.cell? ⟨g5, o5 + 8, none⟩ = some (.slice ua2 un2 um2) ∧ w'.cell? ⟨g5, o5 + 9, none⟩ = some (.slice ua3 un3 um3) ∧ w'.cell? ⟨g5, o5 + 10, none⟩ = some (.slice ua4 un4 um4))
     have QA : ∀ (w' : World) (o : Obj), LQ w' → LQ (w'.alloc o) := fun _ _ h => QI _ ⟨cell_al _ (QP _ h).1, cell_al _ (QP _ h).2.1, cell_al _ (QP _ h).2.2.1, cell_al _ (QP _ h).2.2.2.1, cell_al _ (QP _ h).2.2.2.2.1, cell_al _ (QP _ h).2.2.2.2.2.1, cell_al _ (QP _ h).2.2.2.2.2.2.1, cell_al _ (QP _ h).2.2.2.2.2.2.2.1, cell_al _ (QP _ h).2.2.2.2.2.2.2.2.1, cell_al _ (QP _ h).2.2.2.2.2.2.2.2.2.1, cell_al _ (QP _ h).2.2.2.2.2.2.2.2.2.2.1, cell_al _ (QP _ h).2.2.2.2.2.2.2.2.2.2.2.1, cell_al _ (QP _ h).2.2.2.2.2.2.2.2.2.2.2.2.1, cell_al _ (QP _ h).2.2.2.2.2.2.2.2.2.2.2.2.2.1, cell_al _ (QP _ h).2.2.2.2.2.2.2.2.2.2.2.2.2.2.1, cell_al _ (QP _ h).2.2.2.2.2.2.2.2.2.2.2.2.2.2.2.1, cell_al _ (QP _ h).2.2.2.2.2.2.2.2.2.2.2.2.2.2.2.2.1, cell_al _ (QP _ h).2.2.2.2.2.2.2.2.2.2.2.2.2.2.2.2.2.1, cell_al _ (QP _ h).2.2.2.2.2.2.2.2.2.2.2.2.2.2.2.2.2.2.1, cell_al _ (QP _ h).2.2.2.2.2.2.2.2.2.2.2.2.2.2.2.2.2.2.2.1, cell_al _ (QP _ h).2.2.2.2.2.2.2.2.2.2.2.2.2.2.2.2.2.2.2.2.1, cell_al _ (QP _ h).2.2.2.2.2.2.2.2.2.2.2.2.2.2.2.2.2.2.2.2.2.1, cell_al _ (QP _ h).2.2.2.2.2.2.2.2.2.2.2.2.2.2.2.2.2.2.2.2.2.2.1, cell_al _ (QP _ h).2.2.2.2.2.2.2.2.2.2.2.2.2.2.2.2.2.2.2.2.2.2.2.1, cell_al _ (QP _ h).2.2.2.2.2.2.2.2.2.2.2.2.2.2.2.2.2.2.2.2.2.2.2.2.1, cell_al _ (QP _ h).2.2.2.2.2.2.2.2.2.2.2.2.2.2.2.2.2.2.2.2.2.2.2.2.2⟩
     have hL : LQ (w3.drew) := QI _ ⟨cell_dr ((hS3.cell (a := ⟨w2.heap.size, 5, none⟩) HSGx.out).trans x5X), cell_dr ((hS3.cell (a := ⟨wp.heap.size, 0, none⟩) HSPr.out).trans qx0), cell_dr ((hS3.cell (a := ⟨wp.heap.size, 1, none⟩) HSPr.out).trans qx1), cell_dr ((hS3.cell (a := ⟨wp.heap.size, 2, none⟩) HSPr.out).trans qx2), cell_dr ((hS3.cell (a := ⟨wr.heap.size, 0, none⟩) HSX.out).trans (obj_cell hbx 0 _ rfl)), cell_dr ((hS3.cell (a := ⟨wr.heap.size, 1, none⟩) HSX.out).trans (obj_cell hbx 1 _ rfl)), cell_dr ((hS3.cell (a := ⟨wr.heap.size, 2, none⟩) HSX.out).trans (obj_cell hbx 2 _ rfl)), cell_dr ((hS3.cell (a := ⟨wr.heap.size, 3, none⟩) HSX.out).trans (obj_cell hbx 3 _ rfl)), cell_dr ((hS3.cell (a := ⟨wr.heap.size, 4, none⟩) HSX.out).trans (obj_cell hbx 4 _ rfl)), cell_dr ((hS3.cell (a := ⟨wr.heap.size, 5, none⟩) HSX.out).trans (obj_cell hbx 5 _ rfl)), cell_dr ((hS3.cell (a := ⟨wr.heap.size, 6, none⟩) HSX.out).trans (obj_cell hbx 6 _ rfl)), cell_dr ((hS3.cell (a := ⟨wr.heap.size, 7, none⟩) HSX.out).trans (obj_cell hbx 7 _ rfl)), cell_dr ((hS3.cell (a := ⟨wr.heap.size, 8, none⟩) HSX.out).trans (obj_cell hbx 8 _ rfl)), cell_dr ((hS3.cell (a := ⟨wr.heap.size, 9, none⟩) HSX.out).trans (obj_cell hbx 9 _ rfl)), cell_dr ((hS3.cell (a := ⟨wr.heap.size, 10, none⟩) HSX.out).trans (obj_cell hbx 10 _ rfl)), cell_dr y0, cell_dr y1, cell_dr y2, cell_dr y3, cell_dr y4, cell_dr y5, cell_dr y6, cell_dr y7, cell_dr y8, cell_dr y9, cell_dr y10⟩
     have HM3 := Lib.hid hM3
     have HS3 := Lib.hid hS3
     have z0 : w3.cell? ⟨wr.heap.size, 0, none⟩ = some (.int .i64 15) := (HS3.out.cell (a := ⟨wr.heap.size, 0, none⟩) HSX.out).trans (by simp [go_sem])
     have HG3 : Hid (w3.heap[w2.heap.size]? = some (.cells #[.pointer none, .iface T2 p2, .pointer (some ⟨gm, 0, none⟩), .int .i32 l0, .int .i32 1, .slice VA k VC, .pointer (some ⟨gm, 0, none⟩), .int .i32 l0, .int .i32 1] 154)) := Lib.hid ((HS3.out.keep _ HSGx.out).2.trans ((Below.heap_alloc wr _ _ HSGr.out.1).trans HG.out))
     have HT3 := Lib.hid (fun k hk => (HS3.out.keep k hk).1)
     clear hM3 hS3 y0 y1 y2 y3 y4 y5 y6 y7 y8 y9 y10 qx0 qx1 qx2 x5X
     go_wp2_with fail
     refine wp_region_but LQ 25 (by kernel_rfl) ?_
     refine AnyBut.take (i := 0) (oi := ?o_1) (v := ?v_1) ?h_1 (by kernel_rfl) (by kernel_rfl) (by kernel_rfl) (by kernel_rfl) ?q_1 (Or.inl ⟨?g_1, ?y_1⟩) hL ?r_1
     case h_1 => (simp only [List.getElem?_toArray, List.getElem?_cons_zero]; exact rfl)
     case q_1 => exact fun _ _ _ h => h
     case g_1 => rfl
     case y_1 =>
      intro W hSw
      replace hSw := QP _ hSw
      try dsimp only at hSw
      go_simp
      try with_reducible rfl
     try simp only [Act.put, List.setIfInBounds_toArray, List.set_cons_zero, List.set_cons_succ]
     refine AnyBut.take (i := 1) (oi := ?o_2) (v := ?v_2) ?h_2 (by kernel_rfl) (by kernel_rfl) (by kernel_rfl) (by kernel_rfl) ?q_2 (Or.inl ⟨?g_2, ?y_2⟩) hL ?r_2
     case h_2 => (simp only [List.getElem?_toArray, List.getElem?_cons_succ, List.getElem?_cons_zero]; exact rfl)
     case q_2 => exact fun _ _ _ h => h
     case g_2 => rfl
     case y_2 =>
      intro W hSw
      replace hSw := QP _ hSw
      try dsimp only at hSw
      go_simp
      try with_reducible rfl
     try simp only [Act.put, List.setIfInBounds_toArray, List.set_cons_zero, List.set_cons_succ]
     refine AnyBut.take (i := 2) (oi := ?o_3) (v := ?v_3) ?h_3 (by kernel_rfl) (by kernel_rfl) (by kernel_rfl) (by kernel_rfl) ?q_3 (Or.inl ⟨?g_3, ?y_3⟩) hL ?r_3
     case h_3 => (simp only [List.getElem?_toArray, List.getElem?_cons_succ, List.getElem?_cons_zero]; exact rfl)
     case q_3 => exact fun _ _ _ h => h
     case g_3 => rfl
     case y_3 =>
      intro W hSw
      replace hSw := QP _ hSw
      try dsimp only at hSw
      go_simp
      try with_reducible rfl
     try simp only [Act.put, List.setIfInBounds_toArray, List.set_cons_zero, List.set_cons_succ]
     refine AnyBut.take (i := 3) (oi := ?o_4) (v := ?v_4) ?h_4 (by kernel_rfl) (by kernel_rfl) (by kernel_rfl) (by kernel_rfl) ?q_4 (Or.inl ⟨?g_4, ?y_4⟩) hL ?r_4
     case h_4 => (simp only [List.getElem?_toArray, List.getElem?_cons_succ, List.getElem?_cons_zero]; exact rfl)
     case q_4 => exact fun _ _ _ h => h
     case g_4 => rfl
     case y_4 =>
      intro W hSw
      replace hSw := QP _ hSw
      try dsimp only at hSw
      go_simp
      try with_reducible rfl
     try simp only [Act.put, List.setIfInBounds_toArray, List.set_cons_zero, List.set_cons_succ]
     refine AnyBut.take (i := 4) (oi := ?o_5) (v := ?v_5) ?h_5 (by kernel_rfl) (by kernel_rfl) (by kernel_rfl) (by kernel_rfl) ?q_5 (Or.inl ⟨?g_5, ?y_5⟩) hL ?r_5
     case h_5 => (simp only [List.getElem?_toArray, List.getElem?_cons_succ, List.getElem?_cons_zero]; exact rfl)
     case q_5 => exact fun _ _ _ h => h
     case g_5 => rfl
     case y_5 =>
      intro W hSw
      replace hSw := QP _ hSw
      try dsimp only at hSw
      go_simp
      try with_reducible rfl
     try simp only [Act.put, List.setIfInBounds_toArray, List.set_cons_zero, List.set_cons_succ]
     refine AnyBut.take (i := 5) (oi := ?o_6) (v := ?v_6) ?h_6 (by kernel_rfl) (by kernel_rfl) (by kernel_rfl) (by kernel_rfl) ?q_6 (Or.inl ⟨?g_6, ?y_6⟩) hL ?r_6
     case h_6 => (simp only [List.getElem?_toArray, List.getElem?_cons_succ, List.getElem?_cons_zero]; exact rfl)
     case q_6 => exact fun _ _ _ h => h
     case g_6 => rfl
     case y_6 =>
      intro W hSw
      replace hSw := QP _ hSw
      try dsimp only at hSw
      go_simp
      try with_reducible rfl
     try simp only [Act.put, List.setIfInBounds_toArray, List.set_cons_zero, List.set_cons_succ]
     refine AnyBut.take (i := 6) (oi := ?o_7) (v := ?v_7) ?h_7 (by kernel_rfl) (by kernel_rfl) (by kernel_rfl) (by kernel_rfl) ?q_7 (Or.inl ⟨?g_7, ?y_7⟩) hL ?r_7
     case h_7 => (simp only [List.getElem?_toArray, List.getElem?_cons_succ, List.getElem?_cons_zero]; exact rfl)
     case q_7 => exact fun _ _ _ h => h
     case g_7 => rfl
     case y_7 =>
      intro W hSw
      replace hSw := QP _ hSw
      try dsimp only at hSw
      go_simp
      try with_reducible rfl
     try simp only [Act.put, List.setIfInBounds_toArray, List.set_cons_zero, List.set_cons_succ]
     refine AnyBut.take (i := 7) (oi := ?o_8) (v := ?v_8) ?h_8 (by kernel_rfl) (by kernel_rfl) (by kernel_rfl) (by kernel_rfl) ?q_8 (Or.inl ⟨?g_8, ?y_8⟩) hL ?r_8
     case h_8 => (simp only [List.getElem?_toArray, List.getElem?_cons_succ, List.getElem?_cons_zero]; exact rfl)
     case q_8 => exact fun _ _ _ h => h
     case g_8 => rfl
     case y_8 =>
      intro W hSw
      replace hSw := QP _ hSw
      try dsimp only at hSw
      go_simp
      try with_reducible rfl
     try simp only [Act.put, List.setIfInBounds_toArray, List.set_cons_zero, List.set_cons_succ]
     refine AnyBut.take (i := 8) (oi := ?o_9) (v := ?v_9) ?h_9 (by kernel_rfl) (by kernel_rfl) (by kernel_rfl) (by kernel_rfl) ?q_9 (Or.inl ⟨?g_9, ?y_9⟩) hL ?r_9
     case h_9 => (simp only [List.getElem?_toArray, List.getElem?_cons_succ, List.getElem?_cons_zero]; exact rfl)
     case q_9 => exact fun _ _ _ h => h
     case g_9 => rfl
     case y_9 =>
      intro W hSw
      replace hSw := QP _ hSw
      try dsimp only at hSw
      go_simp
      try with_reducible rfl
     try simp only [Act.put, List.setIfInBounds_toArray, List.set_cons_zero, List.set_cons_succ]
     refine AnyBut.take (i := 11) (oi := ?o_10) (v := ?v_10) ?h_10 (by kernel_rfl) (by kernel_rfl) (by kernel_rfl) (by kernel_rfl) ?q_10 (Or.inl ⟨?g_10, ?y_10⟩) hL ?r_10
     case h_10 => (simp only [List.getElem?_toArray, List.getElem?_cons_succ, List.getElem?_cons_zero]; exact rfl)
     case q_10 => exact fun _ _ _ h => h
     case g_10 => rfl
     case y_10 =>
      intro W hSw
      replace hSw := QP _ hSw
      try dsimp only at hSw
      go_simp
      try with_reducible rfl
     try simp only [Act.put, List.setIfInBounds_toArray, List.set_cons_zero, List.set_cons_succ]
     refine AnyBut.take (i := 12) (oi := ?o_11) (v := ?v_11) ?h_11 (by kernel_rfl) (by kernel_rfl) (by kernel_rfl) (by kernel_rfl) ?q_11 (Or.inl ⟨?g_11, ?y_11⟩) hL ?r_11
     case h_11 => (simp only [List.getElem?_toArray, List.getElem?_cons_succ, List.getElem?_cons_zero]; exact rfl)
     case q_11 => exact fun _ _ _ h => h
     case g_11 => rfl
     case y_11 =>
      intro W hSw
      replace hSw := QP _ hSw
      try dsimp only at hSw
      go_simp
      try with_reducible rfl
     try simp only [Act.put, List.setIfInBounds_toArray, List.set_cons_zero, List.set_cons_succ]
     refine AnyBut.take (i := 13) (oi := ?o_12) (v := ?v_12) ?h_12 (by kernel_rfl) (by kernel_rfl) (by kernel_rfl) (by kernel_rfl) ?q_12 (Or.inl ⟨?g_12, ?y_12⟩) hL ?r_12
     case h_12 => (simp only [List.getElem?_toArray, List.getElem?_cons_succ, List.getElem?_cons_zero]; exact rfl)
     case q_12 => exact fun _ _ _ h => h
     case g_12 => rfl
     case y_12 =>
      intro W hSw
      replace hSw := QP _ hSw
      try dsimp only at hSw
      go_simp
      try with_reducible rfl
     try simp only [Act.put, List.setIfInBounds_toArray, List.set_cons_zero, List.set_cons_succ]
     refine AnyBut.take (i := 14) (oi := ?o_13) (v := ?v_13) ?h_13 (by kernel_rfl) (by kernel_rfl) (by kernel_rfl) (by kernel_rfl) ?q_13 (Or.inl ⟨?g_13, ?y_13⟩) hL ?r_13
     case h_13 => (simp only [List.getElem?_toArray, List.getElem?_cons_succ, List.getElem?_cons_zero]; exact rfl)
     case q_13 => exact fun _ _ _ h => h
     case g_13 => rfl
     case y_13 =>
      intro W hSw
      replace hSw := QP _ hSw
      try dsimp only at hSw
      go_simp
      try with_reducible rfl
     try simp only [Act.put, List.setIfInBounds_toArray, List.set_cons_zero, List.set_cons_succ]
     refine AnyBut.take (i := 15) (oi := ?o_14) (v := ?v_14) ?h_14 (by kernel_rfl) (by kernel_rfl) (by kernel_rfl) (by kernel_rfl) ?q_14 (Or.inl ⟨?g_14, ?y_14⟩) hL ?r_14
     case h_14 => (simp only [List.getElem?_toArray, List.getElem?_cons_succ, List.getElem?_cons_zero]; exact rfl)
     case q_14 => exact fun _ _ _ h => h
     case g_14 => rfl
     case y_14 =>
      intro W hSw
      replace hSw := QP _ hSw
      try dsimp only at hSw
      go_simp
      try with_reducible rfl
     try simp only [Act.put, List.setIfInBounds_toArray, List.set_cons_zero, List.set_cons_succ]
     refine AnyBut.take (i := 16) (oi := ?o_15) (v := ?v_15) ?h_15 (by kernel_rfl) (by kernel_rfl) (by kernel_rfl) (by kernel_rfl) ?q_15 (Or.inl ⟨?g_15, ?y_15⟩) hL ?r_15
     case h_15 => (simp only [List.getElem?_toArray, List.getElem?_cons_succ, List.getElem?_cons_zero]; exact rfl)
     case q_15 => exact fun _ _ _ h => h
     case g_15 => rfl
     case y_15 =>
      intro W hSw
      replace hSw := QP _ hSw
      try dsimp only at hSw
      go_simp
      try with_reducible rfl
     try simp only [Act.put, List.setIfInBounds_toArray, List.set_cons_zero, List.set_cons_succ]
     refine AnyBut.ready (rs := [9, 17]) (by kernel_rfl) (by simp) ?_
     refine Comes.cons (o := ?o_36) ?h_36 (fun K hK => ?s_36) (Comes.cons (o := ?O_36) ?H_36 (fun K hK => ?S_36) Comes.nil)
     case h_36 => (simp only [List.getElem?_toArray, List.getElem?_cons_succ, List.getElem?_cons_zero]; exact rfl)
     case H_36 => (simp only [List.getElem?_toArray, List.getElem?_cons_succ, List.getElem?_cons_zero]; exact rfl)
     case s_36 =>
      go_simp
      have hLa : LQ ((w3.drew.alloc (.cells #[.pointer none, .pointer (some ⟨gm, 0, none⟩), .int .i32 l0, .int .i32 1, .string et, .nilIface] 62))) := QA _ _ hL
      refine hK.out _ _ (fun _ => hLa) ?_
      clear hK K
      try simp only [Act.put, List.setIfInBounds_toArray, List.set_cons_zero, List.set_cons_succ]
      have HAV : Hid (Below w3.heap.size w3 (w3.drew.alloc (.cells #[.pointer none, .pointer (some ⟨gm, 0, none⟩), .int .i32 l0, .int .i32 1, .string et, .nilIface] 62))) := Lib.hid ((Below.drewed (Below.refl _ _)).alloc (Nat.le_refl _) _)
      have HTV := Lib.hid (fun k hk => ((Stp.of_below HAV.out).keep k (HT3.out k hk)).1)
      refine AnyBut.take (i := 10) (oi := ?o_16) (v := ?v_16) ?h_16 (by kernel_rfl) (by kernel_rfl) (by kernel_rfl) (by kernel_rfl) ?q_16 (Or.inl ⟨?g_16, ?y_16⟩) hLa ?r_16
      case h_16 => (simp only [List.getElem?_toArray, List.getElem?_cons_succ, List.getElem?_cons_zero]; exact rfl)
      case q_16 => exact fun _ _ _ h => h
      case g_16 => rfl
      case y_16 =>
       intro W hSw
       replace hSw := QP _ hSw
       try dsimp only at hSw
       go_simp
       try with_reducible rfl
      try simp only [Act.put, List.setIfInBounds_toArray, List.set_cons_zero, List.set_cons_succ]
      refine AnyBut.ready (rs := [17]) (by kernel_rfl) (by simp) ?_
      refine Comes.cons (o := ?o_17) ?h_17 (fun K hK => ?s_17) Comes.nil
      case h_17 => (simp only [List.getElem?_toArray, List.getElem?_cons_succ, List.getElem?_cons_zero]; exact rfl)
      go_simp
      go_at_call 43
      refine (HE.out _ d (N + t.size + sizes (ts.take k)) vi' vf' _ HU.out (HM3.out.after HAV.out) HNd.out).mono ?_
      rintro e w6 ⟨v6, vi6, vf6, rfl, hM6, hS6, hd6⟩
      obtain ⟨T6, p6, rfl⟩ := hd6.iface
      have hS6' : Stp gm vi' vf' (w3.drew.alloc (.cells #[.pointer none, .pointer (some ⟨gm, 0, none⟩), .int .i32 l0, .int .i32 1, .string et, .nilIface] 62)) vi6 vf6 w6 := ⟨fun k hk => hS6.keep k hk, hS6.size⟩
      obtain ⟨r0, r1, r2, r3, r4, r5, r6, r7, r8, r9, r10⟩ := ev_cells0 hM6.bel HE5.out
      dsimp only at r0 r1 r2 r3 r4 r5 r6 r7 r8 r9 r10
      have hL6 : LQ (w6) := QI _ ⟨(hS6'.cell (a := ⟨w2.heap.size, 5, none⟩) (HTV.out _ HSGx.out)).trans (QP _ hLa).1, (hS6'.cell (a := ⟨wp.heap.size, 0, none⟩) (HTV.out _ HSPr.out)).trans (QP _ hLa).2.1, (hS6'.cell (a := ⟨wp.heap.size, 1, none⟩) (HTV.out _ HSPr.out)).trans (QP _ hLa).2.2.1, (hS6'.cell (a := ⟨wp.heap.size, 2, none⟩) (HTV.out _ HSPr.out)).trans (QP _ hLa).2.2.2.1, (hS6'.cell (a := ⟨wr.heap.size, 0, none⟩) (HTV.out _ HSX.out)).trans (QP _ hLa).2.2.2.2.1, (hS6'.cell (a := ⟨wr.heap.size, 1, none⟩) (HTV.out _ HSX.out)).trans (QP _ hLa).2.2.2.2.2.1, (hS6'.cell (a := ⟨wr.heap.size, 2, none⟩) (HTV.out _ HSX.out)).trans (QP _ hLa).2.2.2.2.2.2.1, (hS6'.cell (a := ⟨wr.heap.size, 3, none⟩) (HTV.out _ HSX.out)).trans (QP _ hLa).2.2.2.2.2.2.2.1, (hS6'.cell (a := ⟨wr.heap.size, 4, none⟩) (HTV.out _ HSX.out)).trans (QP _ hLa).2.2.2.2.2.2.2.2.1, (hS6'.cell (a := ⟨wr.heap.size, 5, none⟩) (HTV.out _ HSX.out)).trans (QP _ hLa).2.2.2.2.2.2.2.2.2.1, (hS6'.cell (a := ⟨wr.heap.size, 6, none⟩) (HTV.out _ HSX.out)).trans (QP _ hLa).2.2.2.2.2.2.2.2.2.2.1, (hS6'.cell (a := ⟨wr.heap.size, 7, none⟩) (HTV.out _ HSX.out)).trans (QP _ hLa).2.2.2.2.2.2.2.2.2.2.2.1, (hS6'.cell (a := ⟨wr.heap.size, 8, none⟩) (HTV.out _ HSX.out)).trans (QP _ hLa).2.2.2.2.2.2.2.2.2.2.2.2.1, (hS6'.cell (a := ⟨wr.heap.size, 9, none⟩) (HTV.out _ HSX.out)).trans (QP _ hLa).2.2.2.2.2.2.2.2.2.2.2.2.2.1, (hS6'.cell (a := ⟨wr.heap.size, 10, none⟩) (HTV.out _ HSX.out)).trans (QP _ hLa).2.2.2.2.2.2.2.2.2.2.2.2.2.2.1, r0, r1, r2, r3, r4, r5, r6, r7, r8, r9, r10⟩
      have hd6' : Nd (Sees w6 (New ((w3.drew.alloc (.cells #[.pointer none, .pointer (some ⟨gm, 0, none⟩), .int .i32 l0, .int .i32 1, .string et, .nilIface] 62))).heap.size gm vi6 vf6 w6)) (.iface T6 p6) d := hd6
      have HM6 := Lib.hid hM6
      have HS6 := Lib.hid hS6'
      have HD6 := Lib.hid hd6'
      clear hM6 hS6 hd6 hd6' hS6' r0 r1 r2 r3 r4 r5 r6 r7 r8 r9 r10
      refine hK.out _ _ (fun _ => hL6) ?_
      clear hK K
      try simp only [Act.put, List.setIfInBounds_toArray, List.set_cons_zero, List.set_cons_succ]
      have HM7 := HM6
      have HS7 : Hid (Stp gm vi' vf' w3 vi6 vf6 w6) := Lib.hid ((Stp.of_below HAV.out).trans HS6.out)
      have HDi : Hid (Nd (Sees w6 (New w3.heap.size gm vi6 vf6 w6)) (.iface 53 (.pointer (some ⟨w3.heap.size, 0, none⟩))) (idt et)) := Lib.hid (Nd.step (Nd.ident _ _ (sees_at (heap_alloc_new w3.drew (.cells #[.pointer none, .pointer (some ⟨gm, 0, none⟩), .int .i32 l0, .int .i32 1, .string et, .nilIface] 62)) ⟨Nat.le_refl _, HM3.out.safe_new (Nat.le_refl _) (lt1 _ _)⟩ 4 _ rfl)) HS6.out (Nat.le_refl _))
      have HD7 : Hid (Nd (Sees w6 (New w3.heap.size gm vi6 vf6 w6)) (.iface T6 p6) d) := Lib.hid (HD6.out.step (Stp.refl ..) (Nat.le_of_lt (lt1 w3.drew _)))
      refine AnyBut.take (i := 18) (oi := ?o_18) (v := ?v_18) ?h_18 (by kernel_rfl) (by kernel_rfl) (by kernel_rfl) (by kernel_rfl) ?q_18 (Or.inl ⟨?g_18, ?y_18⟩) hL6 ?r_18
      case h_18 => (simp only [List.getElem?_toArray, List.getElem?_cons_succ, List.getElem?_cons_zero]; exact rfl)
      case q_18 => exact fun _ _ _ h => h
      case g_18 => rfl
      case y_18 =>
       intro W hSw
       replace hSw := QP _ hSw
       try dsimp only at hSw
       go_simp
       try with_reducible rfl
      try simp only [Act.put, List.setIfInBounds_toArray, List.set_cons_zero, List.set_cons_succ]
      refine AnyBut.ready (rs := [19]) (by kernel_rfl) (by simp) ?_
      refine Comes.cons (o := ?o_19) ?h_19 (fun K hK => ?s_19) Comes.nil
      case h_19 => (simp only [List.getElem?_toArray, List.getElem?_cons_succ, List.getElem?_cons_zero]; exact rfl)
      go_simp
      have hA5 : LQ ((w6.alloc (.cells #[.pointer none, .iface 53 (.pointer (some ⟨w3.heap.size, 0, none⟩)), .pointer (some ⟨gm, 0, none⟩), .int .i32 l0, .int .i32 1, .int .i8 24, .iface T6 p6] 148))) := QA _ _ hL6
      refine hK.out _ _ (fun _ => hA5) ?_
      clear hK K
      try simp only [Act.put, List.setIfInBounds_toArray, List.set_cons_zero, List.set_cons_succ]
      refine AnyBut.take (i := 20) (oi := ?o_20) (v := ?v_20) ?h_20 (by kernel_rfl) (by kernel_rfl) (by kernel_rfl) (by kernel_rfl) ?q_20 (Or.inl ⟨?g_20, ?y_20⟩) hA5 ?r_20
      case h_20 => (simp only [List.getElem?_toArray, List.getElem?_cons_succ, List.getElem?_cons_zero]; exact rfl)
      case q_20 => exact fun _ _ _ h => h
      case g_20 => rfl
      case y_20 =>
       intro W hSw
       replace hSw := QP _ hSw
       try dsimp only at hSw
       go_simp
       try with_reducible rfl
      try simp only [Act.put, List.setIfInBounds_toArray, List.set_cons_zero, List.set_cons_succ]
      refine AnyBut.ready (rs := [21]) (by kernel_rfl) (by simp) ?_
      refine Comes.cons (o := ?o_21) ?h_21 (fun K hK => ?s_21) Comes.nil
      case h_21 => (simp only [List.getElem?_toArray, List.getElem?_cons_succ, List.getElem?_cons_zero]; exact rfl)
      go_simp
      have hA8 : LQ (((w6.alloc (.cells #[.pointer none, .iface 53 (.pointer (some ⟨w3.heap.size, 0, none⟩)), .pointer (some ⟨gm, 0, none⟩), .int .i32 l0, .int .i32 1, .int .i8 24, .iface T6 p6] 148)).alloc (.cells #[.iface 146 (.pointer (some ⟨w6.heap.size, 0, none⟩))] 81))) := QA _ _ hA5
      refine hK.out _ _ (fun _ => hA8) ?_
      clear hK K
      try simp only [Act.put, List.setIfInBounds_toArray, List.set_cons_zero, List.set_cons_succ]
      have HM5 : Hid (Mk W gm nm vi6 vf6 (N + t.size + sizes (ts.take k) + d.size + 1) (w6.alloc (.cells #[.pointer none, .iface 53 (.pointer (some ⟨w3.heap.size, 0, none⟩)), .pointer (some ⟨gm, 0, none⟩), .int .i32 l0, .int .i32 1, .int .i8 24, .iface T6 p6] 148))) := Lib.hid ((HM7.out.after bA).more (Nat.le_add_right _ _))
      have HS5 : Hid (Stp gm vi' vf' (wr.alloc (.cells #[.int .i64 15, .int .i64 eo, .string et, .int .i64 efk, .bool efn, .slice ea1 en1 em1, .int .u64 efb, .string eft, .slice ea2 en2 em2, .slice (some ⟨g5, o5, none⟩) 1 em3, .slice ea4 en4 em4] 164)) vi6 vf6 (w6.alloc (.cells #[.pointer none, .iface 53 (.pointer (some ⟨w3.heap.size, 0, none⟩)), .pointer (some ⟨gm, 0, none⟩), .int .i32 l0, .int .i32 1, .int .i8 24, .iface T6 p6] 148))) := Lib.hid (HS3.out.trans (HS7.out.trans (Stp.of_below bA)))
      have HD5 : Hid (Nd (Sees (w6.alloc (.cells #[.pointer none, .iface 53 (.pointer (some ⟨w3.heap.size, 0, none⟩)), .pointer (some ⟨gm, 0, none⟩), .int .i32 l0, .int .i32 1, .int .i8 24, .iface T6 p6] 148)) (New (wr.alloc (.cells #[.int .i64 15, .int .i64 eo, .string et, .int .i64 efk, .bool efn, .slice ea1 en1 em1, .int .u64 efb, .string eft, .slice ea2 en2 em2, .slice (some ⟨g5, o5, none⟩) 1 em3, .slice ea4 en4 em4] 164)).heap.size gm vi6 vf6 (w6.alloc (.cells #[.pointer none, .iface 53 (.pointer (some ⟨w3.heap.size, 0, none⟩)), .pointer (some ⟨gm, 0, none⟩), .int .i32 l0, .int .i32 1, .int .i8 24, .iface T6 p6] 148)))) (.iface 146 (.pointer (some ⟨w6.heap.size, 0, none⟩))) (.mk none [idt et, d])) := Lib.hid (nd_two HM7.out (HDi.out.step (Stp.refl ..) HS3.out.size) (HD7.out.step (Stp.refl ..) HS3.out.size) (Nat.le_trans HS3.out.size HS7.out.size) 146 1 6 (#[.pointer none, .iface 53 (.pointer (some ⟨w3.heap.size, 0, none⟩)), .pointer (some ⟨gm, 0, none⟩), .int .i32 l0, .int .i32 1, .int .i8 24, .iface T6 p6]) 148 rfl rfl rfl)
      have HRow : Hid (((w6.alloc (.cells #[.pointer none, .iface 53 (.pointer (some ⟨w3.heap.size, 0, none⟩)), .pointer (some ⟨gm, 0, none⟩), .int .i32 l0, .int .i32 1, .int .i8 24, .iface T6 p6] 148)).alloc (.cells #[.iface 146 (.pointer (some ⟨w6.heap.size, 0, none⟩))] 81)).ownsRow w2.heap.size 81 1 (.slice VA k VC) k xs) := Lib.hid (by have := HO.out.rowAt HBX.out HS5.out (.cells #[.iface 146 (.pointer (some ⟨w6.heap.size, 0, none⟩))] 81); rwa [HTk.out] at this)
      have HSrc : Hid (SrcAt ((w6.alloc (.cells #[.pointer none, .iface 53 (.pointer (some ⟨w3.heap.size, 0, none⟩)), .pointer (some ⟨gm, 0, none⟩), .int .i32 l0, .int .i32 1, .int .i8 24, .iface T6 p6] 148)).alloc (.cells #[.iface 146 (.pointer (some ⟨w6.heap.size, 0, none⟩))] 81)) (.slice (some ⟨w6.heap.size + 1, 0, none⟩) 1 1) 1 [.iface 146 (.pointer (some ⟨w6.heap.size, 0, none⟩))]) := Lib.hid (by have := src_one (w6.alloc (.cells #[.pointer none, .iface 53 (.pointer (some ⟨w3.heap.size, 0, none⟩)), .pointer (some ⟨gm, 0, none⟩), .int .i32 l0, .int .i32 1, .int .i8 24, .iface T6 p6] 148)) (.iface 146 (.pointer (some ⟨w6.heap.size, 0, none⟩))) 81; rwa [sz1 w6] at this)
      have HSz : Hid (w2.heap.size ≤ ((w6.alloc (.cells #[.pointer none, .iface 53 (.pointer (some ⟨w3.heap.size, 0, none⟩)), .pointer (some ⟨gm, 0, none⟩), .int .i32 l0, .int .i32 1, .int .i8 24, .iface T6 p6] 148)).alloc (.cells #[.iface 146 (.pointer (some ⟨w6.heap.size, 0, none⟩))] 81)).heap.size) := Lib.hid (by have := HO.out.st.size; have := HS5.out.size; have := HBX.out.size; rw [sz1 (w6.alloc (.cells #[.pointer none, .iface 53 (.pointer (some ⟨w3.heap.size, 0, none⟩)), .pointer (some ⟨gm, 0, none⟩), .int .i32 l0, .int .i32 1, .int .i8 24, .iface T6 p6] 148))]; omega)
      have HGe := Lib.hid (HS5.out.keep _ HSGx.out)
      refine AnyBut.ready (rs := [22]) (by kernel_rfl) (by simp) ?_
      refine Comes.cons (o := ?o_22) ?h_22 (fun K hK => ?s_22) Comes.nil
      case h_22 => (simp only [List.getElem?_toArray, List.getElem?_cons_succ, List.getElem?_cons_zero]; exact rfl)
      refine step_append_blk rfl (.tmp 73) (.tmp 90) 94 rfl w2.heap.size 81 i0 .nilIface 1 16 Tryz.underlying94 hi hz0 hz1 hz2 rfl (by decide) (.slice VA k VC) k xs (by rfl) (own_heap HRow.out rfl) (.slice (some ⟨w6.heap.size + 1, 0, none⟩) 1 1) 1 [.iface 146 (.pointer (some ⟨w6.heap.size, 0, none⟩))] (by rfl) HSrc.out rfl (by intro y hy; obtain rfl := List.mem_singleton.1 hy; rfl) HL.out.1 HL.out.2 HSz.out ?_
      intro v' w4 ho4 hg4 hv4
      obtain ⟨A2, C2, rfl⟩ := own_len ho4
      have HP : Hid (OutsX w2.heap.size W gm nm (N + t.size + sizes (ts.take k) + d.size + 1) vi2 vf2 vi6 vf6 w2 81 (ts.take k ++ [.mk none [idt et, d]]) (xs ++ [.iface 146 (.pointer (some ⟨w6.heap.size, 0, none⟩))]) (.slice A2 (k + 1) C2) w4) := Lib.hid (OutsX.push' (.cells #[.iface 146 (.pointer (some ⟨w6.heap.size, 0, none⟩))] 81) HO.out HBX.out HM5.out HS5.out HD5.out ⟨rfl, rfl, rfl, rfl⟩ (by rw [HTk.out]; exact ho4) hg4 hv4 HM2.out.bel.size (Nat.lt_of_lt_of_le HSGr.out.1 HBX.out.size))
      have hgo4 : w4.heap[w2.heap.size]? = some (.cells #[.pointer none, .iface T2 p2, .pointer (some ⟨gm, 0, none⟩), .int .i32 l0, .int .i32 1, .slice VA k VC, .pointer (some ⟨gm, 0, none⟩), .int .i32 l0, .int .i32 1] 154) := grown_obj hg4 HVG.out HGe.out.1.1 HGe.out.2 ((Below.heap_alloc wr _ _ HSGr.out.1).trans HG.out)
      obtain ⟨r0, r1, r2, r3, r4, r5, r6, r7, r8, r9, r10⟩ := ev_cells0 HP.out.maker.bel HE5.out
      dsimp only at r0 r1 r2 r3 r4 r5 r6 r7 r8 r9 r10
      have FC : ∀ (a : Addr) (v : Value), ((w6.alloc (.cells #[.pointer none, .iface 53 (.pointer (some ⟨w3.heap.size, 0, none⟩)), .pointer (some ⟨gm, 0, none⟩), .int .i32 l0, .int .i32 1, .int .i8 24, .iface T6 p6] 148))).cell? a = some v → (Value.slice VA k VC).ownBlock ≠ some a.block → w4.cell? a = some v := fun a v h hr => far_cell (w5 := (w6.alloc (.cells #[.pointer none, .iface 53 (.pointer (some ⟨w3.heap.size, 0, none⟩)), .pointer (some ⟨gm, 0, none⟩), .int .i32 l0, .int .i32 1, .int .i8 24, .iface T6 p6] 148))) (o := (.cells #[.iface 146 (.pointer (some ⟨w6.heap.size, 0, none⟩))] 81)) rfl hg4 h hr
      have hA9 : LQ (w4) := QI _ ⟨FC _ _ (QP _ hA5).1 HVG.out, FC _ _ (QP _ hA5).2.1 HNe0.out, FC _ _ (QP _ hA5).2.2.1 HNe0.out, FC _ _ (QP _ hA5).2.2.2.1 HNe0.out, FC _ _ (QP _ hA5).2.2.2.2.1 HNe1.out, FC _ _ (QP _ hA5).2.2.2.2.2.1 HNe1.out, FC _ _ (QP _ hA5).2.2.2.2.2.2.1 HNe1.out, FC _ _ (QP _ hA5).2.2.2.2.2.2.2.1 HNe1.out, FC _ _ (QP _ hA5).2.2.2.2.2.2.2.2.1 HNe1.out, FC _ _ (QP _ hA5).2.2.2.2.2.2.2.2.2.1 HNe1.out, FC _ _ (QP _ hA5).2.2.2.2.2.2.2.2.2.2.1 HNe1.out, FC _ _ (QP _ hA5).2.2.2.2.2.2.2.2.2.2.2.1 HNe1.out, FC _ _ (QP _ hA5).2.2.2.2.2.2.2.2.2.2.2.2.1 HNe1.out, FC _ _ (QP _ hA5).2.2.2.2.2.2.2.2.2.2.2.2.2.1 HNe1.out, FC _ _ (QP _ hA5).2.2.2.2.2.2.2.2.2.2.2.2.2.2.1 HNe1.out, r0, r1, r2, r3, r4, r5, r6, r7, r8, r9, r10⟩
      have HV4 : Hid ((Value.slice A2 (k + 1) C2).ownBlock ≠ some w2.heap.size) := Lib.hid (block_ne hv4 HVG.out (Nat.lt_trans HGe.out.1.1 (lt1 _ _)))
      have HSG4 : Hid (Safe gm vi6 vf6 w4 w2.heap.size) := Lib.hid ⟨(Array.getElem?_eq_some_iff.1 hgo4).1, HGe.out.1.2⟩
      have HPX := Lib.hid (HP.out.setX (Nat.le_refl _) HM2.out.bel.size HSG4.out HV4.out 5 (.slice A2 (k + 1) C2))
      have HGX := Lib.hid (obj_set hgo4 5 (.slice A2 (k + 1) C2))
      have hf4 := obj_free hgo4
      clear ho4 hg4 hv4 hgo4 r0 r1 r2 r3 r4 r5 r6 r7 r8 r9 r10
      refine hK.out _ _ (fun _ => hA9) ?_
      clear hK K
      try simp only [Act.put, List.setIfInBounds_toArray, List.set_cons_zero, List.set_cons_succ]
      refine AnyBut.ready (rs := [23]) (by kernel_rfl) (by simp) ?_
      refine Comes.cons (o := ?o_23) ?h_23 (fun K hK => ?s_23) Comes.nil
      case h_23 => (simp only [List.getElem?_toArray, List.getElem?_cons_succ, List.getElem?_cons_zero]; exact rfl)
      go_simp
      refine hK.out _ _ (fun _ => hA9) ?_
      clear hK K
      try simp only [Act.put, List.setIfInBounds_toArray, List.set_cons_zero, List.set_cons_succ]
      refine AnyBut.ready (rs := [24]) (by kernel_rfl) (by simp) ?_
      refine Comes.cons (o := ?o_24) ?h_24 (fun K hK => ?s_24) Comes.nil
      case h_24 => (simp only [List.getElem?_toArray, List.getElem?_cons_succ, List.getElem?_cons_zero]; exact rfl)
      go_simp
      refine hK.out _ _ (fun _ => hA9) ?_
      clear hK K
      try simp only [Act.put, List.setIfInBounds_toArray, List.set_cons_zero, List.set_cons_succ]
      have h5 := (QP _ hA9).1
      refine AnyBut.ready (rs := [25]) (by kernel_rfl) (by simp) ?_
      refine Comes.cons (o := ?o_25) ?h_25 (fun K hK => ?s_25) Comes.nil
      case h_25 => (simp only [List.getElem?_toArray, List.getElem?_cons_succ, List.getElem?_cons_zero]; exact rfl)
      go_simp
      refine hK.out _ _ (fun h => absurd rfl h) ?_
      clear hK K
      try simp only [Act.put, List.setIfInBounds_toArray, List.set_cons_zero, List.set_cons_succ]
      refine AnyBut.done (by kernel_rfl) ?_ _
      go_wp2
      go_roundw
      case rel =>
       refine ⟨k + 1, vi6, vf6, xs ++ [.iface 146 (.pointer (some ⟨w6.heap.size, 0, none⟩))], _, by omega, by go_num, ?_, HGX.out, HV4.out, HSG4.out.set _ _⟩
       rw [HTT.out, sizes_append]
       exact HPX.out.more (by simp only [sizes, Tr.size, idt]; omega)
      case measure =>
       simp [intOf]
       omega
     case S_36 =>
      go_simp
      go_at_call 43
      refine (HE.out _ d (N + t.size + sizes (ts.take k)) vi' vf' _ HU.out (HM3.out.after (Below.drewed (Below.refl _ _))) HNd.out).mono ?_
      rintro e w6 ⟨v6, vi6, vf6, rfl, hM6, hS6, hd6⟩
      obtain ⟨T6, p6, rfl⟩ := hd6.iface
      have hS6' : Stp gm vi' vf' w3 vi6 vf6 w6 := ⟨fun k hk => hS6.keep k hk, hS6.size⟩
      obtain ⟨r0, r1, r2, r3, r4, r5, r6, r7, r8, r9, r10⟩ := ev_cells0 hM6.bel HE5.out
      dsimp only at r0 r1 r2 r3 r4 r5 r6 r7 r8 r9 r10
      have hL6 : LQ (w6) := QI _ ⟨(hS6'.cell (a := ⟨w2.heap.size, 5, none⟩) (HT3.out _ HSGx.out)).trans (QP _ hL).1, (hS6'.cell (a := ⟨wp.heap.size, 0, none⟩) (HT3.out _ HSPr.out)).trans (QP _ hL).2.1, (hS6'.cell (a := ⟨wp.heap.size, 1, none⟩) (HT3.out _ HSPr.out)).trans (QP _ hL).2.2.1, (hS6'.cell (a := ⟨wp.heap.size, 2, none⟩) (HT3.out _ HSPr.out)).trans (QP _ hL).2.2.2.1, (hS6'.cell (a := ⟨wr.heap.size, 0, none⟩) (HT3.out _ HSX.out)).trans (QP _ hL).2.2.2.2.1, (hS6'.cell (a := ⟨wr.heap.size, 1, none⟩) (HT3.out _ HSX.out)).trans (QP _ hL).2.2.2.2.2.1, (hS6'.cell (a := ⟨wr.heap.size, 2, none⟩) (HT3.out _ HSX.out)).trans (QP _ hL).2.2.2.2.2.2.1, (hS6'.cell (a := ⟨wr.heap.size, 3, none⟩) (HT3.out _ HSX.out)).trans (QP _ hL).2.2.2.2.2.2.2.1, (hS6'.cell (a := ⟨wr.heap.size, 4, none⟩) (HT3.out _ HSX.out)).trans (QP _ hL).2.2.2.2.2.2.2.2.1, (hS6'.cell (a := ⟨wr.heap.size, 5, none⟩) (HT3.out _ HSX.out)).trans (QP _ hL).2.2.2.2.2.2.2.2.2.1, (hS6'.cell (a := ⟨wr.heap.size, 6, none⟩) (HT3.out _ HSX.out)).trans (QP _ hL).2.2.2.2.2.2.2.2.2.2.1, (hS6'.cell (a := ⟨wr.heap.size, 7, none⟩) (HT3.out _ HSX.out)).trans (QP _ hL).2.2.2.2.2.2.2.2.2.2.2.1, (hS6'.cell (a := ⟨wr.heap.size, 8, none⟩) (HT3.out _ HSX.out)).trans (QP _ hL).2.2.2.2.2.2.2.2.2.2.2.2.1, (hS6'.cell (a := ⟨wr.heap.size, 9, none⟩) (HT3.out _ HSX.out)).trans (QP _ hL).2.2.2.2.2.2.2.2.2.2.2.2.2.1, (hS6'.cell (a := ⟨wr.heap.size, 10, none⟩) (HT3.out _ HSX.out)).trans (QP _ hL).2.2.2.2.2.2.2.2.2.2.2.2.2.2.1, r0, r1, r2, r3, r4, r5, r6, r7, r8, r9, r10⟩
      have hd6' : Nd (Sees w6 (New (w3).heap.size gm vi6 vf6 w6)) (.iface T6 p6) d := hd6
      have HM6 := Lib.hid hM6
      have HS6 := Lib.hid hS6'
      have HD6 := Lib.hid hd6'
      clear hM6 hS6 hd6 hd6' hS6' r0 r1 r2 r3 r4 r5 r6 r7 r8 r9 r10
      refine hK.out _ _ (fun _ => hL6) ?_
      clear hK K
      try simp only [Act.put, List.setIfInBounds_toArray, List.set_cons_zero, List.set_cons_succ]
      refine AnyBut.ready (rs := [9]) (by kernel_rfl) (by simp) ?_
      refine Comes.cons (o := ?o_26) ?h_26 (fun K hK => ?s_26) Comes.nil
      case h_26 => (simp only [List.getElem?_toArray, List.getElem?_cons_succ, List.getElem?_cons_zero]; exact rfl)
      go_simp
      have hLa : LQ ((w6.alloc (.cells #[.pointer none, .pointer (some ⟨gm, 0, none⟩), .int .i32 l0, .int .i32 1, .string et, .nilIface] 62))) := QA _ _ hL6
      refine hK.out _ _ (fun _ => hLa) ?_
      clear hK K
      try simp only [Act.put, List.setIfInBounds_toArray, List.set_cons_zero, List.set_cons_succ]
      refine AnyBut.take (i := 10) (oi := ?o_27) (v := ?v_27) ?h_27 (by kernel_rfl) (by kernel_rfl) (by kernel_rfl) (by kernel_rfl) ?q_27 (Or.inl ⟨?g_27, ?y_27⟩) hLa ?r_27
      case h_27 => (simp only [List.getElem?_toArray, List.getElem?_cons_succ, List.getElem?_cons_zero]; exact rfl)
      case q_27 => exact fun _ _ _ h => h
      case g_27 => rfl
      case y_27 =>
       intro W hSw
       replace hSw := QP _ hSw
       try dsimp only at hSw
       go_simp
       try with_reducible rfl
      try simp only [Act.put, List.setIfInBounds_toArray, List.set_cons_zero, List.set_cons_succ]
      have HM7 : Hid (Mk W gm nm vi6 vf6 (N + t.size + sizes (ts.take k) + d.size) (w6.alloc (.cells #[.pointer none, .pointer (some ⟨gm, 0, none⟩), .int .i32 l0, .int .i32 1, .string et, .nilIface] 62))) := Lib.hid (HM6.out.after bA)
      have HS7 : Hid (Stp gm vi' vf' w3 vi6 vf6 (w6.alloc (.cells #[.pointer none, .pointer (some ⟨gm, 0, none⟩), .int .i32 l0, .int .i32 1, .string et, .nilIface] 62))) := Lib.hid (HS6.out.trans (Stp.of_below bA))
      have HDi : Hid (Nd (Sees (w6.alloc (.cells #[.pointer none, .pointer (some ⟨gm, 0, none⟩), .int .i32 l0, .int .i32 1, .string et, .nilIface] 62)) (New w3.heap.size gm vi6 vf6 (w6.alloc (.cells #[.pointer none, .pointer (some ⟨gm, 0, none⟩), .int .i32 l0, .int .i32 1, .string et, .nilIface] 62)))) (.iface 53 (.pointer (some ⟨w6.heap.size, 0, none⟩))) (idt et)) := Lib.hid (Nd.ident _ _ (sees_at (heap_alloc_new w6 (.cells #[.pointer none, .pointer (some ⟨gm, 0, none⟩), .int .i32 l0, .int .i32 1, .string et, .nilIface] 62)) ⟨HS6.out.size, HM6.out.safe_new (Nat.le_refl _) (lt1 _ _)⟩ 4 _ rfl))
      have HD7 : Hid (Nd (Sees (w6.alloc (.cells #[.pointer none, .pointer (some ⟨gm, 0, none⟩), .int .i32 l0, .int .i32 1, .string et, .nilIface] 62)) (New w3.heap.size gm vi6 vf6 (w6.alloc (.cells #[.pointer none, .pointer (some ⟨gm, 0, none⟩), .int .i32 l0, .int .i32 1, .string et, .nilIface] 62)))) (.iface T6 p6) d) := Lib.hid (HD6.out.step (Stp.of_below bA) (Nat.le_refl _))
      refine AnyBut.take (i := 18) (oi := ?o_28) (v := ?v_28) ?h_28 (by kernel_rfl) (by kernel_rfl) (by kernel_rfl) (by kernel_rfl) ?q_28 (Or.inl ⟨?g_28, ?y_28⟩) hLa ?r_28
      case h_28 => (simp only [List.getElem?_toArray, List.getElem?_cons_succ, List.getElem?_cons_zero]; exact rfl)
      case q_28 => exact fun _ _ _ h => h
      case g_28 => rfl
      case y_28 =>
       intro W hSw
       replace hSw := QP _ hSw
       try dsimp only at hSw
       go_simp
       try with_reducible rfl
      try simp only [Act.put, List.setIfInBounds_toArray, List.set_cons_zero, List.set_cons_succ]
      refine AnyBut.ready (rs := [19]) (by kernel_rfl) (by simp) ?_
      refine Comes.cons (o := ?o_29) ?h_29 (fun K hK => ?s_29) Comes.nil
      case h_29 => (simp only [List.getElem?_toArray, List.getElem?_cons_succ, List.getElem?_cons_zero]; exact rfl)
      go_simp
      have hA5 : LQ (((w6.alloc (.cells #[.pointer none, .pointer (some ⟨gm, 0, none⟩), .int .i32 l0, .int .i32 1, .string et, .nilIface] 62)).alloc (.cells #[.pointer none, .iface 53 (.pointer (some ⟨w6.heap.size, 0, none⟩)), .pointer (some ⟨gm, 0, none⟩), .int .i32 l0, .int .i32 1, .int .i8 24, .iface T6 p6] 148))) := QA _ _ hLa
      refine hK.out _ _ (fun _ => hA5) ?_
      clear hK K
      try simp only [Act.put, List.setIfInBounds_toArray, List.set_cons_zero, List.set_cons_succ]
      refine AnyBut.take (i := 20) (oi := ?o_30) (v := ?v_30) ?h_30 (by kernel_rfl) (by kernel_rfl) (by kernel_rfl) (by kernel_rfl) ?q_30 (Or.inl ⟨?g_30, ?y_30⟩) hA5 ?r_30
      case h_30 => (simp only [List.getElem?_toArray, List.getElem?_cons_succ, List.getElem?_cons_zero]; exact rfl)
      case q_30 => exact fun _ _ _ h => h
      case g_30 => rfl
      case y_30 =>
       intro W hSw
       replace hSw := QP _ hSw
       try dsimp only at hSw
       go_simp
       try with_reducible rfl
      try simp only [Act.put, List.setIfInBounds_toArray, List.set_cons_zero, List.set_cons_succ]
      refine AnyBut.ready (rs := [21]) (by kernel_rfl) (by simp) ?_
      refine Comes.cons (o := ?o_31) ?h_31 (fun K hK => ?s_31) Comes.nil
      case h_31 => (simp only [List.getElem?_toArray, List.getElem?_cons_succ, List.getElem?_cons_zero]; exact rfl)
      go_simp
      have hA8 : LQ ((((w6.alloc (.cells #[.pointer none, .pointer (some ⟨gm, 0, none⟩), .int .i32 l0, .int .i32 1, .string et, .nilIface] 62)).alloc (.cells #[.pointer none, .iface 53 (.pointer (some ⟨w6.heap.size, 0, none⟩)), .pointer (some ⟨gm, 0, none⟩), .int .i32 l0, .int .i32 1, .int .i8 24, .iface T6 p6] 148)).alloc (.cells #[.iface 146 (.pointer (some ⟨w6.heap.size + 1, 0, none⟩))] 81))) := QA _ _ hA5
      refine hK.out _ _ (fun _ => hA8) ?_
      clear hK K
      try simp only [Act.put, List.setIfInBounds_toArray, List.set_cons_zero, List.set_cons_succ]
      have HM5 : Hid (Mk W gm nm vi6 vf6 (N + t.size + sizes (ts.take k) + d.size + 1) ((w6.alloc (.cells #[.pointer none, .pointer (some ⟨gm, 0, none⟩), .int .i32 l0, .int .i32 1, .string et, .nilIface] 62)).alloc (.cells #[.pointer none, .iface 53 (.pointer (some ⟨w6.heap.size, 0, none⟩)), .pointer (some ⟨gm, 0, none⟩), .int .i32 l0, .int .i32 1, .int .i8 24, .iface T6 p6] 148))) := Lib.hid ((HM7.out.after bA).more (Nat.le_add_right _ _))
      have HS5 : Hid (Stp gm vi' vf' (wr.alloc (.cells #[.int .i64 15, .int .i64 eo, .string et, .int .i64 efk, .bool efn, .slice ea1 en1 em1, .int .u64 efb, .string eft, .slice ea2 en2 em2, .slice (some ⟨g5, o5, none⟩) 1 em3, .slice ea4 en4 em4] 164)) vi6 vf6 ((w6.alloc (.cells #[.pointer none, .pointer (some ⟨gm, 0, none⟩), .int .i32 l0, .int .i32 1, .string et, .nilIface] 62)).alloc (.cells #[.pointer none, .iface 53 (.pointer (some ⟨w6.heap.size, 0, none⟩)), .pointer (some ⟨gm, 0, none⟩), .int .i32 l0, .int .i32 1, .int .i8 24, .iface T6 p6] 148))) := Lib.hid (HS3.out.trans (HS7.out.trans (Stp.of_below bA)))
      have HD5 : Hid (Nd (Sees ((w6.alloc (.cells #[.pointer none, .pointer (some ⟨gm, 0, none⟩), .int .i32 l0, .int .i32 1, .string et, .nilIface] 62)).alloc (.cells #[.pointer none, .iface 53 (.pointer (some ⟨w6.heap.size, 0, none⟩)), .pointer (some ⟨gm, 0, none⟩), .int .i32 l0, .int .i32 1, .int .i8 24, .iface T6 p6] 148)) (New (wr.alloc (.cells #[.int .i64 15, .int .i64 eo, .string et, .int .i64 efk, .bool efn, .slice ea1 en1 em1, .int .u64 efb, .string eft, .slice ea2 en2 em2, .slice (some ⟨g5, o5, none⟩) 1 em3, .slice ea4 en4 em4] 164)).heap.size gm vi6 vf6 ((w6.alloc (.cells #[.pointer none, .pointer (some ⟨gm, 0, none⟩), .int .i32 l0, .int .i32 1, .string et, .nilIface] 62)).alloc (.cells #[.pointer none, .iface 53 (.pointer (some ⟨w6.heap.size, 0, none⟩)), .pointer (some ⟨gm, 0, none⟩), .int .i32 l0, .int .i32 1, .int .i8 24, .iface T6 p6] 148)))) (.iface 146 (.pointer (some ⟨w6.heap.size + 1, 0, none⟩))) (.mk none [idt et, d])) := Lib.hid (by have := nd_two HM7.out (HDi.out.step (Stp.refl ..) HS3.out.size) (HD7.out.step (Stp.refl ..) HS3.out.size) (Nat.le_trans HS3.out.size HS7.out.size) 146 1 6 (#[.pointer none, .iface 53 (.pointer (some ⟨w6.heap.size, 0, none⟩)), .pointer (some ⟨gm, 0, none⟩), .int .i32 l0, .int .i32 1, .int .i8 24, .iface T6 p6]) 148 rfl rfl rfl; rw [sz1 w6] at this; exact this)
      have HRow : Hid ((((w6.alloc (.cells #[.pointer none, .pointer (some ⟨gm, 0, none⟩), .int .i32 l0, .int .i32 1, .string et, .nilIface] 62)).alloc (.cells #[.pointer none, .iface 53 (.pointer (some ⟨w6.heap.size, 0, none⟩)), .pointer (some ⟨gm, 0, none⟩), .int .i32 l0, .int .i32 1, .int .i8 24, .iface T6 p6] 148)).alloc (.cells #[.iface 146 (.pointer (some ⟨w6.heap.size + 1, 0, none⟩))] 81)).ownsRow w2.heap.size 81 1 (.slice VA k VC) k xs) := Lib.hid (by have := HO.out.rowAt HBX.out HS5.out (.cells #[.iface 146 (.pointer (some ⟨w6.heap.size + 1, 0, none⟩))] 81); rwa [HTk.out] at this)
      have HSrc : Hid (SrcAt (((w6.alloc (.cells #[.pointer none, .pointer (some ⟨gm, 0, none⟩), .int .i32 l0, .int .i32 1, .string et, .nilIface] 62)).alloc (.cells #[.pointer none, .iface 53 (.pointer (some ⟨w6.heap.size, 0, none⟩)), .pointer (some ⟨gm, 0, none⟩), .int .i32 l0, .int .i32 1, .int .i8 24, .iface T6 p6] 148)).alloc (.cells #[.iface 146 (.pointer (some ⟨w6.heap.size + 1, 0, none⟩))] 81)) (.slice (some ⟨w6.heap.size + 1 + 1, 0, none⟩) 1 1) 1 [.iface 146 (.pointer (some ⟨w6.heap.size + 1, 0, none⟩))]) := Lib.hid (by have := src_one ((w6.alloc (.cells #[.pointer none, .pointer (some ⟨gm, 0, none⟩), .int .i32 l0, .int .i32 1, .string et, .nilIface] 62)).alloc (.cells #[.pointer none, .iface 53 (.pointer (some ⟨w6.heap.size, 0, none⟩)), .pointer (some ⟨gm, 0, none⟩), .int .i32 l0, .int .i32 1, .int .i8 24, .iface T6 p6] 148)) (.iface 146 (.pointer (some ⟨w6.heap.size + 1, 0, none⟩))) 81; rwa [sz1 ((w6.alloc (.cells #[.pointer none, .pointer (some ⟨gm, 0, none⟩), .int .i32 l0, .int .i32 1, .string et, .nilIface] 62))), sz1 w6] at this)
      have HSz : Hid (w2.heap.size ≤ (((w6.alloc (.cells #[.pointer none, .pointer (some ⟨gm, 0, none⟩), .int .i32 l0, .int .i32 1, .string et, .nilIface] 62)).alloc (.cells #[.pointer none, .iface 53 (.pointer (some ⟨w6.heap.size, 0, none⟩)), .pointer (some ⟨gm, 0, none⟩), .int .i32 l0, .int .i32 1, .int .i8 24, .iface T6 p6] 148)).alloc (.cells #[.iface 146 (.pointer (some ⟨w6.heap.size + 1, 0, none⟩))] 81)).heap.size) := Lib.hid (by have := HO.out.st.size; have := HS5.out.size; have := HBX.out.size; rw [sz1 ((w6.alloc (.cells #[.pointer none, .pointer (some ⟨gm, 0, none⟩), .int .i32 l0, .int .i32 1, .string et, .nilIface] 62)).alloc (.cells #[.pointer none, .iface 53 (.pointer (some ⟨w6.heap.size, 0, none⟩)), .pointer (some ⟨gm, 0, none⟩), .int .i32 l0, .int .i32 1, .int .i8 24, .iface T6 p6] 148))]; omega)
      have HGe := Lib.hid (HS5.out.keep _ HSGx.out)
      refine AnyBut.ready (rs := [22]) (by kernel_rfl) (by simp) ?_
      refine Comes.cons (o := ?o_32) ?h_32 (fun K hK => ?s_32) Comes.nil
      case h_32 => (simp only [List.getElem?_toArray, List.getElem?_cons_succ, List.getElem?_cons_zero]; exact rfl)
      refine step_append_blk rfl (.tmp 73) (.tmp 90) 94 rfl w2.heap.size 81 i0 .nilIface 1 16 Tryz.underlying94 hi hz0 hz1 hz2 rfl (by decide) (.slice VA k VC) k xs (by rfl) (own_heap HRow.out rfl) (.slice (some ⟨w6.heap.size + 1 + 1, 0, none⟩) 1 1) 1 [.iface 146 (.pointer (some ⟨w6.heap.size + 1, 0, none⟩))] (by rfl) HSrc.out rfl (by intro y hy; obtain rfl := List.mem_singleton.1 hy; rfl) HL.out.1 HL.out.2 HSz.out ?_
      intro v' w4 ho4 hg4 hv4
      obtain ⟨A2, C2, rfl⟩ := own_len ho4
      have HP : Hid (OutsX w2.heap.size W gm nm (N + t.size + sizes (ts.take k) + d.size + 1) vi2 vf2 vi6 vf6 w2 81 (ts.take k ++ [.mk none [idt et, d]]) (xs ++ [.iface 146 (.pointer (some ⟨w6.heap.size + 1, 0, none⟩))]) (.slice A2 (k + 1) C2) w4) := Lib.hid (OutsX.push' (.cells #[.iface 146 (.pointer (some ⟨w6.heap.size + 1, 0, none⟩))] 81) HO.out HBX.out HM5.out HS5.out HD5.out ⟨rfl, rfl, rfl, rfl⟩ (by rw [HTk.out]; exact ho4) hg4 hv4 HM2.out.bel.size (Nat.lt_of_lt_of_le HSGr.out.1 HBX.out.size))
      have hgo4 : w4.heap[w2.heap.size]? = some (.cells #[.pointer none, .iface T2 p2, .pointer (some ⟨gm, 0, none⟩), .int .i32 l0, .int .i32 1, .slice VA k VC, .pointer (some ⟨gm, 0, none⟩), .int .i32 l0, .int .i32 1] 154) := grown_obj hg4 HVG.out HGe.out.1.1 HGe.out.2 ((Below.heap_alloc wr _ _ HSGr.out.1).trans HG.out)
      obtain ⟨r0, r1, r2, r3, r4, r5, r6, r7, r8, r9, r10⟩ := ev_cells0 HP.out.maker.bel HE5.out
      dsimp only at r0 r1 r2 r3 r4 r5 r6 r7 r8 r9 r10
      have FC : ∀ (a : Addr) (v : Value), (((w6.alloc (.cells #[.pointer none, .pointer (some ⟨gm, 0, none⟩), .int .i32 l0, .int .i32 1, .string et, .nilIface] 62)).alloc (.cells #[.pointer none, .iface 53 (.pointer (some ⟨w6.heap.size, 0, none⟩)), .pointer (some ⟨gm, 0, none⟩), .int .i32 l0, .int .i32 1, .int .i8 24, .iface T6 p6] 148))).cell? a = some v → (Value.slice VA k VC).ownBlock ≠ some a.block → w4.cell? a = some v := fun a v h hr => far_cell (w5 := ((w6.alloc (.cells #[.pointer none, .pointer (some ⟨gm, 0, none⟩), .int .i32 l0, .int .i32 1, .string et, .nilIface] 62)).alloc (.cells #[.pointer none, .iface 53 (.pointer (some ⟨w6.heap.size, 0, none⟩)), .pointer (some ⟨gm, 0, none⟩), .int .i32 l0, .int .i32 1, .int .i8 24, .iface T6 p6] 148))) (o := (.cells #[.iface 146 (.pointer (some ⟨w6.heap.size + 1, 0, none⟩))] 81)) rfl hg4 h hr
      have hA9 : LQ (w4) := QI _ ⟨FC _ _ (QP _ hA5).1 HVG.out, FC _ _ (QP _ hA5).2.1 HNe0.out, FC _ _ (QP _ hA5).2.2.1 HNe0.out, FC _ _ (QP _ hA5).2.2.2.1 HNe0.out, FC _ _ (QP _ hA5).2.2.2.2.1 HNe1.out, FC _ _ (QP _ hA5).2.2.2.2.2.1 HNe1.out, FC _ _ (QP _ hA5).2.2.2.2.2.2.1 HNe1.out, FC _ _ (QP _ hA5).2.2.2.2.2.2.2.1 HNe1.out, FC _ _ (QP _ hA5).2.2.2.2.2.2.2.2.1 HNe1.out, FC _ _ (QP _ hA5).2.2.2.2.2.2.2.2.2.1 HNe1.out, FC _ _ (QP _ hA5).2.2.2.2.2.2.2.2.2.2.1 HNe1.out, FC _ _ (QP _ hA5).2.2.2.2.2.2.2.2.2.2.2.1 HNe1.out, FC _ _ (QP _ hA5).2.2.2.2.2.2.2.2.2.2.2.2.1 HNe1.out, FC _ _ (QP _ hA5).2.2.2.2.2.2.2.2.2.2.2.2.2.1 HNe1.out, FC _ _ (QP _ hA5).2.2.2.2.2.2.2.2.2.2.2.2.2.2.1 HNe1.out, r0, r1, r2, r3, r4, r5, r6, r7, r8, r9, r10⟩
      have HV4 : Hid ((Value.slice A2 (k + 1) C2).ownBlock ≠ some w2.heap.size) := Lib.hid (block_ne hv4 HVG.out (Nat.lt_trans HGe.out.1.1 (lt1 _ _)))
      have HSG4 : Hid (Safe gm vi6 vf6 w4 w2.heap.size) := Lib.hid ⟨(Array.getElem?_eq_some_iff.1 hgo4).1, HGe.out.1.2⟩
      have HPX := Lib.hid (HP.out.setX (Nat.le_refl _) HM2.out.bel.size HSG4.out HV4.out 5 (.slice A2 (k + 1) C2))
      have HGX := Lib.hid (obj_set hgo4 5 (.slice A2 (k + 1) C2))
      have hf4 := obj_free hgo4
      clear ho4 hg4 hv4 hgo4 r0 r1 r2 r3 r4 r5 r6 r7 r8 r9 r10
      refine hK.out _ _ (fun _ => hA9) ?_
      clear hK K
      try simp only [Act.put, List.setIfInBounds_toArray, List.set_cons_zero, List.set_cons_succ]
      refine AnyBut.ready (rs := [23]) (by kernel_rfl) (by simp) ?_
      refine Comes.cons (o := ?o_33) ?h_33 (fun K hK => ?s_33) Comes.nil
      case h_33 => (simp only [List.getElem?_toArray, List.getElem?_cons_succ, List.getElem?_cons_zero]; exact rfl)
      go_simp
      refine hK.out _ _ (fun _ => hA9) ?_
      clear hK K
      try simp only [Act.put, List.setIfInBounds_toArray, List.set_cons_zero, List.set_cons_succ]
      refine AnyBut.ready (rs := [24]) (by kernel_rfl) (by simp) ?_
      refine Comes.cons (o := ?o_34) ?h_34 (fun K hK => ?s_34) Comes.nil
      case h_34 => (simp only [List.getElem?_toArray, List.getElem?_cons_succ, List.getElem?_cons_zero]; exact rfl)
      go_simp
      refine hK.out _ _ (fun _ => hA9) ?_
      clear hK K
      try simp only [Act.put, List.setIfInBounds_toArray, List.set_cons_zero, List.set_cons_succ]
      have h5 := (QP _ hA9).1
      refine AnyBut.ready (rs := [25]) (by kernel_rfl) (by simp) ?_
      refine Comes.cons (o := ?o_35) ?h_35 (fun K hK => ?s_35) Comes.nil
      case h_35 => (simp only [List.getElem?_toArray, List.getElem?_cons_succ, List.getElem?_cons_zero]; exact rfl)
      go_simp
      refine hK.out _ _ (fun h => absurd rfl h) ?_
      clear hK K
      try simp only [Act.put, List.setIfInBounds_toArray, List.set_cons_zero, List.set_cons_succ]
      refine AnyBut.done (by kernel_rfl) ?_ _
      go_wp2
      go_roundw
      case rel =>
       refine ⟨k + 1, vi6, vf6, xs ++ [.iface 146 (.pointer (some ⟨w6.heap.size + 1, 0, none⟩))], _, by omega, by go_num, ?_, HGX.out, HV4.out, HSG4.out.set _ _⟩
       rw [HTT.out, sizes_append]
       exact HPX.out.more (by simp only [sizes, Tr.size, idt]; omega)
      case measure =>
       simp [intOf]
       omega
    ·obtain rfl : en3 = 1 := hkr.len
     obtain ⟨g5, o5, cs0, rfl, ⟨_, he5⟩, u, rfl, hu⟩ := hkr.at 0 (by simp)
     have hus := HSh.out u _ hu
     obtain ⟨uk, uo, ut, ufk, ufn, ufm, ufb, uft, ufs, ugs, uhs⟩ := u
     obtain ⟨⟨ua1, un1, um1, rfl⟩, ⟨ua2, un2, um2, rfl⟩, ⟨ua3, un3, um3, rfl⟩, ⟨ua4, un4, um4, rfl⟩⟩ := hus
     have HE5 : Hid (∀ j, j < 11 → W.cell? ⟨g5, o5 + 0 * 11 + j, none⟩ = (EV.cells _)[j]?) := Lib.hid he5
     have HU : Hid (X _ d) := Lib.hid hu
     have HNd : Hid (N + t.size + sizes (ts.take k) + d.size ≤ 1000000) := Lib.hid (by have := HZ.out; have := HN.out; simp only [Tr.size, sizes] at *; omega)
     have qp : ∀ q v, w2.cell? ⟨wp.heap.size, q, none⟩ = some v → wr.cell? ⟨wp.heap.size, q, none⟩ = some v := fun q v h => ((HO.out.st.cell (a := ⟨wp.heap.size, q, none⟩) HSPw.out).trans h)
     have HSPr : Hid (Safe gm vi' vf' (wr.alloc (.cells #[.int .i64 16, .int .i64 eo, .string et, .int .i64 efk, .bool efn, .slice ea1 en1 em1, .int .u64 efb, .string eft, .slice ea2 en2 em2, .slice (some ⟨g5, o5, none⟩) 1 em3, .slice ea4 en4 em4] 164)) wp.heap.size) := Lib.hid ((HO.out.st.trans (Stp.of_below HBX.out)).keep _ HSPw.out).1
     have qx0 : (wr.alloc (.cells #[.int .i64 16, .int .i64 eo, .string et, .int .i64 efk, .bool efn, .slice ea1 en1 em1, .int .u64 efb, .string eft, .slice ea2 en2 em2, .slice (some ⟨g5, o5, none⟩) 1 em3, .slice ea4 en4 em4] 164)).cell? ⟨wp.heap.size, 0, none⟩ = some (.pointer (some ⟨gm, 0, none⟩)) := cell_al _ (qp _ _ (obj_cell HPo.out 0 _ rfl))
     have qx1 : (wr.alloc (.cells #[.int .i64 16, .int .i64 eo, .string et, .int .i64 efk, .bool efn, .slice ea1 en1 em1, .int .u64 efb, .string eft, .slice ea2 en2 em2, .slice (some ⟨g5, o5, none⟩) 1 em3, .slice ea4 en4 em4] 164)).cell? ⟨wp.heap.size, 1, none⟩ = some (.int .i32 l0) := cell_al _ (qp _ _ (obj_cell HPo.out 1 _ rfl))
     have qx2 : (wr.alloc (.cells #[.int .i64 16, .int .i64 eo, .string et, .int .i64 efk, .bool efn, .slice ea1 en1 em1, .int .u64 efb, .string eft, .slice ea2 en2 em2, .slice (some ⟨g5, o5, none⟩) 1 em3, .slice ea4 en4 em4] 164)).cell? ⟨wp.heap.size, 2, none⟩ = some (.int .i32 1) := cell_al _ (qp _ _ (obj_cell HPo.out 2 _ rfl))
     have HNe0 : Hid ((Value.slice VA k VC).ownBlock ≠ some wp.heap.size) := Lib.hid (fun e => by have := (HO.out.row.lt _ e).1; have := HSPw.out.1; omega)
     have x5X : (wr.alloc (.cells #[.int .i64 16, .int .i64 eo, .string et, .int .i64 efk, .bool efn, .slice ea1 en1 em1, .int .u64 efb, .string eft, .slice ea2 en2 em2, .slice (some ⟨g5, o5, none⟩) 1 em3, .slice ea4 en4 em4] 164)).cell? ⟨w2.heap.size, 5, none⟩ = some (.slice VA k VC) := cell_al _ x5
     have hbx := heap_alloc_new wr (.cells #[.int .i64 16, .int .i64 eo, .string et, .int .i64 efk, .bool efn, .slice ea1 en1 em1, .int .u64 efb, .string eft, .slice ea2 en2 em2, .slice (some ⟨g5, o5, none⟩) 1 em3, .slice ea4 en4 em4] 164)
     clear he5 hu hkr qp
     go_wp2_with fail
     refine (f34_mk W gm nm vi' vf' _ _ HMX.out).mono ?_
     rintro e w3 ⟨rfl, hM3, hS3⟩
     obtain ⟨y0, y1, y2, y3, y4, y5, y6, y7, y8, y9, y10⟩ := ev_cells0 hM3.bel HE5.out
     dsimp only at y0 y1 y2 y3 y4 y5 y6 y7 y8 y9 y10
     obtain ⟨LQ, QP, QI⟩ := named (fun w' => w'.cell? ⟨w2.heap.size, 5, none⟩ = some (.slice VA k VC) ∧ w'.cell? ⟨wp.heap.size, 0, none⟩ = some (.pointer (some ⟨gm, 0, none⟩)) ∧ w'.cell? ⟨wp.heap.size, 1, none⟩ = some (.int .i32 l0) ∧ w'.cell? ⟨wp.heap.size, 2, none⟩ = some (.int .i32 1) ∧ w'.cell? ⟨wr.heap.size, 0, none⟩ = some (.int .i64 16) ∧ w'.cell? ⟨wr.heap.size, 1, none⟩ = some (.int .i64 eo) ∧ w'.cell? ⟨wr.heap.size, 2, none⟩ = some (.string et) ∧ w'.cell? ⟨wr.heap.size, 3, none⟩ = some (.int .i64 efk) ∧ w'.cell? ⟨wr.heap.size, 4, none⟩ = some (.bool efn) ∧ w'.cell? ⟨wr.heap.size, 5, none⟩ = some (.slice ea1 en1 em1) ∧ w'.cell? ⟨wr.heap.size, 6, none⟩ = some (.int .u64 efb) ∧ w'.cell? ⟨wr.heap.size, 7, none⟩ = some (.string eft) ∧ w'.cell? ⟨wr.heap.size, 8, none⟩ = some (.slice ea2 en2 em2) ∧ w'.cell? ⟨wr.heap.size, 9, none⟩ = some (.slice (some ⟨g5, o5, none⟩) 1 em3) ∧ w'.cell? ⟨wr.heap.size, 10, none⟩ = some (.slice ea4 en4 em4) ∧ w'.cell? ⟨g5, o5, none⟩ = some (.int .i64 uk) ∧ w'.cell? ⟨g5, o5 + 1, none⟩ = some (.int .i64 uo) ∧ w'.cell? ⟨g5, o5 + 2, none⟩ = some (.string ut) ∧ w'.cell? ⟨g5, o5 + 3, none⟩ = some (.int .i64 ufk) ∧ w'.cell? ⟨g5, o5 + 4, none⟩ = some (.bool ufn) ∧ w'.cell? ⟨g5, o5 + 5, none⟩ = some (.slice ua1 un1 um1) ∧ w'.cell? ⟨g5, o5 + 6, none⟩ = some (.int .u64 ufb) ∧ w'.cell? ⟨g5, o5 + 7, none⟩ = some (.string uft) ∧ w'.cell? ⟨g5, o5 + 8, none⟩ = some (.slice ua2 un2 um2) ∧ w'.cell? ⟨g5, o5 + 9, none⟩ = some (.slice ua3 un3 um3) ∧ w'.cell? ⟨g5, o5 + 10, none⟩ = some (.slice ua4 un4 um4))
     have QA : ∀ (w' : World) (o : Obj), LQ w' → LQ (w'.alloc o) := fun _ _ h => QI _ ⟨cell_al _ (QP _ h).1, cell_al _ (QP _ h).2.1, cell_al _ (QP _ h).2.2.1, cell_al _ (QP _ h).2.2.2.1, cell_al _ (QP _ h).2.2.2.2.1, cell_al _ (QP _ h).2.2.2.2.2.1, cell_al _ (QP _ h).2.2.2.2.2.2.1, cell_al _ (QP _ h).2.2.2.2.2.2.2.1, cell_al _ (QP _ h).2.2.2.2.2.2.2.2.1, cell_al _ (QP _ h).2.2.2.2.2.2.2.2.2.1, cell_al _ (QP _ h).2.2.2.2.2.2.2.2.2.2.1, cell_al _ (QP _ h).2.2.2.2.2.2.2.2.2.2.2.1, cell_al _ (QP _ h).2.2.2.2.2.2.2.2.2.2.2.2.1, cell_al _ (QP _ h).2.2.2.2.2.2.2.2.2.2.2.2.2.1, cell_al _ (QP _ h).2.2.2.2.2.2.2.2.2.2.2.2.2.2.1, cell_al _ (QP _ h).2.2.2.2.2.2.2.2.2.2.2.2.2.2.2.1, cell_al _ (QP _ h).2.2.2.2.2.2.2.2.2.2.2.2.2.2.2.2.1, cell_al _ (QP _ h).2.2.2.2.2.2.2.2.2.2.2.2.2.2.2.2.2.1, cell_al _ (QP _ h).2.2.2.2.2.2.2.2.2.2.2.2.2.2.2.2.2.2.1, cell_al _ (QP _ h).2.2.2.2.2.2.2.2.2.2.2.2.2.2.2.2.2.2.2.1, cell_al _ (QP _ h).2.2.2.2.2.2.2.2.2.2.2.2.2.2.2.2.2.2.2.2.1, cell_al _ (QP _ h).2.2.2.2.2.2.2.2.2.2.2.2.2.2.2.2.2.2.2.2.2.1, cell_al _ (QP _ h).2.2.2.2.2.2.2.2.2.2.2.2.2.2.2.2.2.2.2.2.2.2.1, cell_al _ (QP _ h).2.2.2.2.2.2.2.2.2.2.2.2.2.2.2.2.2.2.2.2.2.2.2.1, cell_al _ (QP _ h).2.2.2.2.2.2.2.2.2.2.2.2.2.2.2.2.2.2.2.2.2.2.2.2.1, cell_al _ (QP _ h).2.2.2.2.2.2.2.2.2.2.2.2.2.2.2.2.2.2.2.2.2.2.2.2.2⟩
     have hL : LQ (w3.drew) := QI _ ⟨cell_dr ((hS3.cell (a := ⟨w2.heap.size, 5, none⟩) HSGx.out).trans x5X), cell_dr ((hS3.cell (a := ⟨wp.heap.size, 0, none⟩) HSPr.out).trans qx0), cell_dr ((hS3.cell (a := ⟨wp.heap.size, 1, none⟩) HSPr.out).trans qx1), cell_dr ((hS3.cell (a := ⟨wp.heap.size, 2, none⟩) HSPr.out).trans qx2), cell_dr ((hS3.cell (a := ⟨wr.heap.size, 0, none⟩) HSX.out).trans (obj_cell hbx 0 _ rfl)), cell_dr ((hS3.cell (a := ⟨wr.heap.size, 1, none⟩) HSX.out).trans (obj_cell hbx 1 _ rfl)), cell_dr ((hS3.cell (a := ⟨wr.heap.size, 2, none⟩) HSX.out).trans (obj_cell hbx 2 _ rfl)), cell_dr ((hS3.cell (a := ⟨wr.heap.size, 3, none⟩) HSX.out).trans (obj_cell hbx 3 _ rfl)), cell_dr ((hS3.cell (a := ⟨wr.heap.size, 4, none⟩) HSX.out).trans (obj_cell hbx 4 _ rfl)), cell_dr ((hS3.cell (a := ⟨wr.heap.size, 5, none⟩) HSX.out).trans (obj_cell hbx 5 _ rfl)), cell_dr ((hS3.cell (a := ⟨wr.heap.size, 6, none⟩) HSX.out).trans (obj_cell hbx 6 _ rfl)), cell_dr ((hS3.cell (a := ⟨wr.heap.size, 7, none⟩) HSX.out).trans (obj_cell hbx 7 _ rfl)), cell_dr ((hS3.cell (a := ⟨wr.heap.size, 8, none⟩) HSX.out).trans (obj_cell hbx 8 _ rfl)), cell_dr ((hS3.cell (a := ⟨wr.heap.size, 9, none⟩) HSX.out).trans (obj_cell hbx 9 _ rfl)), cell_dr ((hS3.cell (a := ⟨wr.heap.size, 10, none⟩) HSX.out).trans (obj_cell hbx 10 _ rfl)), cell_dr y0, cell_dr y1, cell_dr y2, cell_dr y3, cell_dr y4, cell_dr y5, cell_dr y6, cell_dr y7, cell_dr y8, cell_dr y9, cell_dr y10⟩
     have HM3 := Lib.hid hM3
     have HS3 := Lib.hid hS3
     have z0 : w3.cell? ⟨wr.heap.size, 0, none⟩ = some (.int .i64 16) := (HS3.out.cell (a := ⟨wr.heap.size, 0, none⟩) HSX.out).trans (by simp [go_sem])
     have HG3 : Hid (w3.heap[w2.heap.size]? = some (.cells #[.pointer none, .iface T2 p2, .pointer (some ⟨gm, 0, none⟩), .int .i32 l0, .int .i32 1, .slice VA k VC, .pointer (some ⟨gm, 0, none⟩), .int .i32 l0, .int .i32 1] 154)) := Lib.hid ((HS3.out.keep _ HSGx.out).2.trans ((Below.heap_alloc wr _ _ HSGr.out.1).trans HG.out))
     have HT3 := Lib.hid (fun k hk => (HS3.out.keep k hk).1)
     clear hM3 hS3 y0 y1 y2 y3 y4 y5 y6 y7 y8 y9 y10 qx0 qx1 qx2 x5X
     go_wp2_with fail
     refine wp_region_but LQ 19 (by kernel_rfl) ?_
     refine AnyBut.take (i := 0) (oi := ?o_37) (v := ?v_37) ?h_37 (by kernel_rfl) (by kernel_rfl) (by kernel_rfl) (by kernel_rfl) ?q_37 (Or.inl ⟨?g_37, ?y_37⟩) hL ?r_37
     case h_37 => (simp only [List.getElem?_toArray, List.getElem?_cons_zero]; exact rfl)
     case q_37 => exact fun _ _ _ h => h
     case g_37 => rfl
     case y_37 =>
      intro W hSw
      replace hSw := QP _ hSw
      try dsimp only at hSw
      go_simp
      try with_reducible rfl
     try simp only [Act.put, List.setIfInBounds_toArray, List.set_cons_zero, List.set_cons_succ]
     refine AnyBut.take (i := 1) (oi := ?o_38) (v := ?v_38) ?h_38 (by kernel_rfl) (by kernel_rfl) (by kernel_rfl) (by kernel_rfl) ?q_38 (Or.inl ⟨?g_38, ?y_38⟩) hL ?r_38
     case h_38 => (simp only [List.getElem?_toArray, List.getElem?_cons_succ, List.getElem?_cons_zero]; exact rfl)
     case q_38 => exact fun _ _ _ h => h
     case g_38 => rfl
     case y_38 =>
      intro W hSw
      replace hSw := QP _ hSw
      try dsimp only at hSw
      go_simp
      try with_reducible rfl
     try simp only [Act.put, List.setIfInBounds_toArray, List.set_cons_zero, List.set_cons_succ]
     refine AnyBut.take (i := 2) (oi := ?o_39) (v := ?v_39) ?h_39 (by kernel_rfl) (by kernel_rfl) (by kernel_rfl) (by kernel_rfl) ?q_39 (Or.inl ⟨?g_39, ?y_39⟩) hL ?r_39
     case h_39 => (simp only [List.getElem?_toArray, List.getElem?_cons_succ, List.getElem?_cons_zero]; exact rfl)
     case q_39 => exact fun _ _ _ h => h
     case g_39 => rfl
     case y_39 =>
      intro W hSw
      replace hSw := QP _ hSw
      try dsimp only at hSw
      go_simp
      try with_reducible rfl
     try simp only [Act.put, List.setIfInBounds_toArray, List.set_cons_zero, List.set_cons_succ]
     refine AnyBut.take (i := 3) (oi := ?o_40) (v := ?v_40) ?h_40 (by kernel_rfl) (by kernel_rfl) (by kernel_rfl) (by kernel_rfl) ?q_40 (Or.inl ⟨?g_40, ?y_40⟩) hL ?r_40
     case h_40 => (simp only [List.getElem?_toArray, List.getElem?_cons_succ, List.getElem?_cons_zero]; exact rfl)
     case q_40 => exact fun _ _ _ h => h
     case g_40 => rfl
     case y_40 =>
      intro W hSw
      replace hSw := QP _ hSw
      try dsimp only at hSw
      go_simp
      try with_reducible rfl
     try simp only [Act.put, List.setIfInBounds_toArray, List.set_cons_zero, List.set_cons_succ]
     refine AnyBut.take (i := 4) (oi := ?o_41) (v := ?v_41) ?h_41 (by kernel_rfl) (by kernel_rfl) (by kernel_rfl) (by kernel_rfl) ?q_41 (Or.inl ⟨?g_41, ?y_41⟩) hL ?r_41
     case h_41 => (simp only [List.getElem?_toArray, List.getElem?_cons_succ, List.getElem?_cons_zero]; exact rfl)
     case q_41 => exact fun _ _ _ h => h
     case g_41 => rfl
     case y_41 =>
      intro W hSw
      replace hSw := QP _ hSw
      try dsimp only at hSw
      go_simp
      try with_reducible rfl
     try simp only [Act.put, List.setIfInBounds_toArray, List.set_cons_zero, List.set_cons_succ]
     refine AnyBut.take (i := 5) (oi := ?o_42) (v := ?v_42) ?h_42 (by kernel_rfl) (by kernel_rfl) (by kernel_rfl) (by kernel_rfl) ?q_42 (Or.inl ⟨?g_42, ?y_42⟩) hL ?r_42
     case h_42 => (simp only [List.getElem?_toArray, List.getElem?_cons_succ, List.getElem?_cons_zero]; exact rfl)
     case q_42 => exact fun _ _ _ h => h
     case g_42 => rfl
     case y_42 =>
      intro W hSw
      replace hSw := QP _ hSw
      try dsimp only at hSw
      go_simp
      try with_reducible rfl
     try simp only [Act.put, List.setIfInBounds_toArray, List.set_cons_zero, List.set_cons_succ]
     refine AnyBut.take (i := 6) (oi := ?o_43) (v := ?v_43) ?h_43 (by kernel_rfl) (by kernel_rfl) (by kernel_rfl) (by kernel_rfl) ?q_43 (Or.inl ⟨?g_43, ?y_43⟩) hL ?r_43
     case h_43 => (simp only [List.getElem?_toArray, List.getElem?_cons_succ, List.getElem?_cons_zero]; exact rfl)
     case q_43 => exact fun _ _ _ h => h
     case g_43 => rfl
     case y_43 =>
      intro W hSw
      replace hSw := QP _ hSw
      try dsimp only at hSw
      go_simp
      try with_reducible rfl
     try simp only [Act.put, List.setIfInBounds_toArray, List.set_cons_zero, List.set_cons_succ]
     refine AnyBut.take (i := 7) (oi := ?o_44) (v := ?v_44) ?h_44 (by kernel_rfl) (by kernel_rfl) (by kernel_rfl) (by kernel_rfl) ?q_44 (Or.inl ⟨?g_44, ?y_44⟩) hL ?r_44
     case h_44 => (simp only [List.getElem?_toArray, List.getElem?_cons_succ, List.getElem?_cons_zero]; exact rfl)
     case q_44 => exact fun _ _ _ h => h
     case g_44 => rfl
     case y_44 =>
      intro W hSw
      replace hSw := QP _ hSw
      try dsimp only at hSw
      go_simp
      try with_reducible rfl
     try simp only [Act.put, List.setIfInBounds_toArray, List.set_cons_zero, List.set_cons_succ]
     refine AnyBut.take (i := 8) (oi := ?o_45) (v := ?v_45) ?h_45 (by kernel_rfl) (by kernel_rfl) (by kernel_rfl) (by kernel_rfl) ?q_45 (Or.inl ⟨?g_45, ?y_45⟩) hL ?r_45
     case h_45 => (simp only [List.getElem?_toArray, List.getElem?_cons_succ, List.getElem?_cons_zero]; exact rfl)
     case q_45 => exact fun _ _ _ h => h
     case g_45 => rfl
     case y_45 =>
      intro W hSw
      replace hSw := QP _ hSw
      try dsimp only at hSw
      go_simp
      try with_reducible rfl
     try simp only [Act.put, List.setIfInBounds_toArray, List.set_cons_zero, List.set_cons_succ]
     refine AnyBut.take (i := 9) (oi := ?o_46) (v := ?v_46) ?h_46 (by kernel_rfl) (by kernel_rfl) (by kernel_rfl) (by kernel_rfl) ?q_46 (Or.inl ⟨?g_46, ?y_46⟩) hL ?r_46
     case h_46 => (simp only [List.getElem?_toArray, List.getElem?_cons_succ, List.getElem?_cons_zero]; exact rfl)
     case q_46 => exact fun _ _ _ h => h
     case g_46 => rfl
     case y_46 =>
      intro W hSw
      replace hSw := QP _ hSw
      try dsimp only at hSw
      go_simp
      try with_reducible rfl
     try simp only [Act.put, List.setIfInBounds_toArray, List.set_cons_zero, List.set_cons_succ]
     refine AnyBut.take (i := 10) (oi := ?o_47) (v := ?v_47) ?h_47 (by kernel_rfl) (by kernel_rfl) (by kernel_rfl) (by kernel_rfl) ?q_47 (Or.inl ⟨?g_47, ?y_47⟩) hL ?r_47
     case h_47 => (simp only [List.getElem?_toArray, List.getElem?_cons_succ, List.getElem?_cons_zero]; exact rfl)
     case q_47 => exact fun _ _ _ h => h
     case g_47 => rfl
     case y_47 =>
      intro W hSw
      replace hSw := QP _ hSw
      try dsimp only at hSw
      go_simp
      try with_reducible rfl
     try simp only [Act.put, List.setIfInBounds_toArray, List.set_cons_zero, List.set_cons_succ]
     refine AnyBut.ready (rs := [11]) (by kernel_rfl) (by simp) ?_
     refine Comes.cons (o := ?o_48) ?h_48 (fun K hK => ?s_48) Comes.nil
     case h_48 => (simp only [List.getElem?_toArray, List.getElem?_cons_succ, List.getElem?_cons_zero]; exact rfl)
     go_simp
     go_at_call 43
     refine (HE.out _ d (N + t.size + sizes (ts.take k)) vi' vf' _ HU.out (HM3.out.after (Below.drewed (Below.refl _ _))) HNd.out).mono ?_
     rintro e w6 ⟨v6, vi6, vf6, rfl, hM6, hS6, hd6⟩
     obtain ⟨T6, p6, rfl⟩ := hd6.iface
     have hS6' : Stp gm vi' vf' w3 vi6 vf6 w6 := ⟨fun k hk => hS6.keep k hk, hS6.size⟩
     obtain ⟨r0, r1, r2, r3, r4, r5, r6, r7, r8, r9, r10⟩ := ev_cells0 hM6.bel HE5.out
     dsimp only at r0 r1 r2 r3 r4 r5 r6 r7 r8 r9 r10
     have hL6 : LQ (w6) := QI _ ⟨(hS6'.cell (a := ⟨w2.heap.size, 5, none⟩) (HT3.out _ HSGx.out)).trans (QP _ hL).1, (hS6'.cell (a := ⟨wp.heap.size, 0, none⟩) (HT3.out _ HSPr.out)).trans (QP _ hL).2.1, (hS6'.cell (a := ⟨wp.heap.size, 1, none⟩) (HT3.out _ HSPr.out)).trans (QP _ hL).2.2.1, (hS6'.cell (a := ⟨wp.heap.size, 2, none⟩) (HT3.out _ HSPr.out)).trans (QP _ hL).2.2.2.1, (hS6'.cell (a := ⟨wr.heap.size, 0, none⟩) (HT3.out _ HSX.out)).trans (QP _ hL).2.2.2.2.1, (hS6'.cell (a := ⟨wr.heap.size, 1, none⟩) (HT3.out _ HSX.out)).trans (QP _ hL).2.2.2.2.2.1, (hS6'.cell (a := ⟨wr.heap.size, 2, none⟩) (HT3.out _ HSX.out)).trans (QP _ hL).2.2.2.2.2.2.1, (hS6'.cell (a := ⟨wr.heap.size, 3, none⟩) (HT3.out _ HSX.out)).trans (QP _ hL).2.2.2.2.2.2.2.1, (hS6'.cell (a := ⟨wr.heap.size, 4, none⟩) (HT3.out _ HSX.out)).trans (QP _ hL).2.2.2.2.2.2.2.2.1, (hS6'.cell (a := ⟨wr.heap.size, 5, none⟩) (HT3.out _ HSX.out)).trans (QP _ hL).2.2.2.2.2.2.2.2.2.1, (hS6'.cell (a := ⟨wr.heap.size, 6, none⟩) (HT3.out _ HSX.out)).trans (QP _ hL).2.2.2.2.2.2.2.2.2.2.1, (hS6'.cell (a := ⟨wr.heap.size, 7, none⟩) (HT3.out _ HSX.out)).trans (QP _ hL).2.2.2.2.2.2.2.2.2.2.2.1, (hS6'.cell (a := ⟨wr.heap.size, 8, none⟩) (HT3.out _ HSX.out)).trans (QP _ hL).2.2.2.2.2.2.2.2.2.2.2.2.1, (hS6'.cell (a := ⟨wr.heap.size, 9, none⟩) (HT3.out _ HSX.out)).trans (QP _ hL).2.2.2.2.2.2.2.2.2.2.2.2.2.1, (hS6'.cell (a := ⟨wr.heap.size, 10, none⟩) (HT3.out _ HSX.out)).trans (QP _ hL).2.2.2.2.2.2.2.2.2.2.2.2.2.2.1, r0, r1, r2, r3, r4, r5, r6, r7, r8, r9, r10⟩
     have hd6' : Nd (Sees w6 (New (w3).heap.size gm vi6 vf6 w6)) (.iface T6 p6) d := hd6
     have HM6 := Lib.hid hM6
     have HS6 := Lib.hid hS6'
     have HD6 := Lib.hid hd6'
     clear hM6 hS6 hd6 hd6' hS6' r0 r1 r2 r3 r4 r5 r6 r7 r8 r9 r10
     refine hK.out _ _ (fun _ => hL6) ?_
     clear hK K
     try simp only [Act.put, List.setIfInBounds_toArray, List.set_cons_zero, List.set_cons_succ]
     have HM7 := HM6
     have HS7 := HS6
     refine AnyBut.take (i := 12) (oi := ?o_49) (v := ?v_49) ?h_49 (by kernel_rfl) (by kernel_rfl) (by kernel_rfl) (by kernel_rfl) ?q_49 (Or.inl ⟨?g_49, ?y_49⟩) hL6 ?r_49
     case h_49 => (simp only [List.getElem?_toArray, List.getElem?_cons_succ, List.getElem?_cons_zero]; exact rfl)
     case q_49 => exact fun _ _ _ h => h
     case g_49 => rfl
     case y_49 =>
      intro W hSw
      replace hSw := QP _ hSw
      try dsimp only at hSw
      go_simp
      try with_reducible rfl
     try simp only [Act.put, List.setIfInBounds_toArray, List.set_cons_zero, List.set_cons_succ]
     refine AnyBut.ready (rs := [13]) (by kernel_rfl) (by simp) ?_
     refine Comes.cons (o := ?o_50) ?h_50 (fun K hK => ?s_50) Comes.nil
     case h_50 => (simp only [List.getElem?_toArray, List.getElem?_cons_succ, List.getElem?_cons_zero]; exact rfl)
     go_simp
     have hA5 : LQ ((w6.alloc (.cells #[.pointer none, .pointer (some ⟨gm, 0, none⟩), .int .i32 l0, .int .i32 1, .int .i8 12, .iface T6 p6] 145))) := QA _ _ hL6
     refine hK.out _ _ (fun _ => hA5) ?_
     clear hK K
     try simp only [Act.put, List.setIfInBounds_toArray, List.set_cons_zero, List.set_cons_succ]
     refine AnyBut.take (i := 14) (oi := ?o_51) (v := ?v_51) ?h_51 (by kernel_rfl) (by kernel_rfl) (by kernel_rfl) (by kernel_rfl) ?q_51 (Or.inl ⟨?g_51, ?y_51⟩) hA5 ?r_51
     case h_51 => (simp only [List.getElem?_toArray, List.getElem?_cons_succ, List.getElem?_cons_zero]; exact rfl)
     case q_51 => exact fun _ _ _ h => h
     case g_51 => rfl
     case y_51 =>
      intro W hSw
      replace hSw := QP _ hSw
      try dsimp only at hSw
      go_simp
      try with_reducible rfl
     try simp only [Act.put, List.setIfInBounds_toArray, List.set_cons_zero, List.set_cons_succ]
     refine AnyBut.ready (rs := [15]) (by kernel_rfl) (by simp) ?_
     refine Comes.cons (o := ?o_52) ?h_52 (fun K hK => ?s_52) Comes.nil
     case h_52 => (simp only [List.getElem?_toArray, List.getElem?_cons_succ, List.getElem?_cons_zero]; exact rfl)
     go_simp
     have hA8 : LQ (((w6.alloc (.cells #[.pointer none, .pointer (some ⟨gm, 0, none⟩), .int .i32 l0, .int .i32 1, .int .i8 12, .iface T6 p6] 145)).alloc (.cells #[.iface 143 (.pointer (some ⟨w6.heap.size, 0, none⟩))] 81))) := QA _ _ hA5
     refine hK.out _ _ (fun _ => hA8) ?_
     clear hK K
     try simp only [Act.put, List.setIfInBounds_toArray, List.set_cons_zero, List.set_cons_succ]
     have HM5 : Hid (Mk W gm nm vi6 vf6 (N + t.size + sizes (ts.take k) + d.size + 0) (w6.alloc (.cells #[.pointer none, .pointer (some ⟨gm, 0, none⟩), .int .i32 l0, .int .i32 1, .int .i8 12, .iface T6 p6] 145))) := Lib.hid ((HM7.out.after bA).more (Nat.le_add_right _ _))
     have HS5 : Hid (Stp gm vi' vf' (wr.alloc (.cells #[.int .i64 16, .int .i64 eo, .string et, .int .i64 efk, .bool efn, .slice ea1 en1 em1, .int .u64 efb, .string eft, .slice ea2 en2 em2, .slice (some ⟨g5, o5, none⟩) 1 em3, .slice ea4 en4 em4] 164)) vi6 vf6 (w6.alloc (.cells #[.pointer none, .pointer (some ⟨gm, 0, none⟩), .int .i32 l0, .int .i32 1, .int .i8 12, .iface T6 p6] 145))) := Lib.hid (HS3.out.trans (HS7.out.trans (Stp.of_below bA)))
     have HD5 : Hid (Nd (Sees (w6.alloc (.cells #[.pointer none, .pointer (some ⟨gm, 0, none⟩), .int .i32 l0, .int .i32 1, .int .i8 12, .iface T6 p6] 145)) (New (wr.alloc (.cells #[.int .i64 16, .int .i64 eo, .string et, .int .i64 efk, .bool efn, .slice ea1 en1 em1, .int .u64 efb, .string eft, .slice ea2 en2 em2, .slice (some ⟨g5, o5, none⟩) 1 em3, .slice ea4 en4 em4] 164)).heap.size gm vi6 vf6 (w6.alloc (.cells #[.pointer none, .pointer (some ⟨gm, 0, none⟩), .int .i32 l0, .int .i32 1, .int .i8 12, .iface T6 p6] 145)))) (.iface 143 (.pointer (some ⟨w6.heap.size, 0, none⟩))) (.mk none [d])) := Lib.hid (nd_opt1 HM7.out (HD6.out.step (Stp.refl ..) HS3.out.size) (Nat.le_trans HS3.out.size HS7.out.size) 143 5 (#[.pointer none, .pointer (some ⟨gm, 0, none⟩), .int .i32 l0, .int .i32 1, .int .i8 12, .iface T6 p6]) 145 rfl rfl)
     have HRow : Hid (((w6.alloc (.cells #[.pointer none, .pointer (some ⟨gm, 0, none⟩), .int .i32 l0, .int .i32 1, .int .i8 12, .iface T6 p6] 145)).alloc (.cells #[.iface 143 (.pointer (some ⟨w6.heap.size, 0, none⟩))] 81)).ownsRow w2.heap.size 81 1 (.slice VA k VC) k xs) := Lib.hid (by have := HO.out.rowAt HBX.out HS5.out (.cells #[.iface 143 (.pointer (some ⟨w6.heap.size, 0, none⟩))] 81); rwa [HTk.out] at this)
     have HSrc : Hid (SrcAt ((w6.alloc (.cells #[.pointer none, .pointer (some ⟨gm, 0, none⟩), .int .i32 l0, .int .i32 1, .int .i8 12, .iface T6 p6] 145)).alloc (.cells #[.iface 143 (.pointer (some ⟨w6.heap.size, 0, none⟩))] 81)) (.slice (some ⟨w6.heap.size + 1, 0, none⟩) 1 1) 1 [.iface 143 (.pointer (some ⟨w6.heap.size, 0, none⟩))]) := Lib.hid (by have := src_one (w6.alloc (.cells #[.pointer none, .pointer (some ⟨gm, 0, none⟩), .int .i32 l0, .int .i32 1, .int .i8 12, .iface T6 p6] 145)) (.iface 143 (.pointer (some ⟨w6.heap.size, 0, none⟩))) 81; rwa [sz1 w6] at this)
     have HSz : Hid (w2.heap.size ≤ ((w6.alloc (.cells #[.pointer none, .pointer (some ⟨gm, 0, none⟩), .int .i32 l0, .int .i32 1, .int .i8 12, .iface T6 p6] 145)).alloc (.cells #[.iface 143 (.pointer (some ⟨w6.heap.size, 0, none⟩))] 81)).heap.size) := Lib.hid (by have := HO.out.st.size; have := HS5.out.size; have := HBX.out.size; rw [sz1 (w6.alloc (.cells #[.pointer none, .pointer (some ⟨gm, 0, none⟩), .int .i32 l0, .int .i32 1, .int .i8 12, .iface T6 p6] 145))]; omega)
     have HGe := Lib.hid (HS5.out.keep _ HSGx.out)
     refine AnyBut.ready (rs := [16]) (by kernel_rfl) (by simp) ?_
     refine Comes.cons (o := ?o_53) ?h_53 (fun K hK => ?s_53) Comes.nil
     case h_53 => (simp only [List.getElem?_toArray, List.getElem?_cons_succ, List.getElem?_cons_zero]; exact rfl)
     refine step_append_blk rfl (.tmp 100) (.tmp 111) 94 rfl w2.heap.size 81 i0 .nilIface 1 16 Tryz.underlying94 hi hz0 hz1 hz2 rfl (by decide) (.slice VA k VC) k xs (by rfl) (own_heap HRow.out rfl) (.slice (some ⟨w6.heap.size + 1, 0, none⟩) 1 1) 1 [.iface 143 (.pointer (some ⟨w6.heap.size, 0, none⟩))] (by rfl) HSrc.out rfl (by intro y hy; obtain rfl := List.mem_singleton.1 hy; rfl) HL.out.1 HL.out.2 HSz.out ?_
     intro v' w4 ho4 hg4 hv4
     obtain ⟨A2, C2, rfl⟩ := own_len ho4
     have HP : Hid (OutsX w2.heap.size W gm nm (N + t.size + sizes (ts.take k) + d.size + 0) vi2 vf2 vi6 vf6 w2 81 (ts.take k ++ [.mk none [d]]) (xs ++ [.iface 143 (.pointer (some ⟨w6.heap.size, 0, none⟩))]) (.slice A2 (k + 1) C2) w4) := Lib.hid (OutsX.push' (.cells #[.iface 143 (.pointer (some ⟨w6.heap.size, 0, none⟩))] 81) HO.out HBX.out HM5.out HS5.out HD5.out ⟨rfl, rfl, rfl, rfl⟩ (by rw [HTk.out]; exact ho4) hg4 hv4 HM2.out.bel.size (Nat.lt_of_lt_of_le HSGr.out.1 HBX.out.size))
     have hgo4 : w4.heap[w2.heap.size]? = some (.cells #[.pointer none, .iface T2 p2, .pointer (some ⟨gm, 0, none⟩), .int .i32 l0, .int .i32 1, .slice VA k VC, .pointer (some ⟨gm, 0, none⟩), .int .i32 l0, .int .i32 1] 154) := grown_obj hg4 HVG.out HGe.out.1.1 HGe.out.2 ((Below.heap_alloc wr _ _ HSGr.out.1).trans HG.out)
     obtain ⟨r0, r1, r2, r3, r4, r5, r6, r7, r8, r9, r10⟩ := ev_cells0 HP.out.maker.bel HE5.out
     dsimp only at r0 r1 r2 r3 r4 r5 r6 r7 r8 r9 r10
     have FC : ∀ (a : Addr) (v : Value), ((w6.alloc (.cells #[.pointer none, .pointer (some ⟨gm, 0, none⟩), .int .i32 l0, .int .i32 1, .int .i8 12, .iface T6 p6] 145))).cell? a = some v → (Value.slice VA k VC).ownBlock ≠ some a.block → w4.cell? a = some v := fun a v h hr => far_cell (w5 := (w6.alloc (.cells #[.pointer none, .pointer (some ⟨gm, 0, none⟩), .int .i32 l0, .int .i32 1, .int .i8 12, .iface T6 p6] 145))) (o := (.cells #[.iface 143 (.pointer (some ⟨w6.heap.size, 0, none⟩))] 81)) rfl hg4 h hr
     have hA9 : LQ (w4) := QI _ ⟨FC _ _ (QP _ hA5).1 HVG.out, FC _ _ (QP _ hA5).2.1 HNe0.out, FC _ _ (QP _ hA5).2.2.1 HNe0.out, FC _ _ (QP _ hA5).2.2.2.1 HNe0.out, FC _ _ (QP _ hA5).2.2.2.2.1 HNe1.out, FC _ _ (QP _ hA5).2.2.2.2.2.1 HNe1.out, FC _ _ (QP _ hA5).2.2.2.2.2.2.1 HNe1.out, FC _ _ (QP _ hA5).2.2.2.2.2.2.2.1 HNe1.out, FC _ _ (QP _ hA5).2.2.2.2.2.2.2.2.1 HNe1.out, FC _ _ (QP _ hA5).2.2.2.2.2.2.2.2.2.1 HNe1.out, FC _ _ (QP _ hA5).2.2.2.2.2.2.2.2.2.2.1 HNe1.out, FC _ _ (QP _ hA5).2.2.2.2.2.2.2.2.2.2.2.1 HNe1.out, FC _ _ (QP _ hA5).2.2.2.2.2.2.2.2.2.2.2.2.1 HNe1.out, FC _ _ (QP _ hA5).2.2.2.2.2.2.2.2.2.2.2.2.2.1 HNe1.out, FC _ _ (QP _ hA5).2.2.2.2.2.2.2.2.2.2.2.2.2.2.1 HNe1.out, r0, r1, r2, r3, r4, r5, r6, r7, r8, r9, r10⟩
     have HV4 : Hid ((Value.slice A2 (k + 1) C2).ownBlock ≠ some w2.heap.size) := Lib.hid (block_ne hv4 HVG.out (Nat.lt_trans HGe.out.1.1 (lt1 _ _)))
     have HSG4 : Hid (Safe gm vi6 vf6 w4 w2.heap.size) := Lib.hid ⟨(Array.getElem?_eq_some_iff.1 hgo4).1, HGe.out.1.2⟩
     have HPX := Lib.hid (HP.out.setX (Nat.le_refl _) HM2.out.bel.size HSG4.out HV4.out 5 (.slice A2 (k + 1) C2))
     have HGX := Lib.hid (obj_set hgo4 5 (.slice A2 (k + 1) C2))
     have hf4 := obj_free hgo4
     clear ho4 hg4 hv4 hgo4 r0 r1 r2 r3 r4 r5 r6 r7 r8 r9 r10
     refine hK.out _ _ (fun _ => hA9) ?_
     clear hK K
     try simp only [Act.put, List.setIfInBounds_toArray, List.set_cons_zero, List.set_cons_succ]
     refine AnyBut.ready (rs := [17]) (by kernel_rfl) (by simp) ?_
     refine Comes.cons (o := ?o_54) ?h_54 (fun K hK => ?s_54) Comes.nil
     case h_54 => (simp only [List.getElem?_toArray, List.getElem?_cons_succ, List.getElem?_cons_zero]; exact rfl)
     go_simp
     refine hK.out _ _ (fun _ => hA9) ?_
     clear hK K
     try simp only [Act.put, List.setIfInBounds_toArray, List.set_cons_zero, List.set_cons_succ]
     refine AnyBut.ready (rs := [18]) (by kernel_rfl) (by simp) ?_
     refine Comes.cons (o := ?o_55) ?h_55 (fun K hK => ?s_55) Comes.nil
     case h_55 => (simp only [List.getElem?_toArray, List.getElem?_cons_succ, List.getElem?_cons_zero]; exact rfl)
     go_simp
     refine hK.out _ _ (fun _ => hA9) ?_
     clear hK K
     try simp only [Act.put, List.setIfInBounds_toArray, List.set_cons_zero, List.set_cons_succ]
     have h5 := (QP _ hA9).1
     refine AnyBut.ready (rs := [19]) (by kernel_rfl) (by simp) ?_
     refine Comes.cons (o := ?o_56) ?h_56 (fun K hK => ?s_56) Comes.nil
     case h_56 => (simp only [List.getElem?_toArray, List.getElem?_cons_succ, List.getElem?_cons_zero]; exact rfl)
     go_simp
     refine hK.out _ _ (fun h => absurd rfl h) ?_
     clear hK K
     try simp only [Act.put, List.setIfInBounds_toArray, List.set_cons_zero, List.set_cons_succ]
     refine AnyBut.done (by kernel_rfl) ?_ _
     go_wp2
     go_roundw
     case rel =>
      refine ⟨k + 1, vi6, vf6, xs ++ [.iface 143 (.pointer (some ⟨w6.heap.size, 0, none⟩))], _, by omega, by go_num, ?_, HGX.out, HV4.out, HSG4.out.set _ _⟩
      rw [HTT.out, sizes_append]
      exact HPX.out.more (by simp only [sizes, Tr.size]; omega)
     case measure =>
      simp [intOf]
      omega
    ·obtain rfl : en3 = 1 := hkr.len
     obtain ⟨g5, o5, cs0, rfl, ⟨_, he5⟩, u, rfl, hu⟩ := hkr.at 0 (by simp)
     have hus := HSh.out u _ hu
     obtain ⟨uk, uo, ut, ufk, ufn, ufm, ufb, uft, ufs, ugs, uhs⟩ := u
     obtain ⟨⟨ua1, un1, um1, rfl⟩, ⟨ua2, un2, um2, rfl⟩, ⟨ua3, un3, um3, rfl⟩, ⟨ua4, un4, um4, rfl⟩⟩ := hus
     have HE5 : Hid (∀ j, j < 11 → W.cell? ⟨g5, o5 + 0 * 11 + j, none⟩ = (EV.cells _)[j]?) := Lib.hid he5
     have HU : Hid (X _ d) := Lib.hid hu
     have HNd : Hid (N + t.size + sizes (ts.take k) + d.size ≤ 1000000) := Lib.hid (by have := HZ.out; have := HN.out; simp only [Tr.size, sizes] at *; omega)
     have qp : ∀ q v, w2.cell? ⟨wp.heap.size, q, none⟩ = some v → wr.cell? ⟨wp.heap.size, q, none⟩ = some v := fun q v h => ((HO.out.st.cell (a := ⟨wp.heap.size, q, none⟩) HSPw.out).trans h)
     have HSPr : Hid (Safe gm vi' vf' (wr.alloc (.cells #[.int .i64 17, .int .i64 eo, .string et, .int .i64 efk, .bool efn, .slice ea1 en1 em1, .int .u64 efb, .string eft, .slice ea2 en2 em2, .slice (some ⟨g5, o5, none⟩) 1 em3, .slice ea4 en4 em4] 164)) wp.heap.size) := Lib.hid ((HO.out.st.trans (Stp.of_below HBX.out)).keep _ HSPw.out).1
     have qx0 : (wr.alloc (.cells #[.int .i64 17, .int .i64 eo, .string et, .int .i64 efk, .bool efn, .slice ea1 en1 em1, .int .u64 efb, .string eft, .slice ea2 en2 em2, .slice (some ⟨g5, o5, none⟩) 1 em3, .slice ea4 en4 em4] 164)).cell? ⟨wp.heap.size, 0, none⟩ = some (.pointer (some ⟨gm, 0, none⟩)) := cell_al _ (qp _ _ (obj_cell HPo.out 0 _ rfl))
     have qx1 : (wr.alloc (.cells #[.int .i64 17, .int .i64 eo, .string et, .int .i64 efk, .bool efn, .slice ea1 en1 em1, .int .u64 efb, .string eft, .slice ea2 en2 em2, .slice (some ⟨g5, o5, none⟩) 1 em3, .slice ea4 en4 em4] 164)).cell? ⟨wp.heap.size, 1, none⟩ = some (.int .i32 l0) := cell_al _ (qp _ _ (obj_cell HPo.out 1 _ rfl))
     have qx2 : (wr.alloc (.cells #[.int .i64 17, .int .i64 eo, .string et, .int .i64 efk, .bool efn, .slice ea1 en1 em1, .int .u64 efb, .string eft, .slice ea2 en2 em2, .slice (some ⟨g5, o5, none⟩) 1 em3, .slice ea4 en4 em4] 164)).cell? ⟨wp.heap.size, 2, none⟩ = some (.int .i32 1) := cell_al _ (qp _ _ (obj_cell HPo.out 2 _ rfl))
     have HNe0 : Hid ((Value.slice VA k VC).ownBlock ≠ some wp.heap.size) := Lib.hid (fun e => by have := (HO.out.row.lt _ e).1; have := HSPw.out.1; omega)
     have x5X : (wr.alloc (.cells #[.int .i64 17, .int .i64 eo, .string et, .int .i64 efk, .bool efn, .slice ea1 en1 em1, .int .u64 efb, .string eft, .slice ea2 en2 em2, .slice (some ⟨g5, o5, none⟩) 1 em3, .slice ea4 en4 em4] 164)).cell? ⟨w2.heap.size, 5, none⟩ = some (.slice VA k VC) := cell_al _ x5
     have hbx := heap_alloc_new wr (.cells #[.int .i64 17, .int .i64 eo, .string et, .int .i64 efk, .bool efn, .slice ea1 en1 em1, .int .u64 efb, .string eft, .slice ea2 en2 em2, .slice (some ⟨g5, o5, none⟩) 1 em3, .slice ea4 en4 em4] 164)
     clear he5 hu hkr qp
     go_wp2_with fail
     refine (f34_mk W gm nm vi' vf' _ _ HMX.out).mono ?_
     rintro e w3 ⟨rfl, hM3, hS3⟩
     obtain ⟨y0, y1, y2, y3, y4, y5, y6, y7, y8, y9, y10⟩ := ev_cells0 hM3.bel HE5.out
     dsimp only at y0 y1 y2 y3 y4 y5 y6 y7 y8 y9 y10
     obtain ⟨LQ, QP, QI⟩ := named (fun w' => w'.cell? ⟨w2.heap.size, 5, none⟩ = some (.slice VA k VC) ∧ w'.cell? ⟨wp.heap.size, 0, none⟩ = some (.pointer (some ⟨gm, 0, none⟩)) ∧ w'.cell? ⟨wp.heap.size, 1, none⟩ = some (.int .i32 l0) ∧ w'.cell? ⟨wp.heap.size, 2, none⟩ = some (.int .i32 1) ∧ w'.cell? ⟨wr.heap.size, 0, none⟩ = some (.int .i64 17) ∧ w'.cell? ⟨wr.heap.size, 1, none⟩ = some (.int .i64 eo) ∧ w'.cell? ⟨wr.heap.size, 2, none⟩ = some (.string et) ∧ w'.cell? ⟨wr.heap.size, 3, none⟩ = some (.int .i64 efk) ∧ w'.cell? ⟨wr.heap.size, 4, none⟩ = some (.bool efn) ∧ w'.cell? ⟨wr.heap.size, 5, none⟩ = some (.slice ea1 en1 em1) ∧ w'.cell? ⟨wr.heap.size, 6, none⟩ = some (.int .u64 efb) ∧ w'.cell? ⟨wr.heap.size, 7, none⟩ = some (.string eft) ∧ w'.cell? ⟨wr.heap.size, 8, none⟩ = some (.slice ea2 en2 em2) ∧ w'.cell? ⟨wr.heap.size, 9, none⟩ = some (.slice (some ⟨g5, o5, none⟩) 1 em3) ∧ w'.cell? ⟨wr.heap.size, 10, none⟩ = some (.slice ea4 en4 em4) ∧ w'.cell? ⟨g5, o5, none⟩ = some (.int .i64 uk) ∧ w'.cell? ⟨g5, o5 + 1, none⟩ = some (.int .i64 uo) ∧ w'.cell? ⟨g5, o5 + 2, none⟩ = some (.string ut) ∧ w'.cell? ⟨g5, o5 + 3, none⟩ = some (.int .i64 ufk) ∧ w'.cell? ⟨g5, o5 + 4, none⟩ = some (.bool ufn) ∧ w'.cell? ⟨g5, o5 + 5, none⟩ = some (.slice ua1 un1 um1) ∧ w'.cell? ⟨g5, o5 + 6, none⟩ = some (.int .u64 ufb) ∧ w'.cell? ⟨g5, o5 + 7, none⟩ = some (.string uft) ∧ w'.cell? ⟨g5, o5 + 8, none⟩ = some (.slice ua2 un2 um2) ∧ w'.cell? ⟨g5, o5 + 9, none⟩ = some (.slice ua3 un3 um3) ∧ w'.cell? ⟨g5, o5 + 10, none⟩ = some (.slice ua4 un4 um4))
     have QA : ∀ (w' : World) (o : Obj), LQ w' → LQ (w'.alloc o) := fun _ _ h => QI _ ⟨cell_al _ (QP _ h).1, cell_al _ (QP _ h).2.1, cell_al _ (QP _ h).2.2.1, cell_al _ (QP _ h).2.2.2.1, cell_al _ (QP _ h).2.2.2.2.1, cell_al _ (QP _ h).2.2.2.2.2.1, cell_al _ (QP _ h).2.2.2.2.2.2.1, cell_al _ (QP _ h).2.2.2.2.2.2.2.1, cell_al _ (QP _ h).2.2.2.2.2.2.2.2.1, cell_al _ (QP _ h).2.2.2.2.2.2.2.2.2.1, cell_al _ (QP _ h).2.2.2.2.2.2.2.2.2.2.1, cell_al _ (QP _ h).2.2.2.2.2.2.2.2.2.2.2.1, cell_al _ (QP _ h).2.2.2.2.2.2.2.2.2.2.2.2.1, cell_al _ (QP _ h).2.2.2.2.2.2.2.2.2.2.2.2.2.1, cell_al _ (QP _ h).2.2.2.2.2.2.2.2.2.2.2.2.2.2.1, cell_al _ (QP _ h).2.2.2.2.2.2.2.2.2.2.2.2.2.2.2.1, cell_al _ (QP _ h).2.2.2.2.2.2.2.2.2.2.2.2.2.2.2.2.1, cell_al _ (QP _ h).2.2.2.2.2.2.2.2.2.2.2.2.2.2.2.2.2.1, cell_al _ (QP _ h).2.2.2.2.2.2.2.2.2.2.2.2.2.2.2.2.2.2.1, cell_al _ (QP _ h).2.2.2.2.2.2.2.2.2.2.2.2.2.2.2.2.2.2.2.1, cell_al _ (QP _ h).2.2.2.2.2.2.2.2.2.2.2.2.2.2.2.2.2.2.2.2.1, cell_al _ (QP _ h).2.2.2.2.2.2.2.2.2.2.2.2.2.2.2.2.2.2.2.2.2.1, cell_al _ (QP _ h).2.2.2.2.2.2.2.2.2.2.2.2.2.2.2.2.2.2.2.2.2.2.1, cell_al _ (QP _ h).2.2.2.2.2.2.2.2.2.2.2.2.2.2.2.2.2.2.2.2.2.2.2.1, cell_al _ (QP _ h).2.2.2.2.2.2.2.2.2.2.2.2.2.2.2.2.2.2.2.2.2.2.2.2.1, cell_al _ (QP _ h).2.2.2.2.2.2.2.2.2.2.2.2.2.2.2.2.2.2.2.2.2.2.2.2.2⟩
     have hL : LQ (w3.drew) := QI _ ⟨cell_dr ((hS3.cell (a := ⟨w2.heap.size, 5, none⟩) HSGx.out).trans x5X), cell_dr ((hS3.cell (a := ⟨wp.heap.size, 0, none⟩) HSPr.out).trans qx0), cell_dr ((hS3.cell (a := ⟨wp.heap.size, 1, none⟩) HSPr.out).trans qx1), cell_dr ((hS3.cell (a := ⟨wp.heap.size, 2, none⟩) HSPr.out).trans qx2), cell_dr ((hS3.cell (a := ⟨wr.heap.size, 0, none⟩) HSX.out).trans (obj_cell hbx 0 _ rfl)), cell_dr ((hS3.cell (a := ⟨wr.heap.size, 1, none⟩) HSX.out).trans (obj_cell hbx 1 _ rfl)), cell_dr ((hS3.cell (a := ⟨wr.heap.size, 2, none⟩) HSX.out).trans (obj_cell hbx 2 _ rfl)), cell_dr ((hS3.cell (a := ⟨wr.heap.size, 3, none⟩) HSX.out).trans (obj_cell hbx 3 _ rfl)), cell_dr ((hS3.cell (a := ⟨wr.heap.size, 4, none⟩) HSX.out).trans (obj_cell hbx 4 _ rfl)), cell_dr ((hS3.cell (a := ⟨wr.heap.size, 5, none⟩) HSX.out).trans (obj_cell hbx 5 _ rfl)), cell_dr ((hS3.cell (a := ⟨wr.heap.size, 6, none⟩) HSX.out).trans (obj_cell hbx 6 _ rfl)), cell_dr ((hS3.cell (a := ⟨wr.heap.size, 7, none⟩) HSX.out).trans (obj_cell hbx 7 _ rfl)), cell_dr ((hS3.cell (a := ⟨wr.heap.size, 8, none⟩) HSX.out).trans (obj_cell hbx 8 _ rfl)), cell_dr ((hS3.cell (a := ⟨wr.heap.size, 9, none⟩) HSX.out).trans (obj_cell hbx 9 _ rfl)), cell_dr ((hS3.cell (a := ⟨wr.heap.size, 10, none⟩) HSX.out).trans (obj_cell hbx 10 _ rfl)), cell_dr y0, cell_dr y1, cell_dr y2, cell_dr y3, cell_dr y4, cell_dr y5, cell_dr y6, cell_dr y7, cell_dr y8, cell_dr y9, cell_dr y10⟩
     have HM3 := Lib.hid hM3
     have HS3 := Lib.hid hS3
     have z0 : w3.cell? ⟨wr.heap.size, 0, none⟩ = some (.int .i64 17) := (HS3.out.cell (a := ⟨wr.heap.size, 0, none⟩) HSX.out).trans (by simp [go_sem])
     have HG3 : Hid (w3.heap[w2.heap.size]? = some (.cells #[.pointer none, .iface T2 p2, .pointer (some ⟨gm, 0, none⟩), .int .i32 l0, .int .i32 1, .slice VA k VC, .pointer (some ⟨gm, 0, none⟩), .int .i32 l0, .int .i32 1] 154)) := Lib.hid ((HS3.out.keep _ HSGx.out).2.trans ((Below.heap_alloc wr _ _ HSGr.out.1).trans HG.out))
     have HT3 := Lib.hid (fun k hk => (HS3.out.keep k hk).1)
     clear hM3 hS3 y0 y1 y2 y3 y4 y5 y6 y7 y8 y9 y10 qx0 qx1 qx2 x5X
     go_wp2_with fail
     refine wp_region_but LQ 19 (by kernel_rfl) ?_
     refine AnyBut.take (i := 0) (oi := ?o_57) (v := ?v_57) ?h_57 (by kernel_rfl) (by kernel_rfl) (by kernel_rfl) (by kernel_rfl) ?q_57 (Or.inl ⟨?g_57, ?y_57⟩) hL ?r_57
     case h_57 => (simp only [List.getElem?_toArray, List.getElem?_cons_zero]; exact rfl)
     case q_57 => exact fun _ _ _ h => h
     case g_57 => rfl
     case y_57 =>
      intro W hSw
      replace hSw := QP _ hSw
      try dsimp only at hSw
      go_simp
      try with_reducible rfl
     try simp only [Act.put, List.setIfInBounds_toArray, List.set_cons_zero, List.set_cons_succ]
     refine AnyBut.take (i := 1) (oi := ?o_58) (v := ?v_58) ?h_58 (by kernel_rfl) (by kernel_rfl) (by kernel_rfl) (by kernel_rfl) ?q_58 (Or.inl ⟨?g_58, ?y_58⟩) hL ?r_58
     case h_58 => (simp only [List.getElem?_toArray, List.getElem?_cons_succ, List.getElem?_cons_zero]; exact rfl)
     case q_58 => exact fun _ _ _ h => h
     case g_58 => rfl
     case y_58 =>
      intro W hSw
      replace hSw := QP _ hSw
      try dsimp only at hSw
      go_simp
      try with_reducible rfl
     try simp only [Act.put, List.setIfInBounds_toArray, List.set_cons_zero, List.set_cons_succ]
     refine AnyBut.take (i := 2) (oi := ?o_59) (v := ?v_59) ?h_59 (by kernel_rfl) (by kernel_rfl) (by kernel_rfl) (by kernel_rfl) ?q_59 (Or.inl ⟨?g_59, ?y_59⟩) hL ?r_59
     case h_59 => (simp only [List.getElem?_toArray, List.getElem?_cons_succ, List.getElem?_cons_zero]; exact rfl)
     case q_59 => exact fun _ _ _ h => h
     case g_59 => rfl
     case y_59 =>
      intro W hSw
      replace hSw := QP _ hSw
      try dsimp only at hSw
      go_simp
      try with_reducible rfl
     try simp only [Act.put, List.setIfInBounds_toArray, List.set_cons_zero, List.set_cons_succ]
     refine AnyBut.take (i := 3) (oi := ?o_60) (v := ?v_60) ?h_60 (by kernel_rfl) (by kernel_rfl) (by kernel_rfl) (by kernel_rfl) ?q_60 (Or.inl ⟨?g_60, ?y_60⟩) hL ?r_60
     case h_60 => (simp only [List.getElem?_toArray, List.getElem?_cons_succ, List.getElem?_cons_zero]; exact rfl)
     case q_60 => exact fun _ _ _ h => h
     case g_60 => rfl
     case y_60 =>
      intro W hSw
      replace hSw := QP _ hSw
      try dsimp only at hSw
      go_simp
      try with_reducible rfl
     try simp only [Act.put, List.setIfInBounds_toArray, List.set_cons_zero, List.set_cons_succ]
     refine AnyBut.take (i := 4) (oi := ?o_61) (v := ?v_61) ?h_61 (by kernel_rfl) (by kernel_rfl) (by kernel_rfl) (by kernel_rfl) ?q_61 (Or.inl ⟨?g_61, ?y_61⟩) hL ?r_61
     case h_61 => (simp only [List.getElem?_toArray, List.getElem?_cons_succ, List.getElem?_cons_zero]; exact rfl)
     case q_61 => exact fun _ _ _ h => h
     case g_61 => rfl
     case y_61 =>
      intro W hSw
      replace hSw := QP _ hSw
      try dsimp only at hSw
      go_simp
      try with_reducible rfl
     try simp only [Act.put, List.setIfInBounds_toArray, List.set_cons_zero, List.set_cons_succ]
     refine AnyBut.take (i := 5) (oi := ?o_62) (v := ?v_62) ?h_62 (by kernel_rfl) (by kernel_rfl) (by kernel_rfl) (by kernel_rfl) ?q_62 (Or.inl ⟨?g_62, ?y_62⟩) hL ?r_62
     case h_62 => (simp only [List.getElem?_toArray, List.getElem?_cons_succ, List.getElem?_cons_zero]; exact rfl)
     case q_62 => exact fun _ _ _ h => h
     case g_62 => rfl
     case y_62 =>
      intro W hSw
      replace hSw := QP _ hSw
      try dsimp only at hSw
      go_simp
      try with_reducible rfl
     try simp only [Act.put, List.setIfInBounds_toArray, List.set_cons_zero, List.set_cons_succ]
     refine AnyBut.take (i := 6) (oi := ?o_63) (v := ?v_63) ?h_63 (by kernel_rfl) (by kernel_rfl) (by kernel_rfl) (by kernel_rfl) ?q_63 (Or.inl ⟨?g_63, ?y_63⟩) hL ?r_63
     case h_63 => (simp only [List.getElem?_toArray, List.getElem?_cons_succ, List.getElem?_cons_zero]; exact rfl)
     case q_63 => exact fun _ _ _ h => h
     case g_63 => rfl
     case y_63 =>
      intro W hSw
      replace hSw := QP _ hSw
      try dsimp only at hSw
      go_simp
      try with_reducible rfl
     try simp only [Act.put, List.setIfInBounds_toArray, List.set_cons_zero, List.set_cons_succ]
     refine AnyBut.take (i := 7) (oi := ?o_64) (v := ?v_64) ?h_64 (by kernel_rfl) (by kernel_rfl) (by kernel_rfl) (by kernel_rfl) ?q_64 (Or.inl ⟨?g_64, ?y_64⟩) hL ?r_64
     case h_64 => (simp only [List.getElem?_toArray, List.getElem?_cons_succ, List.getElem?_cons_zero]; exact rfl)
     case q_64 => exact fun _ _ _ h => h
     case g_64 => rfl
     case y_64 =>
      intro W hSw
      replace hSw := QP _ hSw
      try dsimp only at hSw
      go_simp
      try with_reducible rfl
     try simp only [Act.put, List.setIfInBounds_toArray, List.set_cons_zero, List.set_cons_succ]
     refine AnyBut.take (i := 8) (oi := ?o_65) (v := ?v_65) ?h_65 (by kernel_rfl) (by kernel_rfl) (by kernel_rfl) (by kernel_rfl) ?q_65 (Or.inl ⟨?g_65, ?y_65⟩) hL ?r_65
     case h_65 => (simp only [List.getElem?_toArray, List.getElem?_cons_succ, List.getElem?_cons_zero]; exact rfl)
     case q_65 => exact fun _ _ _ h => h
     case g_65 => rfl
     case y_65 =>
      intro W hSw
      replace hSw := QP _ hSw
      try dsimp only at hSw
      go_simp
      try with_reducible rfl
     try simp only [Act.put, List.setIfInBounds_toArray, List.set_cons_zero, List.set_cons_succ]
     refine AnyBut.take (i := 9) (oi := ?o_66) (v := ?v_66) ?h_66 (by kernel_rfl) (by kernel_rfl) (by kernel_rfl) (by kernel_rfl) ?q_66 (Or.inl ⟨?g_66, ?y_66⟩) hL ?r_66
     case h_66 => (simp only [List.getElem?_toArray, List.getElem?_cons_succ, List.getElem?_cons_zero]; exact rfl)
     case q_66 => exact fun _ _ _ h => h
     case g_66 => rfl
     case y_66 =>
      intro W hSw
      replace hSw := QP _ hSw
      try dsimp only at hSw
      go_simp
      try with_reducible rfl
     try simp only [Act.put, List.setIfInBounds_toArray, List.set_cons_zero, List.set_cons_succ]
     refine AnyBut.take (i := 10) (oi := ?o_67) (v := ?v_67) ?h_67 (by kernel_rfl) (by kernel_rfl) (by kernel_rfl) (by kernel_rfl) ?q_67 (Or.inl ⟨?g_67, ?y_67⟩) hL ?r_67
     case h_67 => (simp only [List.getElem?_toArray, List.getElem?_cons_succ, List.getElem?_cons_zero]; exact rfl)
     case q_67 => exact fun _ _ _ h => h
     case g_67 => rfl
     case y_67 =>
      intro W hSw
      replace hSw := QP _ hSw
      try dsimp only at hSw
      go_simp
      try with_reducible rfl
     try simp only [Act.put, List.setIfInBounds_toArray, List.set_cons_zero, List.set_cons_succ]
     refine AnyBut.ready (rs := [11]) (by kernel_rfl) (by simp) ?_
     refine Comes.cons (o := ?o_68) ?h_68 (fun K hK => ?s_68) Comes.nil
     case h_68 => (simp only [List.getElem?_toArray, List.getElem?_cons_succ, List.getElem?_cons_zero]; exact rfl)
     go_simp
     go_at_call 43
     refine (HE.out _ d (N + t.size + sizes (ts.take k)) vi' vf' _ HU.out (HM3.out.after (Below.drewed (Below.refl _ _))) HNd.out).mono ?_
     rintro e w6 ⟨v6, vi6, vf6, rfl, hM6, hS6, hd6⟩
     obtain ⟨T6, p6, rfl⟩ := hd6.iface
     have hS6' : Stp gm vi' vf' w3 vi6 vf6 w6 := ⟨fun k hk => hS6.keep k hk, hS6.size⟩
     obtain ⟨r0, r1, r2, r3, r4, r5, r6, r7, r8, r9, r10⟩ := ev_cells0 hM6.bel HE5.out
     dsimp only at r0 r1 r2 r3 r4 r5 r6 r7 r8 r9 r10
     have hL6 : LQ (w6) := QI _ ⟨(hS6'.cell (a := ⟨w2.heap.size, 5, none⟩) (HT3.out _ HSGx.out)).trans (QP _ hL).1, (hS6'.cell (a := ⟨wp.heap.size, 0, none⟩) (HT3.out _ HSPr.out)).trans (QP _ hL).2.1, (hS6'.cell (a := ⟨wp.heap.size, 1, none⟩) (HT3.out _ HSPr.out)).trans (QP _ hL).2.2.1, (hS6'.cell (a := ⟨wp.heap.size, 2, none⟩) (HT3.out _ HSPr.out)).trans (QP _ hL).2.2.2.1, (hS6'.cell (a := ⟨wr.heap.size, 0, none⟩) (HT3.out _ HSX.out)).trans (QP _ hL).2.2.2.2.1, (hS6'.cell (a := ⟨wr.heap.size, 1, none⟩) (HT3.out _ HSX.out)).trans (QP _ hL).2.2.2.2.2.1, (hS6'.cell (a := ⟨wr.heap.size, 2, none⟩) (HT3.out _ HSX.out)).trans (QP _ hL).2.2.2.2.2.2.1, (hS6'.cell (a := ⟨wr.heap.size, 3, none⟩) (HT3.out _ HSX.out)).trans (QP _ hL).2.2.2.2.2.2.2.1, (hS6'.cell (a := ⟨wr.heap.size, 4, none⟩) (HT3.out _ HSX.out)).trans (QP _ hL).2.2.2.2.2.2.2.2.1, (hS6'.cell (a := ⟨wr.heap.size, 5, none⟩) (HT3.out _ HSX.out)).trans (QP _ hL).2.2.2.2.2.2.2.2.2.1, (hS6'.cell (a := ⟨wr.heap.size, 6, none⟩) (HT3.out _ HSX.out)).trans (QP _ hL).2.2.2.2.2.2.2.2.2.2.1, (hS6'.cell (a := ⟨wr.heap.size, 7, none⟩) (HT3.out _ HSX.out)).trans (QP _ hL).2.2.2.2.2.2.2.2.2.2.2.1, (hS6'.cell (a := ⟨wr.heap.size, 8, none⟩) (HT3.out _ HSX.out)).trans (QP _ hL).2.2.2.2.2.2.2.2.2.2.2.2.1, (hS6'.cell (a := ⟨wr.heap.size, 9, none⟩) (HT3.out _ HSX.out)).trans (QP _ hL).2.2.2.2.2.2.2.2.2.2.2.2.2.1, (hS6'.cell (a := ⟨wr.heap.size, 10, none⟩) (HT3.out _ HSX.out)).trans (QP _ hL).2.2.2.2.2.2.2.2.2.2.2.2.2.2.1, r0, r1, r2, r3, r4, r5, r6, r7, r8, r9, r10⟩
     have hd6' : Nd (Sees w6 (New (w3).heap.size gm vi6 vf6 w6)) (.iface T6 p6) d := hd6
     have HM6 := Lib.hid hM6
     have HS6 := Lib.hid hS6'
     have HD6 := Lib.hid hd6'
     clear hM6 hS6 hd6 hd6' hS6' r0 r1 r2 r3 r4 r5 r6 r7 r8 r9 r10
     refine hK.out _ _ (fun _ => hL6) ?_
     clear hK K
     try simp only [Act.put, List.setIfInBounds_toArray, List.set_cons_zero, List.set_cons_succ]
     have HM7 := HM6
     have HS7 := HS6
     refine AnyBut.take (i := 12) (oi := ?o_69) (v := ?v_69) ?h_69 (by kernel_rfl) (by kernel_rfl) (by kernel_rfl) (by kernel_rfl) ?q_69 (Or.inl ⟨?g_69, ?y_69⟩) hL6 ?r_69
     case h_69 => (simp only [List.getElem?_toArray, List.getElem?_cons_succ, List.getElem?_cons_zero]; exact rfl)
     case q_69 => exact fun _ _ _ h => h
     case g_69 => rfl
     case y_69 =>
      intro W hSw
      replace hSw := QP _ hSw
      try dsimp only at hSw
      go_simp
      try with_reducible rfl
     try simp only [Act.put, List.setIfInBounds_toArray, List.set_cons_zero, List.set_cons_succ]
     refine AnyBut.ready (rs := [13]) (by kernel_rfl) (by simp) ?_
     refine Comes.cons (o := ?o_70) ?h_70 (fun K hK => ?s_70) Comes.nil
     case h_70 => (simp only [List.getElem?_toArray, List.getElem?_cons_succ, List.getElem?_cons_zero]; exact rfl)
     go_simp
     have hA5 : LQ ((w6.alloc (.cells #[.pointer none, .pointer (some ⟨gm, 0, none⟩), .int .i32 l0, .int .i32 1, .int .i8 50, .iface T6 p6] 145))) := QA _ _ hL6
     refine hK.out _ _ (fun _ => hA5) ?_
     clear hK K
     try simp only [Act.put, List.setIfInBounds_toArray, List.set_cons_zero, List.set_cons_succ]
     refine AnyBut.take (i := 14) (oi := ?o_71) (v := ?v_71) ?h_71 (by kernel_rfl) (by kernel_rfl) (by kernel_rfl) (by kernel_rfl) ?q_71 (Or.inl ⟨?g_71, ?y_71⟩) hA5 ?r_71
     case h_71 => (simp only [List.getElem?_toArray, List.getElem?_cons_succ, List.getElem?_cons_zero]; exact rfl)
     case q_71 => exact fun _ _ _ h => h
     case g_71 => rfl
     case y_71 =>
      intro W hSw
      replace hSw := QP _ hSw
      try dsimp only at hSw
      go_simp
      try with_reducible rfl
     try simp only [Act.put, List.setIfInBounds_toArray, List.set_cons_zero, List.set_cons_succ]
     refine AnyBut.ready (rs := [15]) (by kernel_rfl) (by simp) ?_
     refine Comes.cons (o := ?o_72) ?h_72 (fun K hK => ?s_72) Comes.nil
     case h_72 => (simp only [List.getElem?_toArray, List.getElem?_cons_succ, List.getElem?_cons_zero]; exact rfl)
     go_simp
     have hA8 : LQ (((w6.alloc (.cells #[.pointer none, .pointer (some ⟨gm, 0, none⟩), .int .i32 l0, .int .i32 1, .int .i8 50, .iface T6 p6] 145)).alloc (.cells #[.iface 143 (.pointer (some ⟨w6.heap.size, 0, none⟩))] 81))) := QA _ _ hA5
     refine hK.out _ _ (fun _ => hA8) ?_
     clear hK K
     try simp only [Act.put, List.setIfInBounds_toArray, List.set_cons_zero, List.set_cons_succ]
     have HM5 : Hid (Mk W gm nm vi6 vf6 (N + t.size + sizes (ts.take k) + d.size + 0) (w6.alloc (.cells #[.pointer none, .pointer (some ⟨gm, 0, none⟩), .int .i32 l0, .int .i32 1, .int .i8 50, .iface T6 p6] 145))) := Lib.hid ((HM7.out.after bA).more (Nat.le_add_right _ _))
     have HS5 : Hid (Stp gm vi' vf' (wr.alloc (.cells #[.int .i64 17, .int .i64 eo, .string et, .int .i64 efk, .bool efn, .slice ea1 en1 em1, .int .u64 efb, .string eft, .slice ea2 en2 em2, .slice (some ⟨g5, o5, none⟩) 1 em3, .slice ea4 en4 em4] 164)) vi6 vf6 (w6.alloc (.cells #[.pointer none, .pointer (some ⟨gm, 0, none⟩), .int .i32 l0, .int .i32 1, .int .i8 50, .iface T6 p6] 145))) := Lib.hid (HS3.out.trans (HS7.out.trans (Stp.of_below bA)))
     have HD5 : Hid (Nd (Sees (w6.alloc (.cells #[.pointer none, .pointer (some ⟨gm, 0, none⟩), .int .i32 l0, .int .i32 1, .int .i8 50, .iface T6 p6] 145)) (New (wr.alloc (.cells #[.int .i64 17, .int .i64 eo, .string et, .int .i64 efk, .bool efn, .slice ea1 en1 em1, .int .u64 efb, .string eft, .slice ea2 en2 em2, .slice (some ⟨g5, o5, none⟩) 1 em3, .slice ea4 en4 em4] 164)).heap.size gm vi6 vf6 (w6.alloc (.cells #[.pointer none, .pointer (some ⟨gm, 0, none⟩), .int .i32 l0, .int .i32 1, .int .i8 50, .iface T6 p6] 145)))) (.iface 143 (.pointer (some ⟨w6.heap.size, 0, none⟩))) (.mk none [d])) := Lib.hid (nd_opt1 HM7.out (HD6.out.step (Stp.refl ..) HS3.out.size) (Nat.le_trans HS3.out.size HS7.out.size) 143 5 (#[.pointer none, .pointer (some ⟨gm, 0, none⟩), .int .i32 l0, .int .i32 1, .int .i8 50, .iface T6 p6]) 145 rfl rfl)
     have HRow : Hid (((w6.alloc (.cells #[.pointer none, .pointer (some ⟨gm, 0, none⟩), .int .i32 l0, .int .i32 1, .int .i8 50, .iface T6 p6] 145)).alloc (.cells #[.iface 143 (.pointer (some ⟨w6.heap.size, 0, none⟩))] 81)).ownsRow w2.heap.size 81 1 (.slice VA k VC) k xs) := Lib.hid (by have := HO.out.rowAt HBX.out HS5.out (.cells #[.iface 143 (.pointer (some ⟨w6.heap.size, 0, none⟩))] 81); rwa [HTk.out] at this)
     have HSrc : Hid (SrcAt ((w6.alloc (.cells #[.pointer none, .pointer (some ⟨gm, 0, none⟩), .int .i32 l0, .int .i32 1, .int .i8 50, .iface T6 p6] 145)).alloc (.cells #[.iface 143 (.pointer (some ⟨w6.heap.size, 0, none⟩))] 81)) (.slice (some ⟨w6.heap.size + 1, 0, none⟩) 1 1) 1 [.iface 143 (.pointer (some ⟨w6.heap.size, 0, none⟩))]) := Lib.hid (by have := src_one (w6.alloc (.cells #[.pointer none, .pointer (some ⟨gm, 0, none⟩), .int .i32 l0, .int .i32 1, .int .i8 50, .iface T6 p6] 145)) (.iface 143 (.pointer (some ⟨w6.heap.size, 0, none⟩))) 81; rwa [sz1 w6] at this)
     have HSz : Hid (w2.heap.size ≤ ((w6.alloc (.cells #[.pointer none, .pointer (some ⟨gm, 0, none⟩), .int .i32 l0, .int .i32 1, .int .i8 50, .iface T6 p6] 145)).alloc (.cells #[.iface 143 (.pointer (some ⟨w6.heap.size, 0, none⟩))] 81)).heap.size) := Lib.hid (by have := HO.out.st.size; have := HS5.out.size; have := HBX.out.size; rw [sz1 (w6.alloc (.cells #[.pointer none, .pointer (some ⟨gm, 0, none⟩), .int .i32 l0, .int .i32 1, .int .i8 50, .iface T6 p6] 145))]; omega)
     have HGe := Lib.hid (HS5.out.keep _ HSGx.out)
     refine AnyBut.ready (rs := [16]) (by kernel_rfl) (by simp) ?_
     refine Comes.cons (o := ?o_73) ?h_73 (fun K hK => ?s_73) Comes.nil
     case h_73 => (simp only [List.getElem?_toArray, List.getElem?_cons_succ, List.getElem?_cons_zero]; exact rfl)
     refine step_append_blk rfl (.tmp 121) (.tmp 132) 94 rfl w2.heap.size 81 i0 .nilIface 1 16 Tryz.underlying94 hi hz0 hz1 hz2 rfl (by decide) (.slice VA k VC) k xs (by rfl) (own_heap HRow.out rfl) (.slice (some ⟨w6.heap.size + 1, 0, none⟩) 1 1) 1 [.iface 143 (.pointer (some ⟨w6.heap.size, 0, none⟩))] (by rfl) HSrc.out rfl (by intro y hy; obtain rfl := List.mem_singleton.1 hy; rfl) HL.out.1 HL.out.2 HSz.out ?_
     intro v' w4 ho4 hg4 hv4
     obtain ⟨A2, C2, rfl⟩ := own_len ho4
     have HP : Hid (OutsX w2.heap.size W gm nm (N + t.size + sizes (ts.take k) + d.size + 0) vi2 vf2 vi6 vf6 w2 81 (ts.take k ++ [.mk none [d]]) (xs ++ [.iface 143 (.pointer (some ⟨w6.heap.size, 0, none⟩))]) (.slice A2 (k + 1) C2) w4) := Lib.hid (OutsX.push' (.cells #[.iface 143 (.pointer (some ⟨w6.heap.size, 0, none⟩))] 81) HO.out HBX.out HM5.out HS5.out HD5.out ⟨rfl, rfl, rfl, rfl⟩ (by rw [HTk.out]; exact ho4) hg4 hv4 HM2.out.bel.size (Nat.lt_of_lt_of_le HSGr.out.1 HBX.out.size))
     have hgo4 : w4.heap[w2.heap.size]? = some (.cells #[.pointer none, .iface T2 p2, .pointer (some ⟨gm, 0, none⟩), .int .i32 l0, .int .i32 1, .slice VA k VC, .pointer (some ⟨gm, 0, none⟩), .int .i32 l0, .int .i32 1] 154) := grown_obj hg4 HVG.out HGe.out.1.1 HGe.out.2 ((Below.heap_alloc wr _ _ HSGr.out.1).trans HG.out)
     obtain ⟨r0, r1, r2, r3, r4, r5, r6, r7, r8, r9, r10⟩ := ev_cells0 HP.out.maker.bel HE5.out
     dsimp only at r0 r1 r2 r3 r4 r5 r6 r7 r8 r9 r10
     have FC : ∀ (a : Addr) (v : Value), ((w6.alloc (.cells #[.pointer none, .pointer (some ⟨gm, 0, none⟩), .int .i32 l0, .int .i32 1, .int .i8 50, .iface T6 p6] 145))).cell? a = some v → (Value.slice VA k VC).ownBlock ≠ some a.block → w4.cell? a = some v := fun a v h hr => far_cell (w5 := (w6.alloc (.cells #[.pointer none, .pointer (some ⟨gm, 0, none⟩), .int .i32 l0, .int .i32 1, .int .i8 50, .iface T6 p6] 145))) (o := (.cells #[.iface 143 (.pointer (some ⟨w6.heap.size, 0, none⟩))] 81)) rfl hg4 h hr
     have hA9 : LQ (w4) := QI _ ⟨FC _ _ (QP _ hA5).1 HVG.out, FC _ _ (QP _ hA5).2.1 HNe0.out, FC _ _ (QP _ hA5).2.2.1 HNe0.out, FC _ _ (QP _ hA5).2.2.2.1 HNe0.out, FC _ _ (QP _ hA5).2.2.2.2.1 HNe1.out, FC _ _ (QP _ hA5).2.2.2.2.2.1 HNe1.out, FC _ _ (QP _ hA5).2.2.2.2.2.2.1 HNe1.out, FC _ _ (QP _ hA5).2.2.2.2.2.2.2.1 HNe1.out, FC _ _ (QP _ hA5).2.2.2.2.2.2.2.2.1 HNe1.out, FC _ _ (QP _ hA5).2.2.2.2.2.2.2.2.2.1 HNe1.out, FC _ _ (QP _ hA5).2.2.2.2.2.2.2.2.2.2.1 HNe1.out, FC _ _ (QP _ hA5).2.2.2.2.2.2.2.2.2.2.2.1 HNe1.out, FC _ _ (QP _ hA5).2.2.2.2.2.2.2.2.2.2.2.2.1 HNe1.out, FC _ _ (QP _ hA5).2.2.2.2.2.2.2.2.2.2.2.2.2.1 HNe1.out, FC _ _ (QP _ hA5).2.2.2.2.2.2.2.2.2.2.2.2.2.2.1 HNe1.out, r0, r1, r2, r3, r4, r5, r6, r7, r8, r9, r10⟩
     have HV4 : Hid ((Value.slice A2 (k + 1) C2).ownBlock ≠ some w2.heap.size) := Lib.hid (block_ne hv4 HVG.out (Nat.lt_trans HGe.out.1.1 (lt1 _ _)))
     have HSG4 : Hid (Safe gm vi6 vf6 w4 w2.heap.size) := Lib.hid ⟨(Array.getElem?_eq_some_iff.1 hgo4).1, HGe.out.1.2⟩
     have HPX := Lib.hid (HP.out.setX (Nat.le_refl _) HM2.out.bel.size HSG4.out HV4.out 5 (.slice A2 (k + 1) C2))
     have HGX := Lib.hid (obj_set hgo4 5 (.slice A2 (k + 1) C2))
     have hf4 := obj_free hgo4
     clear ho4 hg4 hv4 hgo4 r0 r1 r2 r3 r4 r5 r6 r7 r8 r9 r10
     refine hK.out _ _ (fun _ => hA9) ?_
     clear hK K
     try simp only [Act.put, List.setIfInBounds_toArray, List.set_cons_zero, List.set_cons_succ]
     refine AnyBut.ready (rs := [17]) (by kernel_rfl) (by simp) ?_
     refine Comes.cons (o := ?o_74) ?h_74 (fun K hK => ?s_74) Comes.nil
     case h_74 => (simp only [List.getElem?_toArray, List.getElem?_cons_succ, List.getElem?_cons_zero]; exact rfl)
     go_simp
     refine hK.out _ _ (fun _ => hA9) ?_
     clear hK K
     try simp only [Act.put, List.setIfInBounds_toArray, List.set_cons_zero, List.set_cons_succ]
     refine AnyBut.ready (rs := [18]) (by kernel_rfl) (by simp) ?_
     refine Comes.cons (o := ?o_75) ?h_75 (fun K hK => ?s_75) Comes.nil
     case h_75 => (simp only [List.getElem?_toArray, List.getElem?_cons_succ, List.getElem?_cons_zero]; exact rfl)
     go_simp
     refine hK.out _ _ (fun _ => hA9) ?_
     clear hK K
     try simp only [Act.put, List.setIfInBounds_toArray, List.set_cons_zero, List.set_cons_succ]
     have h5 := (QP _ hA9).1
     refine AnyBut.ready (rs := [19]) (by kernel_rfl) (by simp) ?_
     refine Comes.cons (o := ?o_76) ?h_76 (fun K hK => ?s_76) Comes.nil
     case h_76 => (simp only [List.getElem?_toArray, List.getElem?_cons_succ, List.getElem?_cons_zero]; exact rfl)
     go_simp
     refine hK.out _ _ (fun h => absurd rfl h) ?_
     clear hK K
     try simp only [Act.put, List.setIfInBounds_toArray, List.set_cons_zero, List.set_cons_succ]
     refine AnyBut.done (by kernel_rfl) ?_ _
     go_wp2
     go_roundw
     case rel =>
      refine ⟨k + 1, vi6, vf6, xs ++ [.iface 143 (.pointer (some ⟨w6.heap.size, 0, none⟩))], _, by omega, by go_num, ?_, HGX.out, HV4.out, HSG4.out.set _ _⟩
      rw [HTT.out, sizes_append]
      exact HPX.out.more (by simp only [sizes, Tr.size]; omega)
     case measure =>
      simp [intOf]
      omega
    ·have b15 := int_ne _ _ h15
     have b16 := int_ne _ _ h16
     have b17 := int_ne _ _ h17
     have HXk := Lib.hid hXk
     have HN6 : Hid (N + t.size + sizes (ts.take k) + tt.size ≤ 1000000) := Lib.hid (by have := HZ.out; have := HN.out; omega)
     clear h15 h16 h17 hXk
     obtain ⟨LQ, QP, QI⟩ := named (fun w' => w'.cell? ⟨w2.heap.size, 5, none⟩ = some (.slice VA k VC) ∧ w'.cell? ⟨wr.heap.size, 0, none⟩ = some (.int .i64 ek) ∧ w'.cell? ⟨wr.heap.size, 1, none⟩ = some (.int .i64 eo) ∧ w'.cell? ⟨wr.heap.size, 2, none⟩ = some (.string et) ∧ w'.cell? ⟨wr.heap.size, 3, none⟩ = some (.int .i64 efk) ∧ w'.cell? ⟨wr.heap.size, 4, none⟩ = some (.bool efn) ∧ w'.cell? ⟨wr.heap.size, 5, none⟩ = some (.slice ea1 en1 em1) ∧ w'.cell? ⟨wr.heap.size, 6, none⟩ = some (.int .u64 efb) ∧ w'.cell? ⟨wr.heap.size, 7, none⟩ = some (.string eft) ∧ w'.cell? ⟨wr.heap.size, 8, none⟩ = some (.slice ea2 en2 em2) ∧ w'.cell? ⟨wr.heap.size, 9, none⟩ = some (.slice ea3 en3 em3) ∧ w'.cell? ⟨wr.heap.size, 10, none⟩ = some (.slice ea4 en4 em4))
     have QA : ∀ (w' : World) (o : Obj), LQ w' → LQ (w'.alloc o) := fun _ _ h => QI _ ⟨cell_al _ (QP _ h).1, cell_al _ (QP _ h).2.1, cell_al _ (QP _ h).2.2.1, cell_al _ (QP _ h).2.2.2.1, cell_al _ (QP _ h).2.2.2.2.1, cell_al _ (QP _ h).2.2.2.2.2.1, cell_al _ (QP _ h).2.2.2.2.2.2.1, cell_al _ (QP _ h).2.2.2.2.2.2.2.1, cell_al _ (QP _ h).2.2.2.2.2.2.2.2.1, cell_al _ (QP _ h).2.2.2.2.2.2.2.2.2.1, cell_al _ (QP _ h).2.2.2.2.2.2.2.2.2.2.1, cell_al _ (QP _ h).2.2.2.2.2.2.2.2.2.2.2⟩
     have hL : LQ ((wr.alloc (.cells #[.int .i64 ek, .int .i64 eo, .string et, .int .i64 efk, .bool efn, .slice ea1 en1 em1, .int .u64 efb, .string eft, .slice ea2 en2 em2, .slice ea3 en3 em3, .slice ea4 en4 em4] 164)).drew) := QI _ ⟨cell_dr (cell_al _ x5), by simp [go_sem], by simp [go_sem], by simp [go_sem], by simp [go_sem], by simp [go_sem], by simp [go_sem], by simp [go_sem], by simp [go_sem], by simp [go_sem], by simp [go_sem], by simp [go_sem]⟩
     go_wp2_with fail
     refine wp_region_but LQ 12 (by kernel_rfl) ?_
     refine AnyBut.take (i := 0) (oi := ?o_77) (v := ?v_77) ?h_77 (by kernel_rfl) (by kernel_rfl) (by kernel_rfl) (by kernel_rfl) ?q_77 (Or.inl ⟨?g_77, ?y_77⟩) hL ?r_77
     case h_77 => (simp only [List.getElem?_toArray, List.getElem?_cons_zero]; exact rfl)
     case q_77 => exact fun _ _ _ h => h
     case g_77 => rfl
     case y_77 =>
      intro W hSw
      replace hSw := QP _ hSw
      try dsimp only at hSw
      go_simp
      try with_reducible rfl
     try simp only [Act.put, List.setIfInBounds_toArray, List.set_cons_zero, List.set_cons_succ]
     refine AnyBut.take (i := 1) (oi := ?o_78) (v := ?v_78) ?h_78 (by kernel_rfl) (by kernel_rfl) (by kernel_rfl) (by kernel_rfl) ?q_78 (Or.inl ⟨?g_78, ?y_78⟩) hL ?r_78
     case h_78 => (simp only [List.getElem?_toArray, List.getElem?_cons_succ, List.getElem?_cons_zero]; exact rfl)
     case q_78 => exact fun _ _ _ h => h
     case g_78 => rfl
     case y_78 =>
      intro W hSw
      replace hSw := QP _ hSw
      try dsimp only at hSw
      go_simp
      try with_reducible rfl
     try simp only [Act.put, List.setIfInBounds_toArray, List.set_cons_zero, List.set_cons_succ]
     refine AnyBut.take (i := 2) (oi := ?o_79) (v := ?v_79) ?h_79 (by kernel_rfl) (by kernel_rfl) (by kernel_rfl) (by kernel_rfl) ?q_79 (Or.inl ⟨?g_79, ?y_79⟩) hL ?r_79
     case h_79 => (simp only [List.getElem?_toArray, List.getElem?_cons_succ, List.getElem?_cons_zero]; exact rfl)
     case q_79 => exact fun _ _ _ h => h
     case g_79 => rfl
     case y_79 =>
      intro W hSw
      replace hSw := QP _ hSw
      try dsimp only at hSw
      go_simp
      try with_reducible rfl
     try simp only [Act.put, List.setIfInBounds_toArray, List.set_cons_zero, List.set_cons_succ]
     refine AnyBut.take (i := 3) (oi := ?o_80) (v := ?v_80) ?h_80 (by kernel_rfl) (by kernel_rfl) (by kernel_rfl) (by kernel_rfl) ?q_80 (Or.inl ⟨?g_80, ?y_80⟩) hL ?r_80
     case h_80 => (simp only [List.getElem?_toArray, List.getElem?_cons_succ, List.getElem?_cons_zero]; exact rfl)
     case q_80 => exact fun _ _ _ h => h
     case g_80 => rfl
     case y_80 =>
      intro W hSw
      replace hSw := QP _ hSw
      try dsimp only at hSw
      go_simp
      try with_reducible rfl
     try simp only [Act.put, List.setIfInBounds_toArray, List.set_cons_zero, List.set_cons_succ]
     refine AnyBut.take (i := 4) (oi := ?o_81) (v := ?v_81) ?h_81 (by kernel_rfl) (by kernel_rfl) (by kernel_rfl) (by kernel_rfl) ?q_81 (Or.inl ⟨?g_81, ?y_81⟩) hL ?r_81
     case h_81 => (simp only [List.getElem?_toArray, List.getElem?_cons_succ, List.getElem?_cons_zero]; exact rfl)
     case q_81 => exact fun _ _ _ h => h
     case g_81 => rfl
     case y_81 =>
      intro W hSw
      replace hSw := QP _ hSw
      try dsimp only at hSw
      go_simp
      try with_reducible rfl
     try simp only [Act.put, List.setIfInBounds_toArray, List.set_cons_zero, List.set_cons_succ]
     refine AnyBut.take (i := 5) (oi := ?o_82) (v := ?v_82) ?h_82 (by kernel_rfl) (by kernel_rfl) (by kernel_rfl) (by kernel_rfl) ?q_82 (Or.inl ⟨?g_82, ?y_82⟩) hL ?r_82
     case h_82 => (simp only [List.getElem?_toArray, List.getElem?_cons_succ, List.getElem?_cons_zero]; exact rfl)
     case q_82 => exact fun _ _ _ h => h
     case g_82 => rfl
     case y_82 =>
      intro W hSw
      replace hSw := QP _ hSw
      try dsimp only at hSw
      go_simp
      try with_reducible rfl
     try simp only [Act.put, List.setIfInBounds_toArray, List.set_cons_zero, List.set_cons_succ]
     refine AnyBut.take (i := 6) (oi := ?o_83) (v := ?v_83) ?h_83 (by kernel_rfl) (by kernel_rfl) (by kernel_rfl) (by kernel_rfl) ?q_83 (Or.inl ⟨?g_83, ?y_83⟩) hL ?r_83
     case h_83 => (simp only [List.getElem?_toArray, List.getElem?_cons_succ, List.getElem?_cons_zero]; exact rfl)
     case q_83 => exact fun _ _ _ h => h
     case g_83 => rfl
     case y_83 =>
      intro W hSw
      replace hSw := QP _ hSw
      try dsimp only at hSw
      go_simp
      try with_reducible rfl
     try simp only [Act.put, List.setIfInBounds_toArray, List.set_cons_zero, List.set_cons_succ]
     refine AnyBut.ready (rs := [7]) (by kernel_rfl) (by simp) ?_
     refine Comes.cons (o := ?o_84) ?h_84 (fun K hK => ?s_84) Comes.nil
     case h_84 => (simp only [List.getElem?_toArray, List.getElem?_cons_succ, List.getElem?_cons_zero]; exact rfl)
     go_simp
     go_at_call 43
     refine (HE.out _ tt (N + t.size + sizes (ts.take k)) vi' vf' _ HXk.out (HMX.out.after (Below.drewed (Below.refl _ _))) HN6.out).mono ?_
     rintro e w6 ⟨v6, vi6, vf6, rfl, hM6, hS6, hd6⟩
     obtain ⟨T6, p6, rfl⟩ := hd6.iface
     have hS6' : Stp gm vi' vf' (wr.alloc (.cells #[.int .i64 ek, .int .i64 eo, .string et, .int .i64 efk, .bool efn, .slice ea1 en1 em1, .int .u64 efb, .string eft, .slice ea2 en2 em2, .slice ea3 en3 em3, .slice ea4 en4 em4] 164)) vi6 vf6 w6 := ⟨fun k hk => hS6.keep k hk, hS6.size⟩
     have hL6 : LQ (w6) := QI _ ⟨(hS6'.cell (a := ⟨w2.heap.size, 5, none⟩) HSGx.out).trans (QP _ hL).1, (hS6'.cell (a := ⟨wr.heap.size, 0, none⟩) HSX.out).trans (QP _ hL).2.1, (hS6'.cell (a := ⟨wr.heap.size, 1, none⟩) HSX.out).trans (QP _ hL).2.2.1, (hS6'.cell (a := ⟨wr.heap.size, 2, none⟩) HSX.out).trans (QP _ hL).2.2.2.1, (hS6'.cell (a := ⟨wr.heap.size, 3, none⟩) HSX.out).trans (QP _ hL).2.2.2.2.1, (hS6'.cell (a := ⟨wr.heap.size, 4, none⟩) HSX.out).trans (QP _ hL).2.2.2.2.2.1, (hS6'.cell (a := ⟨wr.heap.size, 5, none⟩) HSX.out).trans (QP _ hL).2.2.2.2.2.2.1, (hS6'.cell (a := ⟨wr.heap.size, 6, none⟩) HSX.out).trans (QP _ hL).2.2.2.2.2.2.2.1, (hS6'.cell (a := ⟨wr.heap.size, 7, none⟩) HSX.out).trans (QP _ hL).2.2.2.2.2.2.2.2.1, (hS6'.cell (a := ⟨wr.heap.size, 8, none⟩) HSX.out).trans (QP _ hL).2.2.2.2.2.2.2.2.2.1, (hS6'.cell (a := ⟨wr.heap.size, 9, none⟩) HSX.out).trans (QP _ hL).2.2.2.2.2.2.2.2.2.2.1, (hS6'.cell (a := ⟨wr.heap.size, 10, none⟩) HSX.out).trans (QP _ hL).2.2.2.2.2.2.2.2.2.2.2⟩
     have hd6' : Nd (Sees w6 (New (wr.alloc (.cells #[.int .i64 ek, .int .i64 eo, .string et, .int .i64 efk, .bool efn, .slice ea1 en1 em1, .int .u64 efb, .string eft, .slice ea2 en2 em2, .slice ea3 en3 em3, .slice ea4 en4 em4] 164)).heap.size gm vi6 vf6 w6)) (.iface T6 p6) tt := hd6
     have HM6 := Lib.hid hM6
     have HS6 := Lib.hid hS6'
     have HD6 := Lib.hid hd6'
     clear hM6 hS6 hd6 hd6' hS6' hL
     refine hK.out _ _ (fun _ => hL6) ?_
     clear hK K
     try simp only [Act.put, List.setIfInBounds_toArray, List.set_cons_zero, List.set_cons_succ]
     refine AnyBut.ready (rs := [8]) (by kernel_rfl) (by simp) ?_
     refine Comes.cons (o := ?o_85) ?h_85 (fun K hK => ?s_85) Comes.nil
     case h_85 => (simp only [List.getElem?_toArray, List.getElem?_cons_succ, List.getElem?_cons_zero]; exact rfl)
     go_simp
     have hL8 : LQ ((w6.alloc (.cells #[.iface T6 p6] 81))) := QA _ _ hL6
     refine hK.out _ _ (fun _ => hL8) ?_
     clear hK K
     try simp only [Act.put, List.setIfInBounds_toArray, List.set_cons_zero, List.set_cons_succ]
     have HRow : Hid ((w6.alloc (.cells #[.iface T6 p6] 81)).ownsRow w2.heap.size 81 1 (.slice VA k VC) k xs) := Lib.hid (by have := HO.out.rowAt HBX.out HS6.out (.cells #[.iface T6 p6] 81); rwa [HTk.out] at this)
     have HSrc := Lib.hid (src_one w6 (.iface T6 p6) 81)
     have HSz : Hid (w2.heap.size ≤ (w6.alloc (.cells #[.iface T6 p6] 81)).heap.size) := Lib.hid (by have := HO.out.st.size; have := HS6.out.size; have := HBX.out.size; rw [sz1 w6]; omega)
     refine AnyBut.ready (rs := [9]) (by kernel_rfl) (by simp) ?_
     refine Comes.cons (o := ?o_86) ?h_86 (fun K hK => ?s_86) Comes.nil
     case h_86 => (simp only [List.getElem?_toArray, List.getElem?_cons_succ, List.getElem?_cons_zero]; exact rfl)
     refine step_append_blk rfl (.tmp 59) (.tmp 63) 94 rfl w2.heap.size 81 i0 .nilIface 1 16 Tryz.underlying94 hi hz0 hz1 hz2 rfl (by decide) (.slice VA k VC) k xs (by rfl) (own_heap HRow.out rfl) (.slice (some ⟨w6.heap.size, 0, none⟩) 1 1) 1 [.iface T6 p6] (by rfl) HSrc.out rfl (by intro y hy; obtain rfl := List.mem_singleton.1 hy; rfl) HL.out.1 HL.out.2 HSz.out ?_
     intro v' w4 ho4 hg4 hv4
     obtain ⟨A2, C2, rfl⟩ := own_len ho4
     have HP : Hid (OutsX w2.heap.size W gm nm (N + t.size + sizes (ts.take k) + tt.size) vi2 vf2 vi6 vf6 w2 81 (ts.take k ++ [tt]) (xs ++ [.iface T6 p6]) (.slice A2 (k + 1) C2) w4) := Lib.hid (OutsX.push' (.cells #[.iface T6 p6] 81) HO.out HBX.out HM6.out HS6.out HD6.out ⟨rfl, rfl, rfl, rfl⟩ (by rw [HTk.out]; exact ho4) hg4 hv4 HM2.out.bel.size (Nat.lt_of_lt_of_le HSGr.out.1 HBX.out.size))
     have hL9 : LQ (w4) := QI _ ⟨far_cell (w5 := w6) (o := (.cells #[.iface T6 p6] 81)) rfl hg4 ((QP _ hL6).1) HVG.out, far_cell (w5 := w6) (o := (.cells #[.iface T6 p6] 81)) rfl hg4 ((QP _ hL6).2.1) HNe1.out, far_cell (w5 := w6) (o := (.cells #[.iface T6 p6] 81)) rfl hg4 ((QP _ hL6).2.2.1) HNe1.out, far_cell (w5 := w6) (o := (.cells #[.iface T6 p6] 81)) rfl hg4 ((QP _ hL6).2.2.2.1) HNe1.out, far_cell (w5 := w6) (o := (.cells #[.iface T6 p6] 81)) rfl hg4 ((QP _ hL6).2.2.2.2.1) HNe1.out, far_cell (w5 := w6) (o := (.cells #[.iface T6 p6] 81)) rfl hg4 ((QP _ hL6).2.2.2.2.2.1) HNe1.out, far_cell (w5 := w6) (o := (.cells #[.iface T6 p6] 81)) rfl hg4 ((QP _ hL6).2.2.2.2.2.2.1) HNe1.out, far_cell (w5 := w6) (o := (.cells #[.iface T6 p6] 81)) rfl hg4 ((QP _ hL6).2.2.2.2.2.2.2.1) HNe1.out, far_cell (w5 := w6) (o := (.cells #[.iface T6 p6] 81)) rfl hg4 ((QP _ hL6).2.2.2.2.2.2.2.2.1) HNe1.out, far_cell (w5 := w6) (o := (.cells #[.iface T6 p6] 81)) rfl hg4 ((QP _ hL6).2.2.2.2.2.2.2.2.2.1) HNe1.out, far_cell (w5 := w6) (o := (.cells #[.iface T6 p6] 81)) rfl hg4 ((QP _ hL6).2.2.2.2.2.2.2.2.2.2.1) HNe1.out, far_cell (w5 := w6) (o := (.cells #[.iface T6 p6] 81)) rfl hg4 ((QP _ hL6).2.2.2.2.2.2.2.2.2.2.2) HNe1.out⟩
     have hgo4 : w4.heap[w2.heap.size]? = some (.cells #[.pointer none, .iface T2 p2, .pointer (some ⟨gm, 0, none⟩), .int .i32 l0, .int .i32 1, .slice VA k VC, .pointer (some ⟨gm, 0, none⟩), .int .i32 l0, .int .i32 1] 154) := grown_obj hg4 HVG.out (HS6.out.keep _ HSGx.out).1.1 (HS6.out.keep _ HSGx.out).2 ((Below.heap_alloc wr _ _ HSGr.out.1).trans HG.out)
     have HV4 : Hid ((Value.slice A2 (k + 1) C2).ownBlock ≠ some w2.heap.size) := Lib.hid (block_ne hv4 HVG.out (Nat.lt_trans (HS6.out.keep _ HSGx.out).1.1 (lt1 _ _)))
     have HSG4 : Hid (Safe gm vi6 vf6 w4 w2.heap.size) := Lib.hid ⟨(Array.getElem?_eq_some_iff.1 hgo4).1, (HS6.out.keep _ HSGx.out).1.2⟩
     have HPX := Lib.hid (HP.out.setX (Nat.le_refl _) HM2.out.bel.size HSG4.out HV4.out 5 (.slice A2 (k + 1) C2))
     have HGX := Lib.hid (obj_set hgo4 5 (.slice A2 (k + 1) C2))
     have HG4 := Lib.hid hgo4
     have hf4 := obj_free hgo4
     clear ho4 hg4 hv4 hgo4
     refine hK.out _ _ (fun _ => hL9) ?_
     clear hK K
     try simp only [Act.put, List.setIfInBounds_toArray, List.set_cons_zero, List.set_cons_succ]
     refine AnyBut.ready (rs := [10]) (by kernel_rfl) (by simp) ?_
     refine Comes.cons (o := ?o_87) ?h_87 (fun K hK => ?s_87) Comes.nil
     case h_87 => (simp only [List.getElem?_toArray, List.getElem?_cons_succ, List.getElem?_cons_zero]; exact rfl)
     go_simp
     refine hK.out _ _ (fun _ => hL9) ?_
     clear hK K
     try simp only [Act.put, List.setIfInBounds_toArray, List.set_cons_zero, List.set_cons_succ]
     refine AnyBut.ready (rs := [11]) (by kernel_rfl) (by simp) ?_
     refine Comes.cons (o := ?o_88) ?h_88 (fun K hK => ?s_88) Comes.nil
     case h_88 => (simp only [List.getElem?_toArray, List.getElem?_cons_succ, List.getElem?_cons_zero]; exact rfl)
     go_simp
     refine hK.out _ _ (fun _ => hL9) ?_
     clear hK K
     try simp only [Act.put, List.setIfInBounds_toArray, List.set_cons_zero, List.set_cons_succ]
     have h5 := (QP _ hL9).1
     refine AnyBut.ready (rs := [12]) (by kernel_rfl) (by simp) ?_
     refine Comes.cons (o := ?o_89) ?h_89 (fun K hK => ?s_89) Comes.nil
     case h_89 => (simp only [List.getElem?_toArray, List.getElem?_cons_succ, List.getElem?_cons_zero]; exact rfl)
     go_simp
     refine hK.out _ _ (fun h => absurd rfl h) ?_
     clear hK K
     try simp only [Act.put, List.setIfInBounds_toArray, List.set_cons_zero, List.set_cons_succ]
     refine AnyBut.done (by kernel_rfl) ?_ _
     go_wp2
     go_roundw
     case rel =>
      refine ⟨k + 1, vi6, vf6, xs ++ [(.iface T6 p6)], _, by omega, by go_num, ?_, HGX.out, HV4.out, HSG4.out.set _ _⟩
      rw [HTT.out, sizes_append]
      exact HPX.out.more (by simp only [sizes]; omega)
     case measure =>
      simp [intOf]
      omega
   ·have HG2 := HG
    go_wp2
    go_ret
    obtain rfl : k = ts.length := by omega
    have hO := HO.out
    rw [List.take_length] at hO
    have hgn := HSGr.out
    have hwl : w.heap.size ≤ w2.heap.size := Nat.le_trans HBq.out.size HS2.out.size
    obtain ⟨ra, rn, rc, hv, hrn, _, _, hnds⟩ := hO.rowQ
    cases hv
    exact ⟨_, vi', vf', rfl, hO.maker.more (by omega), (Stp.of_below HBq.out).trans (HS2.out.trans hO.st), .other 152 _ _ _ rfl (.node _ 1 _ _ _ _ (sees_at HG.out ⟨hwl, hgn⟩ 1 _ rfl) (HD2.out.step hO.st HBq.out.size) (.row _ 5 0 _ _ _ _ _ _ (sees_at HG.out ⟨hwl, hgn⟩ 5 _ rfl) (hnds.mono (Sees.mono (fun k hk => ⟨Nat.le_trans hwl hk.1, hk.2⟩) fun _ _ => rfl)) rfl (.nil _)))⟩
end Go.Proofs.YtabeokminikfdaaGreat
