import Derived.Test.YtabeokminikfdaaGreatQCp
import Derived.Test.YtabeokminikfdaaGreatQA1
set_option linter.all false
set_option maxRecDepth 100000
set_option maxHeartbeats 32000000
namespace Go.Proofs.YtabeokminikfdaaGreat
open Go.RowKit
theorem ev_cells2 {W w : World} {g off : Nat} {x : EV} (hb : Below W.heap.size W w) (h : ∀ j, j < 11 → W.cell? ⟨g, off + 2 * 11 + j, none⟩ = x.cells[j]?) :
  w.cell? ⟨g, off + 22, none⟩ = some (.int .i64 x.kind) ∧ w.cell? ⟨g, off + 22 + 1, none⟩ = some (.int .i64 x.op) ∧ w.cell? ⟨g, off + 22 + 2, none⟩ = some (.string x.text) ∧ w.cell? ⟨g, off + 22 + 3, none⟩ = some (.int .i64 x.vk) ∧ w.cell? ⟨g, off + 22 + 4, none⟩ = some (.bool x.vn) ∧ w.cell? ⟨g, off + 22 + 5, none⟩ = some (x.vm) ∧ w.cell? ⟨g, off + 22 + 6, none⟩ = some (.int .u64 x.vb) ∧ w.cell? ⟨g, off + 22 + 7, none⟩ = some (.string x.vt) ∧ w.cell? ⟨g, off + 22 + 8, none⟩ = some (x.vkids) ∧ w.cell? ⟨g, off + 22 + 9, none⟩ = some (x.kids) ∧ w.cell? ⟨g, off + 22 + 10, none⟩ = some (x.params) := by
 have := ev_cells hb h
 simpa only [show 2 * 11 = 22 from rfl] using this
theorem ev_cells3 {W w : World} {g off : Nat} {x : EV} (hb : Below W.heap.size W w) (h : ∀ j, j < 11 → W.cell? ⟨g, off + 3 * 11 + j, none⟩ = x.cells[j]?) :
  w.cell? ⟨g, off + 33, none⟩ = some (.int .i64 x.kind) ∧ w.cell? ⟨g, off + 33 + 1, none⟩ = some (.int .i64 x.op) ∧ w.cell? ⟨g, off + 33 + 2, none⟩ = some (.string x.text) ∧ w.cell? ⟨g, off + 33 + 3, none⟩ = some (.int .i64 x.vk) ∧ w.cell? ⟨g, off + 33 + 4, none⟩ = some (.bool x.vn) ∧ w.cell? ⟨g, off + 33 + 5, none⟩ = some (x.vm) ∧ w.cell? ⟨g, off + 33 + 6, none⟩ = some (.int .u64 x.vb) ∧ w.cell? ⟨g, off + 33 + 7, none⟩ = some (.string x.vt) ∧ w.cell? ⟨g, off + 33 + 8, none⟩ = some (x.vkids) ∧ w.cell? ⟨g, off + 33 + 9, none⟩ = some (x.kids) ∧ w.cell? ⟨g, off + 33 + 10, none⟩ = some (x.params) := by
 have := ev_cells hb h
 simpa only [show 3 * 11 = 33 from rfl] using this
def OptV (R : Addr → Value → Prop) (v : Value) : Option Tr → Prop
 | none => v = .nilIface
 | some t => Nd R v t
theorem OptV.mono {R R' : Addr → Value → Prop} {v : Value} {o : Option Tr} (h : OptV R v o) (hR : ∀ a v, R a v → R' a v) : OptV R' v o := by
 cases o with
 | none => exact h
 | some t => exact Nd.mono hR h
theorem fds_opt3 {R : Addr → Value → Prop} {g i : Nat} {v : Value} {o : Option Tr} {fs : List (Nat × Fd)} {ts : List Tr} (h : R ⟨g, i, none⟩ v) (ho : OptV R v o) (hr : Fds R g fs ts) : Fds R g ((i, .opt) :: fs) (o.toList ++ ts) := by
 cases o with
 | none => exact .none _ _ _ _ (by rwa [show v = .nilIface from ho] at h) hr
 | some t => exact .opt _ _ _ _ _ _ h ho hr
def osz : Option Tr → Nat
 | none => 0
 | some t => t.size
def osum (os : Nat → Option Tr) : Nat → Nat
 | 0 => 0
 | k + 1 => osum os k + osz (os k)
theorem osum_le (os : Nat → Option Tr) (k : Nat) (h : k < 3) : osum os k + osz (os k) ≤ osum os 3 := by
 rcases (by omega : k = 0 ∨ k = 1 ∨ k = 2) with rfl | rfl | rfl <;> simp only [osum] <;> omega
def os3 (a b c : Option Tr) : Nat → Option Tr
 | 0 => a
 | 1 => b
 | _ => c
theorem os3_sum (a b c : Option Tr) : osum (os3 a b c) 3 = sizes (a.toList ++ (b.toList ++ (c.toList ++ []))) := by
 rcases a with _ | a <;> rcases b with _ | b <;> rcases c with _ | c <;> simp [osum, os3, osz, sizes, Option.toList] <;> omega
structure Opts (W : World) (gm : Nat) (nm : ByteArray) (N : Nat) (vi2 vf2 : Value) (w2 : World) (C : Value → Value → Value → Array Value) (T : TypeId) (SB : Obj) (os : Nat → Option Tr) (k : Nat) (vi vf : Value) (vs : Nat → Value) (wr : World) : Prop where
 maker : Mk W gm nm vi vf (N + osum os k) wr
 st : Stp gm vi2 vf2 w2 vi vf wr
 obj : wr.heap[w2.heap.size]? = some (.cells (C (vs 0) (vs 1) (vs 2)) T (0, 0))
 safe : Safe gm vi vf wr w2.heap.size
 obj2 : wr.heap[w2.heap.size + 1]? = some SB
 safe2 : Safe gm vi vf wr (w2.heap.size + 1)
 done : ∀ j, j < k → OptV (Sees wr (NewB w2.heap.size gm vi vf wr w2.heap.size)) (vs j) (os j)
 todo : ∀ j, k ≤ j → vs j = .nilIface
theorem Opts.after {W : World} {gm : Nat} {nm : ByteArray} {N : Nat} {vi2 vf2 : Value} {w2 : World} {C : Value → Value → Value → Array Value} {T : TypeId} {SB : Obj} {os : Nat → Option Tr} {k : Nat} {vi vf : Value} {vs : Nat → Value} {wr X : World} (h : Opts W gm nm N vi2 vf2 w2 C T SB os k vi vf vs wr) (hX : Below wr.heap.size wr X) : Opts W gm nm N vi2 vf2 w2 C T SB os k vi vf vs X := by
 have hS := Stp.of_below (gm := gm) (vi := vi) (vf := vf) hX
 exact ⟨h.maker.after hX, h.st.trans hS, (hS.keep _ h.safe).2.trans h.obj, (hS.keep _ h.safe).1, (hS.keep _ h.safe2).2.trans h.obj2, (hS.keep _ h.safe2).1, fun j hj => (h.done j hj).mono (sees_butS hS), h.todo⟩
theorem Opts.skip {W : World} {gm : Nat} {nm : ByteArray} {N : Nat} {vi2 vf2 : Value} {w2 : World} {C : Value → Value → Value → Array Value} {T : TypeId} {SB : Obj} {os : Nat → Option Tr} {k : Nat} {vi vf : Value} {vs : Nat → Value} {wr X : World} (h : Opts W gm nm N vi2 vf2 w2 C T SB os k vi vf vs wr) (hX : Below wr.heap.size wr X) (ho : os k = none) : Opts W gm nm N vi2 vf2 w2 C T SB os (k + 1) vi vf vs X := by
 have hS := Stp.of_below (gm := gm) (vi := vi) (vf := vf) hX
 refine ⟨(h.maker.after hX).more (by simp only [osum]; omega), h.st.trans hS, (hS.keep _ h.safe).2.trans h.obj, (hS.keep _ h.safe).1, (hS.keep _ h.safe2).2.trans h.obj2, (hS.keep _ h.safe2).1, fun j hj => ?_, fun j hj => h.todo j (by omega)⟩
 by_cases hjk : j = k
 ·subst hjk
  rw [ho]
  exact h.todo j (Nat.le_refl j)
 ·exact (h.done j (by omega)).mono (sees_butS hS)
theorem Opts.set {W : World} {gm : Nat} {nm : ByteArray} {N : Nat} {vi2 vf2 : Value} {w2 : World} {C : Value → Value → Value → Array Value} {T : TypeId} {SB : Obj} {os : Nat → Option Tr} {k : Nat} {vi vf vi6 vf6 : Value} {vs : Nat → Value} {wr X w6 : World} {v : Value} {t : Tr} (h : Opts W gm nm N vi2 vf2 w2 C T SB os k vi vf vs wr) (hX : Below wr.heap.size wr X) (ho : os k = some t) (hk : k < 3)
  (hC : ∀ a b c, (C a b c).setIfInBounds (5 + k) v = C (if 0 = k then v else a) (if 1 = k then v else b) (if 2 = k then v else c)) (hM : Mk W gm nm vi6 vf6 (N + osum os k + t.size) w6) (hS : Stp gm vi vf X vi6 vf6 w6) (hd : Nd (Sees w6 (New X.heap.size gm vi6 vf6 w6)) v t) (hW : W.heap.size ≤ w2.heap.size) :
  Opts W gm nm N vi2 vf2 w2 C T SB os (k + 1) vi6 vf6 (fun j => if j = k then v else vs j) (w6.setCell ⟨w2.heap.size, 5 + k, none⟩ v) := by
 have hA := (Stp.of_below (gm := gm) (vi := vi) (vf := vf) hX).trans hS
 have h1 := hA.keep _ h.safe
 have h2 := hA.keep _ h.safe2
 have hlt : w2.heap.size < X.heap.size := Nat.lt_of_lt_of_le h.safe.1 hX.size
 refine ⟨(hM.setNew h1.1 hW _ _).more (by simp only [osum, ho, osz]; omega), (h.st.trans hA).setNew (Nat.le_refl _) _ _, ?_, h1.1.set _ _, (Below.heap_setCell w6 ⟨w2.heap.size, 5 + k, none⟩ v _ (by show w2.heap.size + 1 ≠ w2.heap.size; omega)).trans (h2.2.trans h.obj2), h2.1.set _ _, fun j hj => ?_, fun j hj => ?_⟩
 ·have := obj_set (h1.2.trans h.obj) (5 + k) v
  rw [hC] at this
  exact this
 ·by_cases hjk : j = k
  ·subst hjk
   rw [ho]
   simp only [if_true]
   exact hd.mono fun a x hx => sees_set _ _ a x (sees_but2 hlt (Nat.le_of_lt hlt) a x hx)
  ·simp only [hjk, if_false]
   exact (h.done j (by omega)).mono fun a x hx => sees_set _ _ a x (sees_butS hA a x hx)
 ·simp only [show j ≠ k by omega, if_false]
  exact h.todo j (by omega)
theorem f46_any (W : World) (gm : Nat) (nm : ByteArray) (X : EV → Tr → Prop) (hE : MakeE W gm nm X) (hSh : ∀ e t, X e t → EvSh e) (xo : Int) (xt : ByteArray) (xfk : Int) (xfn : Bool) (xfb : Nat) (xft : ByteArray) (xa1 xa2 xa3 xa4 : Option Addr) (xn1 xn2 xn3 xn4 xm1 xm2 xm3 xm4 : Nat) (t : Tr) (oa ob oc : Option Tr) (N : Nat) (vi vf : Value) (w : World)
  (hK : RowOf W 11 (OQ X) (.slice xa3 xn3 xm3) [some t, oa, ob, oc]) (hM : Mk W gm nm vi vf N w) (hN : N + (1 + (t.size + sizes (oa.toList ++ (ob.toList ++ (oc.toList ++ []))))) ≤ 1000000) :
  Calls Tryz.prog 46 #[.pointer (some ⟨gm, 0, none⟩), .agg #[.int .i64 12, .int .i64 xo, .string xt, .int .i64 xfk, .bool xfn, .slice xa1 xn1 xm1, .int .u64 xfb, .string xft, .slice xa2 xn2 xm2, .slice xa3 xn3 xm3, .slice xa4 xn4 xm4]] w (Made W gm nm (N + (1 + (t.size + sizes (oa.toList ++ (ob.toList ++ (oc.toList ++ [])))))) vi vf w fun R v => Nd R v (.mk none (t :: (oa.toList ++ (ob.toList ++ (oc.toList ++ [])))))) := by
 obtain rfl : xn3 = 4 := hK.len
 obtain ⟨g3, o3, cs0, rfl, ⟨_, he0⟩, y, rfl, hy⟩ := hK.at 0 (by simp)
 obtain ⟨_, hy⟩ : y.kind ≠ 0 ∧ X y t := hy
 have hys := hSh y _ hy
 obtain ⟨yk, yo, yt, yfk, yfn, yfm, yfb, yft, yfs, ygs, yhs⟩ := y
 obtain ⟨⟨ya1, yn1, ym1, rfl⟩, ⟨ya2, yn2, ym2, rfl⟩, ⟨ya3, yn3, ym3, rfl⟩, ⟨ya4, yn4, ym4, rfl⟩⟩ := hys
 rw [← os3_sum] at hN ⊢
 have HE := Lib.hid hE
 have HSh1 : Hid (∀ (e : EV) (o : Option Tr), (match o with | none => e.kind = 0 ∧ EvSh e | some t => e.kind ≠ 0 ∧ X e t) → EvSh e) := Lib.hid (fun e o h => match o, h with | none, h => h.2 | some t, h => hSh e t h.2)
 have HK := Lib.hid hK
 have HN := Lib.hid hN
 have HE0 : Hid (∀ j, j < 11 → W.cell? ⟨g3, o3 + 0 * 11 + j, none⟩ = (EV.cells _)[j]?) := Lib.hid he0
 have HY : Hid (X _ t) := Lib.hid hy
 have HM := Lib.hid hM
 clear hE hSh hK hN he0 hy hM
 go_enter Tryz.func46, Tryz.ntmps46
 go_wp2_with fail
 refine (f33_mk W gm nm vi vf N _ (HM.out.after bA)).mono ?_
 rintro e wp ⟨l0, rfl, hbp⟩
 have HBq : Hid (Below w.heap.size w (wp.alloc (.cells #[.pointer (some ⟨gm, 0, none⟩), .int .i32 l0, .int .i32 1] 60))) := Lib.hid ((bA.trans (hbp.mono (by simp))).alloc (Nat.le_trans (Nat.le_of_lt (lt1 _ _)) hbp.size) _)
 have hwp : w.heap.size < wp.heap.size := Nat.lt_of_lt_of_le (lt1 _ _) hbp.size
 have HMq := Lib.hid (HM.out.after HBq.out)
 have HSP : Hid (Safe gm vi vf (wp.alloc (.cells #[.pointer (some ⟨gm, 0, none⟩), .int .i32 l0, .int .i32 1] 60)) wp.heap.size) := Lib.hid (HM.out.safe_new (Nat.le_of_lt hwp) (lt1 _ _))
 have HSB : Hid (Safe gm vi vf (wp.alloc (.cells #[.pointer (some ⟨gm, 0, none⟩), .int .i32 l0, .int .i32 1] 60)) w.heap.size) := Lib.hid (HM.out.safe_new (Nat.le_refl _) (Nat.lt_trans hwp (lt1 _ _)))
 have bp9 : wp.cell? ⟨w.heap.size, 9, none⟩ = some (.slice (some ⟨g3, o3, none⟩) 4 xm3) := (hbp.cell (p := ⟨w.heap.size, 9, none⟩) (lt1 _ _)).trans (by simp [go_sem])
 have bx9 : (wp.alloc (.cells #[.pointer (some ⟨gm, 0, none⟩), .int .i32 l0, .int .i32 1] 60)).cell? ⟨w.heap.size, 9, none⟩ = some (.slice (some ⟨g3, o3, none⟩) 4 xm3) := cell_al _ bp9
 have qx0 : (wp.alloc (.cells #[.pointer (some ⟨gm, 0, none⟩), .int .i32 l0, .int .i32 1] 60)).cell? ⟨wp.heap.size, 0, none⟩ = some (.pointer (some ⟨gm, 0, none⟩)) := by simp [go_sem]
 have qx1 : (wp.alloc (.cells #[.pointer (some ⟨gm, 0, none⟩), .int .i32 l0, .int .i32 1] 60)).cell? ⟨wp.heap.size, 1, none⟩ = some (.int .i32 l0) := by simp [go_sem]
 have qx2 : (wp.alloc (.cells #[.pointer (some ⟨gm, 0, none⟩), .int .i32 l0, .int .i32 1] 60)).cell? ⟨wp.heap.size, 2, none⟩ = some (.int .i32 1) := by simp [go_sem]
 obtain ⟨y0, y1, y2, y3, y4, y5, y6, y7, y8, y9, y10⟩ := ev_cells0 HMq.out.bel HE0.out
 dsimp only at y0 y1 y2 y3 y4 y5 y6 y7 y8 y9 y10
 have HN2 : Hid (N + t.size ≤ 1000000) := Lib.hid (by have := HN.out; omega)
 have HN3 : Hid (N + t.size + osum (os3 oa ob oc) 3 ≤ 1000000) := Lib.hid (by have := HN.out; omega)
 clear hbp
 go_wp2_with fail
 go_region_held3 (fun w' => w'.cell? ⟨wp.heap.size, 0, none⟩ = some (.pointer (some ⟨gm, 0, none⟩)) ∧ w'.cell? ⟨wp.heap.size, 1, none⟩ = some (.int .i32 l0) ∧ w'.cell? ⟨wp.heap.size, 2, none⟩ = some (.int .i32 1) ∧ w'.cell? ⟨w.heap.size, 9, none⟩ = some (.slice (some ⟨g3, o3, none⟩) 4 xm3) ∧ w'.cell? ⟨g3, o3, none⟩ = some (.int .i64 yk) ∧ w'.cell? ⟨g3, o3 + 1, none⟩ = some (.int .i64 yo) ∧ w'.cell? ⟨g3, o3 + 2, none⟩ = some (.string yt) ∧ w'.cell? ⟨g3, o3 + 3, none⟩ = some (.int .i64 yfk) ∧ w'.cell? ⟨g3, o3 + 4, none⟩ = some (.bool yfn) ∧ w'.cell? ⟨g3, o3 + 5, none⟩ = some (.slice ya1 yn1 ym1) ∧ w'.cell? ⟨g3, o3 + 6, none⟩ = some (.int .u64 yfb) ∧ w'.cell? ⟨g3, o3 + 7, none⟩ = some (.string yft) ∧ w'.cell? ⟨g3, o3 + 8, none⟩ = some (.slice ya2 yn2 ym2) ∧ w'.cell? ⟨g3, o3 + 9, none⟩ = some (.slice ya3 yn3 ym3) ∧ w'.cell? ⟨g3, o3 + 10, none⟩ = some (.slice ya4 yn4 ym4)) (first | (refine ⟨?_, ?_, ?_, ?_, ?_, ?_, ?_, ?_, ?_, ?_, ?_, ?_, ?_, ?_, ?_⟩ <;> assumption) | go_keep) ((go_at_call 43; refine (HE.out _ t (N) vi vf _ HY.out (by first | exact HMq.out | exact HMq.out.after (Below.drewed (Below.refl _ _))) HN2.out).mono ?_; rintro e w2 ⟨v2, vi2, vf2, rfl, hM2, hS2, hd2⟩; obtain ⟨T2, p2, rfl⟩ := hd2.iface; have hS2' : Stp gm vi vf (wp.alloc (.cells #[.pointer (some ⟨gm, 0, none⟩), .int .i32 l0, .int .i32 1] 60)) vi2 vf2 w2 := ⟨fun k hk => hS2.keep k hk, hS2.size⟩; have hd2' : Nd (Sees w2 (New ((wp.alloc (.cells #[.pointer (some ⟨gm, 0, none⟩), .int .i32 l0, .int .i32 1] 60))).heap.size gm vi2 vf2 w2)) (.iface T2 p2) t := hd2; have z0 := (hS2'.cell (a := ⟨wp.heap.size, 0, none⟩) HSP.out).trans qx0; have z1 := (hS2'.cell (a := ⟨wp.heap.size, 1, none⟩) HSP.out).trans qx1; have z2 := (hS2'.cell (a := ⟨wp.heap.size, 2, none⟩) HSP.out).trans qx2; have z9 := (hS2'.cell (a := ⟨w.heap.size, 9, none⟩) HSB.out).trans bx9; obtain ⟨r0, r1, r2, r3, r4, r5, r6, r7, r8, r9, r10⟩ := ev_cells0 hM2.bel HE0.out; dsimp only at r0 r1 r2 r3 r4 r5 r6 r7 r8 r9 r10; have HM2 := Lib.hid hM2; have HS2 := Lib.hid hS2'; have HD2 := Lib.hid hd2'; clear hM2 hS2 hd2 hS2' hd2'))
 have HSBw := Lib.hid (HS2.out.keep _ HSB.out).1
 have z9w := z9
 clear y0 y1 y2 y3 y4 y5 y6 y7 y8 y9 y10 z0 z1 z2 r0 r1 r2 r3 r4 r5 r6 r7 r8 r9 r10 bx9 qx0 qx1 qx2 bp9
 have HMx : Hid (Mk W gm nm vi2 vf2 (N + t.size) (w2.alloc (.cells #[.pointer none, .iface T2 p2, .pointer (some ⟨gm, 0, none⟩), .int .i32 l0, .int .i32 1, .nilIface, .nilIface, .nilIface, .pointer (some ⟨gm, 0, none⟩), .int .i32 l0, .int .i32 1] 127))) := Lib.hid (HM2.out.after bA)
 have HO0 : Hid (Opts W gm nm (N + t.size) vi2 vf2 w2 (fun a b c => #[.pointer none, .iface T2 p2, .pointer (some ⟨gm, 0, none⟩), .int .i32 l0, .int .i32 1, a, b, c, .pointer (some ⟨gm, 0, none⟩), .int .i32 l0, .int .i32 1]) 127 (.cells #[.pointer (some ⟨w2.heap.size, 5, none⟩), .pointer (some ⟨w2.heap.size, 6, none⟩), .pointer (some ⟨w2.heap.size, 7, none⟩)] 204) (os3 oa ob oc) 0 vi2 vf2 (fun _ => .nilIface) ((w2.alloc (.cells #[.pointer none, .iface T2 p2, .pointer (some ⟨gm, 0, none⟩), .int .i32 l0, .int .i32 1, .nilIface, .nilIface, .nilIface, .pointer (some ⟨gm, 0, none⟩), .int .i32 l0, .int .i32 1] 127)).alloc (.cells #[.pointer (some ⟨w2.heap.size, 5, none⟩), .pointer (some ⟨w2.heap.size, 6, none⟩), .pointer (some ⟨w2.heap.size, 7, none⟩)] 204))) := Lib.hid ⟨HMx.out.after bA, Stp.of_below ((bA).alloc (Nat.le_of_lt (lt1 _ _)) _), (Below.heap_alloc _ _ _ (lt1 _ _)).trans (heap_alloc_new w2 _), HM2.out.safe_new (Nat.le_refl _) (Nat.lt_trans (lt1 _ _) (lt1 _ _)), new2 w2 _ _, HM2.out.safe_new (Nat.le_succ _) (by rw [sz1, sz1]; omega), fun j hj => absurd hj (Nat.not_lt_zero j), fun _ _ => rfl⟩
 go_wp2_with fail
 go_region_law (fail)
 go_wp2_with fail
 simp only [Act.put, List.getElem_toArray, List.getElem_cons_succ, List.getElem_cons_zero, List.setIfInBounds_toArray, List.set_cons_succ, List.set_cons_zero]
 go_loopw [33] (fun i wr => ∃ (k : Nat) (vi' vf' : Value) (vs : Nat → Value), k ≤ 3 ∧ i = .int .i64 k ∧ Opts W gm nm (N + t.size) vi2 vf2 w2 (fun a b c => #[.pointer none, .iface T2 p2, .pointer (some ⟨gm, 0, none⟩), .int .i32 l0, .int .i32 1, a, b, c, .pointer (some ⟨gm, 0, none⟩), .int .i32 l0, .int .i32 1]) 127 (.cells #[.pointer (some ⟨w2.heap.size, 5, none⟩), .pointer (some ⟨w2.heap.size, 6, none⟩), .pointer (some ⟨w2.heap.size, 7, none⟩)] 204) (os3 oa ob oc) k vi' vf' vs wr) (fun i _ => 3 - (intOf i).toNat)
 case atStart => exact ⟨0, vi2, vf2, _, by omega, rfl, HO0.out.after (Below.drewed (Below.refl _ _))⟩
 case round =>
  obtain ⟨k, vi', vf', vs, hk, hi, hO⟩ := hrel
  have x9 : wr.cell? ⟨w.heap.size, 9, none⟩ = some (.slice (some ⟨g3, o3, none⟩) 4 xm3) := (hO.st.cell (a := ⟨w.heap.size, 9, none⟩) HSBw.out).trans z9w
  have HOp := Lib.hid hO
  clear hO
  by_cases hlt : k < 3
  ·skip
   rcases (by omega : k = 0 ∨ k = 1 ∨ k = 2) with rfl | rfl | rfl
   ·replace hi : _ = Value.int .i64 0 := hi
    subst hi
    obtain ⟨g4, o4, cs, hga, ⟨hsz, hcs⟩, e0, rfl, hx⟩ := HK.out.at 1 (by simp)
    cases hga
    have hsh : EvSh e0 := HSh1.out e0 oa hx
    obtain ⟨ek, eo, et, efk, efn, efm, efb, eft, efs, egs, ehs⟩ := e0
    obtain ⟨⟨ea1, en1, em1, rfl⟩, ⟨ea2, en2, em2, rfl⟩, ⟨ea3, en3, em3, rfl⟩, ⟨ea4, en4, em4, rfl⟩⟩ := hsh
    obtain ⟨c0, c1, c2, c3, c4, c5, c6, c7, c8, c9, c10⟩ := ev_cells1 HOp.out.maker.bel hcs
    dsimp only at c0 c1 c2 c3 c4 c5 c6 c7 c8 c9 c10
    have s0 : wr.cell? ⟨w2.heap.size + 1, 0, none⟩ = some (.pointer (some ⟨w2.heap.size, 5, none⟩)) := obj_cell HOp.out.obj2 0 _ rfl
    clear hcs hsz
    rcases oa with _ | t4
    ·obtain ⟨hx, _⟩ : ek = 0 ∧ EvSh _ := hx
     subst hx
     go_wp2
     go_roundw
     case rel => exact ⟨1, vi', vf', vs, by omega, rfl, HOp.out.skip (bA) rfl⟩
     case measure => decide
    ·obtain ⟨hk0, hx⟩ : ek ≠ 0 ∧ X _ t4 := hx
     have hkb : (ek == 0) = false := by simpa using hk0
     have HX := Lib.hid hx
     have HMX := Lib.hid (HOp.out.maker.after (w' := (wr.alloc (.cells #[.int .i64 ek, .int .i64 eo, .string et, .int .i64 efk, .bool efn, .slice ea1 en1 em1, .int .u64 efb, .string eft, .slice ea2 en2 em2, .slice ea3 en3 em3, .slice ea4 en4 em4] 164))) (bA))
     have HN6 : Hid (N + t.size + osum (os3 (some t4) ob oc) 0 + t4.size ≤ 1000000) := Lib.hid (by have := HN3.out; have := osum_le (os3 (some t4) ob oc) 0 (by omega); simp only [os3, osz] at *; omega)
     clear hx
     go_wp2_with fail
     refine (HE.out _ t4 (N + t.size + osum (os3 (some t4) ob oc) 0) vi' vf' _ HX.out HMX.out HN6.out).mono ?_
     rintro e w6 ⟨v6, vi6, vf6, rfl, hM6, hS6, hd6⟩
     obtain ⟨T6, p6, rfl⟩ := hd6.iface
     have hO6 := HOp.out.set (bA) rfl (by omega) (by intro a b c; rfl) hM6 hS6 hd6 HM2.out.bel.size
     have hAA := (Stp.of_below (gm := gm) (vi := vi') (vf := vf') (bA)).trans hS6
     have hg6 := (hAA.keep _ HOp.out.safe).2.trans HOp.out.obj
     have hgc := obj_cell hg6 5 _ rfl
     have hgf := obj_free hg6
     have HO6 := Lib.hid hO6
     clear hM6 hS6 hd6 hO6 hAA hg6
     go_wp2
     go_roundw
     case rel => exact ⟨1, vi6, vf6, _, by omega, rfl, HO6.out⟩
     case measure => decide
   ·replace hi : _ = Value.int .i64 1 := hi
    subst hi
    obtain ⟨g4, o4, cs, hga, ⟨hsz, hcs⟩, e0, rfl, hx⟩ := HK.out.at 2 (by simp)
    cases hga
    have hsh : EvSh e0 := HSh1.out e0 ob hx
    obtain ⟨ek, eo, et, efk, efn, efm, efb, eft, efs, egs, ehs⟩ := e0
    obtain ⟨⟨ea1, en1, em1, rfl⟩, ⟨ea2, en2, em2, rfl⟩, ⟨ea3, en3, em3, rfl⟩, ⟨ea4, en4, em4, rfl⟩⟩ := hsh
    obtain ⟨c0, c1, c2, c3, c4, c5, c6, c7, c8, c9, c10⟩ := ev_cells2 HOp.out.maker.bel hcs
    dsimp only at c0 c1 c2 c3 c4 c5 c6 c7 c8 c9 c10
    have s0 : wr.cell? ⟨w2.heap.size + 1, 1, none⟩ = some (.pointer (some ⟨w2.heap.size, 6, none⟩)) := obj_cell HOp.out.obj2 1 _ rfl
    clear hcs hsz
    rcases ob with _ | t4
    ·obtain ⟨hx, _⟩ : ek = 0 ∧ EvSh _ := hx
     subst hx
     go_wp2
     go_roundw
     case rel => exact ⟨2, vi', vf', vs, by omega, rfl, HOp.out.skip (bA) rfl⟩
     case measure => decide
    ·obtain ⟨hk0, hx⟩ : ek ≠ 0 ∧ X _ t4 := hx
     have hkb : (ek == 0) = false := by simpa using hk0
     have HX := Lib.hid hx
     have HMX := Lib.hid (HOp.out.maker.after (w' := (wr.alloc (.cells #[.int .i64 ek, .int .i64 eo, .string et, .int .i64 efk, .bool efn, .slice ea1 en1 em1, .int .u64 efb, .string eft, .slice ea2 en2 em2, .slice ea3 en3 em3, .slice ea4 en4 em4] 164))) (bA))
     have HN6 : Hid (N + t.size + osum (os3 oa (some t4) oc) 1 + t4.size ≤ 1000000) := Lib.hid (by have := HN3.out; have := osum_le (os3 oa (some t4) oc) 1 (by omega); simp only [os3, osz] at *; omega)
     clear hx
     go_wp2_with fail
     refine (HE.out _ t4 (N + t.size + osum (os3 oa (some t4) oc) 1) vi' vf' _ HX.out HMX.out HN6.out).mono ?_
     rintro e w6 ⟨v6, vi6, vf6, rfl, hM6, hS6, hd6⟩
     obtain ⟨T6, p6, rfl⟩ := hd6.iface
     have hO6 := HOp.out.set (bA) rfl (by omega) (by intro a b c; rfl) hM6 hS6 hd6 HM2.out.bel.size
     have hAA := (Stp.of_below (gm := gm) (vi := vi') (vf := vf') (bA)).trans hS6
     have hg6 := (hAA.keep _ HOp.out.safe).2.trans HOp.out.obj
     have hgc := obj_cell hg6 6 _ rfl
     have hgf := obj_free hg6
     have HO6 := Lib.hid hO6
     clear hM6 hS6 hd6 hO6 hAA hg6
     go_wp2
     go_roundw
     case rel => exact ⟨2, vi6, vf6, _, by omega, rfl, HO6.out⟩
     case measure => decide
   ·replace hi : _ = Value.int .i64 2 := hi
    subst hi
    obtain ⟨g4, o4, cs, hga, ⟨hsz, hcs⟩, e0, rfl, hx⟩ := HK.out.at 3 (by simp)
    cases hga
    have hsh : EvSh e0 := HSh1.out e0 oc hx
    obtain ⟨ek, eo, et, efk, efn, efm, efb, eft, efs, egs, ehs⟩ := e0
    obtain ⟨⟨ea1, en1, em1, rfl⟩, ⟨ea2, en2, em2, rfl⟩, ⟨ea3, en3, em3, rfl⟩, ⟨ea4, en4, em4, rfl⟩⟩ := hsh
    obtain ⟨c0, c1, c2, c3, c4, c5, c6, c7, c8, c9, c10⟩ := ev_cells3 HOp.out.maker.bel hcs
    dsimp only at c0 c1 c2 c3 c4 c5 c6 c7 c8 c9 c10
    have s0 : wr.cell? ⟨w2.heap.size + 1, 2, none⟩ = some (.pointer (some ⟨w2.heap.size, 7, none⟩)) := obj_cell HOp.out.obj2 2 _ rfl
    clear hcs hsz
    rcases oc with _ | t4
    ·obtain ⟨hx, _⟩ : ek = 0 ∧ EvSh _ := hx
     subst hx
     go_wp2
     go_roundw
     case rel => exact ⟨3, vi', vf', vs, by omega, rfl, HOp.out.skip (bA) rfl⟩
     case measure => decide
    ·obtain ⟨hk0, hx⟩ : ek ≠ 0 ∧ X _ t4 := hx
     have hkb : (ek == 0) = false := by simpa using hk0
     have HX := Lib.hid hx
     have HMX := Lib.hid (HOp.out.maker.after (w' := (wr.alloc (.cells #[.int .i64 ek, .int .i64 eo, .string et, .int .i64 efk, .bool efn, .slice ea1 en1 em1, .int .u64 efb, .string eft, .slice ea2 en2 em2, .slice ea3 en3 em3, .slice ea4 en4 em4] 164))) (bA))
     have HN6 : Hid (N + t.size + osum (os3 oa ob (some t4)) 2 + t4.size ≤ 1000000) := Lib.hid (by have := HN3.out; have := osum_le (os3 oa ob (some t4)) 2 (by omega); simp only [os3, osz] at *; omega)
     clear hx
     go_wp2_with fail
     refine (HE.out _ t4 (N + t.size + osum (os3 oa ob (some t4)) 2) vi' vf' _ HX.out HMX.out HN6.out).mono ?_
     rintro e w6 ⟨v6, vi6, vf6, rfl, hM6, hS6, hd6⟩
     obtain ⟨T6, p6, rfl⟩ := hd6.iface
     have hO6 := HOp.out.set (bA) rfl (by omega) (by intro a b c; rfl) hM6 hS6 hd6 HM2.out.bel.size
     have hAA := (Stp.of_below (gm := gm) (vi := vi') (vf := vf') (bA)).trans hS6
     have hg6 := (hAA.keep _ HOp.out.safe).2.trans HOp.out.obj
     have hgc := obj_cell hg6 7 _ rfl
     have hgf := obj_free hg6
     have HO6 := Lib.hid hO6
     clear hM6 hS6 hd6 hO6 hAA hg6
     go_wp2
     go_roundw
     case rel => exact ⟨3, vi6, vf6, _, by omega, rfl, HO6.out⟩
     case measure => decide
  ·obtain rfl : k = 3 := by omega
   replace hi : _ = Value.int .i64 3 := hi
   subst hi
   go_wp2
   go_ret
   have hO := HOp.out
   have hwl : w.heap.size ≤ w2.heap.size := Nat.le_trans HBq.out.size HS2.out.size
   have hR : ∀ a x, Sees wr (NewB w2.heap.size gm vi' vf' wr w2.heap.size) a x → Sees wr (New w.heap.size gm vi' vf' wr) a x := fun a x hx => Sees.mono (fun k hk => ⟨Nat.le_trans hwl hk.1.1, hk.1.2⟩) (fun _ _ => rfl) a x hx
   exact ⟨_, vi', vf', rfl, hO.maker.more (by omega), (Stp.of_below HBq.out).trans (HS2.out.trans hO.st), .other 125 _ _ _ rfl (.node _ 1 _ _ _ _ (sees_at hO.obj ⟨hwl, hO.safe⟩ 1 _ rfl) (HD2.out.step hO.st HBq.out.size) (fds_opt3 (sees_at hO.obj ⟨hwl, hO.safe⟩ 5 _ rfl) ((hO.done 0 (by omega)).mono hR) (fds_opt3 (sees_at hO.obj ⟨hwl, hO.safe⟩ 6 _ rfl) ((hO.done 1 (by omega)).mono hR) (fds_opt3 (sees_at hO.obj ⟨hwl, hO.safe⟩ 7 _ rfl) ((hO.done 2 (by omega)).mono hR) (.nil _)))))⟩
end Go.Proofs.YtabeokminikfdaaGreat
