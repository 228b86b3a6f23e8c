import Derived.Test.YtabeokminikfdaaGreatQCq
import Derived.Test.YtabeokminikfdaaGreatQDr
import Derived.Test.YtabeokminikfdaaGreatQDs
import Derived.Test.YtabeokminikfdaaGreatQCo
import Derived.Test.YtabeokminikfdaaGreatQA1
set_option linter.all false
set_option maxRecDepth 100000
set_option maxHeartbeats 8000000
namespace Go.Proofs.YtabeokminikfdaaGreat
open Go.RowKit
theorem bytes_row {W w : World} {v : Value} {n : Nat} (h : Bytes W v n) (hb : Below W.heap.size W w) : ∃ l : List Nat, l.length = n ∧ (∀ d ∈ l, d < 256) ∧ (Z.Row 0 .u8 w v l ∨ (l = [] ∧ ∃ a c, v = .slice a 0 c)) := by
 obtain ⟨a, c, rfl, h1, h2, h3⟩ := h
 by_cases h0 : 0 < n
 ·obtain ⟨g, off, rfl, hi⟩ := h3 h0
  have hi' : ∀ i, i < n → ∃ b : Nat, b < 256 ∧ W.cell? ⟨g, off + i, none⟩ = some (.int .u8 b) := fun i hin => by
   obtain ⟨cs, hs, hc, b, hb, rfl⟩ := hi i hin
   exact ⟨b, hb, by simpa using hc 0 (by omega)⟩
  have hcell : ∀ i (hin : i < n), W.cell? ⟨g, off + i, none⟩ = some (.int .u8 ((hi' i hin).choose : Nat)) := fun i hin => (hi' i hin).choose_spec.2
  refine ⟨List.ofFn fun i : Fin n => (hi' i.1 i.2).choose, by simp, fun d hd => ?_, .inl (.inr ⟨by simpa using h0, g, off, c, by simp, by simpa using h1, Nat.zero_le _, ?_, fun i hin => ?_⟩)⟩
  ·obtain ⟨i, rfl⟩ := List.mem_ofFn.1 hd
   exact (hi' i.1 i.2).choose_spec.1
  ·exact Nat.lt_of_lt_of_le (World.block_lt_of_cell? W _ (hcell 0 h0)) hb.size
  ·have hin' : i < n := by simpa using hin
   rw [hb.cell (p := ⟨g, off + i, none⟩) (World.block_lt_of_cell? W _ (hcell i hin')), hcell i hin']
   simp [List.getD_eq_getElem?_getD, hin']
 ·obtain rfl : n = 0 := by omega
  exact ⟨[], rfl, by simp, .inr ⟨rfl, a, c, rfl⟩⟩
theorem row_at {B : Nat} {k : IntKind} {w w' : World} {v : Value} {l : List Nat} (h : Z.Row B k w v l) (hk : ∀ g, B ≤ g → g < w.heap.size → w'.heap[g]? = w.heap[g]?) (hs : w.heap.size ≤ w'.heap.size) : Z.Row B k w' v l := by
 rcases h with h | ⟨h0, g, off, c, hv, hc, hB, hg, hcell⟩
 ·exact .inl h
 ·exact .inr ⟨h0, g, off, c, hv, hc, hB, Nat.lt_of_lt_of_le hg hs, fun i hi => (World.cell?_of_block (w := w) (a := ⟨g, off + i, none⟩) (hk g hB hg)).trans (hcell i hi)⟩
theorem cell_far {w : World} {g i g' j : Nat} {v u : Value} (h : w.cell? ⟨g', j, none⟩ = some v) (hne : g' ≠ g) : (w.setCell ⟨g, i, none⟩ u).cell? ⟨g', j, none⟩ = some v :=
 (World.cell?_of_block (w := w) (a := ⟨g', j, none⟩) (Below.heap_setCell w ⟨g, i, none⟩ u g' hne)).trans h
structure LitS (W : World) (gm : Nat) (nm : ByteArray) (N : Nat) (vi vf : Value) (w : World) (g : Nat) (wr : World) : Prop where
 maker : Mk W gm nm vi vf N wr
 st : Stp gm vi vf w vi vf wr
 safe : Safe gm vi vf wr g
 low : w.heap.size ≤ g
 lowW : W.heap.size ≤ w.heap.size
theorem LitS.set {W : World} {gm : Nat} {nm : ByteArray} {N : Nat} {vi vf : Value} {w : World} {g : Nat} {wr : World} (h : LitS W gm nm N vi vf w g wr) (i : Nat) (u : Value) : LitS W gm nm N vi vf w g (wr.setCell ⟨g, i, none⟩ u) :=
 ⟨h.maker.setNew h.safe (Nat.le_trans h.lowW h.low) i u, h.st.setNew h.low i u, h.safe.set _ _, h.low, h.lowW⟩
theorem LitS.made {W : World} {gm : Nat} {nm : ByteArray} {N : Nat} {vi vf : Value} {w : World} {g : Nat} {wr : World} (h : LitS W gm nm N vi vf w g wr) : Made W gm nm N vi vf w (fun R v => Nd R v (.mk none [])) (.returned (.iface 107 (.pointer (some ⟨g, 0, none⟩)))) wr :=
 ⟨_, vi, vf, rfl, h.maker, h.st, .other 107 _ [] [] rfl (.nil g)⟩
theorem f45_4 (W : World) (gm : Nat) (nm : ByteArray) (vn : Bool) (vb : Nat) (vt : ByteArray) (ma sa : Option Addr) (mn mc sn sc : Nat) (N : Nat) (vi vf : Value) (w : World) (hM : Mk W gm nm vi vf N w) :
  Calls Tryz.prog 45 #[.pointer (some ⟨gm, 0, none⟩), .agg #[.int .i64 4, .bool vn, .slice ma mn mc, .int .u64 vb, .string vt, .slice sa sn sc]] w (Made W gm nm N vi vf w fun R v => Nd R v (.mk none [])) := by
 have HM := Lib.hid hM
 clear hM
 go_enter Tryz.func45, Tryz.ntmps45
 go_wp2_with fail
 refine (f33_mk W gm nm vi vf N _ (HM.out.after bA)).mono ?_
 rintro e wp ⟨l0, rfl, hbp⟩
 have HB : Hid (Below w.heap.size w (wp.alloc (.cells #[.pointer none, .int .i8 0, .pointer (some ⟨gm, 0, none⟩), .int .i32 l0, .int .i32 1, .string ⟨#[]⟩, .nilIface] 187))) := Lib.hid ((bA.trans (hbp.mono (by simp))).alloc (Nat.le_trans (Nat.le_of_lt (lt1 _ _)) hbp.size) _)
 have hwp : w.heap.size < wp.heap.size := Nat.lt_of_lt_of_le (lt1 _ _) hbp.size
 have HL0 : Hid (LitS W gm nm N vi vf w wp.heap.size (wp.alloc (.cells #[.pointer none, .int .i8 0, .pointer (some ⟨gm, 0, none⟩), .int .i32 l0, .int .i32 1, .string ⟨#[]⟩, .nilIface] 187))) := Lib.hid ⟨HM.out.after HB.out, Stp.of_below HB.out, HM.out.safe_new (Nat.le_of_lt hwp) (lt1 _ _), Nat.le_of_lt hwp, HM.out.bel.size⟩
 have HGX : Hid ((wp.alloc (.cells #[.pointer none, .int .i8 0, .pointer (some ⟨gm, 0, none⟩), .int .i32 l0, .int .i32 1, .string ⟨#[]⟩, .nilIface] 187)).heap[wp.heap.size]? = some (.cells #[.pointer none, .int .i8 0, .pointer (some ⟨gm, 0, none⟩), .int .i32 l0, .int .i32 1, .string ⟨#[]⟩, .nilIface] 187)) := Lib.hid (heap_alloc_new wp _)
 have hgf := obj_free HGX.out
 have hg1 := obj_cell HGX.out 1 _ rfl
 have hg6 := obj_cell HGX.out 6 _ rfl
 have b0 : (wp.alloc (.cells #[.pointer none, .int .i8 0, .pointer (some ⟨gm, 0, none⟩), .int .i32 l0, .int .i32 1, .string ⟨#[]⟩, .nilIface] 187)).cell? ⟨w.heap.size, 0, none⟩ = some (.int .i64 4) := cell_al _ ((hbp.cell (p := ⟨w.heap.size, 0, none⟩) (lt1 _ _)).trans (by simp [go_sem]))
 have b1 : (wp.alloc (.cells #[.pointer none, .int .i8 0, .pointer (some ⟨gm, 0, none⟩), .int .i32 l0, .int .i32 1, .string ⟨#[]⟩, .nilIface] 187)).cell? ⟨w.heap.size, 1, none⟩ = some (.bool vn) := cell_al _ ((hbp.cell (p := ⟨w.heap.size, 1, none⟩) (lt1 _ _)).trans (by simp [go_sem]))
 have b2 : (wp.alloc (.cells #[.pointer none, .int .i8 0, .pointer (some ⟨gm, 0, none⟩), .int .i32 l0, .int .i32 1, .string ⟨#[]⟩, .nilIface] 187)).cell? ⟨w.heap.size, 2, none⟩ = some (.slice ma mn mc) := cell_al _ ((hbp.cell (p := ⟨w.heap.size, 2, none⟩) (lt1 _ _)).trans (by simp [go_sem]))
 have b3 : (wp.alloc (.cells #[.pointer none, .int .i8 0, .pointer (some ⟨gm, 0, none⟩), .int .i32 l0, .int .i32 1, .string ⟨#[]⟩, .nilIface] 187)).cell? ⟨w.heap.size, 3, none⟩ = some (.int .u64 vb) := cell_al _ ((hbp.cell (p := ⟨w.heap.size, 3, none⟩) (lt1 _ _)).trans (by simp [go_sem]))
 have b4 : (wp.alloc (.cells #[.pointer none, .int .i8 0, .pointer (some ⟨gm, 0, none⟩), .int .i32 l0, .int .i32 1, .string ⟨#[]⟩, .nilIface] 187)).cell? ⟨w.heap.size, 4, none⟩ = some (.string vt) := cell_al _ ((hbp.cell (p := ⟨w.heap.size, 4, none⟩) (lt1 _ _)).trans (by simp [go_sem]))
 have b5 : (wp.alloc (.cells #[.pointer none, .int .i8 0, .pointer (some ⟨gm, 0, none⟩), .int .i32 l0, .int .i32 1, .string ⟨#[]⟩, .nilIface] 187)).cell? ⟨w.heap.size, 5, none⟩ = some (.slice sa sn sc) := cell_al _ ((hbp.cell (p := ⟨w.heap.size, 5, none⟩) (lt1 _ _)).trans (by simp [go_sem]))
 have B4W : Hid (wp.cell? ⟨w.heap.size, 4, none⟩ = some (.string vt)) := Lib.hid ((hbp.cell (p := ⟨w.heap.size, 4, none⟩) (lt1 _ _)).trans (by simp [go_sem]))
 have HLA : Hid (∀ o, LitS W gm nm N vi vf w wp.heap.size (wp.alloc o).drew) := Lib.hid fun o => (by have hB : Below w.heap.size w (wp.alloc o).drew := bel_same ((bA.trans (hbp.mono (by simp))).alloc (Nat.le_trans (Nat.le_of_lt (lt1 _ _)) hbp.size) o) ⟨rfl, rfl, rfl, rfl⟩; exact ⟨HM.out.after hB, Stp.of_below hB, HM.out.safe_new (Nat.le_of_lt hwp) (lt1 _ _), Nat.le_of_lt hwp, HM.out.bel.size⟩)
 clear hbp
 go_upto_region 15 with fail
 have d4 := cell_dr b4
 have dg1 := cell_dr hg1
 have dg6 := cell_dr hg6
 have dgf := obj_free (w := (wp.alloc (.cells #[.pointer none, .int .i8 0, .pointer (some ⟨gm, 0, none⟩), .int .i32 l0, .int .i32 1, .string ⟨#[]⟩, .nilIface] 187)).drew) HGX.out
 have hwne : w.heap.size ≠ wp.heap.size := by omega
 have b4w : wp.cell? ⟨w.heap.size, 4, none⟩ = some (.string vt) := B4W.out
 have hL := d4
 refine wp_region_but (fun w' => w'.cell? ⟨w.heap.size, 4, none⟩ = some (.string vt)) 10 (by kernel_rfl) ?_
 refine AnyBut.take (i := 0) (oi := ?o_1) (v := ?v_1) ?h_1 (by kernel_rfl) (by kernel_rfl) (by kernel_rfl) (by kernel_rfl) ?q_1 (Or.inl ⟨?g_1, ?y_1⟩) hL ?r_1
 case h_1 => (simp only [List.getElem?_toArray, List.getElem?_cons_zero]; exact rfl)
 case q_1 => exact fun _ _ _ h => h
 case g_1 => rfl
 case y_1 =>
  intro W hSw
  try dsimp only at hSw
  go_simp
  try with_reducible rfl
 try simp only [Act.put, List.setIfInBounds_toArray, List.set_cons_zero, List.set_cons_succ]
 refine AnyBut.take (i := 1) (oi := ?o_2) (v := ?v_2) ?h_2 (by kernel_rfl) (by kernel_rfl) (by kernel_rfl) (by kernel_rfl) ?q_2 (Or.inl ⟨?g_2, ?y_2⟩) hL ?r_2
 case h_2 => (simp only [List.getElem?_toArray, List.getElem?_cons_succ, List.getElem?_cons_zero]; exact rfl)
 case q_2 => exact fun _ _ _ h => h
 case g_2 => rfl
 case y_2 =>
  intro W hSw
  try dsimp only at hSw
  go_simp
  try with_reducible rfl
 try simp only [Act.put, List.setIfInBounds_toArray, List.set_cons_zero, List.set_cons_succ]
 refine AnyBut.take (i := 2) (oi := ?o_3) (v := ?v_3) ?h_3 (by kernel_rfl) (by kernel_rfl) (by kernel_rfl) (by kernel_rfl) ?q_3 (Or.inl ⟨?g_3, ?y_3⟩) hL ?r_3
 case h_3 => (simp only [List.getElem?_toArray, List.getElem?_cons_succ, List.getElem?_cons_zero]; exact rfl)
 case q_3 => exact fun _ _ _ h => h
 case g_3 => rfl
 case y_3 =>
  intro W hSw
  try dsimp only at hSw
  go_simp
  try with_reducible rfl
 try simp only [Act.put, List.setIfInBounds_toArray, List.set_cons_zero, List.set_cons_succ]
 refine AnyBut.take (i := 5) (oi := ?o_4) (v := ?v_4) ?h_4 (by kernel_rfl) (by kernel_rfl) (by kernel_rfl) (by kernel_rfl) ?q_4 (Or.inl ⟨?g_4, ?y_4⟩) hL ?r_4
 case h_4 => (simp only [List.getElem?_toArray, List.getElem?_cons_succ, List.getElem?_cons_zero]; exact rfl)
 case q_4 => exact fun _ _ _ h => h
 case g_4 => rfl
 case y_4 =>
  intro W hSw
  try dsimp only at hSw
  go_simp
  try with_reducible rfl
 try simp only [Act.put, List.setIfInBounds_toArray, List.set_cons_zero, List.set_cons_succ]
 refine AnyBut.take (i := 6) (oi := ?o_5) (v := ?v_5) ?h_5 (by kernel_rfl) (by kernel_rfl) (by kernel_rfl) (by kernel_rfl) ?q_5 (Or.inl ⟨?g_5, ?y_5⟩) hL ?r_5
 case h_5 => (simp only [List.getElem?_toArray, List.getElem?_cons_succ, List.getElem?_cons_zero]; exact rfl)
 case q_5 => exact fun _ _ _ h => h
 case g_5 => rfl
 case y_5 =>
  intro W hSw
  try dsimp only at hSw
  go_simp
  try with_reducible rfl
 try simp only [Act.put, List.setIfInBounds_toArray, List.set_cons_zero, List.set_cons_succ]
 refine AnyBut.ready (rs := [3, 7]) (by kernel_rfl) (by simp) ?_
 refine Comes.cons (o := ?o_16) ?h_16 (fun K hK => ?s_16) (Comes.cons (o := ?O_16) ?H_16 (fun K hK => ?S_16) Comes.nil)
 case h_16 => (simp only [List.getElem?_toArray, List.getElem?_cons_succ, List.getElem?_cons_zero]; exact rfl)
 case H_16 => (simp only [List.getElem?_toArray, List.getElem?_cons_succ, List.getElem?_cons_zero]; exact rfl)
 case s_16 =>
  go_simp
  refine hK.out _ _ (fun _ => hL) ?_
  clear hK K
  try simp only [Act.put, List.setIfInBounds_toArray, List.set_cons_zero, List.set_cons_succ]
  refine AnyBut.take (i := 4) (oi := ?o_6) (v := ?v_6) ?h_6 (by kernel_rfl) (by kernel_rfl) (by kernel_rfl) (by kernel_rfl) ?q_6 (Or.inl ⟨?g_6, ?y_6⟩) hL ?r_6
  case h_6 => (simp only [List.getElem?_toArray, List.getElem?_cons_succ, List.getElem?_cons_zero]; exact rfl)
  case q_6 => exact fun _ _ _ h => h
  case g_6 => rfl
  case y_6 =>
   intro W hSw
   try dsimp only at hSw
   go_simp
   try with_reducible rfl
  try simp only [Act.put, List.setIfInBounds_toArray, List.set_cons_zero, List.set_cons_succ]
  refine AnyBut.ready (rs := [7]) (by kernel_rfl) (by simp) ?_
  refine Comes.cons (o := ?o_7) ?h_7 (fun K hK => ?s_7) Comes.nil
  case h_7 => (simp only [List.getElem?_toArray, List.getElem?_cons_succ, List.getElem?_cons_zero]; exact rfl)
  go_simp
  refine hK.out _ _ (fun _ => cell_dr (cell_al _ b4w)) ?_
  clear hK K
  try simp only [Act.put, List.setIfInBounds_toArray, List.set_cons_zero, List.set_cons_succ]
  have hL2 : (wp.alloc (.cells #[.pointer none, .int .i8 8, .pointer (some ⟨gm, 0, none⟩), .int .i32 l0, .int .i32 1, .string ⟨#[]⟩, .nilIface] 187)).drew.cell? ⟨w.heap.size, 4, none⟩ = some (.string vt) := cell_dr (cell_al _ b4w)
  have hgx2 : (wp.alloc (.cells #[.pointer none, .int .i8 8, .pointer (some ⟨gm, 0, none⟩), .int .i32 l0, .int .i32 1, .string ⟨#[]⟩, .nilIface] 187)).drew.heap[wp.heap.size]? = some (.cells #[.pointer none, .int .i8 8, .pointer (some ⟨gm, 0, none⟩), .int .i32 l0, .int .i32 1, .string ⟨#[]⟩, .nilIface] 187) := heap_alloc_new wp _
  have hf2 := obj_free hgx2
  have h62 := obj_cell hgx2 6 _ rfl
  refine AnyBut.ready (rs := [8]) (by kernel_rfl) (by simp) ?_
  refine Comes.cons (o := ?o_8) ?h_8 (fun K hK => ?s_8) Comes.nil
  case h_8 => (simp only [List.getElem?_toArray, List.getElem?_cons_succ, List.getElem?_cons_zero]; exact rfl)
  go_simp
  refine hK.out _ _ (fun _ => hL2) ?_
  clear hK K
  try simp only [Act.put, List.setIfInBounds_toArray, List.set_cons_zero, List.set_cons_succ]
  refine AnyBut.ready (rs := [9]) (by kernel_rfl) (by simp) ?_
  refine Comes.cons (o := ?o_9) ?h_9 (fun K hK => ?s_9) Comes.nil
  case h_9 => (simp only [List.getElem?_toArray, List.getElem?_cons_succ, List.getElem?_cons_zero]; exact rfl)
  go_simp
  refine hK.out _ _ (fun _ => hL2) ?_
  clear hK K
  try simp only [Act.put, List.setIfInBounds_toArray, List.set_cons_zero, List.set_cons_succ]
  refine AnyBut.ready (rs := [10]) (by kernel_rfl) (by simp) ?_
  refine Comes.cons (o := ?o_10) ?h_10 (fun K hK => ?s_10) Comes.nil
  case h_10 => (simp only [List.getElem?_toArray, List.getElem?_cons_succ, List.getElem?_cons_zero]; exact rfl)
  go_simp
  refine hK.out _ _ (fun h => absurd rfl h) ?_
  clear hK K
  try simp only [Act.put, List.setIfInBounds_toArray, List.set_cons_zero, List.set_cons_succ]
  refine AnyBut.done (by kernel_rfl) ?_ _
  go_wp2
  go_ret
  exact (HLA.out _).made
 case S_16 =>
  go_simp
  refine hK.out _ _ (fun _ => cell_dr (cell_al _ b4w)) ?_
  clear hK K
  try simp only [Act.put, List.setIfInBounds_toArray, List.set_cons_zero, List.set_cons_succ]
  have hL2 : (wp.alloc (.cells #[.pointer none, .int .i8 8, .pointer (some ⟨gm, 0, none⟩), .int .i32 l0, .int .i32 1, .string ⟨#[]⟩, .nilIface] 187)).drew.cell? ⟨w.heap.size, 4, none⟩ = some (.string vt) := cell_dr (cell_al _ b4w)
  have hgx2 : (wp.alloc (.cells #[.pointer none, .int .i8 8, .pointer (some ⟨gm, 0, none⟩), .int .i32 l0, .int .i32 1, .string ⟨#[]⟩, .nilIface] 187)).drew.heap[wp.heap.size]? = some (.cells #[.pointer none, .int .i8 8, .pointer (some ⟨gm, 0, none⟩), .int .i32 l0, .int .i32 1, .string ⟨#[]⟩, .nilIface] 187) := heap_alloc_new wp _
  have hf2 := obj_free hgx2
  have h62 := obj_cell hgx2 6 _ rfl
  refine AnyBut.ready (rs := [3]) (by kernel_rfl) (by simp) ?_
  refine Comes.cons (o := ?o_11) ?h_11 (fun K hK => ?s_11) Comes.nil
  case h_11 => (simp only [List.getElem?_toArray, List.getElem?_cons_succ, List.getElem?_cons_zero]; exact rfl)
  go_simp
  refine hK.out _ _ (fun _ => hL2) ?_
  clear hK K
  try simp only [Act.put, List.setIfInBounds_toArray, List.set_cons_zero, List.set_cons_succ]
  refine AnyBut.take (i := 4) (oi := ?o_12) (v := ?v_12) ?h_12 (by kernel_rfl) (by kernel_rfl) (by kernel_rfl) (by kernel_rfl) ?q_12 (Or.inl ⟨?g_12, ?y_12⟩) hL2 ?r_12
  case h_12 => (simp only [List.getElem?_toArray, List.getElem?_cons_succ, List.getElem?_cons_zero]; exact rfl)
  case q_12 => exact fun _ _ _ h => h
  case g_12 => rfl
  case y_12 =>
   intro W hSw
   try dsimp only at hSw
   go_simp
   try with_reducible rfl
  try simp only [Act.put, List.setIfInBounds_toArray, List.set_cons_zero, List.set_cons_succ]
  refine AnyBut.ready (rs := [8]) (by kernel_rfl) (by simp) ?_
  refine Comes.cons (o := ?o_13) ?h_13 (fun K hK => ?s_13) Comes.nil
  case h_13 => (simp only [List.getElem?_toArray, List.getElem?_cons_succ, List.getElem?_cons_zero]; exact rfl)
  go_simp
  refine hK.out _ _ (fun _ => hL2) ?_
  clear hK K
  try simp only [Act.put, List.setIfInBounds_toArray, List.set_cons_zero, List.set_cons_succ]
  refine AnyBut.ready (rs := [9]) (by kernel_rfl) (by simp) ?_
  refine Comes.cons (o := ?o_14) ?h_14 (fun K hK => ?s_14) Comes.nil
  case h_14 => (simp only [List.getElem?_toArray, List.getElem?_cons_succ, List.getElem?_cons_zero]; exact rfl)
  go_simp
  refine hK.out _ _ (fun _ => hL2) ?_
  clear hK K
  try simp only [Act.put, List.setIfInBounds_toArray, List.set_cons_zero, List.set_cons_succ]
  refine AnyBut.ready (rs := [10]) (by kernel_rfl) (by simp) ?_
  refine Comes.cons (o := ?o_15) ?h_15 (fun K hK => ?s_15) Comes.nil
  case h_15 => (simp only [List.getElem?_toArray, List.getElem?_cons_succ, List.getElem?_cons_zero]; exact rfl)
  go_simp
  refine hK.out _ _ (fun h => absurd rfl h) ?_
  clear hK K
  try simp only [Act.put, List.setIfInBounds_toArray, List.set_cons_zero, List.set_cons_succ]
  refine AnyBut.done (by kernel_rfl) ?_ _
  go_wp2
  go_ret
  exact (HLA.out _).made
theorem f45_5 (W : World) (gm : Nat) (nm : ByteArray) (vn : Bool) (vb : Nat) (vt : ByteArray) (ma sa : Option Addr) (mn mc sn sc : Nat) (N : Nat) (vi vf : Value) (w : World) (hM : Mk W gm nm vi vf N w) :
  Calls Tryz.prog 45 #[.pointer (some ⟨gm, 0, none⟩), .agg #[.int .i64 5, .bool vn, .slice ma mn mc, .int .u64 vb, .string vt, .slice sa sn sc]] w (Made W gm nm N vi vf w fun R v => Nd R v (.mk none [])) := by
 have HM := Lib.hid hM
 clear hM
 go_enter Tryz.func45, Tryz.ntmps45
 go_wp2_with fail
 refine (f33_mk W gm nm vi vf N _ (HM.out.after bA)).mono ?_
 rintro e wp ⟨l0, rfl, hbp⟩
 have HB : Hid (Below w.heap.size w (wp.alloc (.cells #[.pointer none, .int .i8 0, .pointer (some ⟨gm, 0, none⟩), .int .i32 l0, .int .i32 1, .string ⟨#[]⟩, .nilIface] 187))) := Lib.hid ((bA.trans (hbp.mono (by simp))).alloc (Nat.le_trans (Nat.le_of_lt (lt1 _ _)) hbp.size) _)
 have hwp : w.heap.size < wp.heap.size := Nat.lt_of_lt_of_le (lt1 _ _) hbp.size
 have HL0 : Hid (LitS W gm nm N vi vf w wp.heap.size (wp.alloc (.cells #[.pointer none, .int .i8 0, .pointer (some ⟨gm, 0, none⟩), .int .i32 l0, .int .i32 1, .string ⟨#[]⟩, .nilIface] 187))) := Lib.hid ⟨HM.out.after HB.out, Stp.of_below HB.out, HM.out.safe_new (Nat.le_of_lt hwp) (lt1 _ _), Nat.le_of_lt hwp, HM.out.bel.size⟩
 have HGX : Hid ((wp.alloc (.cells #[.pointer none, .int .i8 0, .pointer (some ⟨gm, 0, none⟩), .int .i32 l0, .int .i32 1, .string ⟨#[]⟩, .nilIface] 187)).heap[wp.heap.size]? = some (.cells #[.pointer none, .int .i8 0, .pointer (some ⟨gm, 0, none⟩), .int .i32 l0, .int .i32 1, .string ⟨#[]⟩, .nilIface] 187)) := Lib.hid (heap_alloc_new wp _)
 have hgf := obj_free HGX.out
 have hg1 := obj_cell HGX.out 1 _ rfl
 have hg6 := obj_cell HGX.out 6 _ rfl
 have b0 : (wp.alloc (.cells #[.pointer none, .int .i8 0, .pointer (some ⟨gm, 0, none⟩), .int .i32 l0, .int .i32 1, .string ⟨#[]⟩, .nilIface] 187)).cell? ⟨w.heap.size, 0, none⟩ = some (.int .i64 5) := cell_al _ ((hbp.cell (p := ⟨w.heap.size, 0, none⟩) (lt1 _ _)).trans (by simp [go_sem]))
 have b1 : (wp.alloc (.cells #[.pointer none, .int .i8 0, .pointer (some ⟨gm, 0, none⟩), .int .i32 l0, .int .i32 1, .string ⟨#[]⟩, .nilIface] 187)).cell? ⟨w.heap.size, 1, none⟩ = some (.bool vn) := cell_al _ ((hbp.cell (p := ⟨w.heap.size, 1, none⟩) (lt1 _ _)).trans (by simp [go_sem]))
 have b2 : (wp.alloc (.cells #[.pointer none, .int .i8 0, .pointer (some ⟨gm, 0, none⟩), .int .i32 l0, .int .i32 1, .string ⟨#[]⟩, .nilIface] 187)).cell? ⟨w.heap.size, 2, none⟩ = some (.slice ma mn mc) := cell_al _ ((hbp.cell (p := ⟨w.heap.size, 2, none⟩) (lt1 _ _)).trans (by simp [go_sem]))
 have b3 : (wp.alloc (.cells #[.pointer none, .int .i8 0, .pointer (some ⟨gm, 0, none⟩), .int .i32 l0, .int .i32 1, .string ⟨#[]⟩, .nilIface] 187)).cell? ⟨w.heap.size, 3, none⟩ = some (.int .u64 vb) := cell_al _ ((hbp.cell (p := ⟨w.heap.size, 3, none⟩) (lt1 _ _)).trans (by simp [go_sem]))
 have b4 : (wp.alloc (.cells #[.pointer none, .int .i8 0, .pointer (some ⟨gm, 0, none⟩), .int .i32 l0, .int .i32 1, .string ⟨#[]⟩, .nilIface] 187)).cell? ⟨w.heap.size, 4, none⟩ = some (.string vt) := cell_al _ ((hbp.cell (p := ⟨w.heap.size, 4, none⟩) (lt1 _ _)).trans (by simp [go_sem]))
 have b5 : (wp.alloc (.cells #[.pointer none, .int .i8 0, .pointer (some ⟨gm, 0, none⟩), .int .i32 l0, .int .i32 1, .string ⟨#[]⟩, .nilIface] 187)).cell? ⟨w.heap.size, 5, none⟩ = some (.slice sa sn sc) := cell_al _ ((hbp.cell (p := ⟨w.heap.size, 5, none⟩) (lt1 _ _)).trans (by simp [go_sem]))
 have B4W : Hid (wp.cell? ⟨w.heap.size, 4, none⟩ = some (.string vt)) := Lib.hid ((hbp.cell (p := ⟨w.heap.size, 4, none⟩) (lt1 _ _)).trans (by simp [go_sem]))
 have HLA : Hid (∀ o, LitS W gm nm N vi vf w wp.heap.size (wp.alloc o).drew) := Lib.hid fun o => (by have hB : Below w.heap.size w (wp.alloc o).drew := bel_same ((bA.trans (hbp.mono (by simp))).alloc (Nat.le_trans (Nat.le_of_lt (lt1 _ _)) hbp.size) o) ⟨rfl, rfl, rfl, rfl⟩; exact ⟨HM.out.after hB, Stp.of_below hB, HM.out.safe_new (Nat.le_of_lt hwp) (lt1 _ _), Nat.le_of_lt hwp, HM.out.bel.size⟩)
 clear hbp
 go_upto_region 17 with fail
 have d4 := cell_dr b4
 have dg1 := cell_dr hg1
 have dg6 := cell_dr hg6
 have dgf := obj_free (w := (wp.alloc (.cells #[.pointer none, .int .i8 0, .pointer (some ⟨gm, 0, none⟩), .int .i32 l0, .int .i32 1, .string ⟨#[]⟩, .nilIface] 187)).drew) HGX.out
 have hwne : w.heap.size ≠ wp.heap.size := by omega
 have b4w : wp.cell? ⟨w.heap.size, 4, none⟩ = some (.string vt) := B4W.out
 have hL := d4
 refine wp_region_but (fun w' => w'.cell? ⟨w.heap.size, 4, none⟩ = some (.string vt)) 10 (by kernel_rfl) ?_
 refine AnyBut.take (i := 0) (oi := ?o_17) (v := ?v_17) ?h_17 (by kernel_rfl) (by kernel_rfl) (by kernel_rfl) (by kernel_rfl) ?q_17 (Or.inl ⟨?g_17, ?y_17⟩) hL ?r_17
 case h_17 => (simp only [List.getElem?_toArray, List.getElem?_cons_zero]; exact rfl)
 case q_17 => exact fun _ _ _ h => h
 case g_17 => rfl
 case y_17 =>
  intro W hSw
  try dsimp only at hSw
  go_simp
  try with_reducible rfl
 try simp only [Act.put, List.setIfInBounds_toArray, List.set_cons_zero, List.set_cons_succ]
 refine AnyBut.take (i := 1) (oi := ?o_18) (v := ?v_18) ?h_18 (by kernel_rfl) (by kernel_rfl) (by kernel_rfl) (by kernel_rfl) ?q_18 (Or.inl ⟨?g_18, ?y_18⟩) hL ?r_18
 case h_18 => (simp only [List.getElem?_toArray, List.getElem?_cons_succ, List.getElem?_cons_zero]; exact rfl)
 case q_18 => exact fun _ _ _ h => h
 case g_18 => rfl
 case y_18 =>
  intro W hSw
  try dsimp only at hSw
  go_simp
  try with_reducible rfl
 try simp only [Act.put, List.setIfInBounds_toArray, List.set_cons_zero, List.set_cons_succ]
 refine AnyBut.take (i := 2) (oi := ?o_19) (v := ?v_19) ?h_19 (by kernel_rfl) (by kernel_rfl) (by kernel_rfl) (by kernel_rfl) ?q_19 (Or.inl ⟨?g_19, ?y_19⟩) hL ?r_19
 case h_19 => (simp only [List.getElem?_toArray, List.getElem?_cons_succ, List.getElem?_cons_zero]; exact rfl)
 case q_19 => exact fun _ _ _ h => h
 case g_19 => rfl
 case y_19 =>
  intro W hSw
  try dsimp only at hSw
  go_simp
  try with_reducible rfl
 try simp only [Act.put, List.setIfInBounds_toArray, List.set_cons_zero, List.set_cons_succ]
 refine AnyBut.take (i := 5) (oi := ?o_20) (v := ?v_20) ?h_20 (by kernel_rfl) (by kernel_rfl) (by kernel_rfl) (by kernel_rfl) ?q_20 (Or.inl ⟨?g_20, ?y_20⟩) hL ?r_20
 case h_20 => (simp only [List.getElem?_toArray, List.getElem?_cons_succ, List.getElem?_cons_zero]; exact rfl)
 case q_20 => exact fun _ _ _ h => h
 case g_20 => rfl
 case y_20 =>
  intro W hSw
  try dsimp only at hSw
  go_simp
  try with_reducible rfl
 try simp only [Act.put, List.setIfInBounds_toArray, List.set_cons_zero, List.set_cons_succ]
 refine AnyBut.take (i := 6) (oi := ?o_21) (v := ?v_21) ?h_21 (by kernel_rfl) (by kernel_rfl) (by kernel_rfl) (by kernel_rfl) ?q_21 (Or.inl ⟨?g_21, ?y_21⟩) hL ?r_21
 case h_21 => (simp only [List.getElem?_toArray, List.getElem?_cons_succ, List.getElem?_cons_zero]; exact rfl)
 case q_21 => exact fun _ _ _ h => h
 case g_21 => rfl
 case y_21 =>
  intro W hSw
  try dsimp only at hSw
  go_simp
  try with_reducible rfl
 try simp only [Act.put, List.setIfInBounds_toArray, List.set_cons_zero, List.set_cons_succ]
 refine AnyBut.ready (rs := [3, 7]) (by kernel_rfl) (by simp) ?_
 refine Comes.cons (o := ?o_32) ?h_32 (fun K hK => ?s_32) (Comes.cons (o := ?O_32) ?H_32 (fun K hK => ?S_32) Comes.nil)
 case h_32 => (simp only [List.getElem?_toArray, List.getElem?_cons_succ, List.getElem?_cons_zero]; exact rfl)
 case H_32 => (simp only [List.getElem?_toArray, List.getElem?_cons_succ, List.getElem?_cons_zero]; exact rfl)
 case s_32 =>
  go_simp
  refine hK.out _ _ (fun _ => hL) ?_
  clear hK K
  try simp only [Act.put, List.setIfInBounds_toArray, List.set_cons_zero, List.set_cons_succ]
  refine AnyBut.take (i := 4) (oi := ?o_22) (v := ?v_22) ?h_22 (by kernel_rfl) (by kernel_rfl) (by kernel_rfl) (by kernel_rfl) ?q_22 (Or.inl ⟨?g_22, ?y_22⟩) hL ?r_22
  case h_22 => (simp only [List.getElem?_toArray, List.getElem?_cons_succ, List.getElem?_cons_zero]; exact rfl)
  case q_22 => exact fun _ _ _ h => h
  case g_22 => rfl
  case y_22 =>
   intro W hSw
   try dsimp only at hSw
   go_simp
   try with_reducible rfl
  try simp only [Act.put, List.setIfInBounds_toArray, List.set_cons_zero, List.set_cons_succ]
  refine AnyBut.ready (rs := [7]) (by kernel_rfl) (by simp) ?_
  refine Comes.cons (o := ?o_23) ?h_23 (fun K hK => ?s_23) Comes.nil
  case h_23 => (simp only [List.getElem?_toArray, List.getElem?_cons_succ, List.getElem?_cons_zero]; exact rfl)
  go_simp
  refine hK.out _ _ (fun _ => cell_dr (cell_al _ b4w)) ?_
  clear hK K
  try simp only [Act.put, List.setIfInBounds_toArray, List.set_cons_zero, List.set_cons_succ]
  have hL2 : (wp.alloc (.cells #[.pointer none, .int .i8 9, .pointer (some ⟨gm, 0, none⟩), .int .i32 l0, .int .i32 1, .string ⟨#[]⟩, .nilIface] 187)).drew.cell? ⟨w.heap.size, 4, none⟩ = some (.string vt) := cell_dr (cell_al _ b4w)
  have hgx2 : (wp.alloc (.cells #[.pointer none, .int .i8 9, .pointer (some ⟨gm, 0, none⟩), .int .i32 l0, .int .i32 1, .string ⟨#[]⟩, .nilIface] 187)).drew.heap[wp.heap.size]? = some (.cells #[.pointer none, .int .i8 9, .pointer (some ⟨gm, 0, none⟩), .int .i32 l0, .int .i32 1, .string ⟨#[]⟩, .nilIface] 187) := heap_alloc_new wp _
  have hf2 := obj_free hgx2
  have h62 := obj_cell hgx2 6 _ rfl
  refine AnyBut.ready (rs := [8]) (by kernel_rfl) (by simp) ?_
  refine Comes.cons (o := ?o_24) ?h_24 (fun K hK => ?s_24) Comes.nil
  case h_24 => (simp only [List.getElem?_toArray, List.getElem?_cons_succ, List.getElem?_cons_zero]; exact rfl)
  go_simp
  refine hK.out _ _ (fun _ => hL2) ?_
  clear hK K
  try simp only [Act.put, List.setIfInBounds_toArray, List.set_cons_zero, List.set_cons_succ]
  refine AnyBut.ready (rs := [9]) (by kernel_rfl) (by simp) ?_
  refine Comes.cons (o := ?o_25) ?h_25 (fun K hK => ?s_25) Comes.nil
  case h_25 => (simp only [List.getElem?_toArray, List.getElem?_cons_succ, List.getElem?_cons_zero]; exact rfl)
  go_simp
  refine hK.out _ _ (fun _ => hL2) ?_
  clear hK K
  try simp only [Act.put, List.setIfInBounds_toArray, List.set_cons_zero, List.set_cons_succ]
  refine AnyBut.ready (rs := [10]) (by kernel_rfl) (by simp) ?_
  refine Comes.cons (o := ?o_26) ?h_26 (fun K hK => ?s_26) Comes.nil
  case h_26 => (simp only [List.getElem?_toArray, List.getElem?_cons_succ, List.getElem?_cons_zero]; exact rfl)
  go_simp
  refine hK.out _ _ (fun h => absurd rfl h) ?_
  clear hK K
  try simp only [Act.put, List.setIfInBounds_toArray, List.set_cons_zero, List.set_cons_succ]
  refine AnyBut.done (by kernel_rfl) ?_ _
  go_wp2
  go_ret
  exact (HLA.out _).made
 case S_32 =>
  go_simp
  refine hK.out _ _ (fun _ => cell_dr (cell_al _ b4w)) ?_
  clear hK K
  try simp only [Act.put, List.setIfInBounds_toArray, List.set_cons_zero, List.set_cons_succ]
  have hL2 : (wp.alloc (.cells #[.pointer none, .int .i8 9, .pointer (some ⟨gm, 0, none⟩), .int .i32 l0, .int .i32 1, .string ⟨#[]⟩, .nilIface] 187)).drew.cell? ⟨w.heap.size, 4, none⟩ = some (.string vt) := cell_dr (cell_al _ b4w)
  have hgx2 : (wp.alloc (.cells #[.pointer none, .int .i8 9, .pointer (some ⟨gm, 0, none⟩), .int .i32 l0, .int .i32 1, .string ⟨#[]⟩, .nilIface] 187)).drew.heap[wp.heap.size]? = some (.cells #[.pointer none, .int .i8 9, .pointer (some ⟨gm, 0, none⟩), .int .i32 l0, .int .i32 1, .string ⟨#[]⟩, .nilIface] 187) := heap_alloc_new wp _
  have hf2 := obj_free hgx2
  have h62 := obj_cell hgx2 6 _ rfl
  refine AnyBut.ready (rs := [3]) (by kernel_rfl) (by simp) ?_
  refine Comes.cons (o := ?o_27) ?h_27 (fun K hK => ?s_27) Comes.nil
  case h_27 => (simp only [List.getElem?_toArray, List.getElem?_cons_succ, List.getElem?_cons_zero]; exact rfl)
  go_simp
  refine hK.out _ _ (fun _ => hL2) ?_
  clear hK K
  try simp only [Act.put, List.setIfInBounds_toArray, List.set_cons_zero, List.set_cons_succ]
  refine AnyBut.take (i := 4) (oi := ?o_28) (v := ?v_28) ?h_28 (by kernel_rfl) (by kernel_rfl) (by kernel_rfl) (by kernel_rfl) ?q_28 (Or.inl ⟨?g_28, ?y_28⟩) hL2 ?r_28
  case h_28 => (simp only [List.getElem?_toArray, List.getElem?_cons_succ, List.getElem?_cons_zero]; exact rfl)
  case q_28 => exact fun _ _ _ h => h
  case g_28 => rfl
  case y_28 =>
   intro W hSw
   try dsimp only at hSw
   go_simp
   try with_reducible rfl
  try simp only [Act.put, List.setIfInBounds_toArray, List.set_cons_zero, List.set_cons_succ]
  refine AnyBut.ready (rs := [8]) (by kernel_rfl) (by simp) ?_
  refine Comes.cons (o := ?o_29) ?h_29 (fun K hK => ?s_29) Comes.nil
  case h_29 => (simp only [List.getElem?_toArray, List.getElem?_cons_succ, List.getElem?_cons_zero]; exact rfl)
  go_simp
  refine hK.out _ _ (fun _ => hL2) ?_
  clear hK K
  try simp only [Act.put, List.setIfInBounds_toArray, List.set_cons_zero, List.set_cons_succ]
  refine AnyBut.ready (rs := [9]) (by kernel_rfl) (by simp) ?_
  refine Comes.cons (o := ?o_30) ?h_30 (fun K hK => ?s_30) Comes.nil
  case h_30 => (simp only [List.getElem?_toArray, List.getElem?_cons_succ, List.getElem?_cons_zero]; exact rfl)
  go_simp
  refine hK.out _ _ (fun _ => hL2) ?_
  clear hK K
  try simp only [Act.put, List.setIfInBounds_toArray, List.set_cons_zero, List.set_cons_succ]
  refine AnyBut.ready (rs := [10]) (by kernel_rfl) (by simp) ?_
  refine Comes.cons (o := ?o_31) ?h_31 (fun K hK => ?s_31) Comes.nil
  case h_31 => (simp only [List.getElem?_toArray, List.getElem?_cons_succ, List.getElem?_cons_zero]; exact rfl)
  go_simp
  refine hK.out _ _ (fun h => absurd rfl h) ?_
  clear hK K
  try simp only [Act.put, List.setIfInBounds_toArray, List.set_cons_zero, List.set_cons_succ]
  refine AnyBut.done (by kernel_rfl) ?_ _
  go_wp2
  go_ret
  exact (HLA.out _).made
theorem f45_3 (W : World) (gm : Nat) (nm : ByteArray) (vn : Bool) (vb : Nat) (vt : ByteArray) (ma sa : Option Addr) (mn mc sn sc : Nat) (N : Nat) (vi vf : Value) (w : World) (hM : Mk W gm nm vi vf N w) (hb : vb < 2047 * 2 ^ 52) :
  Calls Tryz.prog 45 #[.pointer (some ⟨gm, 0, none⟩), .agg #[.int .i64 3, .bool vn, .slice ma mn mc, .int .u64 vb, .string vt, .slice sa sn sc]] w (Made W gm nm N vi vf w fun R v => Nd R v (.mk none [])) := by
 have HM := Lib.hid hM
 have hc := fun w => call54 vb w
 have h1 := pos_word vb hb
 have h2 := fin_word vb hb
 have H55 := Lib.hid (fun w => f55_any vb hb w)
 clear hb
 clear hM
 go_enter Tryz.func45, Tryz.ntmps45
 go_wp2_with fail
 refine (f33_mk W gm nm vi vf N _ (HM.out.after bA)).mono ?_
 rintro e wp ⟨l0, rfl, hbp⟩
 have HB : Hid (Below w.heap.size w (wp.alloc (.cells #[.pointer none, .int .i8 0, .pointer (some ⟨gm, 0, none⟩), .int .i32 l0, .int .i32 1, .string ⟨#[]⟩, .nilIface] 187))) := Lib.hid ((bA.trans (hbp.mono (by simp))).alloc (Nat.le_trans (Nat.le_of_lt (lt1 _ _)) hbp.size) _)
 have hwp : w.heap.size < wp.heap.size := Nat.lt_of_lt_of_le (lt1 _ _) hbp.size
 have HL0 : Hid (LitS W gm nm N vi vf w wp.heap.size (wp.alloc (.cells #[.pointer none, .int .i8 0, .pointer (some ⟨gm, 0, none⟩), .int .i32 l0, .int .i32 1, .string ⟨#[]⟩, .nilIface] 187))) := Lib.hid ⟨HM.out.after HB.out, Stp.of_below HB.out, HM.out.safe_new (Nat.le_of_lt hwp) (lt1 _ _), Nat.le_of_lt hwp, HM.out.bel.size⟩
 have HGX : Hid ((wp.alloc (.cells #[.pointer none, .int .i8 0, .pointer (some ⟨gm, 0, none⟩), .int .i32 l0, .int .i32 1, .string ⟨#[]⟩, .nilIface] 187)).heap[wp.heap.size]? = some (.cells #[.pointer none, .int .i8 0, .pointer (some ⟨gm, 0, none⟩), .int .i32 l0, .int .i32 1, .string ⟨#[]⟩, .nilIface] 187)) := Lib.hid (heap_alloc_new wp _)
 have hgf := obj_free HGX.out
 have hg1 := obj_cell HGX.out 1 _ rfl
 have hg6 := obj_cell HGX.out 6 _ rfl
 have b0 : (wp.alloc (.cells #[.pointer none, .int .i8 0, .pointer (some ⟨gm, 0, none⟩), .int .i32 l0, .int .i32 1, .string ⟨#[]⟩, .nilIface] 187)).cell? ⟨w.heap.size, 0, none⟩ = some (.int .i64 3) := cell_al _ ((hbp.cell (p := ⟨w.heap.size, 0, none⟩) (lt1 _ _)).trans (by simp [go_sem]))
 have b1 : (wp.alloc (.cells #[.pointer none, .int .i8 0, .pointer (some ⟨gm, 0, none⟩), .int .i32 l0, .int .i32 1, .string ⟨#[]⟩, .nilIface] 187)).cell? ⟨w.heap.size, 1, none⟩ = some (.bool vn) := cell_al _ ((hbp.cell (p := ⟨w.heap.size, 1, none⟩) (lt1 _ _)).trans (by simp [go_sem]))
 have b2 : (wp.alloc (.cells #[.pointer none, .int .i8 0, .pointer (some ⟨gm, 0, none⟩), .int .i32 l0, .int .i32 1, .string ⟨#[]⟩, .nilIface] 187)).cell? ⟨w.heap.size, 2, none⟩ = some (.slice ma mn mc) := cell_al _ ((hbp.cell (p := ⟨w.heap.size, 2, none⟩) (lt1 _ _)).trans (by simp [go_sem]))
 have b3 : (wp.alloc (.cells #[.pointer none, .int .i8 0, .pointer (some ⟨gm, 0, none⟩), .int .i32 l0, .int .i32 1, .string ⟨#[]⟩, .nilIface] 187)).cell? ⟨w.heap.size, 3, none⟩ = some (.int .u64 vb) := cell_al _ ((hbp.cell (p := ⟨w.heap.size, 3, none⟩) (lt1 _ _)).trans (by simp [go_sem]))
 have b4 : (wp.alloc (.cells #[.pointer none, .int .i8 0, .pointer (some ⟨gm, 0, none⟩), .int .i32 l0, .int .i32 1, .string ⟨#[]⟩, .nilIface] 187)).cell? ⟨w.heap.size, 4, none⟩ = some (.string vt) := cell_al _ ((hbp.cell (p := ⟨w.heap.size, 4, none⟩) (lt1 _ _)).trans (by simp [go_sem]))
 have b5 : (wp.alloc (.cells #[.pointer none, .int .i8 0, .pointer (some ⟨gm, 0, none⟩), .int .i32 l0, .int .i32 1, .string ⟨#[]⟩, .nilIface] 187)).cell? ⟨w.heap.size, 5, none⟩ = some (.slice sa sn sc) := cell_al _ ((hbp.cell (p := ⟨w.heap.size, 5, none⟩) (lt1 _ _)).trans (by simp [go_sem]))
 have B4W : Hid (wp.cell? ⟨w.heap.size, 4, none⟩ = some (.string vt)) := Lib.hid ((hbp.cell (p := ⟨w.heap.size, 4, none⟩) (lt1 _ _)).trans (by simp [go_sem]))
 have HLA : Hid (∀ o, LitS W gm nm N vi vf w wp.heap.size (wp.alloc o).drew) := Lib.hid fun o => (by have hB : Below w.heap.size w (wp.alloc o).drew := bel_same ((bA.trans (hbp.mono (by simp))).alloc (Nat.le_trans (Nat.le_of_lt (lt1 _ _)) hbp.size) o) ⟨rfl, rfl, rfl, rfl⟩; exact ⟨HM.out.after hB, Stp.of_below hB, HM.out.safe_new (Nat.le_of_lt hwp) (lt1 _ _), Nat.le_of_lt hwp, HM.out.bel.size⟩)
 clear hbp
 go_wp2_with fail
 refine (H55.out _).mono ?_
 rintro e w2 ⟨rfl, rfl⟩
 go_wp2_with fail
 refine (f34_mk W gm nm vi vf N _ HL0.out.maker).mono ?_
 rintro e w4 ⟨rfl, hM4, hS4⟩
 have hk4 := hS4.keep _ HL0.out.safe
 have hgx4 := hk4.2.trans HGX.out
 have hgf4 := obj_free hgx4
 have hg14 := obj_cell hgx4 1 _ rfl
 have hg64 := obj_cell hgx4 6 _ rfl
 have HL4 : Hid (LitS W gm nm N vi vf w wp.heap.size w4) := Lib.hid ⟨hM4, HL0.out.st.trans hS4, hk4.1, HL0.out.low, HL0.out.lowW⟩
 clear hM4 hS4 hk4 hgx4
 go_wp2
 go_ret
 exact ((HL4.out.set _ _).set _ _).made
theorem f45_2 (W : World) (gm : Nat) (nm : ByteArray) (vb : Nat) (vt : ByteArray) (ma sa : Option Addr) (mn mc sn sc : Nat) (N : Nat) (vi vf : Value) (w : World) (hM : Mk W gm nm vi vf N w) (hb : ∃ n, Bytes W (.slice ma mn mc) n ∧ n ≤ 40) :
  Calls Tryz.prog 45 #[.pointer (some ⟨gm, 0, none⟩), .agg #[.int .i64 2, .bool false, .slice ma mn mc, .int .u64 vb, .string vt, .slice sa sn sc]] w (Made W gm nm N vi vf w fun R v => Nd R v (.mk none [])) := by
 have HM := Lib.hid hM
 have HBy := Lib.hid hb
 clear hb
 clear hM
 go_enter Tryz.func45, Tryz.ntmps45
 go_wp2_with fail
 refine (f33_mk W gm nm vi vf N _ (HM.out.after bA)).mono ?_
 rintro e wp ⟨l0, rfl, hbp⟩
 have HB : Hid (Below w.heap.size w (wp.alloc (.cells #[.pointer none, .int .i8 0, .pointer (some ⟨gm, 0, none⟩), .int .i32 l0, .int .i32 1, .string ⟨#[]⟩, .nilIface] 187))) := Lib.hid ((bA.trans (hbp.mono (by simp))).alloc (Nat.le_trans (Nat.le_of_lt (lt1 _ _)) hbp.size) _)
 have hwp : w.heap.size < wp.heap.size := Nat.lt_of_lt_of_le (lt1 _ _) hbp.size
 have HL0 : Hid (LitS W gm nm N vi vf w wp.heap.size (wp.alloc (.cells #[.pointer none, .int .i8 0, .pointer (some ⟨gm, 0, none⟩), .int .i32 l0, .int .i32 1, .string ⟨#[]⟩, .nilIface] 187))) := Lib.hid ⟨HM.out.after HB.out, Stp.of_below HB.out, HM.out.safe_new (Nat.le_of_lt hwp) (lt1 _ _), Nat.le_of_lt hwp, HM.out.bel.size⟩
 have HGX : Hid ((wp.alloc (.cells #[.pointer none, .int .i8 0, .pointer (some ⟨gm, 0, none⟩), .int .i32 l0, .int .i32 1, .string ⟨#[]⟩, .nilIface] 187)).heap[wp.heap.size]? = some (.cells #[.pointer none, .int .i8 0, .pointer (some ⟨gm, 0, none⟩), .int .i32 l0, .int .i32 1, .string ⟨#[]⟩, .nilIface] 187)) := Lib.hid (heap_alloc_new wp _)
 have hgf := obj_free HGX.out
 have hg1 := obj_cell HGX.out 1 _ rfl
 have hg6 := obj_cell HGX.out 6 _ rfl
 have b0 : (wp.alloc (.cells #[.pointer none, .int .i8 0, .pointer (some ⟨gm, 0, none⟩), .int .i32 l0, .int .i32 1, .string ⟨#[]⟩, .nilIface] 187)).cell? ⟨w.heap.size, 0, none⟩ = some (.int .i64 2) := cell_al _ ((hbp.cell (p := ⟨w.heap.size, 0, none⟩) (lt1 _ _)).trans (by simp [go_sem]))
 have b1 : (wp.alloc (.cells #[.pointer none, .int .i8 0, .pointer (some ⟨gm, 0, none⟩), .int .i32 l0, .int .i32 1, .string ⟨#[]⟩, .nilIface] 187)).cell? ⟨w.heap.size, 1, none⟩ = some (.bool false) := cell_al _ ((hbp.cell (p := ⟨w.heap.size, 1, none⟩) (lt1 _ _)).trans (by simp [go_sem]))
 have b2 : (wp.alloc (.cells #[.pointer none, .int .i8 0, .pointer (some ⟨gm, 0, none⟩), .int .i32 l0, .int .i32 1, .string ⟨#[]⟩, .nilIface] 187)).cell? ⟨w.heap.size, 2, none⟩ = some (.slice ma mn mc) := cell_al _ ((hbp.cell (p := ⟨w.heap.size, 2, none⟩) (lt1 _ _)).trans (by simp [go_sem]))
 have b3 : (wp.alloc (.cells #[.pointer none, .int .i8 0, .pointer (some ⟨gm, 0, none⟩), .int .i32 l0, .int .i32 1, .string ⟨#[]⟩, .nilIface] 187)).cell? ⟨w.heap.size, 3, none⟩ = some (.int .u64 vb) := cell_al _ ((hbp.cell (p := ⟨w.heap.size, 3, none⟩) (lt1 _ _)).trans (by simp [go_sem]))
 have b4 : (wp.alloc (.cells #[.pointer none, .int .i8 0, .pointer (some ⟨gm, 0, none⟩), .int .i32 l0, .int .i32 1, .string ⟨#[]⟩, .nilIface] 187)).cell? ⟨w.heap.size, 4, none⟩ = some (.string vt) := cell_al _ ((hbp.cell (p := ⟨w.heap.size, 4, none⟩) (lt1 _ _)).trans (by simp [go_sem]))
 have b5 : (wp.alloc (.cells #[.pointer none, .int .i8 0, .pointer (some ⟨gm, 0, none⟩), .int .i32 l0, .int .i32 1, .string ⟨#[]⟩, .nilIface] 187)).cell? ⟨w.heap.size, 5, none⟩ = some (.slice sa sn sc) := cell_al _ ((hbp.cell (p := ⟨w.heap.size, 5, none⟩) (lt1 _ _)).trans (by simp [go_sem]))
 have B4W : Hid (wp.cell? ⟨w.heap.size, 4, none⟩ = some (.string vt)) := Lib.hid ((hbp.cell (p := ⟨w.heap.size, 4, none⟩) (lt1 _ _)).trans (by simp [go_sem]))
 have HLA : Hid (∀ o, LitS W gm nm N vi vf w wp.heap.size (wp.alloc o).drew) := Lib.hid fun o => (by have hB : Below w.heap.size w (wp.alloc o).drew := bel_same ((bA.trans (hbp.mono (by simp))).alloc (Nat.le_trans (Nat.le_of_lt (lt1 _ _)) hbp.size) o) ⟨rfl, rfl, rfl, rfl⟩; exact ⟨HM.out.after hB, Stp.of_below hB, HM.out.safe_new (Nat.le_of_lt hwp) (lt1 _ _), Nat.le_of_lt hwp, HM.out.bel.size⟩)
 clear hbp
 have HB2 : Hid (Below w.heap.size w ((wp.alloc (.cells #[.pointer none, .int .i8 0, .pointer (some ⟨gm, 0, none⟩), .int .i32 l0, .int .i32 1, .string ⟨#[]⟩, .nilIface] 187)).alloc (.cells #[.bool false, .slice none 0 0] 197))) := Lib.hid (HB.out.alloc (Nat.le_trans (Nat.le_of_lt hwp) (Nat.le_of_lt (lt1 _ _))) _)
 obtain ⟨n, hby, hn⟩ := HBy.out
 obtain ⟨l, hl, hd, hr⟩ := bytes_row hby (HM.out.bel.trans (HB2.out.mono HM.out.bel.size))
 have HR := Lib.hid hr
 have HD := Lib.hid hd
 have HI : Hid (((wp.alloc (.cells #[.pointer none, .int .i8 0, .pointer (some ⟨gm, 0, none⟩), .int .i32 l0, .int .i32 1, .string ⟨#[]⟩, .nilIface] 187)).alloc (.cells #[.bool false, .slice none 0 0] 197)).heap[wp.heap.size + 1]? = some (.cells #[.bool false, .slice none 0 0] 197)) := Lib.hid (new2 wp _ _)
 clear hby hr hd
 go_wp2_with fail
 refine (Z.f51_any (wp.heap.size + 1) 0 _ l (by omega) HD.out _ HI.out HR.out).mono ?_
 rintro e w3 ⟨rfl, hb3, sl, xs, ho3, hrow3, hx3⟩
 have hb3' : Below (wp.alloc (.cells #[.pointer none, .int .i8 0, .pointer (some ⟨gm, 0, none⟩), .int .i32 l0, .int .i32 1, .string ⟨#[]⟩, .nilIface] 187)).heap.size (wp.alloc (.cells #[.pointer none, .int .i8 0, .pointer (some ⟨gm, 0, none⟩), .int .i32 l0, .int .i32 1, .string ⟨#[]⟩, .nilIface] 187)) w3 := bA.trans (hb3.mono (by rw [sz1]; omega))
 have hM3 := HL0.out.maker.after hb3'
 have hS3 := Stp.of_below (gm := gm) (vi := vi) (vf := vf) hb3'
 have hb33 := (hb3'.cell (p := ⟨w.heap.size, 1, none⟩) (Nat.lt_trans hwp (lt1 _ _))).trans b1
 have HX3 := Lib.hid hx3
 have HB3 := Lib.hid hb3'
 have HM3 := Lib.hid hM3
 have HS3 := Lib.hid hS3
 have HO3 := Lib.hid ho3
 have HR3 := Lib.hid hrow3
 clear hb3 hb3' hM3 hS3 ho3 hrow3 hx3
 go_wp2_with fail
 refine (f34_mk W gm nm vi vf N _ HM3.out).mono ?_
 rintro e w4 ⟨rfl, hM4, hS4⟩
 have hk4 := (HS3.out.trans hS4).keep _ HL0.out.safe
 have hgx4 := hk4.2.trans HGX.out
 have hgf4 := obj_free hgx4
 have hg14 := obj_cell hgx4 1 _ rfl
 have hg64 := obj_cell hgx4 6 _ rfl
 have HL4 : Hid (LitS W gm nm N vi vf w wp.heap.size w4) := Lib.hid ⟨hM4, HL0.out.st.trans (HS3.out.trans hS4), hk4.1, HL0.out.low, HL0.out.lowW⟩
 have hsf : ∀ k, wp.heap.size + 1 ≤ k → k < w3.heap.size → Safe gm vi vf w3 k := fun k h1 h2 => HL0.out.maker.safe_new (by rw [sz1]; exact h1) h2
 have hI3 : wp.heap.size + 1 < w3.heap.size := (Array.getElem?_eq_some_iff.1 HO3.out).1
 have HO4 := Lib.hid ((hS4.keep _ (hsf _ (Nat.le_refl _) hI3)).2.trans HO3.out)
 have HR4 := Lib.hid (row_at (B := wp.heap.size + 2) (HR3.out.le (by rw [sz1, sz1]; omega)) (fun g h1 h2 => (hS4.keep _ (hsf g (by omega) h2)).2) hS4.size)
 have HGX4 := Lib.hid hgx4
 clear hM4 hS4 hk4 hgx4 hsf
 go_upto_region 8 with fail
 have hn5 : ∀ (a b : Value) (k : Nat), wp.heap.size + 1 ≤ k → ((w4.setCell ⟨wp.heap.size, 1, none⟩ a).setCell ⟨wp.heap.size, 6, none⟩ b).heap[k]? = w4.heap[k]? := fun a b k hk => (Below.heap_setCell _ ⟨wp.heap.size, 6, none⟩ b k (by show k ≠ wp.heap.size; omega)).trans (Below.heap_setCell w4 ⟨wp.heap.size, 1, none⟩ a k (by show k ≠ wp.heap.size; omega))
 have HL5 := Lib.hid ((HL4.out.set 1 (.int .i8 6)).set 6 (.iface 193 (.pointer (some ⟨wp.heap.size + 1, 0, none⟩))))
 have hgx5 := obj_set (obj_set HGX4.out 1 (.int .i8 6)) 6 (.iface 193 (.pointer (some ⟨wp.heap.size + 1, 0, none⟩)))
 have hgf5 := obj_free hgx5
 have hg65 := obj_cell hgx5 6 _ rfl
 have HO5 := Lib.hid ((hn5 (.int .i8 6) (.iface 193 (.pointer (some ⟨wp.heap.size + 1, 0, none⟩))) _ (Nat.le_refl _)).trans HO4.out)
 have HR5 := Lib.hid (row_at (w' := (w4.setCell ⟨wp.heap.size, 1, none⟩ (.int .i8 6)).setCell ⟨wp.heap.size, 6, none⟩ (.iface 193 (.pointer (some ⟨wp.heap.size + 1, 0, none⟩)))) HR4.out (fun g h1 _ => hn5 _ _ _ (by omega)) (by simp))
 clear hgx5 hn5
 go_wp2_with fail
 refine (Z.f52_any _ _ _ _ HX3.out _ HO5.out HR5.out).mono ?_
 rintro e w6 ⟨⟨b, rfl⟩, rfl⟩
 cases b
 ·go_wp2
  go_ret
  exact HL5.out.made
 ·go_wp2_with fail
  refine (Z.f53_any _ _ _ _ HX3.out _ HO5.out HR5.out).mono ?_
  rintro e w6 ⟨⟨z, rfl⟩, rfl⟩
  go_wp2
  go_ret
  exact (HL5.out.set _ _).made
end Go.Proofs.YtabeokminikfdaaGreat
