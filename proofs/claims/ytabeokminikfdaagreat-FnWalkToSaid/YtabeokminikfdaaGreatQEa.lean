import Derived.Test.YtabeokminikfdaaGreatQCh
import Derived.Test.YtabeokminikfdaaGreatQB1
import Derived.Test.YtabeokminikfdaaGreatQA1
set_option linter.all false
set_option maxRecDepth 100000
set_option maxHeartbeats 8000000
namespace Go.Proofs.YtabeokminikfdaaGreat
open Go.RowKit
def MakeS (W : World) (gm : Nat) (nm : ByteArray) (S : SV → Tr → Prop) : Prop := ∀ (s : SV) (t : Tr) (N : Nat) (vi vf : Value) (w : World), S s t → Mk W gm nm vi vf N w → N + t.size ≤ 1000000 →
 Calls Tryz.prog 26 #[.pointer (some ⟨gm, 0, none⟩), s.val] w (Made W gm nm (N + t.size) vi vf w fun R v => Nd R v t)
theorem sv_at {W w : World} {g off i : Nat} {x : SV} (hb : Below W.heap.size W w) (h : ∀ j, j < 8 → W.cell? ⟨g, off + i * 8 + j, none⟩ = x.cells[j]?) :
  w.cell? ⟨g, off + i * 8, none⟩ = some (.int .i64 x.kind) ∧ w.cell? ⟨g, off + i * 8 + 1, none⟩ = some (.int .i64 x.op) ∧ w.cell? ⟨g, off + i * 8 + 2, none⟩ = some (.string x.text) ∧ w.cell? ⟨g, off + i * 8 + 3, none⟩ = some x.names ∧ w.cell? ⟨g, off + i * 8 + 4, none⟩ = some x.exprs ∧ w.cell? ⟨g, off + i * 8 + 5, none⟩ = some x.params ∧ w.cell? ⟨g, off + i * 8 + 6, none⟩ = some x.body ∧ w.cell? ⟨g, off + i * 8 + 7, none⟩ = some x.els := by
 have cell : ∀ j (u : Value), j < 8 → x.cells[j]? = some u → w.cell? ⟨g, off + i * 8 + j, none⟩ = some u := fun j u hj hu => by
  have h1 := (h j hj).trans hu
  exact (hb.cell (p := ⟨g, off + i * 8 + j, none⟩) (World.block_lt_of_cell? W _ h1)).trans h1
 exact ⟨cell 0 _ (by decide) rfl, cell 1 _ (by decide) rfl, cell 2 _ (by decide) rfl, cell 3 _ (by decide) rfl, cell 4 _ (by decide) rfl, cell 5 _ (by decide) rfl, cell 6 _ (by decide) rfl, cell 7 _ (by decide) rfl⟩
theorem f21_any (W : World) (gm : Nat) (nm : ByteArray) (S : SV → Tr → Prop) (hE : MakeS W gm nm S) (hSh : ∀ s t, S s t → SvSh s) (v : Value) (ts : List Tr) (N : Nat) (vi vf : Value) (w : World) (hv : RowOf W 8 (SQ S) v ts) (hM : Mk W gm nm vi vf N w) (hN : N + sizes ts ≤ 1000000) :
  Calls Tryz.prog 21 #[.pointer (some ⟨gm, 0, none⟩), v] w (Made W gm nm (N + sizes ts) vi vf w (RowQ 0 ts)) := by
 obtain ⟨i0, hi, hz0, hz1, hz2⟩ := info_parts info169
 obtain ⟨a, c, rfl⟩ := hv.val
 have hlen : ts.length ≤ 1000000 := by have := length_sizes ts; omega
 have HE := Lib.hid hE
 have HSh := Lib.hid hSh
 have HV := Lib.hid hv
 have HM := Lib.hid hM
 have HN := Lib.hid hN
 clear hE hSh hv hM hN
 go_enter Tryz.func21, Tryz.ntmps21
 go_wp2
 go_loopw [4, 9] (fun s4 i wr => ∃ (k : Nat) (vi' vf' : Value) (xs : List Value), k ≤ ts.length ∧ i = .int .i64 k ∧ Outs W gm nm (N + sizes (ts.take k)) vi vf vi' vf' w 169 (ts.take k) xs s4 wr) (fun _ i _ => ts.length - (intOf i).toNat)
 case atStart => exact ⟨0, vi, vf, [], Nat.zero_le _, rfl, (Outs.start HM.out).more (Nat.le_add_right _ _)⟩
 case round =>
  obtain ⟨k, vi', vf', xs, hk, rfl, hO⟩ := hrel
  have htk : (ts.take k).length = k := by rw [List.length_take]; omega
  obtain ⟨VA, VC, rfl⟩ := own_len hO.row
  rw [show Value.slice VA (ts.take k).length VC = .slice VA k VC by rw [htk]] at hO
  have HO := Lib.hid hO
  have HTk := Lib.hid htk
  clear hO
  by_cases hlt : k < ts.length
  ·have hk' : k < ts.length := by omega
   obtain ⟨g, off, cs, rfl, ⟨hsz, hcs⟩, x, rfl, hx⟩ := HV.out.at k hk'
   have hsh := HSh.out x _ hx
   obtain ⟨sk, so, st, w1, w2, w3, w4, w5⟩ := x
   obtain ⟨⟨a1, n1, m1, rfl⟩, ⟨a2, n2, m2, rfl⟩, ⟨a3, n3, m3, rfl⟩, ⟨a4, n4, m4, rfl⟩, ⟨a5, n5, m5, rfl⟩⟩ := hsh
   obtain ⟨c0, c1, c2, c3, c4, c5, c6, c7⟩ := sv_at HO.out.maker.bel hcs
   dsimp only at c0 c1 c2 c3 c4 c5 c6 c7
   have HX := Lib.hid hx
   have HZ := Lib.hid (sizes_take_le ts k hk')
   have HZ2 := Lib.hid (sizes_take ts k hk')
   have HTT := Lib.hid (List.take_succ_eq_append_getElem hk')
   clear hcs hsz hx htk
   go_wp2_with fail
   have hz := HZ.out
   have hn := HN.out
   refine (HE.out _ ts[k] (N + sizes (ts.take k)) vi' vf' _ HX.out (HO.out.maker.after bA) (by omega)).mono ?_
   rintro e w1 ⟨v1, vi1, vf1, rfl, hM1, hS1, hd1⟩
   obtain ⟨T1, p1, rfl⟩ := hd1.iface
   have HM1 := Lib.hid hM1
   have HS1 := Lib.hid hS1
   have HD1 := Lib.hid hd1
   have HRow : Hid ((w1.alloc (.cells #[.iface T1 p1] 169)).ownsRow w.heap.size 169 1 (.slice VA k VC) k xs) := Lib.hid (by
    have := HO.out.rowAt (X := wr.alloc (.cells #[.int .i64 sk, .int .i64 so, .string st, .slice a1 n1 m1, .slice a2 n2 m2, .slice a3 n3 m3, .slice a4 n4 m4, .slice a5 n5 m5] 43)) bA hS1 (.cells #[.iface T1 p1] 169)
    rwa [HTk.out] at this)
   have HSrc := Lib.hid (src_one w1 (.iface T1 p1) 169)
   have HSz : Hid (w.heap.size ≤ (w1.alloc (.cells #[.iface T1 p1] 169)).heap.size) := Lib.hid (by have := HO.out.st.size; have := hS1.size; rw [sz1] at *; omega)
   have HL : Hid (k + 1 ≤ maxLen ∧ (k + 1) * 16 ≤ 140737488355328) := Lib.hid ⟨by unfold maxLen; omega, by omega⟩
   clear hM1 hS1 hd1 hz hn c0 c1 c2 c3 c4 c5 c6 c7
   go_wp2_with (at_builtin; refine wpList_append_blk rfl (.tmp 13) (.tmp 17) 72 rfl w.heap.size 169 i0 .nilIface 1 16 Tryz.underlying72 hi hz0 hz1 hz2 rfl (by decide) (.slice VA k VC) k xs rfl HRow.out (.slice (some ⟨w1.heap.size, 0, none⟩) 1 1) 1 [.iface T1 p1] rfl HSrc.out rfl (by intro y hy; obtain rfl := List.mem_singleton.1 hy; rfl) HL.out.1 HL.out.2 HSz.out ?_)
   intro v' w2 ho2 hg2 hv2
   obtain ⟨A2, C2, rfl⟩ := own_len ho2
   have HP := Lib.hid (HO.out.push (X := wr.alloc (.cells #[.int .i64 sk, .int .i64 so, .string st, .slice a1 n1 m1, .slice a2 n2 m2, .slice a3 n3 m3, .slice a4 n4 m4, .slice a5 n5 m5] 43)) bA HM1.out HS1.out HD1.out (by rw [HTk.out]; exact ho2) hg2 hv2 HM.out.bel.size)
   clear ho2 hg2 hv2
   go_wp2
   go_roundw
   case rel =>
    refine ⟨k + 1, vi1, vf1, xs ++ [.iface T1 p1], by omega, by go_num, ?_⟩
    rw [HTT.out, sizes_append]
    have := HP.out
    simpa only [sizes, Nat.add_zero, Nat.add_assoc] using this
   case measure =>
    simp [intOf]
    omega
  ·go_wp2
   go_ret
   obtain rfl : k = ts.length := by omega
   have hO := HO.out
   rw [List.take_length] at hO ⊢
   exact ⟨_, vi', vf', rfl, hO.maker, hO.st, hO.rowQ⟩
theorem f42_any (W : World) (gm : Nat) (nm : ByteArray) (S : SV → Tr → Prop) (hE : MakeS W gm nm S) (hSh : ∀ s t, S s t → SvSh s) (a : Option Addr) (n c : Nat) (ts : List Tr) (N : Nat) (vi vf : Value) (w : World) (h0 : 0 < ts.length) (hv : RowOf W 8 (SQ S) (.slice a n c) ts) (hM : Mk W gm nm vi vf N w) (hN : N + sizes ts ≤ 1000000) :
  Calls Tryz.prog 42 #[.pointer (some ⟨gm, 0, none⟩), .slice a n c] w (Made W gm nm (N + sizes ts) vi vf w (RowQ 0 ts)) := by
 obtain rfl : n = ts.length := hv.len
 have HE := Lib.hid hE
 have HSh := Lib.hid hSh
 have HV := Lib.hid hv
 have HM := Lib.hid hM
 have HN := Lib.hid hN
 have hpos : (0 : Int) < (ts.length : Int) := by omega
 clear hE hSh hv hM hN
 go_enter Tryz.func42, Tryz.ntmps42
 go_wp2_with fail
 refine (f34_mk W gm nm vi vf N _ HM.out).mono ?_
 rintro e w2 ⟨rfl, hM2, hS2⟩
 have HM2 := Lib.hid hM2
 have HS2 := Lib.hid hS2
 clear hM2 hS2
 go_wp2_with fail
 refine (f21_any W gm nm S HE.out HSh.out _ ts N vi vf _ HV.out HM2.out HN.out).mono ?_
 rintro e w6 ⟨v6, vi6, vf6, rfl, hM6, hS6, hR6⟩
 obtain ⟨a6, n6, c6, rfl, rfl, e2, e3, e4⟩ := hR6
 go_wp2
 go_ret
 exact ⟨_, vi6, vf6, rfl, hM6, HS2.out.trans hS6, _, _, _, rfl, rfl, e2, e3, e4.step (Stp.refl ..) HS2.out.size⟩
end Go.Proofs.YtabeokminikfdaaGreat
