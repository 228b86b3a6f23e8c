/- The thin package tells a list's elements. -/
import Derived.Test.YtllgogkjcbdpkaaGreatLh
import Derived.Laws.MakeOwn
namespace Go.Proofs.YtllgogkjcbdpkaaGreat
open Go.RowKit
open Z (Row VInt KInt BInt IsB IsW smallB MakesV MakesS MakesK)

set_option maxRecDepth 100000 in
theorem f40_any (L : Nat) (a : Option Addr) (n c : Nat) (w : World) (h : w.cell? ⟨L, 0, none⟩ = some (.slice a n c)) : Calls Tryz.prog 40 #[.pointer (some ⟨L, 0, none⟩)] w fun e w' => e = .returned (.int .i64 n) ∧ w = w' := by
  go_enter Tryz.func40, Tryz.ntmps40
  go_wp2
  go_ret
  exact ⟨rfl, rfl⟩
set_option maxRecDepth 100000 in
theorem f42_any (L g n c k : Nat) (hk : k < n) (u : Value) (w : World) (h : w.cell? ⟨L, 0, none⟩ = some (.slice (some ⟨g, 0, none⟩) n c)) (hu : w.cell? ⟨g, k, none⟩ = some u) : Calls Tryz.prog 42 #[.pointer (some ⟨L, 0, none⟩), .int .i64 k] w fun e w' => e = .returned u ∧ w = w' := by
  go_enter Tryz.func42, Tryz.ntmps42
  go_wp2
  go_ret
  exact ⟨rfl, rfl⟩
set_option maxRecDepth 100000 in
theorem f54_any (x : Nat) (w : World) : Calls Tryz.prog 54 #[.float .f64 x] w fun e w' => e = .returned (.int .u64 x) ∧ w = w' := by
  have hc := call70
  go_enter Tryz.func54, Tryz.ntmps54
  go_wp2
  go_ret
  exact ⟨rfl, rfl⟩
def TellIs (s : Sc) (w : World) (e : Ending) (w' : World) : Prop := ∃ v, e = .returned v ∧ NewV w w' v s ∧ Below w.heap.size w w'
set_option maxRecDepth 100000 in
set_option maxHeartbeats 8000000 in
theorem f41_any (v : Value) (s : Sc) (ok : Nat → Prop) (w : World) (h : KP ok w v s) : Calls Tryz.prog 41 #[v] w (TellIs s w) := by
  cases s with
  | none =>
    obtain rfl := h
    have t70 : ∀ w, (Instr.typeAssert (.iface 70 (.int .u8 0)) 41 70 true).run Tryz.prog w = .ok (.tuple #[.int .u8 0, .bool true]) w := fun _ => by kernel_rfl
    go_enter Tryz.func41, Tryz.ntmps41
    go_wp2
    refine bodyPost_ret (v := valOf 0 0 ⟨#[]⟩) (by simp [results, Tryz.results41, go_sem, valOf]) rfl ?_
    exact ⟨_, rfl, rfl, (Below.refl _ _).alloc (Nat.le_refl _) _⟩
  | bool b =>
    obtain rfl := h
    cases b
    · have t70 : ∀ w, (Instr.typeAssert (.iface 71 (.bool false)) 41 70 true).run Tryz.prog w = .ok (.tuple #[.int .u8 0, .bool false]) w := fun _ => by kernel_rfl
      have t71 : ∀ w, (Instr.typeAssert (.iface 71 (.bool false)) 41 71 true).run Tryz.prog w = .ok (.tuple #[.bool false, .bool true]) w := fun _ => by kernel_rfl
      go_enter Tryz.func41, Tryz.ntmps41
      go_wp2
      refine bodyPost_ret (v := valOf 1 0 ⟨#[]⟩) (by simp [results, Tryz.results41, go_sem, valOf]) rfl ?_
      exact ⟨_, rfl, rfl, (Below.refl _ _).alloc (Nat.le_refl _) _⟩
    · have t70 : ∀ w, (Instr.typeAssert (.iface 71 (.bool true)) 41 70 true).run Tryz.prog w = .ok (.tuple #[.int .u8 0, .bool false]) w := fun _ => by kernel_rfl
      have t71 : ∀ w, (Instr.typeAssert (.iface 71 (.bool true)) 41 71 true).run Tryz.prog w = .ok (.tuple #[.bool true, .bool true]) w := fun _ => by kernel_rfl
      go_enter Tryz.func41, Tryz.ntmps41
      go_wp2
      refine bodyPost_ret (v := valOf 1 1 ⟨#[]⟩) (by simp [results, Tryz.results41, go_sem, valOf]) rfl ?_
      exact ⟨_, rfl, rfl, (Below.refl _ _).alloc (Nat.le_refl _) _⟩
  | int z =>
    obtain ⟨u, rfl, hk, hS⟩ := h
    have HK := Lib.hid (hk.k)
    have HSH := Lib.hid hS
    obtain ⟨ka, kp, rfl⟩ := hk.k.shape
    clear hk hS
    have t70 : ∀ w, (Instr.typeAssert (.iface 76 (.agg #[.int .i64 ka, .pointer kp])) 41 70 true).run Tryz.prog w = .ok (.tuple #[.int .u8 0, .bool false]) w := fun _ => by kernel_rfl
    have t71 : ∀ w, (Instr.typeAssert (.iface 76 (.agg #[.int .i64 ka, .pointer kp])) 41 71 true).run Tryz.prog w = .ok (.tuple #[.bool false, .bool false]) w := fun _ => by kernel_rfl
    have t76 : ∀ w, (Instr.typeAssert (.iface 76 (.agg #[.int .i64 ka, .pointer kp])) 41 76 true).run Tryz.prog w = .ok (.tuple #[.agg #[.int .i64 ka, .pointer kp], .bool true]) w := fun _ => by kernel_rfl
    have bel1 : Below w.heap.size w ((w.alloc (.cells #[.int .i64 0, .bool false, .slice none 0 0, .int .u64 0, .string ⟨#[]⟩, .slice none 0 0] 31)).alloc (.cells #[.int .i64 ka, .pointer kp] 76)) := ((Below.refl _ _).alloc (Nat.le_refl _) _).alloc (by simp) _
    have HB1 := Lib.hid bel1
    have H53 := Lib.hid (Z.f53_any _ z 0 _ (HK.out.below bel1 (Nat.le_refl _)))
    clear bel1
    go_enter Tryz.func41, Tryz.ntmps41
    go_wp2_with fail
    go_at_call 53
    refine H53.out.mono ?_
    rintro e w1 ⟨v, rfl, ⟨sl, l, rfl, hr, hB, hl⟩, hb⟩
    obtain ⟨a, c, rfl⟩ := hr.len
    have HR := Lib.hid hr
    have HBB := Lib.hid hB
    have HB2 := Lib.hid (HB1.out.trans (hb.mono HB1.out.size))
    have HZ : Hid (w.heap.size + 2 ≤ w1.heap.size) := by have := hb.size; simp at this; show _ ≤ _; omega
    have hc : ∀ i, w1.cell? ⟨w.heap.size, i, none⟩ = #[Value.int IntKind.i64 0, Value.bool false, Value.slice none 0 0, Value.int IntKind.u64 0, Value.string { data := #[] }, Value.slice none 0 0][i]? := fun i => (hb.cell (p := ⟨w.heap.size, i, none⟩) (by simp; omega)).trans (by simp [go_sem])
    have hf : ∀ i, w1.frozen? ⟨w.heap.size, i, none⟩ = false := fun i => (hb.frozen (p := ⟨w.heap.size, i, none⟩) (by simp; omega)).trans (by simp [go_sem])
    clear hr hB hb
    generalize hd : decide (z < 0) = d at *
    have HD := Lib.hid hd
    clear hd
    go_wp2_with fail
    refine bodyPost_ret (v := .agg #[.int .i64 2, .bool d, .slice a l.length c, .int .u64 0, .string ⟨#[]⟩, .slice none 0 0]) (by simp [results, Tryz.results41, go_sem, hc]) rfl ?_
    refine ⟨_, rfl, ?_, ?_⟩
    · obtain ⟨l2, hl2, hle⟩ := HSH.out
      have hll : l.length ≤ 4000 := by rw [← hl2.uniq HBB.out]; exact hle
      refine VP.mono (VP.ofInt (B := w.heap.size + 2) (n := 4000) ?_ (Nat.le_refl _)) (fun b h => ⟨by have := h.1; omega, h.2⟩)
      iterate 6 (refine Z.VInt.setOld ?_ (show w.heap.size < w.heap.size + 2 by omega) _)
      exact ⟨_, l, by rw [HD.out], HR.out.le (by simp), HBB.out, hll⟩
    · iterate 6 (refine Below.setCell ?_ (show w.heap.size ≤ w.heap.size from Nat.le_refl _) _)
      exact HB2.out
  | float n =>
    obtain ⟨rfl, hn⟩ := h
    have t70 : ∀ w, (Instr.typeAssert (.iface 78 (.float .f64 n)) 41 70 true).run Tryz.prog w = .ok (.tuple #[.int .u8 0, .bool false]) w := fun _ => by kernel_rfl
    have t71 : ∀ w, (Instr.typeAssert (.iface 78 (.float .f64 n)) 41 71 true).run Tryz.prog w = .ok (.tuple #[.bool false, .bool false]) w := fun _ => by kernel_rfl
    have t76 : ∀ w, (Instr.typeAssert (.iface 78 (.float .f64 n)) 41 76 true).run Tryz.prog w = .ok (.tuple #[.agg #[.int .i64 0, .pointer none], .bool false]) w := fun _ => by kernel_rfl
    have t78 : ∀ w, (Instr.typeAssert (.iface 78 (.float .f64 n)) 41 78 true).run Tryz.prog w = .ok (.tuple #[.float .f64 n, .bool true]) w := fun _ => by kernel_rfl
    go_enter Tryz.func41, Tryz.ntmps41
    go_wp2_with (go_at_call 54; refine (f54_any _ _).mono ?_; rintro e w' ⟨rfl, rfl⟩)
    refine bodyPost_ret (v := valOf 3 n ⟨#[]⟩) (by simp [results, Tryz.results41, go_sem, valOf]) rfl ?_
    exact ⟨_, rfl, ⟨rfl, hn⟩, (Below.refl _ _).alloc (Nat.le_refl _) _⟩
  | str t =>
    obtain rfl := h
    have t70 : ∀ w, (Instr.typeAssert (.iface 80 (.string t)) 41 70 true).run Tryz.prog w = .ok (.tuple #[.int .u8 0, .bool false]) w := fun _ => by kernel_rfl
    have t71 : ∀ w, (Instr.typeAssert (.iface 80 (.string t)) 41 71 true).run Tryz.prog w = .ok (.tuple #[.bool false, .bool false]) w := fun _ => by kernel_rfl
    have t76 : ∀ w, (Instr.typeAssert (.iface 80 (.string t)) 41 76 true).run Tryz.prog w = .ok (.tuple #[.agg #[.int .i64 0, .pointer none], .bool false]) w := fun _ => by kernel_rfl
    have t78 : ∀ w, (Instr.typeAssert (.iface 80 (.string t)) 41 78 true).run Tryz.prog w = .ok (.tuple #[.float .f64 0, .bool false]) w := fun _ => by kernel_rfl
    have t80 : ∀ w, (Instr.typeAssert (.iface 80 (.string t)) 41 80 true).run Tryz.prog w = .ok (.tuple #[.string t, .bool true]) w := fun _ => by kernel_rfl
    go_enter Tryz.func41, Tryz.ntmps41
    go_wp2
    refine bodyPost_ret (v := valOf 4 0 t) (by simp [results, Tryz.results41, go_sem, valOf]) rfl ?_
    exact ⟨_, rfl, rfl, (Below.refl _ _).alloc (Nat.le_refl _) _⟩
  | bytes t =>
    obtain rfl := h
    have t70 : ∀ w, (Instr.typeAssert (.iface 81 (.string t)) 41 70 true).run Tryz.prog w = .ok (.tuple #[.int .u8 0, .bool false]) w := fun _ => by kernel_rfl
    have t71 : ∀ w, (Instr.typeAssert (.iface 81 (.string t)) 41 71 true).run Tryz.prog w = .ok (.tuple #[.bool false, .bool false]) w := fun _ => by kernel_rfl
    have t76 : ∀ w, (Instr.typeAssert (.iface 81 (.string t)) 41 76 true).run Tryz.prog w = .ok (.tuple #[.agg #[.int .i64 0, .pointer none], .bool false]) w := fun _ => by kernel_rfl
    have t78 : ∀ w, (Instr.typeAssert (.iface 81 (.string t)) 41 78 true).run Tryz.prog w = .ok (.tuple #[.float .f64 0, .bool false]) w := fun _ => by kernel_rfl
    have t80 : ∀ w, (Instr.typeAssert (.iface 81 (.string t)) 41 80 true).run Tryz.prog w = .ok (.tuple #[.string ⟨#[]⟩, .bool false]) w := fun _ => by kernel_rfl
    have t81 : ∀ w, (Instr.typeAssert (.iface 81 (.string t)) 41 81 true).run Tryz.prog w = .ok (.tuple #[.string t, .bool true]) w := fun _ => by kernel_rfl
    go_enter Tryz.func41, Tryz.ntmps41
    go_wp2
    refine bodyPost_ret (v := valOf 5 0 t) (by simp [results, Tryz.results41, go_sem, valOf]) rfl ?_
    exact ⟨_, rfl, rfl, (Below.refl _ _).alloc (Nat.le_refl _) _⟩
/-- The elements, told. -/
def ElemsIs (qs : Ps) (w : World) (e : Ending) (w' : World) : Prop := ∃ v ps ok, e = .returned v ∧ VL w.heap.size ok w' v ps ∧ ps.map Prod.snd = qs.map Prod.snd ∧ Below w.heap.size w w'
set_option maxRecDepth 100000 in
set_option maxHeartbeats 4000000 in
theorem f22_any (B : Nat) (ok : Nat → Prop) (gl : Nat) (v : Value) (qs : Ps) (hp : qs.length ≤ 100) (w : World) (h : LIST B ok w gl v qs) : Calls Tryz.prog 22 #[.pointer (some ⟨gl, 0, none⟩)] w (ElemsIs qs w) := by
  obtain ⟨i0, hi, hz0, hz1, hz2⟩ := info_parts infoV
  obtain ⟨A, c, rfl⟩ := own_len h.kl.1
  have HA := Lib.hid h
  have H40 := Lib.hid (fun w1 (hb : Below w.heap.size w w1) => f40_any gl A qs.length c w1 ((h.below hb).cells.1))
  obtain ⟨n, hn⟩ : ∃ n, n = qs.length := ⟨_, rfl⟩
  have HNN := Lib.hid hn
  have hn12 : n ≤ 100 := by omega
  obtain ⟨w0, hmk, hown0, hg0⟩ := run_make_own (P := Tryz.prog) w w.heap.size 22 31 i0 (valOf 0 0 ⟨#[]⟩) 6 Tryz.underlying22 hi hz0 hz1 .i64 .i64 n (by rw [hz2]; omega) (by unfold maxLen; omega) (Nat.le_refl _)
  have HO0 := Lib.hid hown0
  have HB0 : Hid (Below w.heap.size w w0) := (Below.refl _ _).grown hg0 (Nat.le_refl _) (fun k hk => by cases hk)
  clear hown0 hg0 h
  rw [← hn] at H40
  clear hn
  go_enter Tryz.func22, Tryz.ntmps22
  go_wp2_with fail
  go_at_call 40
  refine (H40.out _ (Below.refl _ _)).mono ?_
  rintro e w' ⟨rfl, rfl⟩
  go_wp2_with fail
  go_at_call 40
  refine (H40.out _ HB0.out).mono ?_
  rintro e w' ⟨rfl, rfl⟩
  go_wp2
  go_loopw [3, 10] (fun v i wr => ∃ (k : Nat) (ps : Ps) (ok' : Nat → Prop), i = .int .i64 k ∧ k ≤ n ∧ Hid (ps.length = k) ∧ Hid (ps.map Prod.snd = (qs.take k).map Prod.snd) ∧ Hid (VL w.heap.size ok' wr v ps) ∧ Hid (Below w.heap.size w wr)) (fun _ i _ => n - (RowKit.intOf i).toNat)
  case atStart => exact ⟨0, [], _, rfl, Nat.zero_le _, rfl, rfl, ⟨by simpa [flat] using HO0.out, fun g hg => id, fun b hb => False.elim hb, fun p hp => (by cases hp)⟩, HB0.out⟩
  case round =>
    obtain ⟨k, ps, ok', rfl, hk, HL, HM, HV, HB⟩ := hrel
    obtain ⟨VA, VC, rfl⟩ := own_len HV.out.1
    by_cases hlt : k < n
    · have hk3 : k < qs.length := by have := HNN.out; omega
      have hl2 := HA.out.below HB.out
      obtain ⟨g, rfl, hgl⟩ := own_formS hl2.kl.1 (by omega)
      obtain ⟨r1, r2⟩ := hl2.kl.at k hk3
      obtain ⟨T, x, hx⟩ := r2.form
      have hcs := hl2.cells.1
      rw [← HNN.out] at hcs
      have H42 := Lib.hid (f42_any gl g n c k hlt (qs[k]).1 wr hcs r1)
      have H41 := Lib.hid (f41_any (qs[k]).1 (qs[k]).2 ok wr r2)
      rw [hx] at H42 H41
      clear hl2 r1 r2 hx hcs
      have K63 : ps.length + 1 ≤ maxLen := by have := HL.out; unfold maxLen; omega
      have K16 : (ps.length + 1) * 88 ≤ 140737488355328 := by have := HL.out; omega
      have KH := Lib.hid (And.intro K63 K16)
      clear K63 K16
      go_wp2_with fail
      go_at_call 42
      refine H42.out.mono ?_
      rintro e w' ⟨rfl, rfl⟩
      go_wp2_with fail
      go_at_call 41
      refine H41.out.mono ?_
      rintro e w1 ⟨u, rfl, hu, hb⟩
      obtain ⟨d, sa, sn, sc, q, t, rfl, hcs, hone⟩ := hu.cells6
      generalize Value.int .i64 (kindOf (qs[k]).2) = y0 at *
      generalize Value.bool d = y1 at *
      generalize Value.slice sa sn sc = y2 at *
      generalize Value.int .u64 q = y3 at *
      generalize Value.string t = y4 at *
      have HU := Lib.hid hu
      have HB1 := Lib.hid hb
      have HCS := Lib.hid hcs
      have HON := Lib.hid hone
      have HBS : Hid (w.heap.size ≤ (w1.alloc (.cells #[y0, y1, y2, y3, y4, .slice none 0 0] 31)).heap.size) := by show _ ≤ _; have := HB.out.size; have := hb.size; simp; omega
      have HO : Hid ((w1.alloc (.cells #[y0, y1, y2, y3, y4, .slice none 0 0] 31)).ownsRow w.heap.size 31 6 (.slice VA ps.length VC) ps.length (flat ps)) := (own_below HV.out.1 hb).alloc _
      have HN : Hid (SrcAt (w1.alloc (.cells #[y0, y1, y2, y3, y4, .slice none 0 0] 31)) (.slice (some ⟨w1.heap.size, 0, none⟩) 1 1) 1 [y0, y1, y2, y3, y4, .slice none 0 0]) := .inr ⟨_, _, rfl, World.news_of_block (heap_alloc_new w1 _)⟩
      clear hu hb hcs hone
      go_wp2_with (at_builtin; refine wpList_append_blk rfl (.tmp 13) (.tmp 18) 22 rfl w.heap.size 31 i0 (valOf 0 0 ⟨#[]⟩) 6 88 Tryz.underlying22 hi hz0 hz1 hz2 rfl (by decide) _ ps.length (flat ps) rfl HO.out _ 1 [y0, y1, y2, y3, y4, .slice none 0 0] rfl HN.out rfl (by intro u hu; exact HON.out u (by rw [HCS.out]; exact hu)) KH.out.1 KH.out.2 HBS.out ?_)
      intro v' w2 ho hg hv
      have R := GL.snoc goodV HV.out HB1.out ((Below.refl _ _).alloc (Nat.le_refl _) _) HU.out ho hg hv
      have HR := Lib.hid R
      have HG := Lib.hid (((HB.out.trans (HB1.out.mono HB.out.size)).alloc (by have := HB.out.size; have := HB1.out.size; omega) _).grown hg HBS.out fun k' hk' => (HO.out.lt k' hk').1)
      have HM2 : Hid ((ps ++ [(Value.agg #[y0, y1, y2, y3, y4, .slice none 0 0], (qs[k]).2)]).map Prod.snd = (qs.take (k + 1)).map Prod.snd) := by
        show _ = _
        rw [List.take_succ_eq_append_getElem hk3, List.map_append, List.map_append, HM.out]; rfl
      have HL2 : Hid ((ps ++ [(Value.agg #[y0, y1, y2, y3, y4, .slice none 0 0], (qs[k]).2)]).length = k + 1) := by show _ = _; simp [HL.out]
      clear ho hg hv R
      go_wp2
      go_roundw
      case rel => exact ⟨k + 1, _, _, by go_num, by omega, HL2, HM2, HR.out, HG.out⟩
      case measure => simp [RowKit.intOf]; omega
    · go_wp2
      go_ret
      exact ⟨_, ps, ok', rfl, HV.out, by rw [HM.out, List.take_of_length_le (by have := HNN.out; omega)], HB.out⟩
def BehindIs (qs : Ps) (w : World) (e : Ending) (w' : World) : Prop := ∃ v ps ok, e = .returned (.tuple #[v, .bool true, .bool true]) ∧ VL w.heap.size ok w' v ps ∧ ps.map Prod.snd = qs.map Prod.snd ∧ Below w.heap.size w w'
set_option maxRecDepth 100000 in
theorem f11_any (B : Nat) (ok : Nat → Prop) (gl : Nat) (v : Value) (qs : Ps) (hp : qs.length ≤ 100) (w : World) (h : LIST B ok w gl v qs) : Calls Tryz.prog 11 #[.pointer (some ⟨gl, 0, none⟩), .nilIface] w (BehindIs qs w) := by
  have H22 := Lib.hid (f22_any B ok gl v qs hp w h)
  clear h
  go_enter Tryz.func11, Tryz.ntmps11
  go_wp2_with fail
  go_at_call 22
  refine H22.out.mono ?_
  rintro e w1 ⟨v', ps, ok', rfl, hv, hm, hb⟩
  obtain ⟨A, c, rfl⟩ := own_len hv.1
  have HV := Lib.hid hv
  have HM := Lib.hid hm
  have HB := Lib.hid hb
  clear hv hm hb
  go_wp2
  go_ret3
  exact ⟨_, ps, ok', rfl, HV.out, HM.out, HB.out⟩
end Go.Proofs.YtllgogkjcbdpkaaGreat
