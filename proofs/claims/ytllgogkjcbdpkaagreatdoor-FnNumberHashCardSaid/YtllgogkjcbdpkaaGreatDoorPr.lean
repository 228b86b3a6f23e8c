/- QuoRem of the package by one. -/
import Derived.Test.YtllgogkjcbdpkaaGreatDoorPq
import Derived.Deep.DeepCutAuto
namespace Go.Proofs.YtllgogkjcbdpkaaGreatDoor.Z
open Go.RowKit

/-- Two blocks may have been written; all else is as it was. -/
structure Two (w w' : World) (a b : Nat) : Prop where
  os : w'.os = w.os
  tape : w'.tape = w.tape
  output : w'.output = w.output
  size : w.heap.size ≤ w'.heap.size
  block : ∀ k, k < w.heap.size → k ≠ a → k ≠ b → w'.heap[k]? = w.heap[k]?
theorem Two.of {w w' : World} {a b : Nat} (h : Below w.heap.size w w') : Two w w' a b := ⟨h.os, h.tape, h.output, h.size, fun k hk _ _ => h.block k hk⟩
theorem Two.setA {w w' : World} {a b : Nat} (h : Two w w' a b) (i : Nat) (u : Value) : Two w (w'.setCell ⟨a, i, none⟩ u) a b := ⟨h.os, h.tape, h.output, by simpa [World.setCell] using h.size, fun k hk ha hb => (Below.heap_setCell w' ⟨a, i, none⟩ u k ha).trans (h.block k hk ha hb)⟩
theorem Two.setB {w w' : World} {a b : Nat} (h : Two w w' a b) (i : Nat) (u : Value) : Two w (w'.setCell ⟨b, i, none⟩ u) a b := ⟨h.os, h.tape, h.output, by simpa [World.setCell] using h.size, fun k hk ha hb => (Below.heap_setCell w' ⟨b, i, none⟩ u k hb).trans (h.block k hk ha hb)⟩
theorem cell_keep {W : World} {p r : Addr} {u x : Value} (h : W.cell? p = some u) (n : r ≠ p) : (W.setCell r x).cell? p = some u := (World.cell?_setCell_other _ _ _ _ n).trans h
theorem ne_blk {a b i j : Nat} (h : a ≠ b) : Hid ((⟨a, i, none⟩ : Addr) ≠ ⟨b, j, none⟩) := Lib.hid (fun e => h (by injection e))
theorem ne_off {a i j : Nat} (h : i ≠ j) : Hid ((⟨a, i, none⟩ : Addr) ≠ ⟨a, j, none⟩) := Lib.hid (fun e => h (by injection e))
theorem cell_drew {W : World} {p : Addr} {u : Value} (h : W.cell? p = some u) : W.drew.cell? p = some u := h
theorem quo_end {gz gr : Nat} {d : Bool} {xs : List Nat} {w wc : World} {v : Value} (lz : gz < w.heap.size) (lr : gr < w.heap.size) (hzr : gz ≠ gr) (hv : wc.heap[gz]? = some (.cells #[.bool false, v] 79 (0, 0))) (hn : New wc gr) (hrow : Row w.heap.size .u64 wc v xs) (ht : Two w wc gz gr) :
    ((wc.setCell ⟨gz, 0, none⟩ (.bool d)).setCell ⟨gr, 0, none⟩ (.bool false)).heap[gz]? = some (.cells #[.bool d, v] 79 (0, 0)) ∧ New ((wc.setCell ⟨gz, 0, none⟩ (.bool d)).setCell ⟨gr, 0, none⟩ (.bool false)) gr ∧ Row w.heap.size .u64 ((wc.setCell ⟨gz, 0, none⟩ (.bool d)).setCell ⟨gr, 0, none⟩ (.bool false)) v xs ∧ Two w ((wc.setCell ⟨gz, 0, none⟩ (.bool d)).setCell ⟨gr, 0, none⟩ (.bool false)) gz gr := by
  have z3 : (wc.setCell ⟨gz, 0, none⟩ (.bool d)).heap[gz]? = some (.cells #[.bool d, v] 79 (0, 0)) := Joins.block_setCell hv (i := 0) _
  have r3 : (wc.setCell ⟨gz, 0, none⟩ (.bool d)).heap[gr]? = some (.cells #[.bool false, .slice none 0 0] 79 (0, 0)) := (Below.heap_setCell _ _ _ gr hzr.symm).trans hn
  exact ⟨(Below.heap_setCell _ _ _ gz hzr).trans z3, Joins.block_setCell r3 (i := 0) _, Row.setOld (Row.setOld hrow lz _) lr _, (ht.setA 0 _).setB 0 _⟩
theorem Two.drew {w w' : World} {a b : Nat} (h : Two w w' a b) : Two w w'.drew a b := ⟨h.os, h.tape, h.output, h.size, h.block⟩
def QuoMid (gz gr : Nat) (xs : List Nat) (w : World) (s8 : Value) (wr : World) : Prop := s8 = .pointer none ∧ ∃ v, wr.heap[gz]? = some (.cells #[.bool false, v] 79 (0, 0)) ∧ New wr gr ∧ Row w.heap.size .u64 wr v xs ∧ Two w wr gz gr
theorem quo_mid {gz gr : Nat} {xs : List Nat} {w w2 : World} {v : Value} (lz : gz < w.heap.size) (lr : gr < w.heap.size) (hz : New w gz) (hr : New w gr) (hzr : gz ≠ gr) (hb : Below w.heap.size w w2) (hrow : Row w.heap.size .u64 w2 v xs) : QuoMid gz gr xs w (.pointer none) ((w2.setCell ⟨gz, 1, none⟩ v).setCell ⟨gr, 1, none⟩ (.slice none 0 0)) := by
  have z2 : w2.heap[gz]? = some (.cells #[.bool false, .slice none 0 0] 79 (0, 0)) := (hb.block gz lz).trans hz
  have r2 : w2.heap[gr]? = some (.cells #[.bool false, .slice none 0 0] 79 (0, 0)) := (hb.block gr lr).trans hr
  have z3 : (w2.setCell ⟨gz, 1, none⟩ v).heap[gz]? = some (.cells #[.bool false, v] 79 (0, 0)) := Joins.block_setCell z2 (i := 1) _
  have r3 : (w2.setCell ⟨gz, 1, none⟩ v).heap[gr]? = some (.cells #[.bool false, .slice none 0 0] 79 (0, 0)) := (Below.heap_setCell _ _ _ gr hzr.symm).trans r2
  refine ⟨rfl, v, (Below.heap_setCell _ _ _ gz hzr).trans z3, Joins.block_setCell r3 (i := 1) _, Row.setOld (Row.setOld hrow lz _) lr _, ((Two.of hb).setA 1 _).setB 1 _⟩
def QuoIs (gz gr : Nat) (d : Bool) (xs : List Nat) (w : World) (e : Ending) (w' : World) : Prop := e = .returned (.tuple #[.pointer (some ⟨gz, 0, none⟩), .pointer (some ⟨gr, 0, none⟩)]) ∧ ∃ v, w'.heap[gz]? = some (.cells #[.bool d, v] 79 (0, 0)) ∧ New w' gr ∧ Row w.heap.size .u64 w' v xs ∧ Two w w' gz gr
theorem two_far {W : World} {p q r : Addr} {u v x : Value} (h : W.cell? p = some u ∧ W.cell? q = some v) (n1 : p.block ≠ r.block) (n2 : q.block ≠ r.block) : (W.setCell r x).cell? p = some u ∧ (W.setCell r x).cell? q = some v := ⟨set_other h.1 n1, set_other h.2 n2⟩
set_option maxRecDepth 100000 in
set_option maxHeartbeats 40000000 in
theorem f70_one (gz gr gx ox gy oy : Nat) (bx y : Bool) (B : Nat) (sl : Value) (xs : List Nat) (o oo c : Nat) (h0 : 0 < xs.length) (hl : xs.length ≤ 1000) (w : World) (hz : New w gz) (hr : New w gr) (hzr : gz ≠ gr) (hxz : gx ≠ gz) (hxr : gx ≠ gr) (hyz : gy ≠ gz) (hyr : gy ≠ gr)
    (x0 : w.cell? ⟨gx, ox, none⟩ = some (.bool bx)) (x1 : w.cell? ⟨gx, ox + 1, none⟩ = some sl) (hx : Row B .u64 w sl xs) (y0 : w.cell? ⟨gy, oy, none⟩ = some (.bool y)) (y1 : w.cell? ⟨gy, oy + 1, none⟩ = some (.slice (some ⟨o, oo, none⟩) 1 c)) (ho : w.cell? ⟨o, oo, none⟩ = some (.int .u64 1)) :
    Calls Tryz.prog 70 #[.pointer (some ⟨gz, 0, none⟩), .pointer (some ⟨gx, ox, none⟩), .pointer (some ⟨gy, oy, none⟩), .pointer (some ⟨gr, 0, none⟩)] w (QuoIs gz gr (bx != y) xs w) := by
  obtain ⟨ax, kx, rfl⟩ := hx.len
  have zc : ∀ i, w.cell? ⟨gz, i, none⟩ = #[Value.bool false, Value.slice none 0 0][i]? := fun i => by simp [World.cell?, show w.heap[gz]? = _ from hz]
  have rc : ∀ i, w.cell? ⟨gr, i, none⟩ = #[Value.bool false, Value.slice none 0 0][i]? := fun i => by simp [World.cell?, show w.heap[gr]? = _ from hr]
  have lz : gz < w.heap.size := (Array.getElem?_eq_some_iff.1 hz).1
  have lr : gr < w.heap.size := (Array.getElem?_eq_some_iff.1 hr).1
  have HZ := Lib.hid (show w.heap[gz]? = _ from hz)
  have HR := Lib.hid (show w.heap[gr]? = _ from hr)
  have H80 := Lib.hid (fun W (hb : Below w.heap.size w W) => f80_one B none _ xs hl o oo c W (hx.below hb (Nat.le_refl _)) (cell_below ho hb))
  have hlen : 0 < xs.length := h0
  have hlx : (0 : Int) < (xs.length : Int) := by omega
  generalize hLL : xs.length = L at *
  have HLL := Lib.hid hLL
  clear hz hr hx h0 hl hLL
  go_enter Tryz.func70, Tryz.ntmps70
  go_wp2_with fail
  go_cut [8] (fun s8 wr => QuoMid gz gr xs w s8 wr)
  case first =>
    go_region_with
      (first
        | (go_at_call 80; refine (H80.out _ ?_).mono ?_; (· (repeat (first | with_reducible refine Below.drew ?_ | with_reducible refine below_drewN ?_ _)); exact Below.refl _ _); rintro e w2 ⟨v2, rfl, hrow, hb⟩; obtain ⟨a2, k2, rfl⟩ := hrow.len; have HC2 : Hid (Below w.heap.size w w2) := Lib.hid ⟨hb.os, hb.tape, hb.output, hb.size, hb.block⟩; have HROW := Lib.hid hrow; have S2 : w2.cell? ⟨gx, ox + 1, none⟩ = some (.slice ax L kx) ∧ w2.cell? ⟨gy, oy + 1, none⟩ = some (.slice (some ⟨o, oo, none⟩) 1 c) := ⟨cell_below x1 HC2.out, cell_below y1 HC2.out⟩; have zb := Lib.hid ((HC2.out.block gz lz).trans HZ.out); have rb := Lib.hid ((HC2.out.block gr lr).trans HR.out); obtain ⟨zc2, zf2, _⟩ := blk_cells zb.out; obtain ⟨rc2, rf2, _⟩ := blk_cells rb.out; have xx0 := cell_below x0 HC2.out; have yy0 := cell_below y0 HC2.out; (try clear hrow); (try clear hb)))
    all_goals
      go_wp2_with fail
      go_meet
      exact quo_mid lz lr HZ.out HR.out hzr HC2.out HROW.out
  case rest =>
    obtain ⟨rfl, v, hv, hn, hrow, htwo⟩ := hcut
    obtain ⟨av, kv, rfl⟩ := hrow.len
    obtain ⟨zc2, zf2, lz2⟩ := blk_cells hv
    obtain ⟨rc2, rf2, lr2⟩ := blk_cells (show wc.heap[gr]? = _ from hn)
    have xx0 : wc.cell? ⟨gx, ox, none⟩ = some (.bool bx) := (World.cell?_of_block (w := w) (htwo.block gx (World.block_lt_of_cell? w _ x0) hxz hxr)).trans x0
    have yy0 : wc.cell? ⟨gy, oy, none⟩ = some (.bool y) := (World.cell?_of_block (w := w) (htwo.block gy (World.block_lt_of_cell? w _ y0) hyz hyr)).trans y0
    have HV := Lib.hid hv
    have HN := Lib.hid (show wc.heap[gr]? = _ from hn)
    have HROW := Lib.hid hrow
    have HTW := Lib.hid htwo
    clear hv hn hrow htwo H80 zc rc x0 y0 x1 y1 ho
    rw [HLL.out] at *
    have n00 := ne_off (a := gz) (i := 0) (j := 1) (by decide)
    have n01 := ne_blk (i := 0) (j := ox) (show gz ≠ gx from hxz.symm)
    have n02 := ne_blk (i := 0) (j := oy) (show gz ≠ gy from hyz.symm)
    have n03 := ne_blk (i := 0) (j := 1) (show gz ≠ gr from hzr)
    have n10 := ne_blk (i := 0) (j := 1) (show gr ≠ gz from hzr.symm)
    have n11 := ne_blk (i := 0) (j := ox) (show gr ≠ gx from hxr.symm)
    have n12 := ne_blk (i := 0) (j := oy) (show gr ≠ gy from hyr.symm)
    have n13 := ne_off (a := gr) (i := 0) (j := 1) (by decide)
    have z1 := zc2 1
    have r1 := rc2 1
    go_wp2_with fail
    refine wp_region_held_drew (S := fun w' => (w'.cell? ⟨gz, 1, none⟩ = some (.slice av L kv) ∧ w'.cell? ⟨gx, ox, none⟩ = some (.bool bx)) ∧ (w'.cell? ⟨gy, oy, none⟩ = some (.bool y) ∧ w'.cell? ⟨gr, 1, none⟩ = some (.slice none 0 0))) (by kernel_rfl) ⟨⟨z1, xx0⟩, yy0, r1⟩ (fun hHeld => ?_)
    refine wpAnyH_take (i := 0) (oi := ?o0) (v := ?v0) ?h0 (by kernel_rfl) (by kernel_rfl) (by kernel_rfl) ?q0 ?y0 hHeld ?r0
    case h0 => (simp only [List.getElem?_toArray, List.getElem?_cons_zero]; exact rfl)
    case q0 => exact fun _ _ _ h => h
    case y0 =>
      refine Or.inl ⟨by rfl, ?_⟩
      intro W hSw; (try dsimp only at hSw); go_simp; (try with_reducible rfl)
    try simp only [Act.put, List.setIfInBounds_toArray, List.set_cons_zero, List.set_cons_succ]
    refine wpAnyH_take (i := 1) (oi := ?o1) (v := ?v1) ?h1 (by kernel_rfl) (by kernel_rfl) (by kernel_rfl) ?q1 ?y1 hHeld ?r1
    case h1 => (simp only [List.getElem?_toArray, List.getElem?_cons_succ, List.getElem?_cons_zero]; exact rfl)
    case q1 => exact fun _ _ _ h => h
    case y1 =>
      refine Or.inl ⟨by rfl, ?_⟩
      intro W hSw; (try dsimp only at hSw); go_simp; (try with_reducible rfl)
    try simp only [Act.put, List.setIfInBounds_toArray, List.set_cons_zero, List.set_cons_succ]
    refine wpAnyH_take (i := 2) (oi := ?o2) (v := ?v2) ?h2 (by kernel_rfl) (by kernel_rfl) (by kernel_rfl) ?q2 ?y2 hHeld ?r2
    case h2 => (simp only [List.getElem?_toArray, List.getElem?_cons_succ, List.getElem?_cons_zero]; exact rfl)
    case q2 => exact fun _ _ _ h => h
    case y2 =>
      refine Or.inl ⟨by rfl, ?_⟩
      intro W hSw; (try dsimp only at hSw); go_simp; (try with_reducible rfl)
    try simp only [Act.put, List.setIfInBounds_toArray, List.set_cons_zero, List.set_cons_succ]
    refine wpAnyH_take (i := 3) (oi := ?o3) (v := ?v3) ?h3 (by kernel_rfl) (by kernel_rfl) (by kernel_rfl) ?q3 ?y3 hHeld ?r3
    case h3 => (simp only [List.getElem?_toArray, List.getElem?_cons_succ, List.getElem?_cons_zero]; exact rfl)
    case q3 => exact fun _ _ _ h => h
    case y3 =>
      refine Or.inl ⟨by rfl, ?_⟩
      intro W hSw; (try dsimp only at hSw); go_simp; (try with_reducible rfl)
    try simp only [Act.put, List.setIfInBounds_toArray, List.set_cons_zero, List.set_cons_succ]
    refine wpAnyH_take (i := 4) (oi := ?o4) (v := ?v4) ?h4 (by kernel_rfl) (by kernel_rfl) (by kernel_rfl) ?q4 ?y4 hHeld ?r4
    case h4 => (simp only [List.getElem?_toArray, List.getElem?_cons_succ, List.getElem?_cons_zero]; exact rfl)
    case q4 => exact fun _ _ _ h => h
    case y4 =>
      refine Or.inl ⟨by rfl, ?_⟩
      intro W hSw; (try dsimp only at hSw); go_simp; (try with_reducible rfl)
    try simp only [Act.put, List.setIfInBounds_toArray, List.set_cons_zero, List.set_cons_succ]
    refine wpAnyH_take (i := 5) (oi := ?o5) (v := ?v5) ?h5 (by kernel_rfl) (by kernel_rfl) (by kernel_rfl) ?q5 ?y5 hHeld ?r5
    case h5 => (simp only [List.getElem?_toArray, List.getElem?_cons_succ, List.getElem?_cons_zero]; exact rfl)
    case q5 => exact fun _ _ _ h => h
    case y5 =>
      refine Or.inl ⟨by rfl, ?_⟩
      intro W hSw; (try dsimp only at hSw); go_simp; (try with_reducible rfl)
    try simp only [Act.put, List.setIfInBounds_toArray, List.set_cons_zero, List.set_cons_succ]
    refine wpAnyH_take (i := 6) (oi := ?o6) (v := ?v6) ?h6 (by kernel_rfl) (by kernel_rfl) (by kernel_rfl) ?q6 ?y6 hHeld ?r6
    case h6 => (simp only [List.getElem?_toArray, List.getElem?_cons_succ, List.getElem?_cons_zero]; exact rfl)
    case q6 => exact fun _ _ _ h => h
    case y6 =>
      refine Or.inl ⟨by rfl, ?_⟩
      intro W hSw; (try dsimp only at hSw); go_simp; (try with_reducible rfl)
    try simp only [Act.put, List.setIfInBounds_toArray, List.set_cons_zero, List.set_cons_succ]
    refine wpAnyH_take (i := 7) (oi := ?o7) (v := ?v7) ?h7 (by kernel_rfl) (by kernel_rfl) (by kernel_rfl) ?q7 ?y7 hHeld ?r7
    case h7 => (simp only [List.getElem?_toArray, List.getElem?_cons_succ, List.getElem?_cons_zero]; exact rfl)
    case q7 => exact fun _ _ _ h => h
    case y7 =>
      refine Or.inl ⟨by rfl, ?_⟩
      intro W hSw; (try dsimp only at hSw); go_simp; (try with_reducible rfl)
    try simp only [Act.put, List.setIfInBounds_toArray, List.set_cons_zero, List.set_cons_succ]
    refine wpAnyH_take (i := 8) (oi := ?o8) (v := ?v8) ?h8 (by kernel_rfl) (by kernel_rfl) (by kernel_rfl) ?q8 ?y8 hHeld ?r8
    case h8 => (simp only [List.getElem?_toArray, List.getElem?_cons_succ, List.getElem?_cons_zero]; exact rfl)
    case q8 => exact fun _ _ _ h => h
    case y8 =>
      refine Or.inl ⟨by rfl, ?_⟩
      intro W hSw; (try dsimp only at hSw); go_simp; (try with_reducible rfl)
    try simp only [Act.put, List.setIfInBounds_toArray, List.set_cons_zero, List.set_cons_succ]
    refine wpAnyH_take (i := 9) (oi := ?o9) (v := ?v9) ?h9 (by kernel_rfl) (by kernel_rfl) (by kernel_rfl) ?q9 ?y9 hHeld ?r9
    case h9 => (simp only [List.getElem?_toArray, List.getElem?_cons_succ, List.getElem?_cons_zero]; exact rfl)
    case q9 => exact fun _ _ _ h => h
    case y9 =>
      refine Or.inl ⟨by rfl, ?_⟩
      intro W hSw; (try dsimp only at hSw); go_simp; (try with_reducible rfl)
    try simp only [Act.put, List.setIfInBounds_toArray, List.set_cons_zero, List.set_cons_succ]
    refine wpAnyH_take (i := 10) (oi := ?o10) (v := ?v10) ?h10 (by kernel_rfl) (by kernel_rfl) (by kernel_rfl) ?q10 ?y10 hHeld ?r10
    case h10 => (simp only [List.getElem?_toArray, List.getElem?_cons_succ, List.getElem?_cons_zero]; exact rfl)
    case q10 => exact fun _ _ _ h => h
    case y10 =>
      refine Or.inl ⟨by rfl, ?_⟩
      intro W hSw; (try dsimp only at hSw); go_simp; (try with_reducible rfl)
    try simp only [Act.put, List.setIfInBounds_toArray, List.set_cons_zero, List.set_cons_succ]
    refine wpAnyH_take (i := 11) (oi := ?o11) (v := ?v11) ?h11 (by kernel_rfl) (by kernel_rfl) (by kernel_rfl) ?q11 ?y11 hHeld ?r11
    case h11 => (simp only [List.getElem?_toArray, List.getElem?_cons_succ, List.getElem?_cons_zero]; exact rfl)
    case q11 => exact fun _ _ _ h => h
    case y11 =>
      refine Or.inl ⟨by rfl, ?_⟩
      intro W hSw; (try dsimp only at hSw); go_simp; (try with_reducible rfl)
    try simp only [Act.put, List.setIfInBounds_toArray, List.set_cons_zero, List.set_cons_succ]
    refine wpAnyH_take (i := 12) (oi := ?o12) (v := ?v12) ?h12 (by kernel_rfl) (by kernel_rfl) (by kernel_rfl) ?q12 ?y12 hHeld ?r12
    case h12 => (simp only [List.getElem?_toArray, List.getElem?_cons_succ, List.getElem?_cons_zero]; exact rfl)
    case q12 => exact fun _ _ _ h => h
    case y12 =>
      refine Or.inl ⟨by rfl, ?_⟩
      intro W hSw; (try dsimp only at hSw); go_simp; (try with_reducible rfl)
    try simp only [Act.put, List.setIfInBounds_toArray, List.set_cons_zero, List.set_cons_succ]
    refine wpAnyH_take (i := 13) (oi := ?o13) (v := ?v13) ?h13 (by kernel_rfl) (by kernel_rfl) (by kernel_rfl) ?q13 ?y13 hHeld ?r13
    case h13 => (simp only [List.getElem?_toArray, List.getElem?_cons_succ, List.getElem?_cons_zero]; exact rfl)
    case q13 => exact fun _ _ _ h => h
    case y13 =>
      refine Or.inl ⟨by rfl, ?_⟩
      intro W hSw; (try dsimp only at hSw); go_simp; (try with_reducible rfl)
    try simp only [Act.put, List.setIfInBounds_toArray, List.set_cons_zero, List.set_cons_succ]
    refine wpAnyH_take (i := 14) (oi := ?o14) (v := ?v14) ?h14 (by kernel_rfl) (by kernel_rfl) (by kernel_rfl) ?q14 ?y14 hHeld ?r14
    case h14 => (simp only [List.getElem?_toArray, List.getElem?_cons_succ, List.getElem?_cons_zero]; exact rfl)
    case q14 => exact fun _ _ _ h => h
    case y14 =>
      refine Or.inl ⟨by rfl, ?_⟩
      intro W hSw; (try dsimp only at hSw); go_simp; (try with_reducible rfl)
    try simp only [Act.put, List.setIfInBounds_toArray, List.set_cons_zero, List.set_cons_succ]
    refine wpAnyH_take (i := 15) (oi := ?o15) (v := ?v15) ?h15 (by kernel_rfl) (by kernel_rfl) (by kernel_rfl) ?q15 ?y15 hHeld ?r15
    case h15 => (simp only [List.getElem?_toArray, List.getElem?_cons_succ, List.getElem?_cons_zero]; exact rfl)
    case q15 => exact fun _ _ _ h => h
    case y15 =>
      refine Or.inl ⟨by rfl, ?_⟩
      intro W hSw; (try dsimp only at hSw); go_simp; (try with_reducible rfl)
    try simp only [Act.put, List.setIfInBounds_toArray, List.set_cons_zero, List.set_cons_succ]
    refine wpAnyH_take (i := 16) (oi := ?o16) (v := ?v16) ?h16 (by kernel_rfl) (by kernel_rfl) (by kernel_rfl) ?q16 ?y16 hHeld ?r16
    case h16 => (simp only [List.getElem?_toArray, List.getElem?_cons_succ, List.getElem?_cons_zero]; exact rfl)
    case q16 => exact fun _ _ _ h => h
    case y16 =>
      refine Or.inl ⟨by rfl, ?_⟩
      intro W hSw; (try dsimp only at hSw); go_simp; (try with_reducible rfl)
    try simp only [Act.put, List.setIfInBounds_toArray, List.set_cons_zero, List.set_cons_succ]
    refine wpAnyH_take (i := 17) (oi := ?o17) (v := ?v17) ?h17 (by kernel_rfl) (by kernel_rfl) (by kernel_rfl) ?q17 ?y17 hHeld ?r17
    case h17 => (simp only [List.getElem?_toArray, List.getElem?_cons_succ, List.getElem?_cons_zero]; exact rfl)
    case q17 => exact fun _ _ _ h => h
    case y17 =>
      refine Or.inl ⟨by rfl, ?_⟩
      intro W hSw; (try dsimp only at hSw); go_simp; (try with_reducible rfl)
    try simp only [Act.put, List.setIfInBounds_toArray, List.set_cons_zero, List.set_cons_succ]
    refine wpAnyH_take (i := 18) (oi := ?o18) (v := ?v18) ?h18 (by kernel_rfl) (by kernel_rfl) (by kernel_rfl) ?q18 ?y18 hHeld ?r18
    case h18 => (simp only [List.getElem?_toArray, List.getElem?_cons_succ, List.getElem?_cons_zero]; exact rfl)
    case q18 => exact fun _ _ _ h => h
    case y18 =>
      refine Or.inl ⟨by rfl, ?_⟩
      intro W hSw; (try dsimp only at hSw); go_simp; (try with_reducible rfl)
    try simp only [Act.put, List.setIfInBounds_toArray, List.set_cons_zero, List.set_cons_succ]
    refine wpAnyH_take (i := 19) (oi := ?o19) (v := ?v19) ?h19 (by kernel_rfl) (by kernel_rfl) (by kernel_rfl) ?q19 ?y19 hHeld ?r19
    case h19 => (simp only [List.getElem?_toArray, List.getElem?_cons_succ, List.getElem?_cons_zero]; exact rfl)
    case q19 => exact fun _ _ _ h => h
    case y19 =>
      refine Or.inl ⟨by rfl, ?_⟩
      intro W hSw; (try dsimp only at hSw); go_simp; (try with_reducible rfl)
    try simp only [Act.put, List.setIfInBounds_toArray, List.set_cons_zero, List.set_cons_succ]
    refine wpAnyH_take (i := 20) (oi := ?o20) (v := ?v20) ?h20 (by kernel_rfl) (by kernel_rfl) (by kernel_rfl) ?q20 ?y20 hHeld ?r20
    case h20 => (simp only [List.getElem?_toArray, List.getElem?_cons_succ, List.getElem?_cons_zero]; exact rfl)
    case q20 => exact fun _ _ _ h => h
    case y20 =>
      refine Or.inl ⟨by rfl, ?_⟩
      intro W hSw; (try dsimp only at hSw); go_simp; (try with_reducible rfl)
    try simp only [Act.put, List.setIfInBounds_toArray, List.set_cons_zero, List.set_cons_succ]
    refine wpAnyH_take (i := 21) (oi := ?o21) (v := ?v21) ?h21 (by kernel_rfl) (by kernel_rfl) (by kernel_rfl) ?q21 ?y21 hHeld ?r21
    case h21 => (simp only [List.getElem?_toArray, List.getElem?_cons_succ, List.getElem?_cons_zero]; exact rfl)
    case q21 => exact fun _ _ _ h => h
    case y21 =>
      refine Or.inl ⟨by rfl, ?_⟩
      intro W hSw; (try dsimp only at hSw); go_simp; (try with_reducible rfl)
    try simp only [Act.put, List.setIfInBounds_toArray, List.set_cons_zero, List.set_cons_succ]
    refine wpAnyH_take (i := 22) (oi := ?o22) (v := ?v22) ?h22 (by kernel_rfl) (by kernel_rfl) (by kernel_rfl) ?q22 ?y22 hHeld ?r22
    case h22 => (simp only [List.getElem?_toArray, List.getElem?_cons_succ, List.getElem?_cons_zero]; exact rfl)
    case q22 => exact fun _ _ _ h => h
    case y22 =>
      refine Or.inl ⟨by rfl, ?_⟩
      intro W hSw; (try dsimp only at hSw); go_simp; (try with_reducible rfl)
    try simp only [Act.put, List.setIfInBounds_toArray, List.set_cons_zero, List.set_cons_succ]
    refine wpAnyH_take (i := 23) (oi := ?o23) (v := ?v23) ?h23 (by kernel_rfl) (by kernel_rfl) (by kernel_rfl) ?q23 ?y23 hHeld ?r23
    case h23 => (simp only [List.getElem?_toArray, List.getElem?_cons_succ, List.getElem?_cons_zero]; exact rfl)
    case q23 => exact fun _ _ _ h => h
    case y23 =>
      refine Or.inl ⟨by rfl, ?_⟩
      intro W hSw; (try dsimp only at hSw); go_simp; (try with_reducible rfl)
    try simp only [Act.put, List.setIfInBounds_toArray, List.set_cons_zero, List.set_cons_succ]
    refine wpAnyH_take (i := 24) (oi := ?o24) (v := ?v24) ?h24 (by kernel_rfl) (by kernel_rfl) (by kernel_rfl) ?q24 ?y24 hHeld ?r24
    case h24 => (simp only [List.getElem?_toArray, List.getElem?_cons_succ, List.getElem?_cons_zero]; exact rfl)
    case q24 => exact fun _ _ _ h => h
    case y24 =>
      refine Or.inl ⟨by rfl, ?_⟩
      intro W hSw; (try dsimp only at hSw); go_simp; (try with_reducible rfl)
    try simp only [Act.put, List.setIfInBounds_toArray, List.set_cons_zero, List.set_cons_succ]
    refine wpAnyH_take (i := 25) (oi := ?o25) (v := ?v25) ?h25 (by kernel_rfl) (by kernel_rfl) (by kernel_rfl) ?q25 ?y25 hHeld ?r25
    case h25 => (simp only [List.getElem?_toArray, List.getElem?_cons_succ, List.getElem?_cons_zero]; exact rfl)
    case q25 => exact fun _ _ _ h => h
    case y25 =>
      refine Or.inl ⟨by rfl, ?_⟩
      intro W hSw; (try dsimp only at hSw); go_simp; (try with_reducible rfl)
    try simp only [Act.put, List.setIfInBounds_toArray, List.set_cons_zero, List.set_cons_succ]
    refine wpAnyH_take (i := 26) (oi := ?o26) (v := undef) ?h26 (by kernel_rfl) (by kernel_rfl) (by kernel_rfl) ?q26 ?y26 hHeld ?r26
    case h26 => (simp only [List.getElem?_toArray, List.getElem?_cons_succ, List.getElem?_cons_zero]; exact rfl)
    case q26 => exact fun _ _ _ h => h
    case y26 => exact Or.inr ⟨by rfl, rfl⟩
    try simp only [Act.put, List.setIfInBounds_toArray, List.set_cons_zero, List.set_cons_succ]
    refine wpAnyH_take (i := 27) (oi := ?o27) (v := undef) ?h27 (by kernel_rfl) (by kernel_rfl) (by kernel_rfl) ?q27 ?y27 hHeld ?r27
    case h27 => (simp only [List.getElem?_toArray, List.getElem?_cons_succ, List.getElem?_cons_zero]; exact rfl)
    case q27 => exact fun _ _ _ h => h
    case y27 => exact Or.inr ⟨by rfl, rfl⟩
    try simp only [Act.put, List.setIfInBounds_toArray, List.set_cons_zero, List.set_cons_succ]
    refine wpAnyH_take (i := 28) (oi := ?o28) (v := undef) ?h28 (by kernel_rfl) (by kernel_rfl) (by kernel_rfl) ?q28 ?y28 hHeld ?r28
    case h28 => (simp only [List.getElem?_toArray, List.getElem?_cons_succ, List.getElem?_cons_zero]; exact rfl)
    case q28 => exact fun _ _ _ h => h
    case y28 => exact Or.inr ⟨by rfl, rfl⟩
    try simp only [Act.put, List.setIfInBounds_toArray, List.set_cons_zero, List.set_cons_succ]
    refine wpAnyH_take (i := 29) (oi := ?o29) (v := undef) ?h29 (by kernel_rfl) (by kernel_rfl) (by kernel_rfl) ?q29 ?y29 hHeld ?r29
    case h29 => (simp only [List.getElem?_toArray, List.getElem?_cons_succ, List.getElem?_cons_zero]; exact rfl)
    case q29 => exact fun _ _ _ h => h
    case y29 => exact Or.inr ⟨by rfl, rfl⟩
    try simp only [Act.put, List.setIfInBounds_toArray, List.set_cons_zero, List.set_cons_succ]
    refine wpAnyH_take (i := 30) (oi := ?o30) (v := ?v30) ?h30 (by kernel_rfl) (by kernel_rfl) (by kernel_rfl) ?q30 ?y30 hHeld ?r30
    case h30 => (simp only [List.getElem?_toArray, List.getElem?_cons_succ, List.getElem?_cons_zero]; exact rfl)
    case q30 => exact fun _ _ _ h => h
    case y30 =>
      refine Or.inl ⟨by rfl, ?_⟩
      intro W hSw; (try dsimp only at hSw); go_simp; (try with_reducible rfl)
    try simp only [Act.put, List.setIfInBounds_toArray, List.set_cons_zero, List.set_cons_succ]
    refine wpAnyH_take (i := 31) (oi := ?o31) (v := ?v31) ?h31 (by kernel_rfl) (by kernel_rfl) (by kernel_rfl) ?q31 ?y31 hHeld ?r31
    case h31 => (simp only [List.getElem?_toArray, List.getElem?_cons_succ, List.getElem?_cons_zero]; exact rfl)
    case q31 => exact fun _ _ _ h => h
    case y31 =>
      refine Or.inl ⟨by rfl, ?_⟩
      intro W hSw; (try dsimp only at hSw); go_simp; (try with_reducible rfl)
    try simp only [Act.put, List.setIfInBounds_toArray, List.set_cons_zero, List.set_cons_succ]
    refine wpAnyH_take (i := 32) (oi := ?o32) (v := ?v32) ?h32 (by kernel_rfl) (by kernel_rfl) (by kernel_rfl) ?q32 ?y32 hHeld ?r32
    case h32 => (simp only [List.getElem?_toArray, List.getElem?_cons_succ, List.getElem?_cons_zero]; exact rfl)
    case q32 => exact fun _ _ _ h => h
    case y32 =>
      refine Or.inl ⟨by rfl, ?_⟩
      intro W hSw; (try dsimp only at hSw); go_simp; (try with_reducible rfl)
    try simp only [Act.put, List.setIfInBounds_toArray, List.set_cons_zero, List.set_cons_succ]
    refine wpAnyH_ready (rs := [33]) (by kernel_rfl) (by simp) ?_
    refine AllReadyH.cons (o := ?o33) ?h33 (fun K hK => ?s33) AllReadyH.nil
    case h33 => (simp only [List.getElem?_toArray, List.getElem?_cons_succ, List.getElem?_cons_zero]; exact rfl)
    go_simp
    refine hK.out _ _ ?_ (fun hHeld => ?_)
    · refine ⟨⟨?_, ?_⟩, ?_, ?_⟩; all_goals ((try with_reducible refine cell_drew ?_); (repeat (with_reducible refine cell_keep ?_ (by first | exact n00.out | exact n01.out | exact n02.out | exact n03.out | exact n10.out | exact n11.out | exact n12.out | exact n13.out))); first | exact z1 | exact xx0 | exact yy0 | exact r1)
    clear hK K
    try simp only [Act.put, List.setIfInBounds_toArray, List.set_cons_zero, List.set_cons_succ]
    refine wpAnyH_take (i := 34) (oi := ?o34) (v := ?v34) ?h34 (by kernel_rfl) (by kernel_rfl) (by kernel_rfl) ?q34 ?y34 hHeld ?r34
    case h34 => (simp only [List.getElem?_toArray, List.getElem?_cons_succ, List.getElem?_cons_zero]; exact rfl)
    case q34 => exact fun _ _ _ h => h
    case y34 =>
      refine Or.inl ⟨by rfl, ?_⟩
      intro W hSw; (try dsimp only at hSw); go_simp; (try with_reducible rfl)
    try simp only [Act.put, List.setIfInBounds_toArray, List.set_cons_zero, List.set_cons_succ]
    refine wpAnyH_take (i := 35) (oi := ?o35) (v := ?v35) ?h35 (by kernel_rfl) (by kernel_rfl) (by kernel_rfl) ?q35 ?y35 hHeld ?r35
    case h35 => (simp only [List.getElem?_toArray, List.getElem?_cons_succ, List.getElem?_cons_zero]; exact rfl)
    case q35 => exact fun _ _ _ h => h
    case y35 =>
      refine Or.inl ⟨by rfl, ?_⟩
      intro W hSw; (try dsimp only at hSw); go_simp; (try with_reducible rfl)
    try simp only [Act.put, List.setIfInBounds_toArray, List.set_cons_zero, List.set_cons_succ]
    refine wpAnyH_ready (rs := [36]) (by kernel_rfl) (by simp) ?_
    refine AllReadyH.cons (o := ?o36) ?h36 (fun K hK => ?s36) AllReadyH.nil
    case h36 => (simp only [List.getElem?_toArray, List.getElem?_cons_succ, List.getElem?_cons_zero]; exact rfl)
    go_simp
    refine hK.out _ _ ?_ (fun hHeld => ?_)
    · refine ⟨⟨?_, ?_⟩, ?_, ?_⟩; all_goals ((try with_reducible refine cell_drew ?_); (repeat (with_reducible refine cell_keep ?_ (by first | exact n00.out | exact n01.out | exact n02.out | exact n03.out | exact n10.out | exact n11.out | exact n12.out | exact n13.out))); first | exact z1 | exact xx0 | exact yy0 | exact r1)
    clear hK K
    try simp only [Act.put, List.setIfInBounds_toArray, List.set_cons_zero, List.set_cons_succ]
    refine wpAnyH_done (by kernel_rfl) ?_ _
    go_wp2_with fail
    go_ret2
    have hd : (!bx == y) = (bx != y) := by cases bx <;> cases y <;> rfl
    rw [hd]
    obtain ⟨e1, e2, e3, e4⟩ := quo_end (d := bx != y) lz lr hzr HV.out HN.out HROW.out HTW.out
    exact ⟨rfl, _, e1, e2, e3.drew, e4.drew⟩
end Go.Proofs.YtllgogkjcbdpkaaGreatDoor.Z
