/- The reference's Rsh, of a number not below 0. -/
import Derived.Test.YtllgogkjcbdpkaaGreatDoorRd
namespace Go.Proofs.YtllgogkjcbdpkaaGreatDoor.Z
open Go.RowKit

theorem SInt.short {B n : Nat} {w : World} {v : Value} {z : Int} (h : SInt B n w v z) {k : Nat} (hk : z.natAbs < 256 ^ k) : SInt B k w v z := by
  obtain ⟨sl, l, h1, h2, h3, _⟩ := h
  exact ⟨sl, l, h1, h2, h3, h3.len_le hk⟩
theorem bel_chain {B : Nat} {a b c : World} (hB : B ≤ a.heap.size) (h : Below B a b) (h2 : Below b.heap.size b c) : Below B a c := h.trans (h2.mono (Nat.le_trans hB h.size))
theorem cells2 {w w1 : World} {a : Option Addr} {L c : Nat} {o : Obj} (h : Below (w.heap.size + 2) ((w.alloc (.cells #[.bool false, .slice a L c] 24)).alloc o) w1) : w1.cell? ⟨w.heap.size, 0, none⟩ = some (.bool false) ∧ w1.cell? ⟨w.heap.size, 1, none⟩ = some (.slice a L c) :=
  ⟨(h.cell (p := ⟨w.heap.size, 0, none⟩) (by show w.heap.size < w.heap.size + 2; omega)).trans (by simp [go_sem]), (h.cell (p := ⟨w.heap.size, 1, none⟩) (by show w.heap.size < w.heap.size + 2; omega)).trans (by simp [go_sem])⟩
/-- The blocks from B up to the first world's end are as they were. -/
structure Apart (B : Nat) (W W' : World) : Prop where
  size : W.heap.size ≤ W'.heap.size
  blk : ∀ b, B ≤ b → b < W.heap.size → W'.heap[b]? = W.heap[b]?
theorem Apart.refl (B : Nat) (W : World) : Apart B W W := ⟨Nat.le_refl _, fun _ _ _ => rfl⟩
theorem Apart.alloc {B : Nat} {W W' : World} (h : Apart B W W') (o : Obj) : Apart B W (W'.alloc o) := ⟨by show _ ≤ (W'.heap.push o).size; rw [Array.size_push]; have := h.size; omega, fun b hB hb => by rw [Below.heap_alloc _ _ b (Nat.lt_of_lt_of_le hb h.size)]; exact h.blk b hB hb⟩
theorem Apart.setOld {B : Nat} {W W' : World} (h : Apart B W W') {a : Addr} (ha : a.block < B) (u : Value) : Apart B W (W'.setCell a u) := ⟨by simpa [World.setCell] using h.size, fun b hB hb => by rw [Below.heap_setCell _ _ _ b (by omega)]; exact h.blk b hB hb⟩
theorem Apart.setNew {B : Nat} {W W' : World} (h : Apart B W W') {a : Addr} (ha : W.heap.size ≤ a.block) (u : Value) : Apart B W (W'.setCell a u) := ⟨by simpa [World.setCell] using h.size, fun b hB hb => by rw [Below.heap_setCell _ _ _ b (by omega)]; exact h.blk b hB hb⟩
theorem Apart.drew {B : Nat} {W W' : World} (h : Apart B W W') : Apart B W W'.drew := ⟨h.size, h.blk⟩
theorem Row.apart {B : Nat} {k : IntKind} {w w' : World} {v : Value} {l : List Nat} (h : Row B k w v l) (ha : Apart B w w') : Row B k w' v l := by
  rcases h with h | ⟨h0, g, off, c, hv, hc, hB', hg, hcell⟩
  · exact .inl h
  · refine .inr ⟨h0, g, off, c, hv, hc, hB', Nat.lt_of_lt_of_le hg ha.size, fun i hi => ?_⟩
    rw [World.cell?_of_block (w := w) (ha.blk g hB' hg)]
    exact hcell i hi
theorem SInt.apart {B n : Nat} {w w' : World} {v : Value} {z : Int} (h : SInt B n w v z) (ha : Apart B w w') : SInt B n w' v z := by
  obtain ⟨sl, l, h1, h2, h3, h4⟩ := h
  exact ⟨sl, l, h1, h2.apart ha, h3, h4⟩
theorem two_alloc {W : World} {o : Obj} {p q : Addr} {u v : Value} (h : W.cell? p = some u ∧ W.cell? q = some v) : (W.alloc o).cell? p = some u ∧ (W.alloc o).cell? q = some v := ⟨(World.cell?_alloc_some _ _ _ (by rw [h.1]; rfl)).trans h.1, (World.cell?_alloc_some _ _ _ (by rw [h.2]; rfl)).trans h.2⟩
theorem two_set {W : World} {b i j : Nat} {r : Addr} {u v x : Value} (h : W.cell? ⟨b, i, none⟩ = some u ∧ W.cell? ⟨b, j, none⟩ = some v) (n : b ≠ r.block) : (W.setCell r x).cell? ⟨b, i, none⟩ = some u ∧ (W.setCell r x).cell? ⟨b, j, none⟩ = some v := ⟨set_other h.1 n, set_other h.2 n⟩
set_option maxRecDepth 100000 in
set_option maxHeartbeats 4000000 in
theorem f13_far (k : Nat) (hk : k ≤ 400) (v : Value) (A n : Nat) (B : Nat) (w : World) (sl : Value) (l : List Nat) (hv : v = .agg #[.bool false, sl]) (hr : Row B .u8 w sl l) (hb : IsB A l) (hl : l.length ≤ k) (hf : 8 * l.length < n) :
    Calls Tryz.prog 13 #[v, .int .i64 n] w (MakesS k ((A / 2 ^ n : Nat) : Int) w) := by
  subst hv
  obtain ⟨a, c, rfl⟩ := hr.len
  have HZ : Hid (A / 2 ^ n = 0) := by
    have := hb.lt
    rw [p8] at this
    exact Nat.div_eq_of_lt (Nat.lt_trans this (Nat.pow_lt_pow_right (by decide) hf))
  clear hr hb
  go_enter Tryz.func13, Tryz.ntmps13
  go_wp2_with fail
  refine bodyPost_ret (v := .agg #[.bool false, .slice none 0 0]) (by simp [results, Tryz.results13, go_sem]) rfl ?_
  refine ⟨_, rfl, ?_, ?_⟩
  · rw [HZ.out]; exact ⟨.slice none 0 0, [], by simp, .inl ⟨rfl, .inl rfl⟩, isB_nil, by simp⟩
  · exact ((Below.refl _ _).alloc (Nat.le_refl _) _).alloc (by simp) _
set_option maxRecDepth 100000 in
set_option maxHeartbeats 4000000 in
theorem f13_near (k : Nat) (hk : k ≤ 400) (v : Value) (A n : Nat) (hn : n ≤ 4096) (B : Nat) (w : World) (sl : Value) (l : List Nat) (hv : v = .agg #[.bool false, sl]) (hr : Row B .u8 w sl l) (hb : IsB A l) (hl : l.length ≤ k) (hf : n ≤ 8 * l.length) :
    Calls Tryz.prog 13 #[v, .int .i64 n] w (MakesS k ((A / 2 ^ n : Nat) : Int) w) := by
  subst hv
  obtain ⟨a, c, rfl⟩ := hr.len
  have bel : Below w.heap.size w ((w.alloc (.cells #[.bool false, .slice a l.length c] 24)).alloc (.cells #[.bool false, .slice none 0 0] 24)) := ((Below.refl _ _).alloc (Nat.le_refl _) _).alloc (by simp) _
  have HBW := Lib.hid bel
  have HX : Hid (∀ w1, Below w.heap.size w w1 → SInt 0 1000 w1 (.agg #[.bool false, .slice a l.length c]) (A : Int)) := fun w1 hb1 => ⟨_, l, by simp, (hr.below hb1 (Nat.le_refl _)).le (Nat.zero_le _), hb, by omega⟩
  have HLT : Hid (A / 2 ^ n < 256 ^ k) := Nat.lt_of_le_of_lt (Nat.div_le_self _ _) (Nat.lt_of_lt_of_le hb.lt (Nat.pow_le_pow_right (by decide) hl))
  clear hr hb bel
  have hl2 : l.length ≤ 400 := by omega
  generalize l.length = L at *
  go_enter Tryz.func13, Tryz.ntmps13
  go_wp2_with fail
  have CX0 : Hid (Below (w.heap.size + 2) ((w.alloc (.cells #[.bool false, .slice a L c] 24)).alloc (.cells #[.bool false, .slice none 0 0] 24)) ((w.alloc (.cells #[.bool false, .slice a L c] 24)).alloc (.cells #[.bool false, .slice none 0 0] 24))) := Below.refl _ _
  go_region_held3 (fun w' => w'.cell? ⟨w.heap.size, 0, none⟩ = some (.bool false) ∧ w'.cell? ⟨w.heap.size, 1, none⟩ = some (.slice a L c))
    (first
      | ((repeat (first | with_reducible refine two_alloc ?_ | with_reducible refine two_set ?_ (by first | exact ne1 | exact ne2 | exact ne3 | exact ne4 | (simp; done) | (simp; omega)))); first | with_reducible exact S2 | with_reducible exact S1)
      | with_reducible exact S2
      | with_reducible exact S1
      | (refine cells2 (by (repeat (first | with_reducible refine Below.drew ?_ | with_reducible refine below_drewN ?_ _ | (with_reducible refine Below.alloc ?_ (by first | omega | (simp; done) | (simp; omega)) _))); exact HC2.out) )
      | (refine cells2 (by (repeat (first | with_reducible refine Below.drew ?_ | with_reducible refine below_drewN ?_ _ | (with_reducible refine Below.alloc ?_ (by first | omega | (simp; done) | (simp; omega)) _))); exact HC1.out) )
      | go_keep)
    (first
      | (go_at_call 31; refine (f31_any 1000 (by omega) _ _ A (2 ^ n) (Nat.two_pow_pos _) 0 _ (HX.out _ ?_) (HS1.out.below (B := w1.heap.size) ?_ (Nat.le_refl _))).mono ?_; (· ((repeat (first | with_reducible refine Below.drew ?_ | with_reducible refine below_drewN ?_ _ | (with_reducible refine Below.alloc ?_ (by first | omega | (simp; done) | (simp; omega)) _))); exact HB1.out)); (· ((repeat (first | with_reducible refine Below.drew ?_ | with_reducible refine below_drewN ?_ _ | (with_reducible refine Below.alloc ?_ (by first | omega | (simp; done) | (simp; omega)) _))); exact Below.refl _ _)); rintro e w2 ⟨v2, v3, rfl, hq, hr2, hb2⟩; have HC2 : Hid (Below (w.heap.size + 2) ((w.alloc (.cells #[.bool false, .slice a L c] 24)).alloc (.cells #[.bool false, .slice none 0 0] 24)) w2) := (by show Below _ _ _; refine bel_chain (by simp) ?_ hb2; (repeat (first | with_reducible refine Below.drew ?_ | with_reducible refine below_drewN ?_ _ | (with_reducible refine Below.alloc ?_ (by first | omega | (simp; done) | (simp; omega)) _))); exact HC1.out); have HB2 := Lib.hid (HBW.out.trans (HC2.out.mono (by omega))); have S2 := cells2 HC2.out; have HZ2 : Hid (w.heap.size + 2 ≤ w2.heap.size) := (by have := HC2.out.size; simp at this; show _ ≤ _; omega); have HZ2' := HZ2.out; have HQ := Lib.hid hq; obtain ⟨dq, aq, kq, cq, rfl⟩ := hq.shape; obtain ⟨dr, ar, kr, cr, rfl⟩ := hr2.shape; (try (have r2c : ∀ i, w2.cell? ⟨w.heap.size + 2, i, none⟩ = #[Value.bool false, Value.slice none 0 0][i]? := (fun i => (hb2.cell (p := ⟨w.heap.size + 2, i, none⟩) (by first | (show _ < _; omega) | (simp; done) | (simp; omega))).trans (by first | (simp [go_sem]; done) | exact p2c i | exact (World.cell?_alloc_lt _ _ _ yy1).trans (p2c i))))); (try (have r2f : ∀ i, w2.frozen? ⟨w.heap.size + 2, i, none⟩ = false := (fun i => (hb2.frozen (p := ⟨w.heap.size + 2, i, none⟩) (by first | (show _ < _; omega) | (simp; done) | (simp; omega))).trans (by first | (simp [go_sem]; done) | exact p2f i | exact (World.frozen?_alloc_old _ _ _ (Nat.ne_of_lt yy1)).trans (p2f i))))); (try (have r3c : ∀ i, w2.cell? ⟨w.heap.size + 3, i, none⟩ = #[Value.bool false, Value.slice none 0 0][i]? := (fun i => (hb2.cell (p := ⟨w.heap.size + 3, i, none⟩) (by first | (show _ < _; omega) | (simp; done) | (simp; omega))).trans (by first | (simp [go_sem]; done) | exact p3c i | exact (World.cell?_alloc_lt _ _ _ yy2).trans (p3c i))))); (try (have r3f : ∀ i, w2.frozen? ⟨w.heap.size + 3, i, none⟩ = false := (fun i => (hb2.frozen (p := ⟨w.heap.size + 3, i, none⟩) (by first | (show _ < _; omega) | (simp; done) | (simp; omega))).trans (by first | (simp [go_sem]; done) | exact p3f i | exact (World.frozen?_alloc_old _ _ _ (Nat.ne_of_lt yy2)).trans (p3f i))))); (try (have r4c : ∀ i, w2.cell? ⟨w1.heap.size, i, none⟩ = #[Value.bool false, Value.slice none 0 0][i]? := (fun i => (hb2.cell (p := ⟨w1.heap.size, i, none⟩) (by first | (show _ < _; omega) | (simp; done) | (simp; omega))).trans (by first | (simp [go_sem]; done) | exact absurd i)))); (try (have r4f : ∀ i, w2.frozen? ⟨w1.heap.size, i, none⟩ = false := (fun i => (hb2.frozen (p := ⟨w1.heap.size, i, none⟩) (by first | (show _ < _; omega) | (simp; done) | (simp; omega))).trans (by first | (simp [go_sem]; done) | exact absurdf i)))); (try (have r5c : ∀ i, w2.cell? ⟨w1.heap.size + 1, i, none⟩ = #[Value.bool false, Value.slice none 0 0][i]? := (fun i => (hb2.cell (p := ⟨w1.heap.size + 1, i, none⟩) (by first | (show _ < _; omega) | (simp; done) | (simp; omega))).trans (by first | (simp [go_sem]; done) | exact absurd i)))); (try (have r5f : ∀ i, w2.frozen? ⟨w1.heap.size + 1, i, none⟩ = false := (fun i => (hb2.frozen (p := ⟨w1.heap.size + 1, i, none⟩) (by first | (show _ < _; omega) | (simp; done) | (simp; omega))).trans (by first | (simp [go_sem]; done) | exact absurdf i)))); (try (have zz1 : w.heap.size + 2 < w2.heap.size := (by have := hb2.size; (try simp at this); omega))); (try (have zz2 : w.heap.size + 3 < w2.heap.size := (by have := hb2.size; (try simp at this); omega))); (try (have zz3 : w1.heap.size < w2.heap.size := (by have := hb2.size; (try simp at this); omega))); (try (have zz4 : w1.heap.size + 1 < w2.heap.size := (by have := hb2.size; (try simp at this); omega))); have ne3 : w.heap.size ≠ w2.heap.size := (by have := HZ1'; have := HZ2'; omega); have ne4 : w.heap.size ≠ w2.heap.size + 1 := (by have := HZ1'; have := HZ2'; omega); clear hq hr2 hb2)
      | (go_at_call 17; refine (f17_any n hn _).mono ?_; rintro e w1 ⟨v1, rfl, hs1, hb1⟩; have HC1 : Hid (Below (w.heap.size + 2) ((w.alloc (.cells #[.bool false, .slice a L c] 24)).alloc (.cells #[.bool false, .slice none 0 0] 24)) w1) := (by show Below _ _ _; refine bel_chain (by simp) ?_ hb1; (repeat (first | with_reducible refine Below.drew ?_ | with_reducible refine below_drewN ?_ _ | (with_reducible refine Below.alloc ?_ (by first | omega | (simp; done) | (simp; omega)) _))); exact CX0.out); have HB1 := Lib.hid (HBW.out.trans (HC1.out.mono (by omega))); have HZ1 : Hid (w.heap.size + 2 ≤ w1.heap.size) := (by have := HC1.out.size; simp at this; show _ ≤ _; omega); have HZ1' := HZ1.out; have HS1 : Hid (SInt 0 1000 w1 v1 ((2 ^ n : Nat) : Int)) := (by show SInt _ _ _ _ _; rw [show ((2 ^ n : Nat) : Int) = (2 : Int) ^ n by simp]; exact hs1.le (Nat.zero_le _) (show 513 ≤ 1000 by omega)); have S1 := cells2 HC1.out; (try (have p2c : ∀ i, w1.cell? ⟨w.heap.size + 2, i, none⟩ = #[Value.bool false, Value.slice none 0 0][i]? := (fun i => (hb1.cell (p := ⟨w.heap.size + 2, i, none⟩) (by first | (show _ < _; omega) | (simp; done) | (simp; omega))).trans (by first | (simp [go_sem]; done) | exact absurd i)))); (try (have p2f : ∀ i, w1.frozen? ⟨w.heap.size + 2, i, none⟩ = false := (fun i => (hb1.frozen (p := ⟨w.heap.size + 2, i, none⟩) (by first | (show _ < _; omega) | (simp; done) | (simp; omega))).trans (by first | (simp [go_sem]; done) | exact absurdf i)))); (try (have p3c : ∀ i, w1.cell? ⟨w.heap.size + 3, i, none⟩ = #[Value.bool false, Value.slice none 0 0][i]? := (fun i => (hb1.cell (p := ⟨w.heap.size + 3, i, none⟩) (by first | (show _ < _; omega) | (simp; done) | (simp; omega))).trans (by first | (simp [go_sem]; done) | exact absurd i)))); (try (have p3f : ∀ i, w1.frozen? ⟨w.heap.size + 3, i, none⟩ = false := (fun i => (hb1.frozen (p := ⟨w.heap.size + 3, i, none⟩) (by first | (show _ < _; omega) | (simp; done) | (simp; omega))).trans (by first | (simp [go_sem]; done) | exact absurdf i)))); (try (have yy1 : w.heap.size + 2 < w1.heap.size := (by have := hb1.size; (try simp at this); omega))); (try (have yy2 : w.heap.size + 3 < w1.heap.size := (by have := hb1.size; (try simp at this); omega))); have ne1 : w.heap.size ≠ w1.heap.size := (by have := HZ1'; omega); have ne2 : w.heap.size ≠ w1.heap.size + 1 := (by have := HZ1'; omega); clear hs1 hb1))
  all_goals
    have uc : ∀ i, w2.cell? ⟨w.heap.size + 1, i, none⟩ = #[Value.bool false, Value.slice none 0 0][i]? := fun i => (HC2.out.cell (p := ⟨w.heap.size + 1, i, none⟩) (by show w.heap.size + 1 < w.heap.size + 2; omega)).trans (by simp [go_sem])
    have uf : ∀ i, w2.frozen? ⟨w.heap.size + 1, i, none⟩ = false := fun i => (HC2.out.frozen (p := ⟨w.heap.size + 1, i, none⟩) (by show w.heap.size + 1 < w.heap.size + 2; omega)).trans (by simp [go_sem])
    have u1 : w.heap.size + 1 < w2.heap.size := by omega
    have u0 : w.heap.size < w2.heap.size := by omega
    have ne5 : w.heap.size + 1 ≠ w1.heap.size := by omega
    have ne6 : w.heap.size + 1 ≠ w1.heap.size + 1 := by omega
    clear ne1 ne2 ne3 ne4 S1 S2
    go_wp2_with fail
    refine bodyPost_ret (v := .agg #[.bool dq, .slice aq kq cq]) (by first | (simp [results, Tryz.results13, go_sem, uc, u0, u1]; done) | (simp [results, Tryz.results13, go_sem, *]; done)) rfl ?_
    refine ⟨_, rfl, ?_, ?_⟩
    · refine SInt.le (SInt.short (SInt.apart HQ.out ?_) (k := k) (by rw [Int.natAbs_natCast]; exact HLT.out)) (by first | omega | (simp; done) | (simp; omega)) (Nat.le_refl _)
      repeat (first | with_reducible exact Apart.refl _ _ | with_reducible refine Apart.drew ?_ | with_reducible refine Apart.alloc ?_ _ | with_reducible refine Apart.setOld ?_ (by first | (show _ < _; omega) | (simp; done) | (simp; omega)) _ | with_reducible refine Apart.setNew ?_ (by first | (show _ ≤ _; omega) | (simp; done) | (simp; omega)) _)
    · repeat (first | with_reducible refine Below.drew ?_ | with_reducible refine Below.alloc ?_ (by first | omega | (simp; done) | (simp; omega)) _ | with_reducible refine Below.setCell ?_ (by first | (show _ ≤ _; omega) | (simp; done) | (simp; omega)) _)
      exact HB2.out
theorem f13_any (k : Nat) (hk : k ≤ 400) (v : Value) (A n : Nat) (hn : n ≤ 4096) (B : Nat) (w : World) (hx : SInt B k w v (A : Int)) : Calls Tryz.prog 13 #[v, .int .i64 n] w (MakesS k ((A / 2 ^ n : Nat) : Int) w) := by
  obtain ⟨sl, l, hv, hr, hb, hl⟩ := hx
  rw [Int.natAbs_natCast] at hb
  by_cases hf : 8 * l.length < n
  · exact f13_far k hk v A n B w sl l (by rw [hv]; simp) hr hb hl hf
  · exact f13_near k hk v A n hn B w sl l (by rw [hv]; simp) hr hb hl (by omega)
end Go.Proofs.YtllgogkjcbdpkaaGreatDoor.Z
