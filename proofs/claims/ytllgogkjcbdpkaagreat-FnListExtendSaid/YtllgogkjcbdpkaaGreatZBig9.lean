/- Written by wip/tools/port2.py out of the text Big9 of seat Ytidkdjnfpepnfaa. -/
/- Walks of the package's ints: making one of a great number. -/
import Derived.Test.YtllgogkjcbdpkaaGreatZBig8
namespace Go.Proofs.YtllgogkjcbdpkaaGreat.Z
open Go.RowKit

/-- The integer z as an int of the package. -/
def KInt (B : Nat) (w : World) (v : Value) (z : Int) : Prop :=
  (smallB z = true ∧ v = .agg #[.int .i64 z, .pointer none]) ∨
  (smallB z = false ∧ ∃ g sl xs, v = .agg #[.int .i64 0, .pointer (some ⟨g, 0, none⟩)] ∧ B ≤ g ∧ BInt B w g z sl xs)
theorem KInt.below {B' : Nat} {w w' : World} {v : Value} {z : Int} {B : Nat} (h : KInt B' w v z) (hb : Below B w w') (hB : w.heap.size ≤ B) : KInt B' w' v z := by
  rcases h with h | ⟨h, g, sl, xs, h1, h2, h3⟩
  · exact .inl h
  · exact .inr ⟨h, g, sl, xs, h1, h2, h3.below hb hB⟩
theorem KInt.le {B' : Nat} {w : World} {v : Value} {z : Int} {B : Nat} (h : KInt B w v z) (hB : B' ≤ B) : KInt B' w v z := by
  rcases h with h | ⟨h, g, sl, xs, h1, h2, h3⟩
  · exact .inl h
  · exact .inr ⟨h, g, sl, xs, h1, by omega, h3.le hB⟩
theorem BInt.setOld {B : Nat} {w : World} {g : Nat} {z : Int} {sl : Value} {xs : List Nat} (h : BInt B w g z sl xs) (hg : B ≤ g) {a : Addr} (ha : a.block < B) (u : Value) : BInt B (w.setCell a u) g z sl xs :=
  ⟨(Below.heap_setCell w a u g (by omega)).trans h.blk, h.row.setOld ha u, h.num, h.len⟩
theorem KInt.setOld {B : Nat} {w : World} {v : Value} {z : Int} (h : KInt B w v z) {a : Addr} (ha : a.block < B) (u : Value) : KInt B (w.setCell a u) v z := by
  rcases h with h | ⟨h, g, sl, xs, h1, h2, h3⟩
  · exact .inl h
  · exact .inr ⟨h, g, sl, xs, h1, h2, h3.setOld h2 ha u⟩
theorem KInt.shape {B : Nat} {w : World} {v : Value} {z : Int} (h : KInt B w v z) : ∃ a p, v = .agg #[.int .i64 a, .pointer p] := by
  rcases h with ⟨_, rfl⟩ | ⟨_, g, sl, xs, rfl, _⟩ <;> exact ⟨_, _, rfl⟩
def MakesK (z : Int) (w : World) (e : Ending) (w' : World) : Prop := ∃ v, e = .returned v ∧ KInt w.heap.size w' v z ∧ Below w.heap.size w w'

set_option maxRecDepth 100000 in
theorem f62_any (z : Int) (w : World) : Calls Tryz.prog 62 #[.int .i64 z] w fun e w' => e = .returned (.agg #[.int .i64 z, .pointer none]) ∧ Below w.heap.size w w' := by
  go_enter Tryz.func62, Tryz.ntmps62
  go_wp2
  refine bodyPost_ret (v := .agg #[.int .i64 z, .pointer none]) (by simp [results, Tryz.results62, go_sem]) rfl ?_
  refine ⟨rfl, ?_⟩
  exact (Below.refl _ _).alloc (Nat.le_refl _) _

set_option maxRecDepth 100000 in
theorem f64_any (g : Nat) (w : World) : Calls Tryz.prog 64 #[.pointer (some ⟨g, 0, none⟩)] w fun e w' => e = .returned (.agg #[.int .i64 0, .pointer (some ⟨g, 0, none⟩)]) ∧ Below w.heap.size w w' := by
  go_enter Tryz.func64, Tryz.ntmps64
  go_wp2
  refine bodyPost_ret (v := .agg #[.int .i64 0, .pointer (some ⟨g, 0, none⟩)]) (by simp [results, Tryz.results64, go_sem]) rfl ?_
  refine ⟨rfl, ?_⟩
  exact (Below.refl _ _).alloc (Nat.le_refl _) _

theorem smallB_lt {z : Int} (h : smallB z = true) : -9223372036854775808 < z ∧ z < 9223372036854775808 := by
  unfold smallB at h; simp at h; omega

theorem New.made (w : World) : New (w.alloc (.cells #[.bool false, .slice none 0 0] 104)) w.heap.size := heap_alloc_new w _

/-- A result cell in memory, filled: what the walk needs of a later world. -/
theorem later {w w1 : World} {o : Array Value} {t : TypeId} {B : Nat} (hb : Below B (w.alloc (.cells o t)) w1) (hB : w.heap.size + 1 ≤ B) :
    (∀ j, w1.cell? ⟨w.heap.size, j, none⟩ = o[j]?) ∧ (∀ j, w1.frozen? ⟨w.heap.size, j, none⟩ = false) :=
  ⟨fun j => (hb.cell (p := ⟨w.heap.size, j, none⟩) (by simp; omega)).trans (by simp [go_sem]), fun j => (hb.frozen (p := ⟨w.heap.size, j, none⟩) (by simp; omega)).trans (by simp [go_sem])⟩

theorem later2 {w w1 : World} {o o' : Array Value} {t t' : TypeId} {B : Nat} (hb : Below B ((w.alloc (.cells o t)).alloc (.cells o' t')) w1) (hB : w.heap.size + 2 ≤ B) :
    (∀ j, w1.cell? ⟨w.heap.size, j, none⟩ = o[j]?) ∧ (∀ j, w1.frozen? ⟨w.heap.size, j, none⟩ = false) ∧ (∀ j, w1.cell? ⟨w.heap.size + 1, j, none⟩ = o'[j]?) ∧ (∀ j, w1.frozen? ⟨w.heap.size + 1, j, none⟩ = false) :=
  ⟨fun j => (hb.cell (p := ⟨w.heap.size, j, none⟩) (by simp; omega)).trans (by simp [go_sem]), fun j => (hb.frozen (p := ⟨w.heap.size, j, none⟩) (by simp; omega)).trans (by simp [go_sem]),
   fun j => (hb.cell (p := ⟨w.heap.size + 1, j, none⟩) (by simp; omega)).trans (by simp [go_sem]), fun j => (hb.frozen (p := ⟨w.heap.size + 1, j, none⟩) (by simp; omega)).trans (by simp [go_sem])⟩

set_option maxRecDepth 100000 in
set_option maxHeartbeats 1000000 in
theorem f49_any (B g : Nat) (z : Int) (sl : Value) (xs : List Nat) (w : World) (hx : BInt B w g z sl xs) :
    Calls Tryz.prog 49 #[.pointer (some ⟨g, 0, none⟩)] w (MakesK z w) := by
  have HX1 := Lib.hid (BInt.below hx ((Below.refl w.heap.size w).alloc (Nat.le_refl _) (.cells #[.int .i64 0, .pointer none] 76)) (Nat.le_refl _))
  have gl := hx.lt
  clear hx
  by_cases hs : smallB z = true
  · have HS := Lib.hid hs
    have h1 := (smallB_lt hs).1
    have h2 := (smallB_lt hs).2
    go_enter Tryz.func49, Tryz.ntmps49
    go_wp2_with (first
      | (go_at_call 61; refine (f61_any B g z sl xs _ HX1.out).mono ?_; rintro e w' ⟨rfl, rfl⟩)
      | (go_at_call 63; refine (f63_any B g z sl xs _ HX1.out h1 h2).mono ?_; rintro e w' ⟨rfl, rfl⟩))
    refine (f62_any z _).mono ?_
    rintro e w1 ⟨rfl, hb⟩
    obtain ⟨c, f⟩ := later hb (by simp)
    have HB : Hid (Below w.heap.size w w1) := ((Below.refl _ _).alloc (Nat.le_refl _) _).trans (hb.mono (by simp))
    clear hb HX1 hs
    go_wp2_with fail
    refine bodyPost_ret (v := .agg #[.int .i64 z, .pointer none]) (by simp [results, Tryz.results49, go_sem, c]) rfl ?_
    refine ⟨_, rfl, .inl ⟨HS.out, rfl⟩, ?_⟩
    iterate 2 (refine Below.setCell ?_ (show w.heap.size ≤ w.heap.size by omega) _)
    exact HB.out
  · have hs : smallB z = false := by simpa using hs
    have HS := Lib.hid hs
    have hgn : w.heap.size + 1 ≠ g := by omega
    have HX2 := Lib.hid (BInt.below HX1.out ((Below.refl (w.heap.size + 1) _).alloc (by simp) (.cells #[.bool false, .slice none 0 0] 104)) (by simp))
    have HN : Hid (New ((w.alloc (.cells #[.int .i64 0, .pointer none] 76)).alloc (.cells #[.bool false, .slice none 0 0] 104)) (w.heap.size + 1)) := by
      show New _ _
      have := New.made (w.alloc (.cells #[.int .i64 0, .pointer none] 76))
      simpa using this
    go_enter Tryz.func49, Tryz.ntmps49
    go_wp2_with (first
      | (go_at_call 61; refine (f61_any B g z sl xs _ HX1.out).mono ?_; rintro e w' ⟨rfl, rfl⟩))
    refine (f60_any _ g z B sl xs _ HN.out HX2.out hgn).mono ?_
    rintro e w1 ⟨rfl, hgr, sl2, xs2, hx2⟩
    obtain ⟨a2, k2, rfl⟩ := hx2.row.len
    have HX3 : Hid (BInt (w.heap.size + 1) w1 (w.heap.size + 1) z (.slice a2 xs2.length k2) xs2) := hx2.le (by simp)
    have hb : Below (w.heap.size + 1) (w.alloc (.cells #[.int .i64 0, .pointer none] 76)) w1 := ((Below.refl _ _).alloc (by simp) _).grown hgr (by simp) (by intro q hq; cases hq; simp)
    have hz : w.heap.size + 2 ≤ w1.heap.size := by have := hgr.size; simpa using this
    have HB := Lib.hid hb
    clear hb hgr hx2 HX2 HX1 HN hgn hs
    go_wp2_with fail
    refine (f64_any (w.heap.size + 1) _).mono ?_
    rintro e w2 ⟨rfl, hb2⟩
    have HX4 := Lib.hid (HX3.out.below hb2 (Nat.le_refl _))
    have HB2 : Hid (Below (w.heap.size + 1) (w.alloc (.cells #[.int .i64 0, .pointer none] 76)) w2) := HB.out.trans (hb2.mono (by omega))
    obtain ⟨c, f⟩ := later HB2.out (by simp)
    clear hb2 HX3
    go_wp2_with fail
    refine bodyPost_ret (v := .agg #[.int .i64 0, .pointer (some ⟨w.heap.size + 1, 0, none⟩)]) (by simp [results, Tryz.results49, go_sem, c]) rfl ?_
    refine ⟨_, rfl, .inr ⟨HS.out, w.heap.size + 1, .slice a2 xs2.length k2, xs2, rfl, by omega, ?_⟩, ?_⟩
    · refine BInt.le (B := w.heap.size + 1) ?_ (by omega)
      iterate 2 (refine BInt.setOld ?_ (by omega) (show w.heap.size < w.heap.size + 1 by omega) _)
      exact HX4.out
    · iterate 2 (refine Below.setCell ?_ (show w.heap.size ≤ w.heap.size by omega) _)
      exact ((Below.refl _ _).alloc (Nat.le_refl _) _).trans (HB2.out.mono (by omega))
set_option maxRecDepth 100000 in
set_option maxHeartbeats 1000000 in
theorem f30_any (n : Nat) (hn : n ≤ 4000) (v : Value) (z : Int) (B : Nat) (w : World) (hv : VInt B n w v z) : Calls Tryz.prog 30 #[v] w (MakesK z w) := by
  obtain ⟨sl, l, rfl, hr, hb, hl⟩ := hv
  obtain ⟨a, c, rfl⟩ := hr.len
  have HR := Lib.hid (((hr.alloc (.cells #[.int .i64 2, .bool (decide (z < 0)), .slice a l.length c, .int .u64 0, .string ⟨#[]⟩, .slice none 0 0] 31)).alloc (.cells #[.int .i64 0, .pointer none] 76)).alloc (.cells #[.bool false, .slice none 0 0] 104))
  have HB := Lib.hid hb
  have hl' : l.length ≤ 4000 := by omega
  clear hr hl hb
  have HN : Hid (New (((w.alloc (.cells #[.int .i64 2, .bool (decide (z < 0)), .slice a l.length c, .int .u64 0, .string ⟨#[]⟩, .slice none 0 0] 31)).alloc (.cells #[.int .i64 0, .pointer none] 76)).alloc (.cells #[.bool false, .slice none 0 0] 104)) (w.heap.size + 2)) := by
    show New _ _
    have := New.made ((w.alloc (.cells #[.int .i64 2, .bool (decide (z < 0)), .slice a l.length c, .int .u64 0, .string ⟨#[]⟩, .slice none 0 0] 31)).alloc (.cells #[.int .i64 0, .pointer none] 76))
    simpa using this
  have hz : Hid (z = signed (decide (z < 0)) (bv l)) := by
    show _ = _
    rw [HB.out.val]; unfold signed; split <;> simp_all <;> omega
  generalize hd : decide (z < 0) = d at *
  have HD := Lib.hid hd
  clear hd
  go_enter Tryz.func30, Tryz.ntmps30
  go_wp2_with fail
  refine (f47_any (w.heap.size + 2) B _ l hl' HB.out.low _ HN.out HR.out).mono ?_
  rintro e w1 ⟨rfl, hgr, sl2, xs2, hx2⟩
  obtain ⟨a2, k2, rfl⟩ := hx2.row.len
  have HX3 : Hid (BInt (w.heap.size + 3) w1 (w.heap.size + 2) (bv l) (.slice a2 xs2.length k2) xs2) := hx2.le (by simp)
  have hb1 : Below (w.heap.size + 2) ((w.alloc (.cells #[.int .i64 2, .bool d, .slice a l.length c, .int .u64 0, .string ⟨#[]⟩, .slice none 0 0] 31)).alloc (.cells #[.int .i64 0, .pointer none] 76)) w1 := ((Below.refl _ _).alloc (by simp) _).grown hgr (by simp) (by intro q hq; cases hq; simp)
  have hz1 : w.heap.size + 3 ≤ w1.heap.size := by have := hgr.size; simpa using this
  have HB1 := Lib.hid hb1
  obtain ⟨c0, f0, c1, f1⟩ := later2 hb1 (Nat.le_refl _)
  clear hb1 hgr hx2 HN HR
  cases d with
  | false =>
    have e0 : Hid ((bv l : Int) = z) := by show _ = _; rw [hz.out]; rfl
    go_wp2_with fail
    refine (f49_any _ _ _ _ _ _ HX3.out).mono ?_
    rintro e w2 ⟨v, rfl, hk, hb2⟩
    rw [e0.out] at hk
    obtain ⟨ka, kp, rfl⟩ := hk.shape
    have HK := Lib.hid (hk.le hz1)
    have HB2 := Lib.hid (HB1.out.trans (hb2.mono (by omega)))
    obtain ⟨c0, f0, c1, f1⟩ := later2 HB2.out (Nat.le_refl _)
    clear hk hb2
    go_wp2_with fail
    refine bodyPost_ret (v := .agg #[.int .i64 ka, .pointer kp]) (by simp [results, Tryz.results30, go_sem, c1]) rfl ?_
    refine ⟨_, rfl, ?_, ?_⟩
    · refine KInt.le (B := w.heap.size + 3) ?_ (by omega)
      iterate 2 (refine KInt.setOld ?_ (show w.heap.size + 1 < w.heap.size + 3 by omega) _)
      exact HK.out
    · iterate 2 (refine Below.setCell ?_ (show w.heap.size ≤ w.heap.size + 1 by omega) _)
      exact (((Below.refl _ _).alloc (Nat.le_refl _) _).alloc (by simp) _).trans (HB2.out.mono (by omega))
  | true =>
    have e0 : Hid (-(bv l : Int) = z) := by show _ = _; rw [hz.out]; rfl
    go_wp2_with fail
    refine (f48_any (w.heap.size + 2) (bv l) (w.heap.size + 3) _ xs2 w1 (by omega) HX3.out).mono ?_
    rintro e w2 ⟨rfl, hx4, hgr⟩
    rw [e0.out] at hx4
    have HX4 := Lib.hid hx4
    have hz2 : w.heap.size + 3 ≤ w2.heap.size := by have := hgr.size; omega
    have HB2 := Lib.hid (HB1.out.grown hgr (by omega) (by intro q hq; cases hq; simp))
    obtain ⟨c0, f0, c1, f1⟩ := later2 HB2.out (Nat.le_refl _)
    clear hx4 hgr
    go_wp2_with fail
    refine (f49_any _ _ _ _ _ _ HX4.out).mono ?_
    rintro e w3 ⟨v, rfl, hk, hb2⟩
    obtain ⟨ka, kp, rfl⟩ := hk.shape
    have HK := Lib.hid (hk.le hz2)
    have HB2 := Lib.hid (HB2.out.trans (hb2.mono (by omega)))
    obtain ⟨c0, f0, c1, f1⟩ := later2 HB2.out (Nat.le_refl _)
    clear hk hb2
    go_wp2_with fail
    refine bodyPost_ret (v := .agg #[.int .i64 ka, .pointer kp]) (by simp [results, Tryz.results30, go_sem, c1]) rfl ?_
    refine ⟨_, rfl, ?_, ?_⟩
    · refine KInt.le (B := w.heap.size + 3) ?_ (by omega)
      iterate 2 (refine KInt.setOld ?_ (show w.heap.size + 1 < w.heap.size + 3 by omega) _)
      exact HK.out
    · iterate 2 (refine Below.setCell ?_ (show w.heap.size ≤ w.heap.size + 1 by omega) _)
      exact (((Below.refl _ _).alloc (Nat.le_refl _) _).alloc (by simp) _).trans (HB2.out.mono (by omega))
end Go.Proofs.YtllgogkjcbdpkaaGreat.Z
