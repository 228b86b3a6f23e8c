/- Written by wip/tools/port2.py out of the text Sp2 of seat Ytidkdjnfpepnfaa. -/
/- Walks of the reference's integers: whole. -/
import Derived.Test.YtllgogkjcbdpkaaGreatDoorZSp1
namespace Go.Proofs.YtllgogkjcbdpkaaGreatDoor.Z
open Go.RowKit

theorem set_other {w : World} {a : Addr} {v : Value} {p : Addr} {u : Value} (h : w.cell? a = some v) (hne : a.block ≠ p.block) : (w.setCell p u).cell? a = some v := (World.cell?_of_block (w := w) (Below.heap_setCell w p u a.block hne)).trans h

/-- The first so many numbers of a row. -/
theorem Row.take {B : Nat} {k : IntKind} {w : World} {g off n c : Nat} {l : List Nat} (m : Nat) (hm : m ≤ n) (h : Row B k w (.slice (some ⟨g, off, none⟩) n c) l) : Row B k w (.slice (some ⟨g, off, none⟩) m c) (l.take m) := by
  rcases h with ⟨rfl, h | ⟨a, c', h⟩⟩ | ⟨h0, g', off', c', h, hc, hB, hg, hcell⟩
  · cases h
  · simp only [Value.slice.injEq, Option.some.injEq] at h
    obtain ⟨rfl, rfl, rfl⟩ := h
    have : m = 0 := by omega
    subst this
    exact .inl ⟨by simp, .inr ⟨_, _, rfl⟩⟩
  · simp only [Value.slice.injEq, Option.some.injEq, Addr.mk.injEq, and_true] at h
    obtain ⟨⟨rfl, rfl⟩, rfl, rfl⟩ := h
    by_cases h0' : m = 0
    · subst h0'
      exact .inl ⟨by simp, .inr ⟨_, _, rfl⟩⟩
    · refine .inr ⟨by simp; omega, g, off, c, by simp; omega, by simp; omega, hB, hg, fun i hi => ?_⟩
      simp at hi
      rw [hcell i (by omega)]
      have h1 : i < m := by omega
      have h2 : i < l.length := by omega
      simp [h1, h2]

set_option maxRecDepth 100000 in
set_option maxHeartbeats 2000000 in
theorem f4_core (neg : Bool) (most : Nat) (hm : most ≤ 1000) (v : Value) (l T : List Nat) (hl : l.length ≤ 2147483647) (hd : ∀ d ∈ l, d < 256) (hT : T = l.take most) (w : World) (hr : Row 0 .u8 w v l) :
    Calls Tryz.prog 4 #[.bool neg, v, .int .i64 most] w (MakesSV most (signed neg (bv T)) w) := by
  have hTl : T.length ≤ most := by rw [hT]; simp; omega
  have hTd : ∀ d ∈ T, d < 256 := fun d h => hd d (by rw [hT] at h; exact List.mem_of_mem_take h)
  have HT := Lib.hid hT
  clear hT
  have key : ∃ (a : Option Addr) (c : Nat), v = .slice a l.length c ∧ Row 0 .u8 w (.slice a T.length c) T ∧ (a = none → c = 0) ∧ l.length ≤ c := by
    rcases hr with ⟨rfl, rfl | ⟨a, c, rfl⟩⟩ | h
    · exact ⟨none, 0, rfl, by rw [HT.out]; exact .inl ⟨by simp, .inl (by simp)⟩, fun _ => rfl, by simp⟩
    · exact ⟨some a, c, rfl, by rw [HT.out]; exact .inl ⟨by simp, .inr ⟨a, c, by simp⟩⟩, fun h => (by cases h), by simp⟩
    · have h' := h
      obtain ⟨h0, g, off, c, rfl, hc, hB, hg, hcell⟩ := h
      refine ⟨_, c, rfl, ?_, fun h => (by cases h), hc⟩
      have := Row.take T.length (by rw [HT.out]; simp; omega) (.inr h')
      rwa [show l.take T.length = T from by rw [HT.out, List.length_take, ← List.take_eq_take_min]] at this
  obtain ⟨a, c, rfl, hrow, hac, hlc⟩ := key
  have HR := Lib.hid hrow
  clear hrow hr
  have hmin : (min (l.length : Int) most) = (T.length : Nat) := by rw [HT.out, List.length_take]; omega
  have hTl2 : T.length ≤ l.length := by rw [HT.out, List.length_take]; omega
  clear hmin hac
  by_cases hml : most < l.length
  · have hTm : T.length = most := by rw [HT.out, List.length_take]; omega
    have HR' : Hid (Row 0 .u8 w (.slice a most c) T) := by rw [← hTm]; exact HR.out
    clear HR hTm
    go_enter Tryz.func4, Tryz.ntmps4
    go_wp2_with fail
    refine (f11_any neg _ T (by omega) hTd _ 0 ((HR'.out.alloc _).alloc _)).mono ?_
    rintro e w1 ⟨_, rfl, ⟨sl, m, rfl, hrow, hB, hm⟩, hb⟩
    obtain ⟨a1, c1, rfl⟩ := hrow.len
    have HX : Hid (SInt (w.heap.size + 2) most w1 (.agg #[.bool (decide (signed neg (bv T) < 0)), .slice a1 m.length c1]) (signed neg (bv T))) := ⟨_, m, rfl, hrow.le (by simp), hB, Nat.le_trans hm (Nat.le_trans (strip_len T) hTl)⟩
    clear hrow hB hm
    generalize hd' : decide (signed neg (bv T) < 0) = d at *
    have HD := Lib.hid hd'
    clear hd'
    have hz : w.heap.size + 2 ≤ w1.heap.size := by have := hb.size; simpa using this
    have c00 : ∀ j, w1.cell? ⟨w.heap.size, j, none⟩ = (#[Value.bool false, Value.slice none 0 0] : Array Value)[j]? := fun j => (hb.cell (p := ⟨w.heap.size, j, none⟩) (by simp; omega)).trans (by simp [go_sem])
    have c01 : ∀ j, w1.cell? ⟨w.heap.size + 1, j, none⟩ = (#[Value.int IntKind.i64 0, Value.bool false, Value.slice none 0 0, Value.int IntKind.u64 0, Value.string { data := #[] }, Value.slice none 0 0] : Array Value)[j]? := fun j => (hb.cell (p := ⟨w.heap.size + 1, j, none⟩) (by simp)).trans (by simp [go_sem])
    have f00 : ∀ j, w1.frozen? ⟨w.heap.size, j, none⟩ = false := fun j => (hb.frozen (p := ⟨w.heap.size, j, none⟩) (by simp; omega)).trans (by simp [go_sem])
    have f01 : ∀ j, w1.frozen? ⟨w.heap.size + 1, j, none⟩ = false := fun j => (hb.frozen (p := ⟨w.heap.size + 1, j, none⟩) (by simp)).trans (by simp [go_sem])
    have HB : Hid (Below w.heap.size w w1) := (((Below.refl _ _).alloc (Nat.le_refl _) _).alloc (by simp) _).trans (hb.mono (by simp; omega))
    have HC00 := Lib.hid c00
    have HC01 := Lib.hid c01
    have HF00 := Lib.hid f00
    have HF01 := Lib.hid f01
    clear hb c00 c01 f00 f01
    have n0 : w1.heap.size ≠ w.heap.size := by omega
    have n1 : w1.heap.size ≠ w.heap.size + 1 := by omega
    go_wp2_with fail
    go_region_held3 (fun w' => w'.cell? ⟨w1.heap.size, 0, none⟩ = some (.bool d) ∧ w'.cell? ⟨w1.heap.size, 1, none⟩ = some (.slice a1 m.length c1))
      (first | (refine ⟨?_, ?_⟩ <;> (repeat (with_reducible refine set_other ?_ (by first | exact n0 | exact n1))) <;> first | exact (hb2.cell (p := ⟨w1.heap.size, 0, none⟩) (by simp)).trans (by simp [go_sem]) | exact (hb2.cell (p := ⟨w1.heap.size, 1, none⟩) (by simp)).trans (by simp [go_sem])) | go_keep)
      ((go_at_call 8; refine (f8_any most (by omega) _ _ _ _ (HX.out.below (B := w1.heap.size) (((Below.refl _ _).alloc (Nat.le_refl _) _).drew) (Nat.le_refl _))).mono ?_; rintro e w2 ⟨_, rfl, ⟨sl2, m2, rfl, hrow2, hB2, hm2⟩, hb2⟩; obtain ⟨a2, c2, rfl⟩ := hrow2.len; have hb3 := Lib.hid ((((Below.refl w1.heap.size w1).alloc (Nat.le_refl _) _).drew).trans (hb2.mono (by simp))); have c20 := fun j => (hb3.out.cell (p := ⟨w.heap.size, j, none⟩) (show w.heap.size < w1.heap.size by omega)).trans (HC00.out j); have c21 := fun j => (hb3.out.cell (p := ⟨w.heap.size + 1, j, none⟩) (show w.heap.size + 1 < w1.heap.size by omega)).trans (HC01.out j); have f20 := fun j => (hb3.out.frozen (p := ⟨w.heap.size, j, none⟩) (show w.heap.size < w1.heap.size by omega)).trans (HF00.out j); have f21 := fun j => (hb3.out.frozen (p := ⟨w.heap.size + 1, j, none⟩) (show w.heap.size + 1 < w1.heap.size by omega)).trans (HF01.out j)))
    go_wp2
    refine bodyPost_ret (v := .tuple #[.agg #[.bool d, .slice a1 m.length c1], .agg #[.int .i64 2, .bool (decide (signed neg (bv T) < 0)), .slice a2 m2.length c2, .int .u64 0, .string ⟨#[]⟩, .slice none 0 0]]) (by simp [results, Tryz.results4, go_sem, c20, c21]) rfl ?_
    refine ⟨_, _, rfl, ?_, ?_, ?_⟩
    · refine SInt.le (B := w.heap.size + 2) (n := most) ?_ (by omega) (Nat.le_refl _)
      iterate 6 (refine SInt.setOld ?_ (show w.heap.size + 1 < w.heap.size + 2 by omega) _)
      iterate 2 (refine SInt.setOld ?_ (show w.heap.size < w.heap.size + 2 by omega) _)
      exact HX.out.below hb3.out (Nat.le_refl _)
    · refine VInt.le (B := w.heap.size + 2) (n := most) ?_ (by omega) (Nat.le_refl _)
      iterate 6 (refine VInt.setOld ?_ (show w.heap.size + 1 < w.heap.size + 2 by omega) _)
      iterate 2 (refine VInt.setOld ?_ (show w.heap.size < w.heap.size + 2 by omega) _)
      exact ⟨_, m2, rfl, hrow2.le (by simp; omega), hB2, hm2⟩
    · iterate 6 (refine Below.setCell ?_ (show w.heap.size ≤ w.heap.size + 1 by omega) _)
      iterate 2 (refine Below.setCell ?_ (show w.heap.size ≤ w.heap.size by omega) _)
      exact HB.out.trans (hb3.out.mono (by omega))
  · have hTm : T.length = l.length := by rw [HT.out, List.length_take]; omega
    have HR' : Hid (Row 0 .u8 w (.slice a l.length c) T) := by rw [← hTm]; exact HR.out
    clear HR hTm
    go_enter Tryz.func4, Tryz.ntmps4
    go_wp2_with fail
    refine (f11_any neg _ T (by omega) hTd _ 0 ((HR'.out.alloc _).alloc _)).mono ?_
    rintro e w1 ⟨_, rfl, ⟨sl, m, rfl, hrow, hB, hm⟩, hb⟩
    obtain ⟨a1, c1, rfl⟩ := hrow.len
    have HX : Hid (SInt (w.heap.size + 2) most w1 (.agg #[.bool (decide (signed neg (bv T) < 0)), .slice a1 m.length c1]) (signed neg (bv T))) := ⟨_, m, rfl, hrow.le (by simp), hB, Nat.le_trans hm (Nat.le_trans (strip_len T) hTl)⟩
    clear hrow hB hm
    generalize hd' : decide (signed neg (bv T) < 0) = d at *
    have HD := Lib.hid hd'
    clear hd'
    have hz : w.heap.size + 2 ≤ w1.heap.size := by have := hb.size; simpa using this
    have c00 : ∀ j, w1.cell? ⟨w.heap.size, j, none⟩ = (#[Value.bool false, Value.slice none 0 0] : Array Value)[j]? := fun j => (hb.cell (p := ⟨w.heap.size, j, none⟩) (by simp; omega)).trans (by simp [go_sem])
    have c01 : ∀ j, w1.cell? ⟨w.heap.size + 1, j, none⟩ = (#[Value.int IntKind.i64 0, Value.bool false, Value.slice none 0 0, Value.int IntKind.u64 0, Value.string { data := #[] }, Value.slice none 0 0] : Array Value)[j]? := fun j => (hb.cell (p := ⟨w.heap.size + 1, j, none⟩) (by simp)).trans (by simp [go_sem])
    have f00 : ∀ j, w1.frozen? ⟨w.heap.size, j, none⟩ = false := fun j => (hb.frozen (p := ⟨w.heap.size, j, none⟩) (by simp; omega)).trans (by simp [go_sem])
    have f01 : ∀ j, w1.frozen? ⟨w.heap.size + 1, j, none⟩ = false := fun j => (hb.frozen (p := ⟨w.heap.size + 1, j, none⟩) (by simp)).trans (by simp [go_sem])
    have HB : Hid (Below w.heap.size w w1) := (((Below.refl _ _).alloc (Nat.le_refl _) _).alloc (by simp) _).trans (hb.mono (by simp; omega))
    have HC00 := Lib.hid c00
    have HC01 := Lib.hid c01
    have HF00 := Lib.hid f00
    have HF01 := Lib.hid f01
    clear hb c00 c01 f00 f01
    have n0 : w1.heap.size ≠ w.heap.size := by omega
    have n1 : w1.heap.size ≠ w.heap.size + 1 := by omega
    go_wp2_with fail
    go_region_held3 (fun w' => w'.cell? ⟨w1.heap.size, 0, none⟩ = some (.bool d) ∧ w'.cell? ⟨w1.heap.size, 1, none⟩ = some (.slice a1 m.length c1))
      (first | (refine ⟨?_, ?_⟩ <;> (repeat (with_reducible refine set_other ?_ (by first | exact n0 | exact n1))) <;> first | exact (hb2.cell (p := ⟨w1.heap.size, 0, none⟩) (by simp)).trans (by simp [go_sem]) | exact (hb2.cell (p := ⟨w1.heap.size, 1, none⟩) (by simp)).trans (by simp [go_sem])) | go_keep)
      ((go_at_call 8; refine (f8_any most (by omega) _ _ _ _ (HX.out.below (B := w1.heap.size) (((Below.refl _ _).alloc (Nat.le_refl _) _).drew) (Nat.le_refl _))).mono ?_; rintro e w2 ⟨_, rfl, ⟨sl2, m2, rfl, hrow2, hB2, hm2⟩, hb2⟩; obtain ⟨a2, c2, rfl⟩ := hrow2.len; have hb3 := Lib.hid ((((Below.refl w1.heap.size w1).alloc (Nat.le_refl _) _).drew).trans (hb2.mono (by simp))); have c20 := fun j => (hb3.out.cell (p := ⟨w.heap.size, j, none⟩) (show w.heap.size < w1.heap.size by omega)).trans (HC00.out j); have c21 := fun j => (hb3.out.cell (p := ⟨w.heap.size + 1, j, none⟩) (show w.heap.size + 1 < w1.heap.size by omega)).trans (HC01.out j); have f20 := fun j => (hb3.out.frozen (p := ⟨w.heap.size, j, none⟩) (show w.heap.size < w1.heap.size by omega)).trans (HF00.out j); have f21 := fun j => (hb3.out.frozen (p := ⟨w.heap.size + 1, j, none⟩) (show w.heap.size + 1 < w1.heap.size by omega)).trans (HF01.out j)))
    go_wp2
    refine bodyPost_ret (v := .tuple #[.agg #[.bool d, .slice a1 m.length c1], .agg #[.int .i64 2, .bool (decide (signed neg (bv T) < 0)), .slice a2 m2.length c2, .int .u64 0, .string ⟨#[]⟩, .slice none 0 0]]) (by simp [results, Tryz.results4, go_sem, c20, c21]) rfl ?_
    refine ⟨_, _, rfl, ?_, ?_, ?_⟩
    · refine SInt.le (B := w.heap.size + 2) (n := most) ?_ (by omega) (Nat.le_refl _)
      iterate 6 (refine SInt.setOld ?_ (show w.heap.size + 1 < w.heap.size + 2 by omega) _)
      iterate 2 (refine SInt.setOld ?_ (show w.heap.size < w.heap.size + 2 by omega) _)
      exact HX.out.below hb3.out (Nat.le_refl _)
    · refine VInt.le (B := w.heap.size + 2) (n := most) ?_ (by omega) (Nat.le_refl _)
      iterate 6 (refine VInt.setOld ?_ (show w.heap.size + 1 < w.heap.size + 2 by omega) _)
      iterate 2 (refine VInt.setOld ?_ (show w.heap.size < w.heap.size + 2 by omega) _)
      exact ⟨_, m2, rfl, hrow2.le (by simp; omega), hB2, hm2⟩
    · iterate 6 (refine Below.setCell ?_ (show w.heap.size ≤ w.heap.size + 1 by omega) _)
      iterate 2 (refine Below.setCell ?_ (show w.heap.size ≤ w.heap.size by omega) _)
      exact HB.out.trans (hb3.out.mono (by omega))
end Go.Proofs.YtllgogkjcbdpkaaGreatDoor.Z
