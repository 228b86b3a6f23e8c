/- Walks of the reference's list of texts. (Printed by mkv9.py.) -/
import Derived.Test.YtgcofpmhojplhaaGreatDoorMV
import Derived.Test.YtgcofpmhojplhaaGreatDoorS1
namespace Go.Proofs.YtgcofpmhojplhaaGreatDoor
open Go.RowKit
open Z (bel_via cel_via)

/-- A value, as cells. -/
def cellsV (k : Int) (t : ByteArray) (kv : Value) : List Value := [.int .i64 k, .bool false, .slice none 0 0, .int .u64 0, .string t, kv]
def aggV (k : Int) (t : ByteArray) (kv : Value) : Value := .agg (cellsV k t kv).toArray
/-- Texts as values, as cells. -/
def flatV (l : List (List UInt8)) : List Value := l.flatMap fun x => cellsV 4 (txt x) (.slice none 0 0)
theorem flatV_snoc (a : List (List UInt8)) (x : List UInt8) : flatV (a ++ [x]) = flatV a ++ cellsV 4 (txt x) (.slice none 0 0) := by simp [flatV]
theorem flatV_len (l : List (List UInt8)) : (flatV l).length = l.length * 6 := by
  induction l with
  | nil => rfl
  | cons a r ih => simp [flatV, cellsV] at ih ⊢; omega
theorem infoVal28 : (Tryz.prog.info? 28).map (fun i => (i.zero, i.size, i.bytes)) = some (some (aggV 0 ⟨#[]⟩ (.slice none 0 0)), 6, 88) := by kernel_rfl
theorem take_stepL (l : List (List UInt8)) (j : Nat) (hj : j < l.length) : l.take (j + 1) = l.take j ++ [l.getD j []] := by
  rw [List.take_add_one, List.getElem?_eq_getElem hj]
  simp [hj]
def ListIs (l : List (List UInt8)) (w : World) (e : Ending) (w' : World) : Prop := ∃ kv, e = .returned (aggV 6 ⟨#[]⟩ kv) ∧ w'.ownsRow w.heap.size 28 6 kv l.length (flatV l) ∧ Below w.heap.size w w'
/-- Two blocks of a value each: the answer's, and a list under way. -/
def Two (K : Nat) (kv : Value) (w : World) : Prop := (∀ i, i < 6 → w.cell? ⟨K, i, none⟩ = (cellsV 0 ⟨#[]⟩ (.slice none 0 0))[i]?) ∧ (∀ i, w.frozen? ⟨K, i, none⟩ = false) ∧ (∀ i, i < 6 → w.cell? ⟨K + 1, i, none⟩ = (cellsV 6 ⟨#[]⟩ kv)[i]?) ∧ (∀ i, w.frozen? ⟨K + 1, i, none⟩ = false)
theorem own_via {b c d : World} {B : Nat} {e : TypeId} {z : Nat} {v : Value} {n : Nat} {xs : List Value} (h : b.ownsRow B e z v n xs) (hb : Below c.heap.size c d) (s : c.heap = b.heap) : d.ownsRow B e z v n xs := by
  refine own_below (w := c) ⟨h.1, ?_⟩ hb
  rcases h.2 with h2 | ⟨g, cap, cur, p, q, r, t⟩
  · exact .inl h2
  · exact .inr ⟨g, cap, cur, p, q, by rw [s]; exact r, t⟩
theorem own_heap {b c : World} {B : Nat} {e : TypeId} {z : Nat} {v : Value} {n : Nat} {xs : List Value} (h : b.ownsRow B e z v n xs) (s : c.heap = b.heap) : c.ownsRow B e z v n xs := own_via h (Below.refl _ _) s
theorem own_setOld {w : World} {base : Nat} {e : TypeId} {size : Nat} {v : Value} {n : Nat} {xs : List Value} (h : w.ownsRow base e size v n xs) {a : Addr} (ha : a.block < base) (u : Value) : (w.setCell a u).ownsRow base e size v n xs := by
  refine ⟨h.1, ?_⟩
  rcases h.2 with h2 | ⟨g, cap, cur, p, q, r, t⟩
  · exact .inl h2
  · exact .inr ⟨g, cap, cur, p, q, by rw [Below.heap_setCell w a u g (by omega)]; exact r, t⟩
theorem Two.below {K : Nat} {kv : Value} {w w' : World} (h : Two K kv w) (hb : Below (K + 2) w w') : Two K kv w' :=
  ⟨fun i hi => (hb.cell (p := ⟨K, i, none⟩) (by show K < _; omega)).trans (h.1 i hi), fun i => (hb.frozen (p := ⟨K, i, none⟩) (by show K < _; omega)).trans (h.2.1 i),
   fun i hi => (hb.cell (p := ⟨K + 1, i, none⟩) (by show K + 1 < _; omega)).trans (h.2.2.1 i hi), fun i => (hb.frozen (p := ⟨K + 1, i, none⟩) (by show K + 1 < _; omega)).trans (h.2.2.2 i)⟩
theorem bel_same {B : Nat} {a b c : World} (h : Below B a b) (s : c.heap = b.heap ∧ c.os = b.os ∧ c.tape = b.tape ∧ c.output = b.output) : Below B a c :=
  ⟨s.2.1.trans h.os, s.2.2.1.trans h.tape, s.2.2.2.trans h.output, by rw [s.1]; exact h.size, fun k hk => by rw [s.1]; exact h.block k hk⟩
theorem bel_from {B : Nat} {a b c : World} (h : Below B a b) (s : a.heap = c.heap ∧ a.os = c.os ∧ a.tape = c.tape ∧ a.output = c.output) : Below B c b :=
  ⟨h.os.trans s.2.1, h.tape.trans s.2.2.1, h.output.trans s.2.2.2, by have := h.size; rw [s.1] at this; exact this, fun k hk => by have := h.block k hk; rw [s.1] at this; exact this⟩
theorem bel_grow {B : Nat} {wb X w1 : World} {row : Option Nat} (o : Obj) (s : X.heap = (wb.alloc o).heap ∧ X.os = wb.os ∧ X.tape = wb.tape ∧ X.output = wb.output) (hg : X.grownBy w1 row) (hB : B ≤ wb.heap.size) (hrow : ∀ k, row = some k → B ≤ k) : Below B wb w1 := by
  have h1 : Below B wb X := bel_same ((Below.refl B wb).alloc hB o) ⟨s.1, s.2.1, s.2.2.1, s.2.2.2⟩
  exact h1.grown hg (by rw [s.1]; simp; omega) hrow
theorem Two.set {K : Nat} {kv kv' : Value} {w : World} (h : Two K kv w) : Two K kv' (w.setCell ⟨K + 1, 5, none⟩ kv') := by
  obtain ⟨h1, h2, h3, h4⟩ := h
  have c5 := h3 5 (by omega)
  refine ⟨fun i hi => ?_, fun i => ?_, fun i hi => ?_, fun i => ?_⟩
  · rw [← h1 i hi]; simp [go_sem]
  · rw [← h2 i]; simp [go_sem]
  · by_cases hi5 : i = 5
    · subst hi5
      simp [cellsV] at c5 ⊢
      simp [go_sem, c5]
    · have := h3 i hi
      have hne : (⟨K + 1, i, none⟩ : Addr) ≠ ⟨K + 1, 5, none⟩ := fun h => by simp at h
      rw [show (cellsV 6 ⟨#[]⟩ kv')[i]? = (cellsV 6 ⟨#[]⟩ kv)[i]? from by
        rcases i with _ | _ | _ | _ | _ | n
        · rfl
        · rfl
        · rfl
        · rfl
        · rfl
        · omega, ← this]
      simp [go_sem]
  · rw [← h4 i]; simp [go_sem]
set_option maxRecDepth 100000 in
set_option maxHeartbeats 4000000 in
theorem f50_any (l : List (List UInt8)) (hl : l.length ≤ 1000000) (v : Value) (B : Nat) (w : World) (hown : w.ownsRow B 9 1 v l.length (strs l)) : Calls Tryz.prog 50 #[v] w (ListIs l w) := by
  obtain ⟨i0, hi, hz0, hz1, hz2⟩ := info_parts infoVal28
  obtain ⟨A, c, rfl⟩ := own_len hown
  have HO := Lib.hid hown
  have H6 := Lib.hid (fun s w => f6_any s w)
  clear hown
  go_enter Tryz.func50, Tryz.ntmps50
  go_wp2
  have HT0 : Hid (Two w.heap.size (.slice none 0 0) ((w.alloc (Obj.cells #[.int .i64 0, .bool false, .slice none 0 0, .int .u64 0, .string ⟨#[]⟩, .slice none 0 0] 28)).alloc (Obj.cells #[.int .i64 6, .bool false, .slice none 0 0, .int .u64 0, .string ⟨#[]⟩, .slice none 0 0] 28))) := by
    refine ⟨fun i hi => by simp [go_sem, cellsV], fun i => by simp [go_sem], fun i hi => by simp [go_sem, cellsV], fun i => by simp [go_sem]⟩
  have HB0 : Hid (Below w.heap.size w ((w.alloc (Obj.cells #[.int .i64 0, .bool false, .slice none 0 0, .int .u64 0, .string ⟨#[]⟩, .slice none 0 0] 28)).alloc (Obj.cells #[.int .i64 6, .bool false, .slice none 0 0, .int .u64 0, .string ⟨#[]⟩, .slice none 0 0] 28))) := ((Below.refl _ _).alloc (Nat.le_refl _) _).alloc (by simp) _
  have HS0 : Hid (w.heap.size + 2 ≤ ((w.alloc (Obj.cells #[.int .i64 0, .bool false, .slice none 0 0, .int .u64 0, .string ⟨#[]⟩, .slice none 0 0] 28)).alloc (Obj.cells #[.int .i64 6, .bool false, .slice none 0 0, .int .u64 0, .string ⟨#[]⟩, .slice none 0 0] 28)).heap.size) := by show _ ≤ _; simp
  go_loopw [4] (fun i wr => ∃ (j : Nat) (kv : Value), i = .int .i64 j ∧ j ≤ l.length ∧ Hid (wr.ownsRow (w.heap.size + 2) 28 6 kv j (flatV (l.take j))) ∧ Hid (Two w.heap.size kv wr) ∧ Hid (Below w.heap.size w wr) ∧ Hid (w.heap.size + 2 ≤ wr.heap.size)) (fun i _ => l.length - (RowKit.intOf i).toNat)
  case atStart => exact ⟨0, .slice none 0 0, rfl, Nat.zero_le _, World.ownsRow_nil _ _ _ _, HT0.out, HB0.out, HS0.out⟩
  case round =>
    obtain ⟨j, kv, rfl, hj, HOx, HTx, HBx, HSx⟩ := hrel
    have HKV := Lib.hid (own_len HOx.out)
    by_cases hlt : j < l.length
    · have hlti : (j : Int) < (l.length : Int) := by omega
      obtain ⟨gl, rfl⟩ := own_form HO.out (by omega)
      have xj0 := HO.out.cellAt j (by omega)
      have hjs : (strs l)[j]? = some (.string (txt (l.getD j []))) := by simp [strs, hlt]
      rw [hjs] at xj0
      have xj : wr.cell? ⟨gl, j, none⟩ = _ := (HBx.out.cell (p := ⟨gl, j, none⟩) (own_cap HO.out).2.2).trans xj0
      have HL : Hid (flatV (l.take (j + 1)) = flatV (l.take j) ++ cellsV 4 (txt (l.getD j [])) (.slice none 0 0)) := by
        show _ = _
        rw [take_stepL l j hlt, flatV_snoc]
      generalize txt (l.getD j []) = t at *
      have x5 : wr.cell? ⟨w.heap.size + 1, 5, none⟩ = some kv := HTx.out.2.2.1 5 (by omega)
      have K3 : Hid (j + 1 ≤ maxLen) := by show _ ≤ _; unfold maxLen; omega
      have K4 : Hid ((j + 1) * 88 ≤ 140737488355328) := by show _ ≤ _; omega
      have HG : Hid (gl < w.heap.size) := (own_cap HO.out).2.2
      clear xj0 hjs HT0 HB0 HS0
      go_wp2
      go_region_law
        (first
          | (go_simp; go_at_call 6; (with_reducible refine (H6.out _ _).mono ?_); rintro e wb ⟨rfl, hb⟩; have z5 := cel_via x5 hb rfl; have zj := cel_via xj hb rfl; have HOz := Lib.hid (own_via HOx.out hb rfl); have HBz := Lib.hid (bel_via HBx.out hb ⟨rfl, rfl, rfl, rfl⟩ HBx.out.size); have HTz := Lib.hid (HTx.out.below (bel_from (hb.mono HSx.out) ⟨rfl, rfl, rfl, rfl⟩)); have HSz : Hid (w.heap.size + 2 ≤ wb.heap.size) := Nat.le_trans HSx.out hb.size; have z6 : (wb.alloc (.cells #[.int .i64 4, .bool false, .slice none 0 0, .int .u64 0, .string t, .slice none 0 0] 28)).cell? ⟨w.heap.size + 1, 5, none⟩ = some kv := (((Below.refl wb.heap.size wb).alloc (Nat.le_refl _) _).cell (World.block_lt_of_cell? wb _ z5)).trans z5; clear hb)
          | ((refine step_append_lies _ (by rfl) _ _ 24 (by rfl) (w.heap.size + 2) 28 i0 _ 6 88 Tryz.underlying24 hi hz0 hz1 hz2 rfl (by omega) kv j (flatV (l.take j)) (by rfl) (own_heap (HOz.out.alloc _) rfl) ⟨wb.heap.size, 0, none⟩ 1 1 (cellsV 4 t (.slice none 0 0)) (by rfl) (by rfl) (World.news_of_block (cs := (cellsV 4 t (.slice none 0 0)).toArray) (t := 28) (fr := (0, 0)) (heap_alloc_new wb _)) (by simp [cellsV, Value.oneCell']) (by omega) K3.out K4.out (Nat.le_trans HSz.out (by simp)) (wb.heap.size + 1) (by simp) ?_); intro gg cap w1 hown1 hgrow hat hlt1; have hbw := bel_grow _ ⟨rfl, rfl, rfl, rfl⟩ hgrow HSz.out (fun k hk => (HOz.out.lt k hk).1); have HTy := Lib.hid (HTz.out.below hbw); have HBy := Lib.hid (HBz.out.trans (hbw.mono (by omega))); have HOy := Lib.hid hown1; have y5 := (hbw.cell (p := ⟨w.heap.size + 1, 5, none⟩) (by show w.heap.size + 1 < _; omega)).trans z5; have yj := (hbw.cell (p := ⟨gl, j, none⟩) (Nat.lt_of_lt_of_le HG.out (by omega))).trans zj; have yf : w1.frozen? ⟨w.heap.size + 1, 5, none⟩ = false := HTy.out.2.2.2 5; have HSy : Hid (w.heap.size + 2 ≤ w1.heap.size) := Nat.le_trans HSz.out hbw.size; clear hbw hgrow hown1 hat))
      all_goals
        clear z5 zj z6
        have HT2 : Hid (Two w.heap.size (.slice (some ⟨gg, 0, none⟩) (j + 1) cap) (w1.setCell ⟨w.heap.size + 1, 5, none⟩ (.slice (some ⟨gg, 0, none⟩) (j + 1) cap))) := HTy.out.set
        have HO2 : Hid ((w1.setCell ⟨w.heap.size + 1, 5, none⟩ (.slice (some ⟨gg, 0, none⟩) (j + 1) cap)).ownsRow (w.heap.size + 2) 28 6 (.slice (some ⟨gg, 0, none⟩) (j + 1) cap) (j + 1) (flatV (l.take (j + 1)))) := by
          show World.ownsRow _ _ _ _ _ _ _
          rw [HL.out]
          exact own_setOld HOy.out (by show w.heap.size + 1 < _; omega) _
        have HB2 : Hid (Below w.heap.size w (w1.setCell ⟨w.heap.size + 1, 5, none⟩ (.slice (some ⟨gg, 0, none⟩) (j + 1) cap))) := HBy.out.setCell (by show w.heap.size ≤ w.heap.size + 1; omega) _
        have HS2 : Hid (w.heap.size + 2 ≤ (w1.setCell ⟨w.heap.size + 1, 5, none⟩ (.slice (some ⟨gg, 0, none⟩) (j + 1) cap)).heap.size) := by show _ ≤ _; have := HSy.out; simpa [World.setCell] using this
        go_wp2
        go_roundw
        case rel => exact ⟨j + 1, _, by go_num, by omega, HO2.out, HT2.out, HB2.out, HS2.out⟩
        case measure => simp [RowKit.intOf]; omega
    · have hlti : ¬ (j : Int) < (l.length : Int) := by omega
      obtain rfl : j = l.length := by omega
      obtain ⟨A5, cc5, rfl⟩ := HKV.out
      have c0 : wr.cell? ⟨w.heap.size + 1, 0, none⟩ = some (.int .i64 6) := HTx.out.2.2.1 0 (by omega)
      have c1 : wr.cell? ⟨w.heap.size + 1, 1, none⟩ = some (.bool false) := HTx.out.2.2.1 1 (by omega)
      have c2 : wr.cell? ⟨w.heap.size + 1, 2, none⟩ = some (.slice none 0 0) := HTx.out.2.2.1 2 (by omega)
      have c3 : wr.cell? ⟨w.heap.size + 1, 3, none⟩ = some (.int .u64 0) := HTx.out.2.2.1 3 (by omega)
      have c4 : wr.cell? ⟨w.heap.size + 1, 4, none⟩ = some (.string ⟨#[]⟩) := HTx.out.2.2.1 4 (by omega)
      have c5 : wr.cell? ⟨w.heap.size + 1, 5, none⟩ = some (.slice A5 l.length cc5) := HTx.out.2.2.1 5 (by omega)
      have b0 : wr.cell? ⟨w.heap.size, 0, none⟩ = some (.int .i64 0) := HTx.out.1 0 (by omega)
      have b1 : wr.cell? ⟨w.heap.size, 1, none⟩ = some (.bool false) := HTx.out.1 1 (by omega)
      have b2 : wr.cell? ⟨w.heap.size, 2, none⟩ = some (.slice none 0 0) := HTx.out.1 2 (by omega)
      have b3 : wr.cell? ⟨w.heap.size, 3, none⟩ = some (.int .u64 0) := HTx.out.1 3 (by omega)
      have b4 : wr.cell? ⟨w.heap.size, 4, none⟩ = some (.string ⟨#[]⟩) := HTx.out.1 4 (by omega)
      have b5 : wr.cell? ⟨w.heap.size, 5, none⟩ = some (.slice none 0 0) := HTx.out.1 5 (by omega)
      have bf : ∀ i, wr.frozen? ⟨w.heap.size, i, none⟩ = false := HTx.out.2.1
      clear HT0 HB0 HS0
      go_wp2
      refine bodyPost_ret (v := aggV 6 ⟨#[]⟩ (.slice A5 l.length cc5)) (by simp [results, Tryz.results50, go_sem, aggV, cellsV, b0, b1, b2, b3, b4, b5]) rfl ?_
      refine ⟨_, rfl, ?_, ?_⟩
      · refine Joins.ownsRow_le (?_ : World.ownsRow _ (w.heap.size + 2) 28 6 _ _ _) (by omega)
        iterate 6 (refine own_setOld ?_ (show w.heap.size < w.heap.size + 2 by omega) _)
        have := HOx.out
        rw [List.take_of_length_le (Nat.le_refl _)] at this
        exact this
      · iterate 6 (refine Below.setCell ?_ (show w.heap.size ≤ w.heap.size by omega) _)
        exact HBx.out
end Go.Proofs.YtgcofpmhojplhaaGreatDoor
