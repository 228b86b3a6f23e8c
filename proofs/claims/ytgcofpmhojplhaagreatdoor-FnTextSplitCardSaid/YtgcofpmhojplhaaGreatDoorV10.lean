/- Walks of the reference's parted. (Printed by mkv10.py.) -/
import Derived.Test.YtgcofpmhojplhaaGreatDoorV9
namespace Go.Proofs.YtgcofpmhojplhaaGreatDoor
open Go.RowKit

def wordsL (back : Bool) (z : Int) (S : List UInt8) : List (List UInt8) := if back then wdB blankB (lim z S.length) S else wd blankB (lim z S.length) S
def piecesL (back : Bool) (p : List UInt8) (z : Int) (S : List UInt8) : List (List UInt8) := if back then rsZ p z S else pc p (lim z S.length) S
theorem f51_any (s : ByteArray) (hs : s.size ≤ 100000) (back : Bool) (z : Int) (w : World) : Calls Tryz.prog 51 #[.string s, .bool back, .int .i64 z] w (TextsMade (wordsL back z s.data.toList) w) := by
  unfold wordsL
  rw [← size_list0]
  cases back
  · exact f51_fore s hs z w
  · exact f51_back s hs z w
theorem f52_any (s p : ByteArray) (hs : s.size ≤ 100000) (hp : p.size ≤ 100000) (hp0 : 0 < p.size) (back : Bool) (hno : back = true → ¬ Ov p.data.toList) (z : Int) (w : World) : Calls Tryz.prog 52 #[.string s, .string p, .bool back, .int .i64 z] w (TextsMade (piecesL back p.data.toList z s.data.toList) w) := by
  unfold piecesL
  cases back
  · rw [← size_list0]
    exact f52_fore s p hs hp hp0 z _ rfl w
  · exact f52_back s p hs hp hp0 (hno rfl) z _ rfl w
theorem lim_le {z : Int} {n : Nat} (hz : z ≤ 1000) : lim z n ≤ n + 1000 := by
  unfold lim
  split <;> omega
theorem wordsL_len (back : Bool) (z : Int) (S : List UInt8) (hz : z ≤ 1000) (hS : S.length ≤ 100000) : (wordsL back z S).length ≤ 1000000 := by
  have := lim_le (n := S.length) hz
  unfold wordsL
  split
  · have := wdB_len blankB (lim z S.length) S; omega
  · have := wd_len blankB (lim z S.length) S; omega
theorem piecesL_len (back : Bool) (p : List UInt8) (z : Int) (S : List UInt8) (hz : z ≤ 1000) (hS : S.length ≤ 100000) : (piecesL back p z S).length ≤ 1000000 := by
  have := lim_le (n := S.length) hz
  have h1 := pc_len p S.length S
  unfold piecesL
  split
  · unfold rsZ
    split
    · omega
    · unfold rs
      split
      · omega
      · rw [joined_len]; omega
  · have := pc_len p (lim z S.length) S; omega
/-- What the reference answers: a list of texts, or nothing. -/
def PartIs (o : Option (List (List UInt8))) (w : World) (e : Ending) (w' : World) : Prop := match o with
  | some l => ∃ kv, e = .returned (.tuple #[aggV 6 ⟨#[]⟩ kv, .bool true]) ∧ w'.ownsRow w.heap.size 28 6 kv l.length (flatV l) ∧ Below w.heap.size w w'
  | none => e = .returned (.tuple #[aggV 0 ⟨#[]⟩ (.slice none 0 0), .bool false]) ∧ Below w.heap.size w w'
/-- A new value's block. -/
def One (K : Nat) (w : World) : Prop := (∀ i, i < 6 → w.cell? ⟨K, i, none⟩ = (cellsV 0 ⟨#[]⟩ (.slice none 0 0))[i]?) ∧ ∀ i, w.frozen? ⟨K, i, none⟩ = false
theorem One.below {K B : Nat} {w w' : World} (h : One K w) (hb : Below B w w') (hK : K < B) : One K w' :=
  ⟨fun i hi => (hb.cell (p := ⟨K, i, none⟩) hK).trans (h.1 i hi), fun i => (hb.frozen (p := ⟨K, i, none⟩) hK).trans (h.2 i)⟩
theorem One.new (w : World) : One w.heap.size (w.alloc (.cells #[.int .i64 0, .bool false, .slice none 0 0, .int .u64 0, .string ⟨#[]⟩, .slice none 0 0] 28)) := by
  refine ⟨fun i hi => by simp [go_sem, cellsV], fun i => by simp [go_sem]⟩
set_option maxRecDepth 100000 in
set_option maxHeartbeats 2000000 in
theorem f27_words (s : ByteArray) (back : Bool) (g n c : Nat) (hn1 : 1 ≤ n) (hn2 : n ≤ 2) (z : Int) (w : World) (h0 : w.cell? ⟨g, 0, none⟩ = some (.int .i64 0)) (L : List (List UInt8)) (hL : L.length ≤ 1000000) (hW : ∀ w1, Calls Tryz.prog 51 #[.string s, .bool back, .int .i64 z] w1 (TextsMade L w1)) (hC : ∀ w1, Below w.heap.size w w1 → Calls Tryz.prog 49 #[.slice (some ⟨g, 0, none⟩) n c, .int .i64 1] w1 (CountIs z w1)) :
    Calls Tryz.prog 27 #[.string s, .bool back, .slice (some ⟨g, 0, none⟩) n c] w (PartIs (some L) w) := by
  have HN0 := Lib.hid (One.new w)
  have HB0 : Hid (Below w.heap.size w (w.alloc (.cells #[.int .i64 0, .bool false, .slice none 0 0, .int .u64 0, .string ⟨#[]⟩, .slice none 0 0] 28))) := (Below.refl _ _).alloc (Nat.le_refl _) _
  have HZ0 : Hid (w.heap.size < (w.alloc (.cells #[.int .i64 0, .bool false, .slice none 0 0, .int .u64 0, .string ⟨#[]⟩, .slice none 0 0] 28)).heap.size) := by show _ < _; simp
  have HC := Lib.hid (hC _ HB0.out)
  have t1 : ¬ (2 : Int) < (n : Int) := by omega
  have t2 : ((n : Int) == 0) = false := by rw [beq_eq_false_iff_ne]; omega
  have t3 : (0 : Int) < (n : Int) := by omega
  have t4 : 0 < n := by omega
  have HW := Lib.hid hW
  have HL := Lib.hid hL
  clear hW hL
  clear hC hn1 hn2
  go_enter Tryz.func27, Tryz.ntmps27
  go_wp2_with fail
  go_at_call 49
  refine HC.out.mono ?_
  rintro e w1 ⟨rfl, hb⟩
  have h0 := cell_below h0 (HB0.out.trans (hb.mono HB0.out.size))
  have HB1 := Lib.hid (HB0.out.trans (hb.mono HB0.out.size))
  have HN := Lib.hid (HN0.out.below hb HZ0.out)
  have HZ1 : Hid (w.heap.size < w1.heap.size) := Nat.lt_of_lt_of_le HZ0.out hb.size
  clear hb HN0
  go_wp2_with fail
  go_at_call 51
  refine (HW.out _).mono ?_
  rintro e w2 ⟨v2, rfl, ho, hb⟩
  obtain ⟨A2, c2, rfl⟩ := own_len ho
  have h0 := cell_below h0 hb
  have HO2 := Lib.hid ho
  have HB2 := Lib.hid (HB1.out.trans (hb.mono HB1.out.size))
  have HN := Lib.hid (HN.out.below hb HZ1.out)
  have HZ2 : Hid (w.heap.size < w2.heap.size) := Nat.lt_of_lt_of_le HZ1.out hb.size
  clear hb ho
  go_wp2_with fail
  go_at_call 50
  refine (f50_any L HL.out _ _ _ HO2.out).mono ?_
  rintro e w3 ⟨kv, rfl, ho, hb⟩
  obtain ⟨A3, c3, rfl⟩ := own_len ho
  unfold aggV cellsV
  have HO3 := Lib.hid ho
  have HB3 := Lib.hid (HB2.out.trans (hb.mono HB2.out.size))
  have HN := Lib.hid (HN.out.below hb HZ2.out)
  have HZ3 : Hid (w.heap.size < w2.heap.size) := HZ2.out
  clear hb ho
  have b0 : w3.cell? ⟨w.heap.size, 0, none⟩ = some (.int .i64 0) := HN.out.1 0 (by omega)
  have b1 : w3.cell? ⟨w.heap.size, 1, none⟩ = some (.bool false) := HN.out.1 1 (by omega)
  have b2 : w3.cell? ⟨w.heap.size, 2, none⟩ = some (.slice none 0 0) := HN.out.1 2 (by omega)
  have b3 : w3.cell? ⟨w.heap.size, 3, none⟩ = some (.int .u64 0) := HN.out.1 3 (by omega)
  have b4 : w3.cell? ⟨w.heap.size, 4, none⟩ = some (.string ⟨#[]⟩) := HN.out.1 4 (by omega)
  have b5 : w3.cell? ⟨w.heap.size, 5, none⟩ = some (.slice none 0 0) := HN.out.1 5 (by omega)
  have bf : ∀ i, w3.frozen? ⟨w.heap.size, i, none⟩ = false := HN.out.2
  go_wp2
  refine bodyPost_ret (v := .tuple #[aggV 6 ⟨#[]⟩ (.slice A3 L.length c3), .bool true]) (by simp [results, Tryz.results27, go_sem, aggV, cellsV, b0, b1, b2, b3, b4, b5]) rfl ⟨_, rfl, ?_, ?_⟩
  · refine Joins.ownsRow_le (?_ : World.ownsRow _ w2.heap.size 28 6 _ _ _) (Nat.le_of_lt HZ3.out)
    iterate 6 (refine own_setOld ?_ HZ3.out _)
    exact HO3.out
  · iterate 6 (refine Below.setCell ?_ (show w.heap.size ≤ w.heap.size by omega) _)
    exact HB3.out
set_option maxRecDepth 100000 in
set_option maxHeartbeats 2000000 in
theorem f27_void (s : ByteArray) (back : Bool) (g n c : Nat) (hn1 : 1 ≤ n) (hn2 : n ≤ 2) (z : Int) (w : World) (h0 : w.cell? ⟨g, 0, none⟩ = some (.int .i64 4)) (t : ByteArray) (h4 : w.cell? ⟨g, 4, none⟩ = some (.string t)) (ht : t.size = 0) (hC : ∀ w1, Below w.heap.size w w1 → Calls Tryz.prog 49 #[.slice (some ⟨g, 0, none⟩) n c, .int .i64 1] w1 (CountIs z w1)) :
    Calls Tryz.prog 27 #[.string s, .bool back, .slice (some ⟨g, 0, none⟩) n c] w (PartIs none w) := by
  have HN0 := Lib.hid (One.new w)
  have HB0 : Hid (Below w.heap.size w (w.alloc (.cells #[.int .i64 0, .bool false, .slice none 0 0, .int .u64 0, .string ⟨#[]⟩, .slice none 0 0] 28))) := (Below.refl _ _).alloc (Nat.le_refl _) _
  have HZ0 : Hid (w.heap.size < (w.alloc (.cells #[.int .i64 0, .bool false, .slice none 0 0, .int .u64 0, .string ⟨#[]⟩, .slice none 0 0] 28)).heap.size) := by show _ < _; simp
  have HC := Lib.hid (hC _ HB0.out)
  have t1 : ¬ (2 : Int) < (n : Int) := by omega
  have t2 : ((n : Int) == 0) = false := by rw [beq_eq_false_iff_ne]; omega
  have t3 : (0 : Int) < (n : Int) := by omega
  have t4 : 0 < n := by omega
  have e0 : t.toList = [] := by rw [ByteArray.toList_eq]; exact nil_of_size ht
  have e1 : t.toList.isEmpty = true := by rw [e0]; rfl
  clear ht
  clear hC hn1 hn2
  go_enter Tryz.func27, Tryz.ntmps27
  go_wp2_with fail
  go_at_call 49
  refine HC.out.mono ?_
  rintro e w1 ⟨rfl, hb⟩
  have h0 := cell_below h0 (HB0.out.trans (hb.mono HB0.out.size))
  have h4 := cell_below h4 (HB0.out.trans (hb.mono HB0.out.size))
  have HB1 := Lib.hid (HB0.out.trans (hb.mono HB0.out.size))
  have HN := Lib.hid (HN0.out.below hb HZ0.out)
  have HZ1 : Hid (w.heap.size < w1.heap.size) := Nat.lt_of_lt_of_le HZ0.out hb.size
  clear hb HN0
  have b0 : w1.cell? ⟨w.heap.size, 0, none⟩ = some (.int .i64 0) := HN.out.1 0 (by omega)
  have b1 : w1.cell? ⟨w.heap.size, 1, none⟩ = some (.bool false) := HN.out.1 1 (by omega)
  have b2 : w1.cell? ⟨w.heap.size, 2, none⟩ = some (.slice none 0 0) := HN.out.1 2 (by omega)
  have b3 : w1.cell? ⟨w.heap.size, 3, none⟩ = some (.int .u64 0) := HN.out.1 3 (by omega)
  have b4 : w1.cell? ⟨w.heap.size, 4, none⟩ = some (.string ⟨#[]⟩) := HN.out.1 4 (by omega)
  have b5 : w1.cell? ⟨w.heap.size, 5, none⟩ = some (.slice none 0 0) := HN.out.1 5 (by omega)
  have bf : ∀ i, w1.frozen? ⟨w.heap.size, i, none⟩ = false := HN.out.2
  go_wp2
  refine bodyPost_ret (v := .tuple #[aggV 0 ⟨#[]⟩ (.slice none 0 0), .bool false]) (by simp [results, Tryz.results27, go_sem, aggV, cellsV, b0, b1, b2, b3, b4, b5]) rfl ⟨rfl, ?_⟩
  iterate 6 (refine Below.setCell ?_ (show w.heap.size ≤ w.heap.size by omega) _)
  exact HB1.out
set_option maxRecDepth 100000 in
set_option maxHeartbeats 2000000 in
theorem f27_pieces (s : ByteArray) (back : Bool) (g n c : Nat) (hn1 : 1 ≤ n) (hn2 : n ≤ 2) (z : Int) (w : World) (h0 : w.cell? ⟨g, 0, none⟩ = some (.int .i64 4)) (t : ByteArray) (h4 : w.cell? ⟨g, 4, none⟩ = some (.string t)) (ht : 0 < t.size) (L : List (List UInt8)) (hL : L.length ≤ 1000000) (hW : ∀ w1, Calls Tryz.prog 52 #[.string s, .string t, .bool back, .int .i64 z] w1 (TextsMade L w1)) (hC : ∀ w1, Below w.heap.size w w1 → Calls Tryz.prog 49 #[.slice (some ⟨g, 0, none⟩) n c, .int .i64 1] w1 (CountIs z w1)) :
    Calls Tryz.prog 27 #[.string s, .bool back, .slice (some ⟨g, 0, none⟩) n c] w (PartIs (some L) w) := by
  have HN0 := Lib.hid (One.new w)
  have HB0 : Hid (Below w.heap.size w (w.alloc (.cells #[.int .i64 0, .bool false, .slice none 0 0, .int .u64 0, .string ⟨#[]⟩, .slice none 0 0] 28))) := (Below.refl _ _).alloc (Nat.le_refl _) _
  have HZ0 : Hid (w.heap.size < (w.alloc (.cells #[.int .i64 0, .bool false, .slice none 0 0, .int .u64 0, .string ⟨#[]⟩, .slice none 0 0] 28)).heap.size) := by show _ < _; simp
  have HC := Lib.hid (hC _ HB0.out)
  have t1 : ¬ (2 : Int) < (n : Int) := by omega
  have t2 : ((n : Int) == 0) = false := by rw [beq_eq_false_iff_ne]; omega
  have t3 : (0 : Int) < (n : Int) := by omega
  have t4 : 0 < n := by omega
  have HW := Lib.hid hW
  have HL := Lib.hid hL
  clear hW hL
  have e0 : ¬ t.toList = [] := by rw [ByteArray.toList_eq]; exact size_pos_list ht
  have e1 : t.toList.isEmpty = false := by simpa using e0
  clear ht
  clear hC hn1 hn2
  go_enter Tryz.func27, Tryz.ntmps27
  go_wp2_with fail
  go_at_call 49
  refine HC.out.mono ?_
  rintro e w1 ⟨rfl, hb⟩
  have h0 := cell_below h0 (HB0.out.trans (hb.mono HB0.out.size))
  have h4 := cell_below h4 (HB0.out.trans (hb.mono HB0.out.size))
  have HB1 := Lib.hid (HB0.out.trans (hb.mono HB0.out.size))
  have HN := Lib.hid (HN0.out.below hb HZ0.out)
  have HZ1 : Hid (w.heap.size < w1.heap.size) := Nat.lt_of_lt_of_le HZ0.out hb.size
  clear hb HN0
  go_wp2_with fail
  go_at_call 52
  refine (HW.out _).mono ?_
  rintro e w2 ⟨v2, rfl, ho, hb⟩
  obtain ⟨A2, c2, rfl⟩ := own_len ho
  have h0 := cell_below h0 hb
  have h4 := cell_below h4 hb
  have HO2 := Lib.hid ho
  have HB2 := Lib.hid (HB1.out.trans (hb.mono HB1.out.size))
  have HN := Lib.hid (HN.out.below hb HZ1.out)
  have HZ2 : Hid (w.heap.size < w2.heap.size) := Nat.lt_of_lt_of_le HZ1.out hb.size
  clear hb ho
  go_wp2_with fail
  go_at_call 50
  refine (f50_any L HL.out _ _ _ HO2.out).mono ?_
  rintro e w3 ⟨kv, rfl, ho, hb⟩
  obtain ⟨A3, c3, rfl⟩ := own_len ho
  unfold aggV cellsV
  have HO3 := Lib.hid ho
  have HB3 := Lib.hid (HB2.out.trans (hb.mono HB2.out.size))
  have HN := Lib.hid (HN.out.below hb HZ2.out)
  have HZ3 : Hid (w.heap.size < w2.heap.size) := HZ2.out
  clear hb ho
  have b0 : w3.cell? ⟨w.heap.size, 0, none⟩ = some (.int .i64 0) := HN.out.1 0 (by omega)
  have b1 : w3.cell? ⟨w.heap.size, 1, none⟩ = some (.bool false) := HN.out.1 1 (by omega)
  have b2 : w3.cell? ⟨w.heap.size, 2, none⟩ = some (.slice none 0 0) := HN.out.1 2 (by omega)
  have b3 : w3.cell? ⟨w.heap.size, 3, none⟩ = some (.int .u64 0) := HN.out.1 3 (by omega)
  have b4 : w3.cell? ⟨w.heap.size, 4, none⟩ = some (.string ⟨#[]⟩) := HN.out.1 4 (by omega)
  have b5 : w3.cell? ⟨w.heap.size, 5, none⟩ = some (.slice none 0 0) := HN.out.1 5 (by omega)
  have bf : ∀ i, w3.frozen? ⟨w.heap.size, i, none⟩ = false := HN.out.2
  go_wp2
  refine bodyPost_ret (v := .tuple #[aggV 6 ⟨#[]⟩ (.slice A3 L.length c3), .bool true]) (by simp [results, Tryz.results27, go_sem, aggV, cellsV, b0, b1, b2, b3, b4, b5]) rfl ⟨_, rfl, ?_, ?_⟩
  · refine Joins.ownsRow_le (?_ : World.ownsRow _ w2.heap.size 28 6 _ _ _) (Nat.le_of_lt HZ3.out)
    iterate 6 (refine own_setOld ?_ HZ3.out _)
    exact HO3.out
  · iterate 6 (refine Below.setCell ?_ (show w.heap.size ≤ w.heap.size by omega) _)
    exact HB3.out
/-- What the reference's split answers. -/
def refO (back : Bool) (S : List UInt8) (k : Int) (t : ByteArray) (z : Int) : Option (List (List UInt8)) := if k = 0 then some (wordsL back z S) else if t.size = 0 then none else some (piecesL back t.data.toList z S)
theorem f27_args (s : ByteArray) (hs : s.size ≤ 100000) (back : Bool) {k : Int} {t : ByteArray} {mz : Option Int} {v : Value} {w : World} (ht : t.size ≤ 100000) (hk : k = 0 ∨ k = 4) (hno : ¬ (back = true ∧ k = 4 ∧ Ov t.data.toList)) (h : ArgsAre k t mz v w) :
    Calls Tryz.prog 27 #[.string s, .bool back, v] w (PartIs (refO back s.data.toList k t (boundZ mz)) w) := by
  have hC : ∀ w1, Below w.heap.size w w1 → Calls Tryz.prog 49 #[v, .int .i64 1] w1 (CountIs (boundZ mz) w1) := fun w1 hb => f49_args (h.below hb)
  have hz : boundZ mz ≤ 1000 := by
    obtain ⟨_, _, _, _, h⟩ := h
    cases mz with
    | none => show (-1 : Int) ≤ 1000; omega
    | some z => obtain ⟨_, _, _, h6⟩ := h; show z ≤ 1000; omega
  obtain ⟨g, c, h0, h4, h⟩ := h
  have hv : ∃ n, 1 ≤ n ∧ n ≤ 2 ∧ v = .slice (some ⟨g, 0, none⟩) n c := by
    cases mz with
    | none => exact ⟨1, by omega, by omega, h⟩
    | some z => exact ⟨2, by omega, by omega, h.1⟩
  obtain ⟨n, n1, n2, rfl⟩ := hv
  have hsl : s.data.toList.length ≤ 100000 := by rw [← size_list0]; exact hs
  rcases hk with rfl | rfl
  · exact f27_words s back g n c n1 n2 _ w h0 _ (wordsL_len _ _ _ hz hsl) (fun w1 => f51_any s hs back _ w1) hC
  · by_cases ht0 : t.size = 0
    · have : refO back s.data.toList 4 t (boundZ mz) = none := by simp [refO, ht0]
      rw [this]
      exact f27_void s back g n c n1 n2 _ w h0 t h4 ht0 hC
    · have : refO back s.data.toList 4 t (boundZ mz) = some (piecesL back t.data.toList (boundZ mz) s.data.toList) := by simp [refO, ht0]
      rw [this]
      exact f27_pieces s back g n c n1 n2 _ w h0 t h4 (by omega) _ (piecesL_len _ _ _ _ hz hsl) (fun w1 => f52_any s t hs ht (by omega) back (fun hb ho => hno ⟨hb, rfl, ho⟩) _ w1) hC
theorem lit_listV (b : ByteArray) : b.toList = b.data.toList := ByteArray.toList_eq b
set_option maxRecDepth 100000 in
set_option maxHeartbeats 2000000 in
theorem f14_l_none (nm s : ByteArray) (hn : nm.toList = [115, 112, 108, 105, 116]) (ar : Value) (w : World) (h : ∀ w1, Below w.heap.size w w1 → Calls Tryz.prog 27 #[.string s, .bool false, ar] w1 (PartIs none w1)) :
    Calls Tryz.prog 14 #[.string s, .string nm, ar] w (PartIs none w) := by
  have HN0 := Lib.hid (One.new w)
  have HB0 : Hid (Below w.heap.size w (w.alloc (.cells #[.int .i64 0, .bool false, .slice none 0 0, .int .u64 0, .string ⟨#[]⟩, .slice none 0 0] 28))) := (Below.refl _ _).alloc (Nat.le_refl _) _
  have HZ0 : Hid (w.heap.size < (w.alloc (.cells #[.int .i64 0, .bool false, .slice none 0 0, .int .u64 0, .string ⟨#[]⟩, .slice none 0 0] 28)).heap.size) := by show _ < _; simp
  have HC := Lib.hid (h _ HB0.out)
  clear h
  go_enter Tryz.func14, Tryz.ntmps14
  go_wp2_with fail
  go_at_call 27
  refine HC.out.mono ?_
  rintro e w3 ⟨rfl, hb⟩
  unfold aggV cellsV
  have HB3 := Lib.hid (HB0.out.trans (hb.mono HB0.out.size))
  have HN := Lib.hid (HN0.out.below hb HZ0.out)
  clear hb HN0
  have b0 : w3.cell? ⟨w.heap.size, 0, none⟩ = some (.int .i64 0) := HN.out.1 0 (by omega)
  have b1 : w3.cell? ⟨w.heap.size, 1, none⟩ = some (.bool false) := HN.out.1 1 (by omega)
  have b2 : w3.cell? ⟨w.heap.size, 2, none⟩ = some (.slice none 0 0) := HN.out.1 2 (by omega)
  have b3 : w3.cell? ⟨w.heap.size, 3, none⟩ = some (.int .u64 0) := HN.out.1 3 (by omega)
  have b4 : w3.cell? ⟨w.heap.size, 4, none⟩ = some (.string ⟨#[]⟩) := HN.out.1 4 (by omega)
  have b5 : w3.cell? ⟨w.heap.size, 5, none⟩ = some (.slice none 0 0) := HN.out.1 5 (by omega)
  have bf : ∀ i, w3.frozen? ⟨w.heap.size, i, none⟩ = false := HN.out.2
  go_wp2
  refine bodyPost_ret (v := .tuple #[aggV 0 ⟨#[]⟩ (.slice none 0 0), .bool false]) (by simp [results, Tryz.results14, go_sem, aggV, cellsV, b0, b1, b2, b3, b4, b5]) rfl ⟨rfl, ?_⟩
  iterate 6 (refine Below.setCell ?_ (show w.heap.size ≤ w.heap.size by omega) _)
  exact HB3.out
set_option maxRecDepth 100000 in
set_option maxHeartbeats 2000000 in
theorem f14_l_some (nm s : ByteArray) (hn : nm.toList = [115, 112, 108, 105, 116]) (ar : Value) (L : List (List UInt8)) (w : World) (h : ∀ w1, Below w.heap.size w w1 → Calls Tryz.prog 27 #[.string s, .bool false, ar] w1 (PartIs (some L) w1)) :
    Calls Tryz.prog 14 #[.string s, .string nm, ar] w (PartIs (some L) w) := by
  have HN0 := Lib.hid (One.new w)
  have HB0 : Hid (Below w.heap.size w (w.alloc (.cells #[.int .i64 0, .bool false, .slice none 0 0, .int .u64 0, .string ⟨#[]⟩, .slice none 0 0] 28))) := (Below.refl _ _).alloc (Nat.le_refl _) _
  have HZ0 : Hid (w.heap.size < (w.alloc (.cells #[.int .i64 0, .bool false, .slice none 0 0, .int .u64 0, .string ⟨#[]⟩, .slice none 0 0] 28)).heap.size) := by show _ < _; simp
  have HC := Lib.hid (h _ HB0.out)
  clear h
  go_enter Tryz.func14, Tryz.ntmps14
  go_wp2_with fail
  go_at_call 27
  refine HC.out.mono ?_
  rintro e w3 ⟨kv, rfl, ho, hb⟩
  obtain ⟨A3, c3, rfl⟩ := own_len ho
  unfold aggV cellsV
  have HO3 := Lib.hid ho
  have HB3 := Lib.hid (HB0.out.trans (hb.mono HB0.out.size))
  have HN := Lib.hid (HN0.out.below hb HZ0.out)
  clear hb ho HN0
  have b0 : w3.cell? ⟨w.heap.size, 0, none⟩ = some (.int .i64 0) := HN.out.1 0 (by omega)
  have b1 : w3.cell? ⟨w.heap.size, 1, none⟩ = some (.bool false) := HN.out.1 1 (by omega)
  have b2 : w3.cell? ⟨w.heap.size, 2, none⟩ = some (.slice none 0 0) := HN.out.1 2 (by omega)
  have b3 : w3.cell? ⟨w.heap.size, 3, none⟩ = some (.int .u64 0) := HN.out.1 3 (by omega)
  have b4 : w3.cell? ⟨w.heap.size, 4, none⟩ = some (.string ⟨#[]⟩) := HN.out.1 4 (by omega)
  have b5 : w3.cell? ⟨w.heap.size, 5, none⟩ = some (.slice none 0 0) := HN.out.1 5 (by omega)
  have bf : ∀ i, w3.frozen? ⟨w.heap.size, i, none⟩ = false := HN.out.2
  go_wp2
  refine bodyPost_ret (v := .tuple #[aggV 6 ⟨#[]⟩ (.slice A3 L.length c3), .bool true]) (by simp [results, Tryz.results14, go_sem, aggV, cellsV, b0, b1, b2, b3, b4, b5]) rfl ⟨_, rfl, ?_, ?_⟩
  · refine Joins.ownsRow_le (?_ : World.ownsRow _ (w.heap.size + 1) 28 6 _ _ _) (by omega)
    iterate 6 (refine own_setOld ?_ (show w.heap.size < w.heap.size + 1 by omega) _)
    have := HO3.out
    simpa using this
  · iterate 6 (refine Below.setCell ?_ (show w.heap.size ≤ w.heap.size by omega) _)
    exact HB3.out
set_option maxRecDepth 100000 in
set_option maxHeartbeats 2000000 in
theorem f14_r_none (nm s : ByteArray) (hn : nm.toList = [114, 115, 112, 108, 105, 116]) (ar : Value) (w : World) (h : ∀ w1, Below w.heap.size w w1 → Calls Tryz.prog 27 #[.string s, .bool true, ar] w1 (PartIs none w1)) :
    Calls Tryz.prog 14 #[.string s, .string nm, ar] w (PartIs none w) := by
  have HN0 := Lib.hid (One.new w)
  have HB0 : Hid (Below w.heap.size w (w.alloc (.cells #[.int .i64 0, .bool false, .slice none 0 0, .int .u64 0, .string ⟨#[]⟩, .slice none 0 0] 28))) := (Below.refl _ _).alloc (Nat.le_refl _) _
  have HZ0 : Hid (w.heap.size < (w.alloc (.cells #[.int .i64 0, .bool false, .slice none 0 0, .int .u64 0, .string ⟨#[]⟩, .slice none 0 0] 28)).heap.size) := by show _ < _; simp
  have HC := Lib.hid (h _ HB0.out)
  clear h
  go_enter Tryz.func14, Tryz.ntmps14
  go_wp2_with fail
  go_at_call 27
  refine HC.out.mono ?_
  rintro e w3 ⟨rfl, hb⟩
  unfold aggV cellsV
  have HB3 := Lib.hid (HB0.out.trans (hb.mono HB0.out.size))
  have HN := Lib.hid (HN0.out.below hb HZ0.out)
  clear hb HN0
  have b0 : w3.cell? ⟨w.heap.size, 0, none⟩ = some (.int .i64 0) := HN.out.1 0 (by omega)
  have b1 : w3.cell? ⟨w.heap.size, 1, none⟩ = some (.bool false) := HN.out.1 1 (by omega)
  have b2 : w3.cell? ⟨w.heap.size, 2, none⟩ = some (.slice none 0 0) := HN.out.1 2 (by omega)
  have b3 : w3.cell? ⟨w.heap.size, 3, none⟩ = some (.int .u64 0) := HN.out.1 3 (by omega)
  have b4 : w3.cell? ⟨w.heap.size, 4, none⟩ = some (.string ⟨#[]⟩) := HN.out.1 4 (by omega)
  have b5 : w3.cell? ⟨w.heap.size, 5, none⟩ = some (.slice none 0 0) := HN.out.1 5 (by omega)
  have bf : ∀ i, w3.frozen? ⟨w.heap.size, i, none⟩ = false := HN.out.2
  go_wp2
  refine bodyPost_ret (v := .tuple #[aggV 0 ⟨#[]⟩ (.slice none 0 0), .bool false]) (by simp [results, Tryz.results14, go_sem, aggV, cellsV, b0, b1, b2, b3, b4, b5]) rfl ⟨rfl, ?_⟩
  iterate 6 (refine Below.setCell ?_ (show w.heap.size ≤ w.heap.size by omega) _)
  exact HB3.out
set_option maxRecDepth 100000 in
set_option maxHeartbeats 2000000 in
theorem f14_r_some (nm s : ByteArray) (hn : nm.toList = [114, 115, 112, 108, 105, 116]) (ar : Value) (L : List (List UInt8)) (w : World) (h : ∀ w1, Below w.heap.size w w1 → Calls Tryz.prog 27 #[.string s, .bool true, ar] w1 (PartIs (some L) w1)) :
    Calls Tryz.prog 14 #[.string s, .string nm, ar] w (PartIs (some L) w) := by
  have HN0 := Lib.hid (One.new w)
  have HB0 : Hid (Below w.heap.size w (w.alloc (.cells #[.int .i64 0, .bool false, .slice none 0 0, .int .u64 0, .string ⟨#[]⟩, .slice none 0 0] 28))) := (Below.refl _ _).alloc (Nat.le_refl _) _
  have HZ0 : Hid (w.heap.size < (w.alloc (.cells #[.int .i64 0, .bool false, .slice none 0 0, .int .u64 0, .string ⟨#[]⟩, .slice none 0 0] 28)).heap.size) := by show _ < _; simp
  have HC := Lib.hid (h _ HB0.out)
  clear h
  go_enter Tryz.func14, Tryz.ntmps14
  go_wp2_with fail
  go_at_call 27
  refine HC.out.mono ?_
  rintro e w3 ⟨kv, rfl, ho, hb⟩
  obtain ⟨A3, c3, rfl⟩ := own_len ho
  unfold aggV cellsV
  have HO3 := Lib.hid ho
  have HB3 := Lib.hid (HB0.out.trans (hb.mono HB0.out.size))
  have HN := Lib.hid (HN0.out.below hb HZ0.out)
  clear hb ho HN0
  have b0 : w3.cell? ⟨w.heap.size, 0, none⟩ = some (.int .i64 0) := HN.out.1 0 (by omega)
  have b1 : w3.cell? ⟨w.heap.size, 1, none⟩ = some (.bool false) := HN.out.1 1 (by omega)
  have b2 : w3.cell? ⟨w.heap.size, 2, none⟩ = some (.slice none 0 0) := HN.out.1 2 (by omega)
  have b3 : w3.cell? ⟨w.heap.size, 3, none⟩ = some (.int .u64 0) := HN.out.1 3 (by omega)
  have b4 : w3.cell? ⟨w.heap.size, 4, none⟩ = some (.string ⟨#[]⟩) := HN.out.1 4 (by omega)
  have b5 : w3.cell? ⟨w.heap.size, 5, none⟩ = some (.slice none 0 0) := HN.out.1 5 (by omega)
  have bf : ∀ i, w3.frozen? ⟨w.heap.size, i, none⟩ = false := HN.out.2
  go_wp2
  refine bodyPost_ret (v := .tuple #[aggV 6 ⟨#[]⟩ (.slice A3 L.length c3), .bool true]) (by simp [results, Tryz.results14, go_sem, aggV, cellsV, b0, b1, b2, b3, b4, b5]) rfl ⟨_, rfl, ?_, ?_⟩
  · refine Joins.ownsRow_le (?_ : World.ownsRow _ (w.heap.size + 1) 28 6 _ _ _) (by omega)
    iterate 6 (refine own_setOld ?_ (show w.heap.size < w.heap.size + 1 by omega) _)
    have := HO3.out
    simpa using this
  · iterate 6 (refine Below.setCell ?_ (show w.heap.size ≤ w.heap.size by omega) _)
    exact HB3.out
theorem f14_args (back : Bool) (s ar) (o : Option (List (List UInt8))) (w : World) (h : ∀ w1, Below w.heap.size w w1 → Calls Tryz.prog 27 #[.string s, .bool back, ar] w1 (PartIs o w1)) :
    Calls Tryz.prog 14 #[.string s, .string (nmOf back), ar] w (PartIs o w) := by
  cases back
  · cases o with
    | none => exact f14_l_none _ s (by rw [lit_listV]; rfl) ar w h
    | some L => exact f14_l_some _ s (by rw [lit_listV]; rfl) ar L w h
  · cases o with
    | none => exact f14_r_none _ s (by rw [lit_listV]; rfl) ar w h
    | some L => exact f14_r_some _ s (by rw [lit_listV]; rfl) ar L w h
end Go.Proofs.YtgcofpmhojplhaaGreatDoor
