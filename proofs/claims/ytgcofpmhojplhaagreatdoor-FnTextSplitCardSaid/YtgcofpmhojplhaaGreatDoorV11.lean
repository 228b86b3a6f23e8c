/- Walks of the reference's Asked, and of the law's comparison of texts. (Printed by mkv11.py.) -/
import Derived.Test.YtgcofpmhojplhaaGreatDoorV10
namespace Go.Proofs.YtgcofpmhojplhaaGreatDoor
open Go.RowKit

/-- What the reference answers, and its texts. -/
def AskIs (o : Option (List (List UInt8))) (w : World) (e : Ending) (w' : World) : Prop := match o with
  | some l => ∃ v A c, e = .returned (.tuple #[aggV 6 ⟨#[]⟩ (.slice A l.length c), v, .bool true]) ∧ w'.ownsRow w.heap.size 9 1 v l.length (strs l) ∧ Below w.heap.size w w'
  | none => e = .returned (.tuple #[aggV 0 ⟨#[]⟩ (.slice none 0 0), .slice none 0 0, .bool false]) ∧ Below w.heap.size w w'
theorem flat_at : ∀ (l : List (List UInt8)) (j i : Nat), j < l.length → i < 6 → (flatV l)[j * 6 + i]? = (cellsV 4 (txt (l.getD j [])) (.slice none 0 0))[i]?
  | [], j, i, h, _ => by simp at h
  | a :: r, 0, i, _, hi => by
    simp only [flatV, List.flatMap_cons]
    rw [List.getElem?_append_left (by simp [cellsV]; omega)]
    simp
  | a :: r, j + 1, i, h, hi => by
    have ih := flat_at r j i (by simpa using h) hi
    simp only [flatV, List.flatMap_cons] at ih ⊢
    rw [List.getElem?_append_right (by simp [cellsV]; omega), show (j + 1) * 6 + i - (cellsV 4 (txt a) (.slice none 0 0)).length = j * 6 + i by simp [cellsV]; omega, ih]
    simp
theorem own_formS {w : World} {base : Nat} {e : TypeId} {z : Nat} {A : Option Addr} {n c : Nat} {xs : List Value} (h : w.ownsRow base e z (.slice A n c) n xs) (hn : 0 < n) : ∃ g, A = some ⟨g, 0, none⟩ ∧ g < w.heap.size := by
  rcases h.2 with ⟨_, h0⟩ | ⟨g, cap, cur, h1, _, hg, _⟩
  · omega
  · injection h1 with h2
    exact ⟨g, h2, (Array.getElem?_eq_some_iff.1 hg).1⟩
set_option maxRecDepth 100000 in
set_option maxHeartbeats 4000000 in
theorem f7_some (nm s : ByteArray) (ar : Value) (L : List (List UInt8)) (hL : L.length ≤ 1000000) (w : World) (h : ∀ w1, Below w.heap.size w w1 → Calls Tryz.prog 14 #[.string s, .string nm, ar] w1 (PartIs (some L) w1)) :
    Calls Tryz.prog 7 #[.string s, .string nm, ar] w (AskIs (some L) w) := by
  obtain ⟨i0, hi, hz0, hz1, hz2⟩ := info_parts infoStr
  have HN0 := Lib.hid (One.new w)
  have HB0 : Hid (Below w.heap.size w (w.alloc (.cells #[.int .i64 0, .bool false, .slice none 0 0, .int .u64 0, .string ⟨#[]⟩, .slice none 0 0] 28))) := (Below.refl _ _).alloc (Nat.le_refl _) _
  have HZ0 : Hid (w.heap.size < (w.alloc (.cells #[.int .i64 0, .bool false, .slice none 0 0, .int .u64 0, .string ⟨#[]⟩, .slice none 0 0] 28)).heap.size) := by show _ < _; simp
  have HC := Lib.hid (h _ HB0.out)
  clear h
  go_enter Tryz.func7, Tryz.ntmps7
  go_wp2_with fail
  go_at_call 14
  refine HC.out.mono ?_
  rintro e w3 ⟨kv, rfl, ho, hb⟩
  obtain ⟨A3, c3, rfl⟩ := own_len ho
  unfold aggV cellsV
  have HO3 := Lib.hid ho
  have HB3 := Lib.hid (HB0.out.trans (hb.mono HB0.out.size))
  have HN := Lib.hid (HN0.out.below hb HZ0.out)
  have HZ3 : Hid (w.heap.size < w3.heap.size) := Nat.lt_of_lt_of_le HZ0.out hb.size
  clear hb ho HN0
  have b0 : w3.cell? ⟨w.heap.size, 0, none⟩ = some (.int .i64 0) := HN.out.1 0 (by omega)
  have b1 : w3.cell? ⟨w.heap.size, 1, none⟩ = some (.bool false) := HN.out.1 1 (by omega)
  have b2 : w3.cell? ⟨w.heap.size, 2, none⟩ = some (.slice none 0 0) := HN.out.1 2 (by omega)
  have b3 : w3.cell? ⟨w.heap.size, 3, none⟩ = some (.int .u64 0) := HN.out.1 3 (by omega)
  have b4 : w3.cell? ⟨w.heap.size, 4, none⟩ = some (.string ⟨#[]⟩) := HN.out.1 4 (by omega)
  have b5 : w3.cell? ⟨w.heap.size, 5, none⟩ = some (.slice none 0 0) := HN.out.1 5 (by omega)
  have bf : ∀ i, w3.frozen? ⟨w.heap.size, i, none⟩ = false := HN.out.2
  obtain ⟨w4, hw4⟩ : ∃ w4, w4 = ((((((w3.setCell ⟨w.heap.size, 0, none⟩ (.int .i64 6)).setCell ⟨w.heap.size, 1, none⟩ (.bool false)).setCell ⟨w.heap.size, 2, none⟩ (.slice none 0 0)).setCell ⟨w.heap.size, 3, none⟩ (.int .u64 0)).setCell ⟨w.heap.size, 4, none⟩ (.string ⟨#[]⟩)).setCell ⟨w.heap.size, 5, none⟩ (.slice A3 L.length c3)) := ⟨_, rfl⟩
  have d0 : w4.cell? ⟨w.heap.size, 0, none⟩ = some (.int .i64 6) := by rw [hw4]; simp [go_sem, b0]
  have d1 : w4.cell? ⟨w.heap.size, 1, none⟩ = some (.bool false) := by rw [hw4]; simp [go_sem, b1]
  have d2 : w4.cell? ⟨w.heap.size, 2, none⟩ = some (.slice none 0 0) := by rw [hw4]; simp [go_sem, b2]
  have d3 : w4.cell? ⟨w.heap.size, 3, none⟩ = some (.int .u64 0) := by rw [hw4]; simp [go_sem, b3]
  have d4 : w4.cell? ⟨w.heap.size, 4, none⟩ = some (.string ⟨#[]⟩) := by rw [hw4]; simp [go_sem, b4]
  have d5 : w4.cell? ⟨w.heap.size, 5, none⟩ = some (.slice A3 L.length c3) := by rw [hw4]; simp [go_sem, b5]
  have df : ∀ i, w4.frozen? ⟨w.heap.size, i, none⟩ = false := by intro i; rw [hw4]; simp [go_sem, bf]
  have HB4 : Hid (Below w.heap.size w w4) := by
    show Below _ _ _
    rw [hw4]
    iterate 6 (refine Below.setCell ?_ (show w.heap.size ≤ w.heap.size by omega) _)
    exact HB3.out
  have HO4 : Hid (w4.ownsRow (w.heap.size + 1) 28 6 (.slice A3 L.length c3) L.length (flatV L)) := by
    show World.ownsRow _ _ _ _ _ _ _
    rw [hw4]
    iterate 6 (refine own_setOld ?_ (show w.heap.size < w.heap.size + 1 by omega) _)
    have := HO3.out
    simpa using this
  have HZ4 : Hid (w.heap.size < w4.heap.size) := by show _ < _; rw [hw4]; have := HZ3.out; simpa [World.setCell] using this
  have HD : Hid ((∀ i, i < 6 → w4.cell? ⟨w.heap.size, i, none⟩ = (cellsV 6 ⟨#[]⟩ (.slice A3 L.length c3))[i]?) ∧ ∀ i, w4.frozen? ⟨w.heap.size, i, none⟩ = false) := by
    refine ⟨fun i hi => ?_, df⟩
    rcases i with _ | _ | _ | _ | _ | _ | n
    · exact d0
    · exact d1
    · exact d2
    · exact d3
    · exact d4
    · exact d5
    · omega
  clear HO3 HN HZ3 HZ0 HB0
  go_wp2
  rw [← hw4]
  clear hw4 b0 b1 b2 b3 b4 b5 bf d0 d1 d2 d3 d4 df
  go_loopw [7, 21] (fun o i wr => ∃ (j : Nat), i = .int .i64 j ∧ j ≤ L.length ∧ Hid (wr.ownsRow w4.heap.size 9 1 o j (strs (L.take j))) ∧ Hid (Below w4.heap.size w4 wr)) (fun _ i _ => L.length - (RowKit.intOf i).toNat)
  case atStart => exact ⟨0, rfl, Nat.zero_le _, World.ownsRow_nil _ _ _ _, Below.refl _ _⟩
  case round =>
    obtain ⟨j, rfl, hj, HOx, HBx⟩ := hrel
    by_cases hlt : j < L.length
    · have hlti : (j : Int) < (L.length : Int) := by omega
      obtain ⟨gk, rfl, hgk⟩ := own_formS HO4.out (by omega)
      have hat : ∀ i, i < 6 → wr.cell? ⟨gk, j * 6 + i, none⟩ = (cellsV 4 (txt (L.getD j [])) (.slice none 0 0))[i]? := fun i hi =>
        (HBx.out.cell (p := ⟨gk, j * 6 + i, none⟩) hgk).trans ((HO4.out.cellAt (j * 6 + i) (by omega)).trans (flat_at L j i hlt hi))
      have HL : Hid (strs (L.take (j + 1)) = strs (L.take j) ++ [.string (txt (L.getD j []))]) := by
        show _ = _
        rw [take_stepL L j hlt, strs_snoc]
      generalize txt (L.getD j []) = t at *
      have a0 : wr.cell? ⟨gk, j * 6, none⟩ = some (.int .i64 4) := hat 0 (by omega)
      have a1 : wr.cell? ⟨gk, j * 6 + 1, none⟩ = some (.bool false) := hat 1 (by omega)
      have a2 : wr.cell? ⟨gk, j * 6 + 2, none⟩ = some (.slice none 0 0) := hat 2 (by omega)
      have a3 : wr.cell? ⟨gk, j * 6 + 3, none⟩ = some (.int .u64 0) := hat 3 (by omega)
      have a4 : wr.cell? ⟨gk, j * 6 + 4, none⟩ = some (.string t) := hat 4 (by omega)
      have a5 : wr.cell? ⟨gk, j * 6 + 5, none⟩ = some (.slice none 0 0) := hat 5 (by omega)
      have K3 : Hid (j + 1 ≤ maxLen) := by show _ ≤ _; unfold maxLen; omega
      have K4 : Hid ((j + 1) * 16 ≤ 140737488355328) := by show _ ≤ _; omega
      have HN : Hid (∀ k x, [Value.string t][k]? = some x → ((wr.alloc (.cells #[.int .i64 4, .bool false, .slice none 0 0, .int .u64 0, .string t, .slice none 0 0] 28)).alloc (.cells #[.string t] 9)).cell? ((⟨wr.heap.size + 1, 0, none⟩ : Addr).add k) = some x) := by
        intro k x hk
        have := one_new (wr.alloc (.cells #[.int .i64 4, .bool false, .slice none 0 0, .int .u64 0, .string t, .slice none 0 0] 28)) (.string t) 9 k x hk
        simpa using this
      have HOa : Hid ((wr.alloc (.cells #[.int .i64 4, .bool false, .slice none 0 0, .int .u64 0, .string t, .slice none 0 0] 28)).ownsRow w4.heap.size 9 1 _ j (strs (L.take j))) := HOx.out.alloc _
      have HBa : Hid (Below w4.heap.size w4 (wr.alloc (.cells #[.int .i64 4, .bool false, .slice none 0 0, .int .u64 0, .string t, .slice none 0 0] 28))) := HBx.out.alloc HBx.out.size _
      have K5 : Hid (w4.heap.size ≤ ((wr.alloc (.cells #[.int .i64 4, .bool false, .slice none 0 0, .int .u64 0, .string t, .slice none 0 0] 28)).alloc (.cells #[.string t] 9)).heap.size) := by show _ ≤ _; have := HBx.out.size; simp; omega
      clear hat
      go_wp2_with (at_builtin; refine wpList_append_own _ rfl (.tmp 25) (.tmp 28) 23 rfl w4.heap.size 9 i0 (.string ByteArray.empty) 1 16 Tryz.underlying23 hi hz0 hz1 hz2 rfl (by decide) _ j _ rfl (HOa.out.alloc _) ⟨wr.heap.size + 1, 0, none⟩ 1 1 [.string t] rfl rfl HN.out (one_cell _) K3.out K4.out K5.out ?_)
      intro v' w1 hown' hgrow _
      have R1 := rel_app1 HOa.out HBa.out HBa.out.size hown' hgrow
      have HR1 := Lib.hid R1
      clear hown' hgrow R1
      go_wp2
      go_roundw
      case rel =>
        refine ⟨j + 1, by go_num, by omega, ?_, HR1.out.2⟩
        show World.ownsRow _ _ _ _ _ _ _
        rw [HL.out]
        exact HR1.out.1
      case measure => simp [RowKit.intOf]; omega
    · have hlti : ¬ (j : Int) < (L.length : Int) := by omega
      obtain rfl : j = L.length := by omega
      have hcx := fun i hi => (HBx.out.cell (p := ⟨w.heap.size, i, none⟩) HZ4.out).trans (HD.out.1 i hi)
      have c0 : wr.cell? ⟨w.heap.size, 0, none⟩ = some (.int .i64 6) := hcx 0 (by omega)
      have c1 : wr.cell? ⟨w.heap.size, 1, none⟩ = some (.bool false) := hcx 1 (by omega)
      have c2 : wr.cell? ⟨w.heap.size, 2, none⟩ = some (.slice none 0 0) := hcx 2 (by omega)
      have c3' : wr.cell? ⟨w.heap.size, 3, none⟩ = some (.int .u64 0) := hcx 3 (by omega)
      have c4 : wr.cell? ⟨w.heap.size, 4, none⟩ = some (.string ⟨#[]⟩) := hcx 4 (by omega)
      have c5 : wr.cell? ⟨w.heap.size, 5, none⟩ = some (.slice A3 L.length c3) := hcx 5 (by omega)
      have cf : ∀ i, wr.frozen? ⟨w.heap.size, i, none⟩ = false := fun i => (HBx.out.frozen (p := ⟨w.heap.size, i, none⟩) HZ4.out).trans (HD.out.2 i)
      obtain ⟨oA, oc, rfl⟩ := own_len HOx.out
      clear hcx
      go_wp2
      refine bodyPost_ret (v := .tuple #[aggV 6 ⟨#[]⟩ (.slice A3 L.length c3), .slice oA L.length oc, .bool true]) (by simp [results, Tryz.results7, go_sem, aggV, cellsV, c0, c1, c2, c3', c4, c5]) rfl ⟨_, A3, c3, rfl, ?_, ?_⟩
      · refine Joins.ownsRow_le (?_ : World.ownsRow _ w4.heap.size 9 1 _ _ _) (Nat.le_of_lt HZ4.out)
        iterate 6 (refine own_setOld ?_ HZ4.out _)
        have := HOx.out
        rw [List.take_of_length_le (Nat.le_refl _)] at this
        exact this
      · iterate 6 (refine Below.setCell ?_ (show w.heap.size ≤ w.heap.size by omega) _)
        exact HB4.out.trans (HBx.out.mono (Nat.le_of_lt HZ4.out))
set_option maxRecDepth 100000 in
set_option maxHeartbeats 4000000 in
theorem f7_none (nm s : ByteArray) (ar : Value) (w : World) (h : ∀ w1, Below w.heap.size w w1 → Calls Tryz.prog 14 #[.string s, .string nm, ar] w1 (PartIs none w1)) :
    Calls Tryz.prog 7 #[.string s, .string nm, ar] w (AskIs none w) := by
  have HN0 := Lib.hid (One.new w)
  have HB0 : Hid (Below w.heap.size w (w.alloc (.cells #[.int .i64 0, .bool false, .slice none 0 0, .int .u64 0, .string ⟨#[]⟩, .slice none 0 0] 28))) := (Below.refl _ _).alloc (Nat.le_refl _) _
  have HZ0 : Hid (w.heap.size < (w.alloc (.cells #[.int .i64 0, .bool false, .slice none 0 0, .int .u64 0, .string ⟨#[]⟩, .slice none 0 0] 28)).heap.size) := by show _ < _; simp
  have HC := Lib.hid (h _ HB0.out)
  clear h
  go_enter Tryz.func7, Tryz.ntmps7
  go_wp2_with fail
  go_at_call 14
  refine HC.out.mono ?_
  rintro e w3 ⟨rfl, hb⟩
  unfold aggV cellsV
  have HB3 := Lib.hid (HB0.out.trans (hb.mono HB0.out.size))
  have HN := Lib.hid (HN0.out.below hb HZ0.out)
  clear hb HN0
  have b0 : w3.cell? ⟨w.heap.size, 0, none⟩ = some (.int .i64 0) := HN.out.1 0 (by omega)
  have b1 : w3.cell? ⟨w.heap.size, 1, none⟩ = some (.bool false) := HN.out.1 1 (by omega)
  have b2 : w3.cell? ⟨w.heap.size, 2, none⟩ = some (.slice none 0 0) := HN.out.1 2 (by omega)
  have b3 : w3.cell? ⟨w.heap.size, 3, none⟩ = some (.int .u64 0) := HN.out.1 3 (by omega)
  have b4 : w3.cell? ⟨w.heap.size, 4, none⟩ = some (.string ⟨#[]⟩) := HN.out.1 4 (by omega)
  have b5 : w3.cell? ⟨w.heap.size, 5, none⟩ = some (.slice none 0 0) := HN.out.1 5 (by omega)
  have bf : ∀ i, w3.frozen? ⟨w.heap.size, i, none⟩ = false := HN.out.2
  obtain ⟨w4, hw4⟩ : ∃ w4, w4 = ((((((w3.setCell ⟨w.heap.size, 0, none⟩ (.int .i64 0)).setCell ⟨w.heap.size, 1, none⟩ (.bool false)).setCell ⟨w.heap.size, 2, none⟩ (.slice none 0 0)).setCell ⟨w.heap.size, 3, none⟩ (.int .u64 0)).setCell ⟨w.heap.size, 4, none⟩ (.string ⟨#[]⟩)).setCell ⟨w.heap.size, 5, none⟩ (.slice none 0 0)) := ⟨_, rfl⟩
  have d0 : w4.cell? ⟨w.heap.size, 0, none⟩ = some (.int .i64 0) := by rw [hw4]; simp [go_sem, b0]
  have d1 : w4.cell? ⟨w.heap.size, 1, none⟩ = some (.bool false) := by rw [hw4]; simp [go_sem, b1]
  have d2 : w4.cell? ⟨w.heap.size, 2, none⟩ = some (.slice none 0 0) := by rw [hw4]; simp [go_sem, b2]
  have d3 : w4.cell? ⟨w.heap.size, 3, none⟩ = some (.int .u64 0) := by rw [hw4]; simp [go_sem, b3]
  have d4 : w4.cell? ⟨w.heap.size, 4, none⟩ = some (.string ⟨#[]⟩) := by rw [hw4]; simp [go_sem, b4]
  have d5 : w4.cell? ⟨w.heap.size, 5, none⟩ = some (.slice none 0 0) := by rw [hw4]; simp [go_sem, b5]
  have df : ∀ i, w4.frozen? ⟨w.heap.size, i, none⟩ = false := by intro i; rw [hw4]; simp [go_sem, bf]
  have HB4 : Hid (Below w.heap.size w w4) := by
    show Below _ _ _
    rw [hw4]
    iterate 6 (refine Below.setCell ?_ (show w.heap.size ≤ w.heap.size by omega) _)
    exact HB3.out
  go_wp2
  rw [← hw4]
  clear hw4 b0 b1 b2 b3 b4 b5 bf
  go_loopw [7, 21] (fun o i wr => o = .slice none 0 0 ∧ i = .int .i64 0 ∧ wr = w4) (fun _ _ _ => 0)
  case atStart => exact ⟨rfl, rfl, rfl⟩
  case round =>
    obtain ⟨rfl, rfl, rfl⟩ := hrel
    go_wp2
    refine bodyPost_ret (v := .tuple #[aggV 0 ⟨#[]⟩ (.slice none 0 0), .slice none 0 0, .bool false]) (by simp [results, Tryz.results7, go_sem, aggV, cellsV, d0, d1, d2, d3, d4, d5]) rfl ⟨rfl, ?_⟩
    iterate 6 (refine Below.setCell ?_ (show w.heap.size ≤ w.heap.size by omega) _)
    exact HB4.out
theorem f7_args (nm s : ByteArray) (ar : Value) (o : Option (List (List UInt8))) (ho : ∀ l, o = some l → l.length ≤ 1000000) (w : World) (h : ∀ w1, Below w.heap.size w w1 → Calls Tryz.prog 14 #[.string s, .string nm, ar] w1 (PartIs o w1)) :
    Calls Tryz.prog 7 #[.string s, .string nm, ar] w (AskIs o w) := by
  cases o with
  | none => exact f7_none nm s ar w h
  | some L => exact f7_some nm s ar L (ho L rfl) w h
def TrueIs (w : World) (e : Ending) (w' : World) : Prop := e = .returned (.bool true) ∧ w = w'
set_option maxRecDepth 100000 in
set_option maxHeartbeats 2000000 in
theorem f13_same (l : List (List UInt8)) (hl : l.length ≤ 1000000) (v1 v2 : Value) (B1 B2 : Nat) (w : World) (h1 : w.ownsRow B1 9 1 v1 l.length (strs l)) (h2 : w.ownsRow B2 9 1 v2 l.length (strs l)) : Calls Tryz.prog 13 #[v1, v2] w (TrueIs w) := by
  obtain ⟨A1, c1, rfl⟩ := own_len h1
  obtain ⟨A2, c2, rfl⟩ := own_len h2
  have HO1 := Lib.hid h1
  have HO2 := Lib.hid h2
  clear h1 h2
  go_enter Tryz.func13, Tryz.ntmps13
  go_wp2
  go_loop [14] (fun i => ∃ k : Nat, i = .int .i64 k ∧ k ≤ l.length) (fun i => l.length - (RowKit.intOf i).toNat)
  case atStart => exact ⟨0, rfl, Nat.zero_le _⟩
  case round =>
    obtain ⟨k, rfl, hk⟩ := hrel
    by_cases hlt : k < l.length
    · have hlti : (k : Int) < (l.length : Int) := by omega
      obtain ⟨g1, rfl⟩ := own_form HO1.out (by omega)
      obtain ⟨g2, rfl⟩ := own_form HO2.out (by omega)
      have hs : (strs l)[k]? = some (.string (txt (l.getD k []))) := by simp [strs, hlt]
      have x1 := HO1.out.cellAt k (by omega)
      have x2 := HO2.out.cellAt k (by omega)
      rw [hs] at x1 x2
      clear hs
      generalize txt (l.getD k []) = t at *
      go_wp2
      go_round
      case rel => exact ⟨k + 1, by go_num, by omega⟩
      case measure => simp [RowKit.intOf]; omega
    · have hlti : ¬ (k : Int) < (l.length : Int) := by omega
      go_wp2
      go_ret
      exact ⟨rfl, rfl⟩
end Go.Proofs.YtgcofpmhojplhaaGreatDoor
