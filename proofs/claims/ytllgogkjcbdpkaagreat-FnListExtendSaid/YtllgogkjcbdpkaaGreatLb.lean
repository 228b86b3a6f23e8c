/- The reference's Clean, of a value at depth 0: some value without parts. -/
import Derived.Test.YtllgogkjcbdpkaaGreatLa
namespace Go.Proofs.YtllgogkjcbdpkaaGreat
open Go.RowKit
open Z (Row VInt KInt BInt IsB IsW smallB MakesV MakesS)

def NewV (w w' : World) (v : Value) (s : Sc) : Prop := VP (fun b => w.heap.size ≤ b ∧ b < w'.heap.size) w' v s
def CleanIs (w : World) (e : Ending) (w' : World) : Prop := ∃ v s, e = .returned v ∧ NewV w w' v s ∧ Below w.heap.size w w'
set_option maxRecDepth 100000 in
theorem f13_any (b : Bool) (w : World) : Calls Tryz.prog 13 #[.bool b] w fun e w' => e = .returned (valOf 1 (if b then 1 else 0) ⟨#[]⟩) ∧ Below w.heap.size w w' := by
  cases b
  all_goals
    go_enter Tryz.func13, Tryz.ntmps13
    go_wp2
    refine bodyPost_ret (v := valOf 1 _ ⟨#[]⟩) (by simp [results, Tryz.results13, go_sem, valOf]; rfl) rfl ?_
    exact ⟨rfl, (Below.refl _ _).alloc (Nat.le_refl _) _⟩
def Q10 (K : Int) : Int := (wrap64 (K.tmod 10 + 10)).tmod 10
set_option maxRecDepth 100000 in
set_option maxHeartbeats 2000000 in
theorem f7_none (K : Int) (hq : (wrap64 (K.tmod 10 + 10)).tmod 10 = 0 ∨ (wrap64 (K.tmod 10 + 10)).tmod 10 = 6) (neg : Bool) (mag kids : Value) (bits : Int) (t : ByteArray) (w : World) : Calls Tryz.prog 7 #[.agg #[.int .i64 K, .bool neg, mag, .int .u64 bits, .string t, kids], .int .i64 0] w (CleanIs w) := by
  rcases hq with hq | hq
  all_goals
    go_enter Tryz.func7, Tryz.ntmps7
    go_wp2_with fail
    refine bodyPost_ret (v := valOf 0 0 ⟨#[]⟩) (by simp [results, Tryz.results7, go_sem, valOf]) rfl ?_
    exact ⟨_, .none, rfl, rfl, ((Below.refl _ _).alloc (Nat.le_refl _) _).alloc (by simp) _⟩
set_option maxRecDepth 100000 in
set_option maxHeartbeats 2000000 in
theorem f7_float (K : Int) (hq : (wrap64 (K.tmod 10 + 10)).tmod 10 = 3 ∨ (wrap64 (K.tmod 10 + 10)).tmod 10 = 9) (neg : Bool) (mag kids : Value) (bits : Nat) (hb : bits < 18446744073709551616) (t : ByteArray) (w : World) : Calls Tryz.prog 7 #[.agg #[.int .i64 K, .bool neg, mag, .int .u64 bits, .string t, kids], .int .i64 0] w (CleanIs w) := by
  rcases hq with hq | hq
  all_goals
    go_enter Tryz.func7, Tryz.ntmps7
    go_wp2_with fail
    refine bodyPost_ret (v := valOf 3 bits ⟨#[]⟩) (by simp [results, Tryz.results7, go_sem, valOf]) rfl ?_
    exact ⟨_, .float bits, rfl, ⟨rfl, hb⟩, ((Below.refl _ _).alloc (Nat.le_refl _) _).alloc (by simp) _⟩
set_option maxRecDepth 100000 in
set_option maxHeartbeats 2000000 in
theorem f7_text (K : Int) (hq : (wrap64 (K.tmod 10 + 10)).tmod 10 = 4 ∨ (wrap64 (K.tmod 10 + 10)).tmod 10 = 5) (neg : Bool) (mag kids : Value) (bits : Int) (t : ByteArray) (ht : t.size ≤ 9223372036854775807) (w : World) : Calls Tryz.prog 7 #[.agg #[.int .i64 K, .bool neg, mag, .int .u64 bits, .string t, kids], .int .i64 0] w (CleanIs w) := by
  rcases hq with hq | hq
  · go_enter Tryz.func7, Tryz.ntmps7
    go_wp2_with fail
    refine bodyPost_ret (v := valOf 4 0 (t.extract 0 (min (t.size : Int) 60).toNat)) (by simp [results, Tryz.results7, go_sem, valOf]) rfl ?_
    exact ⟨_, .str _, rfl, rfl, ((Below.refl _ _).alloc (Nat.le_refl _) _).alloc (by simp) _⟩
  · go_enter Tryz.func7, Tryz.ntmps7
    go_wp2_with fail
    refine bodyPost_ret (v := valOf 5 0 (t.extract 0 (min (t.size : Int) 60).toNat)) (by simp [results, Tryz.results7, go_sem, valOf]) rfl ?_
    exact ⟨_, .bytes _, rfl, rfl, ((Below.refl _ _).alloc (Nat.le_refl _) _).alloc (by simp) _⟩
set_option maxRecDepth 100000 in
set_option maxHeartbeats 2000000 in
theorem f7_bool (K : Int) (hq : (wrap64 (K.tmod 10 + 10)).tmod 10 = 1 ∨ (wrap64 (K.tmod 10 + 10)).tmod 10 = 7) (neg : Bool) (mag kids : Value) (bits : Int) (t : ByteArray) (w : World) : Calls Tryz.prog 7 #[.agg #[.int .i64 K, .bool neg, mag, .int .u64 bits, .string t, kids], .int .i64 0] w (CleanIs w) := by
  have H13 := Lib.hid (fun b w => f13_any b w)
  rcases hq with hq | hq
  all_goals
    go_enter Tryz.func7, Tryz.ntmps7
    go_wp2_with fail
    go_at_call 13
    generalize (Go.bits BinOp.and IntKind.u64 bits 1 == 1) = b
    refine (H13.out b _).mono ?_
    rintro e w1 ⟨rfl, hb⟩
    unfold valOf
    have hc1 : ∀ i, w1.cell? ⟨w.heap.size + 1, i, none⟩ = #[Value.int IntKind.i64 0, Value.bool false, Value.slice none 0 0, Value.int IntKind.u64 0, Value.string { data := #[] }, Value.slice none 0 0][i]? := fun i => (hb.cell (p := ⟨w.heap.size + 1, i, none⟩) (by simp)).trans (by simp [go_sem])
    have hf1 : ∀ i, w1.frozen? ⟨w.heap.size + 1, i, none⟩ = false := fun i => (hb.frozen (p := ⟨w.heap.size + 1, i, none⟩) (by simp)).trans (by simp [go_sem])
    have hz := hb.size
    have HB := Lib.hid (((((Below.refl w.heap.size w).alloc (Nat.le_refl _) (.cells #[Value.int IntKind.i64 K, Value.bool neg, mag, Value.int IntKind.u64 bits, Value.string t, kids] 31)).alloc (by simp) (.cells #[Value.int IntKind.i64 0, Value.bool false, Value.slice none 0 0, Value.int IntKind.u64 0, Value.string { data := #[] }, Value.slice none 0 0] 31))).trans (hb.mono (by simp; omega)))
    clear hb
    simp only [World.size_alloc] at hz
    generalize hbb : (if b then 1 else 0 : Nat) = bb
    have HBB := Lib.hid hbb
    clear hbb
    go_wp2
    refine bodyPost_ret (v := valOf 1 bb ⟨#[]⟩) (by simp [results, Tryz.results7, go_sem, valOf, hc1]) rfl ?_
    refine ⟨_, .bool b, rfl, by show valOf 1 bb ⟨#[]⟩ = _; rw [HBB.out], ?_⟩
    iterate 6 (refine Below.setCell ?_ (show w.heap.size ≤ w.heap.size + 1 by omega) _)
    exact HB.out
set_option maxRecDepth 100000 in
set_option maxHeartbeats 4000000 in
theorem f7_int (K : Int) (hq : (wrap64 (K.tmod 10 + 10)).tmod 10 = 2 ∨ (wrap64 (K.tmod 10 + 10)).tmod 10 = 8) (neg : Bool) (mag kids : Value) (bits : Int) (t : ByteArray) (m : List Nat) (hl : m.length ≤ 9223372036854775807) (hd : ∀ d ∈ m, d < 256) (w : World) (hr : Row 0 .u8 w mag m) :
    Calls Tryz.prog 7 #[.agg #[.int .i64 K, .bool neg, mag, .int .u64 bits, .string t, kids], .int .i64 0] w (CleanIs w) := by
  obtain ⟨M, hM⟩ : ∃ M, M = m.take 40 := ⟨_, rfl⟩
  have hMl : M.length ≤ 40 := by rw [hM]; simp; omega
  have hMd : ∀ d ∈ M, d < 256 := fun d h => hd d (by rw [hM] at h; exact List.mem_of_mem_take h)
  have key : ∃ (a : Option Addr) (c : Nat), mag = .slice a m.length c ∧ Row 0 .u8 w (.slice a M.length c) M ∧ (a = none → c = 0) ∧ m.length ≤ c := by
    rcases hr with ⟨rfl, rfl | ⟨a, c, rfl⟩⟩ | h
    · exact ⟨none, 0, rfl, by rw [hM]; exact .inl ⟨by simp, .inl (by simp)⟩, fun _ => rfl, by simp⟩
    · exact ⟨some a, c, rfl, by rw [hM]; exact .inl ⟨by simp, .inr ⟨a, c, by simp⟩⟩, fun h => (by cases h), by simp⟩
    · have h' := h
      obtain ⟨h0, g, off, c, rfl, hc, hB, hg, hcell⟩ := h
      refine ⟨_, c, rfl, ?_, fun h => (by cases h), hc⟩
      have := Z.Row.take M.length (by rw [hM]; simp; omega) (.inr h')
      rwa [show m.take M.length = M from by rw [hM, List.length_take, ← List.take_eq_take_min]] at this
  obtain ⟨a, c, rfl, hrow, hac, hlc⟩ := key
  have HR := Lib.hid hrow
  have HMD := Lib.hid hMd
  clear hrow hr hd hac hMd
  have hmn : min (m.length : Int) 40 = (M.length : Int) := by rw [hM, List.length_take]; omega
  have hM0 : (0 : Int) ≤ (M.length : Int) := by omega
  have hMc : (M.length : Int) ≤ (c : Int) := by rw [hM, List.length_take]; omega
  have HM := Lib.hid hM
  clear hM
  have n01 : w.heap.size ≠ w.heap.size + 1 := by omega
  rcases hq with hq | hq
  all_goals
    go_enter Tryz.func7, Tryz.ntmps7
    go_wp2_with fail
    go_region_held3 (fun w' => w'.cell? ⟨w.heap.size, 1, none⟩ = some (.bool neg) ∧ w'.cell? ⟨w.heap.size, 2, none⟩ = some (.slice a m.length c))
      (first
        | (refine ⟨?_, ?_⟩ <;> (repeat (with_reducible refine Z.set_other ?_ (by first | exact n01))) <;> first | exact (hb2.cell (p := ⟨w.heap.size, 1, none⟩) (by show w.heap.size < w1.heap.size; omega)).trans k1 | exact (hb2.cell (p := ⟨w.heap.size, 2, none⟩) (by show w.heap.size < w1.heap.size; omega)).trans k2)
        | (refine ⟨?_, ?_⟩ <;> first | exact k1 | exact k2)
        | go_keep)
      (first
        | (go_at_call 15; refine (Z.f15_any neg _ M (by omega) HMD.out _ 0 (by exact Z.Row.draws ((HR.out.alloc _).alloc _) _)).mono ?_; rintro e w1 ⟨v1, rfl, hs1, hb1⟩; have HS1 := Lib.hid hs1; have k1 : w1.cell? ⟨w.heap.size, 1, none⟩ = some (.bool neg) := (hb1.cell (p := ⟨w.heap.size, 1, none⟩) (by simp; omega)).trans (by simp [go_sem]); have k2 : w1.cell? ⟨w.heap.size, 2, none⟩ = some (.slice a m.length c) := (hb1.cell (p := ⟨w.heap.size, 2, none⟩) (by simp; omega)).trans (by simp [go_sem]); have c1 : ∀ i, w1.cell? ⟨w.heap.size + 1, i, none⟩ = #[Value.int IntKind.i64 0, Value.bool false, Value.slice none 0 0, Value.int IntKind.u64 0, Value.string { data := #[] }, Value.slice none 0 0][i]? := fun i => (hb1.cell (p := ⟨w.heap.size + 1, i, none⟩) (by simp)).trans (by simp [go_sem]); have f1 : ∀ i, w1.frozen? ⟨w.heap.size + 1, i, none⟩ = false := fun i => (hb1.frozen (p := ⟨w.heap.size + 1, i, none⟩) (by simp)).trans (by simp [go_sem]); have HC1 := Lib.hid c1; have HF1 := Lib.hid f1; have hz1 : w.heap.size + 2 ≤ w1.heap.size := (by have := hb1.size; simpa using this); clear hs1 c1 f1)
        | (go_at_call 14; refine (Z.f14_any _ (by have := Z.strip_len M; omega) _ _ _ _ HS1.out).mono ?_; rintro e w2 ⟨_, rfl, ⟨sl2, l2, rfl, hrow2, hB2, hm2⟩, hb2⟩; obtain ⟨a2, k2c, rfl⟩ := hrow2.len; have HS2 : Hid (VInt w1.heap.size _ w2 _ _) := ⟨_, l2, rfl, hrow2, hB2, hm2⟩; have c2 : ∀ i, w2.cell? ⟨w.heap.size + 1, i, none⟩ = #[Value.int IntKind.i64 0, Value.bool false, Value.slice none 0 0, Value.int IntKind.u64 0, Value.string { data := #[] }, Value.slice none 0 0][i]? := fun i => (hb2.cell (p := ⟨w.heap.size + 1, i, none⟩) (by show w.heap.size + 1 < w1.heap.size; omega)).trans (HC1.out i); have f2 : ∀ i, w2.frozen? ⟨w.heap.size + 1, i, none⟩ = false := fun i => (hb2.frozen (p := ⟨w.heap.size + 1, i, none⟩) (by show w.heap.size + 1 < w1.heap.size; omega)).trans (HF1.out i); clear hrow2 hB2 hm2))
    go_wp2
    refine bodyPost_ret (v := .agg #[.int .i64 2, .bool (decide (Z.signed neg (Z.bv M) < 0)), .slice a2 l2.length k2c, .int .u64 0, .string ⟨#[]⟩, .slice none 0 0]) (by simp [results, Tryz.results7, go_sem, c2]) rfl ?_
    refine ⟨_, .int (Z.signed neg (Z.bv M)), rfl, ?_, ?_⟩
    · refine VP.mono (VP.ofInt (B := w1.heap.size) (n := (Z.strip M).length) ?_ (by have := Z.strip_len M; omega)) (fun b h => ⟨by have := h.1; omega, h.2⟩)
      iterate 6 (refine Z.VInt.setOld ?_ (show w.heap.size + 1 < w1.heap.size by omega) _)
      exact HS2.out
    · iterate 6 (refine Below.setCell ?_ (show w.heap.size ≤ w.heap.size + 1 by omega) _)
      refine Below.trans (b := w1) ?_ (hb2.mono (show w.heap.size ≤ w1.heap.size by omega))
      refine Below.trans ?_ (Below.mono (B' := w.heap.size) hb1 (by simp; omega))
      exact (((Below.refl w.heap.size w).alloc (Nat.le_refl _) _).alloc (by simp) _).drew
/-- One value of the thin package among the arguments. -/
def ArgV (w : World) (v : Value) : Prop := ∃ (K : Int) (neg : Bool) (mag kids : Value) (bits : Nat) (t : ByteArray) (m : List Nat), v = .agg #[.int .i64 K, .bool neg, mag, .int .u64 bits, .string t, kids] ∧ bits < 18446744073709551616 ∧ t.size ≤ 9223372036854775807 ∧ m.length ≤ 9223372036854775807 ∧ (∀ d ∈ m, d < 256) ∧ Row 0 .u8 w mag m
theorem q10 (K : Int) : let q := (wrap64 (K.tmod 10 + 10)).tmod 10; (q = 0 ∨ q = 6) ∨ (q = 1 ∨ q = 7) ∨ (q = 2 ∨ q = 8) ∨ (q = 3 ∨ q = 9) ∨ (q = 4 ∨ q = 5) := by
  intro q
  have h1 : -10 < K.tmod 10 := Int.lt_tmod_of_pos K (by decide)
  have h2 : K.tmod 10 < 10 := Int.tmod_lt_of_pos K (by decide)
  have h3 : wrap64 (K.tmod 10 + 10) = K.tmod 10 + 10 := by unfold wrap64; omega
  have h4 : q = (K.tmod 10 + 10).tmod 10 := by show (wrap64 (K.tmod 10 + 10)).tmod 10 = _; rw [h3]
  have h5 : 0 ≤ q := by rw [h4]; exact Int.tmod_nonneg _ (by omega)
  have h6 : q < 10 := by rw [h4]; exact Int.tmod_lt_of_pos _ (by decide)
  omega
theorem f7_any (v : Value) (w : World) (h : ArgV w v) : Calls Tryz.prog 7 #[v, .int .i64 0] w (CleanIs w) := by
  obtain ⟨K, neg, mag, kids, bits, t, m, rfl, hb, ht, hl, hd, hr⟩ := h
  rcases q10 K with hq | hq | hq | hq | hq
  · exact f7_none K hq neg mag kids bits t w
  · exact f7_bool K hq neg mag kids bits t w
  · exact f7_int K hq neg mag kids bits t m hl hd w hr
  · exact f7_float K hq neg mag kids bits hb t w
  · exact f7_text K hq neg mag kids bits t ht w
end Go.Proofs.YtllgogkjcbdpkaaGreat
