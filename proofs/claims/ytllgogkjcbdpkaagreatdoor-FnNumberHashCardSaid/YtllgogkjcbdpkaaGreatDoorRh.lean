/- The reference's Whole: a finite float cut towards zero. -/
import Derived.Test.YtllgogkjcbdpkaaGreatDoorRg
namespace Go.Proofs.YtllgogkjcbdpkaaGreatDoor.Z
open Go.RowKit

theorem pw_eq (r : Nat) : pw r = (pl r : Int) - 1074 := by unfold pw pl; split <;> omega
theorem mg_lt (r : Nat) : mg r < 9007199254740992 := by unfold mg; split <;> omega
theorem pl_le (r : Nat) (h : r < 2047 * 2 ^ 52) : pl r ≤ 2045 := by unfold pl; split <;> omega
theorem pw_lp (r : Nat) : pw r = (pl r : Int) - (LP : Nat) := by rw [pw_eq]; rfl
theorem whole_pos (r : Nat) (h : 0 ≤ pw r) : tr r = mg r * 2 ^ (pw r).toNat := by
  rw [pw_lp] at h ⊢
  unfold tr
  rw [V_eq]
  generalize LP = K at *
  obtain ⟨u, hu⟩ : ∃ u : Nat, pl r = u + K := ⟨pl r - K, by omega⟩
  rw [hu, Nat.pow_add, ← Nat.mul_assoc, Nat.mul_div_cancel _ (Nat.two_pow_pos _)]
  rw [show (((u + K : Nat) : Int) - (K : Int)).toNat = u by omega]
theorem whole_neg (r : Nat) (h : pw r < 0) : tr r = mg r / 2 ^ (-(pw r)).toNat := by
  rw [pw_lp] at h ⊢
  unfold tr
  rw [V_eq]
  generalize LP = K at *
  have e : (2 : Nat) ^ K = 2 ^ (-((pl r : Int) - (K : Int))).toNat * 2 ^ pl r := by rw [← Nat.pow_add]; congr 1; omega
  rw [e, Nat.mul_div_mul_right _ _ (Nat.two_pow_pos _)]
theorem whole_far (r : Nat) (h : pw r < -63) : tr r = 0 := by
  rw [whole_neg r (by omega)]
  refine Nat.div_eq_of_lt (Nat.lt_of_lt_of_le (mg_lt r) ?_)
  exact Nat.le_trans (show 9007199254740992 ≤ 2 ^ 63 by decide) (Nat.pow_le_pow_right (by decide) (by omega))
def WholeIs (z : Int) (w : World) (e : Ending) (w' : World) : Prop := ∃ v b, e = .returned (.tuple #[v, .bool b]) ∧ SInt w.heap.size 600 w' v z ∧ Below w.heap.size w w'
theorem of8 (s : Bool) {B : Nat} {v : Value} {l : List Nat} {u : Nat} {w : World} (hl : l.length = 8) (hd : ∀ d ∈ l, d < 256) (hv : bv l = u) (hr : Row B .u8 w v l) : Calls Tryz.prog 11 #[.bool s, v] w (MakesS 8 (sg s u) w) := by
  have := f11_any s v l (by omega) hd w B hr
  rw [hv] at this
  refine this.mono ?_
  rintro e w' ⟨v, rfl, hs, hb⟩
  exact ⟨v, rfl, hs.le (Nat.le_refl _) (by have := strip_len l; omega), hb⟩
set_option maxRecDepth 100000 in
set_option maxHeartbeats 4000000 in
theorem f6_pos (s : Bool) (r : Nat) (h : r < 2047 * 2 ^ 52) (hp : 0 ≤ pw r) (w : World) : Calls Tryz.prog 6 #[.float .f64 (fw s r)] w (WholeIs (sg s (tr r)) w) := by
  have hp2 : pw r ≤ 971 := by have := pl_le r h; rw [pw_eq]; omega
  have HT := Lib.hid (whole_pos r hp)
  have hmg : mg r < 18446744073709551616 := by have := mg_lt r; omega
  have H24 := Lib.hid (fun W => f24_any (mg r) hmg W)
  have H23 := Lib.hid (fun W => f23_any s r h W)
  clear hmg h
  obtain ⟨p, hpp⟩ : ∃ p : Nat, pw r = (p : Int) := ⟨(pw r).toNat, by omega⟩
  rw [hpp] at hp2 HT H23
  have hpl : p ≤ 971 := by omega
  clear hp hpp hp2
  go_enter Tryz.func6, Tryz.ntmps6
  go_wp2_with fail
  go_at_call 23
  refine (H23.out _).mono ?_
  rintro e w' ⟨rfl, rfl⟩
  go_wp2_with fail
  go_at_call 24
  refine (H24.out _).mono ?_
  rintro e w1 ⟨v1, l1, rfl, hr1, hl1, hd1, hv1, hb1⟩
  have HV1 := Lib.hid hv1
  have HL1 := Lib.hid hl1
  have HD1 := Lib.hid hd1
  have HR1 := Lib.hid hr1
  obtain ⟨a1, c1, rfl⟩ := hr1.len
  rw [hl1]
  have HC1 := Lib.hid hb1
  clear hv1 hl1 hd1 hr1 hb1
  go_wp2_with fail
  go_at_call 11
  refine (of8 s HL1.out HD1.out HV1.out (by have := HR1.out; rw [HL1.out] at this; exact this)).mono ?_
  rintro e w2 ⟨v2, rfl, h2, hb2⟩
  obtain ⟨d2, a2, m2, c2, rfl⟩ := h2.shape
  have HS2 := Lib.hid (h2.alloc0 (.cells #[.bool d2, .slice a2 m2 c2] 24))
  have HC2 : Hid (Below (w.heap.size + 1) (w.alloc (.cells #[.bool false, .slice none 0 0] 24)) w2) := Lib.hid (bel_chain (by simp) (HC1.out.mono (by simp)) hb2)
  have HB2 : Hid (Below w.heap.size w w2) := Lib.hid (((Below.refl w.heap.size w).alloc (Nat.le_refl _) _).trans (HC2.out.mono (by omega)))
  have z0 : ∀ i, w2.cell? ⟨w.heap.size, i, none⟩ = #[Value.bool false, Value.slice none 0 0][i]? := fun i => (HC2.out.cell (p := ⟨w.heap.size, i, none⟩) (by show w.heap.size < w.heap.size + 1; omega)).trans (by simp [go_sem])
  have zf : ∀ i, w2.frozen? ⟨w.heap.size, i, none⟩ = false := fun i => (HC2.out.frozen (p := ⟨w.heap.size, i, none⟩) (by show w.heap.size < w.heap.size + 1; omega)).trans (by simp [go_sem])
  have hz : w.heap.size < w2.heap.size := by have := HC2.out.size; simp at this; omega
  clear h2 hb2
  go_wp2_with fail
  go_at_call 15
  refine (f15_any 8 (by omega) _ (sg s (mg r)) p (by omega) 0 _ HS2.out).mono ?_
  rintro e w3 ⟨v3, rfl, h3, hb3⟩
  have HC3 : Hid (Below (w.heap.size + 1) (w.alloc (.cells #[.bool false, .slice none 0 0] 24)) w3) := Lib.hid ((HC2.out.alloc (by have := HC2.out.size; simp at this; omega) _).trans (hb3.mono (by simp; omega)))
  have y0 : ∀ i, w3.cell? ⟨w.heap.size, i, none⟩ = #[Value.bool false, Value.slice none 0 0][i]? := fun i => (HC3.out.cell (p := ⟨w.heap.size, i, none⟩) (by show w.heap.size < w.heap.size + 1; omega)).trans (by simp [go_sem])
  have yf : ∀ i, w3.frozen? ⟨w.heap.size, i, none⟩ = false := fun i => (HC3.out.frozen (p := ⟨w.heap.size, i, none⟩) (by show w.heap.size < w.heap.size + 1; omega)).trans (by simp [go_sem])
  obtain ⟨d3, a3, m3, c3, rfl⟩ := h3.shape
  have H3 := Lib.hid h3
  have hz3 : w.heap.size < (w2.alloc (.cells #[.bool d2, .slice a2 m2 c2] 24)).heap.size := by simp; omega
  clear h3 hb3 z0 zf
  go_wp2_with fail
  refine bodyPost_ret (v := .tuple #[.agg #[.bool d3, .slice a3 m3 c3], .bool true]) (by simp [results, Tryz.results6, go_sem, y0]) rfl ?_
  refine ⟨_, _, rfl, ?_, ?_⟩
  · rw [HT.out, sg_mul]
    refine SInt.le (SInt.setOld (SInt.setOld H3.out ?_ _) ?_ _) (Nat.le_of_lt hz3) (by omega)
    · exact hz3
    · exact hz3
  · exact (Below.setCell (p := ⟨w.heap.size, 1, none⟩) (Below.setCell (p := ⟨w.heap.size, 0, none⟩) (((Below.refl w.heap.size w).alloc (Nat.le_refl _) _).trans (HC3.out.mono (by omega))) (Nat.le_refl _) _) (Nat.le_refl _) _)
set_option maxRecDepth 100000 in
set_option maxHeartbeats 4000000 in
theorem f6_far (s : Bool) (r : Nat) (h : r < 2047 * 2 ^ 52) (hp : pw r < -63) (w : World) : Calls Tryz.prog 6 #[.float .f64 (fw s r)] w (WholeIs (sg s (tr r)) w) := by
  have HT := Lib.hid (whole_far r hp)
  have hp0 : ¬ 0 ≤ pw r := by omega
  have hmg : mg r < 18446744073709551616 := by have := mg_lt r; omega
  have H24 := Lib.hid (fun W => f24_any (mg r) hmg W)
  have H23 := Lib.hid (fun W => f23_any s r h W)
  clear hmg h
  generalize pw r = p at *
  go_enter Tryz.func6, Tryz.ntmps6
  go_wp2_with fail
  go_at_call 23
  refine (H23.out _).mono ?_
  rintro e w' ⟨rfl, rfl⟩
  go_wp2_with fail
  go_at_call 24
  refine (H24.out _).mono ?_
  rintro e w1 ⟨v1, l1, rfl, hr1, hl1, hd1, hv1, hb1⟩
  have HV1 := Lib.hid hv1
  have HL1 := Lib.hid hl1
  have HD1 := Lib.hid hd1
  have HR1 := Lib.hid hr1
  obtain ⟨a1, c1, rfl⟩ := hr1.len
  rw [hl1]
  have HC1 := Lib.hid hb1
  clear hv1 hl1 hd1 hr1 hb1
  go_wp2_with fail
  go_at_call 11
  refine (of8 s HL1.out HD1.out HV1.out (by have := HR1.out; rw [HL1.out] at this; exact this)).mono ?_
  rintro e w2 ⟨v2, rfl, h2, hb2⟩
  obtain ⟨d2, a2, m2, c2, rfl⟩ := h2.shape
  have HS2 := Lib.hid (h2.alloc0 (.cells #[.bool d2, .slice a2 m2 c2] 24))
  have HC2 : Hid (Below (w.heap.size + 1) (w.alloc (.cells #[.bool false, .slice none 0 0] 24)) w2) := Lib.hid (bel_chain (by simp) (HC1.out.mono (by simp)) hb2)
  have HB2 : Hid (Below w.heap.size w w2) := Lib.hid (((Below.refl w.heap.size w).alloc (Nat.le_refl _) _).trans (HC2.out.mono (by omega)))
  have z0 : ∀ i, w2.cell? ⟨w.heap.size, i, none⟩ = #[Value.bool false, Value.slice none 0 0][i]? := fun i => (HC2.out.cell (p := ⟨w.heap.size, i, none⟩) (by show w.heap.size < w.heap.size + 1; omega)).trans (by simp [go_sem])
  have zf : ∀ i, w2.frozen? ⟨w.heap.size, i, none⟩ = false := fun i => (HC2.out.frozen (p := ⟨w.heap.size, i, none⟩) (by show w.heap.size < w.heap.size + 1; omega)).trans (by simp [go_sem])
  have hz : w.heap.size < w2.heap.size := by have := HC2.out.size; simp at this; omega
  clear h2 hb2
  go_wp2_with fail
  refine bodyPost_ret (v := .tuple #[.agg #[.bool false, .slice none 0 0], .bool ((mg r : Int) == 0)]) (by simp [results, Tryz.results6, go_sem, z0, hz]) rfl ?_
  refine ⟨_, _, rfl, ?_, ?_⟩
  · rw [HT.out]
    refine ⟨.slice none 0 0, [], by cases s <;> rfl, .inl ⟨rfl, .inl rfl⟩, ?_, by simp⟩
    cases s <;> exact isB_nil
  · repeat (first | with_reducible exact HB2.out | with_reducible refine Below.setCell ?_ (by first | (show _ ≤ _; omega) | (simp; done) | (simp; omega)) _ | with_reducible refine Below.alloc ?_ (by first | omega | (simp; done) | (simp; omega)) _ | with_reducible refine Below.drew ?_)
theorem bytes_shr (m n : Nat) (hm : m < 18446744073709551616) (W : World) : Calls Tryz.prog 24 #[.int .u64 ((m : Int) / 2 ^ n)] W (BytesIs (m / 2 ^ n) W) := by
  have := f24_any (m / 2 ^ n) (Nat.lt_of_le_of_lt (Nat.div_le_self _ _) hm) W
  rwa [show ((m / 2 ^ n : Nat) : Int) = (m : Int) / 2 ^ n by push_cast; rfl] at this
set_option maxRecDepth 100000 in
set_option maxHeartbeats 4000000 in
theorem f6_near (s : Bool) (r : Nat) (h : r < 2047 * 2 ^ 52) (h1 : -63 ≤ pw r) (h2 : pw r < 0) (w : World) : Calls Tryz.prog 6 #[.float .f64 (fw s r)] w (WholeIs (sg s (tr r)) w) := by
  have HT := Lib.hid (whole_neg r h2)
  have hmg : mg r < 18446744073709551616 := by have := mg_lt r; omega
  have H24 := Lib.hid (fun W => f24_any (mg r) hmg W)
  have H23 := Lib.hid (fun W => f23_any s r h W)
  have H24' := Lib.hid (fun n W => bytes_shr (mg r) n hmg W)
  clear h
  obtain ⟨N, hN⟩ : ∃ N : Nat, pw r = -(N : Int) := ⟨(-(pw r)).toNat, by omega⟩
  rw [hN] at HT H23 h1 h2
  have hN1 : 0 < N := by omega
  have hN2 : N ≤ 63 := by omega
  have HT2 : Hid (tr r = mg r / 2 ^ N) := by
    have := HT.out
    rw [show (-(-(N : Int))).toNat = N by omega] at this
    exact this
  have hn1 : (0 : Int) ≤ (N : Int) := by omega
  clear hN HT h1 h2
  go_enter Tryz.func6, Tryz.ntmps6
  go_wp2_with fail
  go_at_call 23
  refine (H23.out _).mono ?_
  rintro e w' ⟨rfl, rfl⟩
  go_wp2_with fail
  go_at_call 24
  refine (H24.out _).mono ?_
  rintro e w1 ⟨v1, l1, rfl, hr1, hl1, hd1, hv1, hb1⟩
  have HV1 := Lib.hid hv1
  have HL1 := Lib.hid hl1
  have HD1 := Lib.hid hd1
  have HR1 := Lib.hid hr1
  obtain ⟨a1, c1, rfl⟩ := hr1.len
  rw [hl1]
  have HC1 := Lib.hid hb1
  clear hv1 hl1 hd1 hr1 hb1
  go_wp2_with fail
  go_at_call 11
  refine (of8 s HL1.out HD1.out HV1.out (by have := HR1.out; rw [HL1.out] at this; exact this)).mono ?_
  rintro e w2 ⟨v2, rfl, h2, hb2⟩
  obtain ⟨d2, a2, m2, c2, rfl⟩ := h2.shape
  have HS2 := Lib.hid (h2.alloc0 (.cells #[.bool d2, .slice a2 m2 c2] 24))
  have HC2 : Hid (Below (w.heap.size + 1) (w.alloc (.cells #[.bool false, .slice none 0 0] 24)) w2) := Lib.hid (bel_chain (by simp) (HC1.out.mono (by simp)) hb2)
  have HB2 : Hid (Below w.heap.size w w2) := Lib.hid (((Below.refl w.heap.size w).alloc (Nat.le_refl _) _).trans (HC2.out.mono (by omega)))
  have z0 : ∀ i, w2.cell? ⟨w.heap.size, i, none⟩ = #[Value.bool false, Value.slice none 0 0][i]? := fun i => (HC2.out.cell (p := ⟨w.heap.size, i, none⟩) (by show w.heap.size < w.heap.size + 1; omega)).trans (by simp [go_sem])
  have zf : ∀ i, w2.frozen? ⟨w.heap.size, i, none⟩ = false := fun i => (HC2.out.frozen (p := ⟨w.heap.size, i, none⟩) (by show w.heap.size < w.heap.size + 1; omega)).trans (by simp [go_sem])
  have hz : w.heap.size < w2.heap.size := by have := HC2.out.size; simp at this; omega
  clear h2 hb2
  go_wp2_with fail
  go_at_call 24
  refine (H24'.out N _).mono ?_
  rintro e w3 ⟨v3, l3, rfl, hr3, hl3, hd3, hv3, hb3⟩
  have HV3 := Lib.hid hv3
  have HL3 := Lib.hid hl3
  have HD3 := Lib.hid hd3
  have HR3 := Lib.hid hr3
  obtain ⟨a3, c3, rfl⟩ := hr3.len
  rw [hl3]
  have HC3 : Hid (Below (w.heap.size + 1) (w.alloc (.cells #[.bool false, .slice none 0 0] 24)) w3) := Lib.hid ((HC2.out.alloc (by have := HC2.out.size; simp at this; omega) _).trans (hb3.mono (by simp; omega)))
  clear hv3 hl3 hd3 hr3 hb3
  go_wp2_with fail
  go_at_call 11
  refine (of8 s HL3.out HD3.out HV3.out (by have := HR3.out; rw [HL3.out] at this; exact this)).mono ?_
  rintro e w4 ⟨v4, rfl, h4, hb4⟩
  obtain ⟨d4, a4, m4, c4, rfl⟩ := h4.shape
  have hz3 : w.heap.size < w3.heap.size := by have := HC3.out.size; simp at this; omega
  have HC4 : Hid (Below (w.heap.size + 1) (w.alloc (.cells #[.bool false, .slice none 0 0] 24)) w4) := Lib.hid (HC3.out.trans (hb4.mono (by omega)))
  have HB4 : Hid (Below w.heap.size w w4) := Lib.hid (((Below.refl w.heap.size w).alloc (Nat.le_refl _) _).trans (HC4.out.mono (by omega)))
  have y0 : ∀ i, w4.cell? ⟨w.heap.size, i, none⟩ = #[Value.bool false, Value.slice none 0 0][i]? := fun i => (HC4.out.cell (p := ⟨w.heap.size, i, none⟩) (by show w.heap.size < w.heap.size + 1; omega)).trans (by simp [go_sem])
  have yf : ∀ i, w4.frozen? ⟨w.heap.size, i, none⟩ = false := fun i => (HC4.out.frozen (p := ⟨w.heap.size, i, none⟩) (by show w.heap.size < w.heap.size + 1; omega)).trans (by simp [go_sem])
  have H4 := Lib.hid h4
  clear h4 hb4 z0 zf
  go_wp2_with fail
  refine bodyPost_ret (by simp [results, Tryz.results6, go_sem, y0]; rfl) rfl ?_
  refine ⟨_, _, rfl, ?_, ?_⟩
  · rw [HT2.out]
    exact SInt.le (SInt.setOld (SInt.setOld H4.out hz3 _) hz3 _) (Nat.le_of_lt hz3) (by omega)
  · exact (HB4.out.setCell (p := ⟨w.heap.size, 0, none⟩) (Nat.le_refl _) _).setCell (p := ⟨w.heap.size, 1, none⟩) (Nat.le_refl _) _
theorem f6_any (s : Bool) (r : Nat) (h : r < 2047 * 2 ^ 52) (w : World) : Calls Tryz.prog 6 #[.float .f64 (fw s r)] w (WholeIs (sg s (tr r)) w) := by
  by_cases h0 : 0 ≤ pw r
  · exact f6_pos s r h h0 w
  · by_cases h1 : pw r < -63
    · exact f6_far s r h h1 w
    · exact f6_near s r h (by omega) (by omega) w
end Go.Proofs.YtllgogkjcbdpkaaGreatDoor.Z
