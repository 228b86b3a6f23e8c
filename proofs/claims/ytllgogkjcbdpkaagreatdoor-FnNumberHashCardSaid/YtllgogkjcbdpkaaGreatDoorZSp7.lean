/- Written by wip/tools/port2.py out of the text Sp7 of seat Ytidkdjnfpepnfaa. -/
/- Walks of the reference's Power, Zero. -/
import Derived.Test.YtllgogkjcbdpkaaGreatDoorZSp6
namespace Go.Proofs.YtllgogkjcbdpkaaGreatDoor.Z
open Go.RowKit

theorem bv_zeros (k : Nat) : bv (List.replicate k 0) = 0 := by
  induction k with
  | zero => rfl
  | succ k ih => simp [List.replicate_succ, bv, ih]

set_option maxRecDepth 100000 in
set_option maxHeartbeats 1000000 in
theorem f17_any (n : Nat) (hn : n ≤ 4096) (w : World) : Calls Tryz.prog 17 #[.int .i64 n] w (MakesS 513 (2 ^ n) w) := by
  obtain ⟨i0, hi, hz0, hz1, hz2⟩ := info_parts info5
  have hmk := fun w : World => run_make (P := Tryz.prog) w 22 5 i0 (.int .u8 0) Tryz.underlying22 hi hz0 .i64 .i64 ((n : Int) / 8 + 1) ((n : Int) / 8 + 1) (by omega) (by omega) (by rw [hz2]; omega) (by omega)
  simp only [hz1, show ((n : Int) / 8 + 1).toNat = n / 8 + 1 from by omega, Nat.mul_one] at hmk
  have HO := Lib.hid (ownB_made (w.alloc (.cells #[.bool false, .slice none 0 0] 24)) (n / 8 + 1) (n / 8 + 1) (Nat.le_refl _) (by simp [maxLen]; omega))
  have HN := Lib.hid hn
  obtain ⟨k, hk⟩ : ∃ k, k = n / 8 + 1 := ⟨_, rfl⟩
  rw [← hk] at HO
  simp only [← hk] at hmk
  have HK := Lib.hid hk
  have hk1 : 1 ≤ k := by omega
  have hk2 : k ≤ 513 := by omega
  clear hk
  have hr : n % 8 < 8 := by omega
  have er : (n : Int) % 8 = ((n % 8 : Nat) : Int) := by omega
  have HR : Hid (n = 8 * (n / 8) + n % 8) := by show _ = _; omega
  generalize hrr : n % 8 = r at *
  have hr8 : r = 0 ∨ r = 1 ∨ r = 2 ∨ r = 3 ∨ r = 4 ∨ r = 5 ∨ r = 6 ∨ r = 7 := by omega
  clear hrr
  have zc := HO.out.cell 0 (by omega)
  have zf := HO.out.free 0
  have HB : Hid (Below (w.heap.size + 1) (w.alloc (.cells #[.bool false, .slice none 0 0] 24)) ((w.alloc (.cells #[.bool false, .slice none 0 0] 24)).alloc (.cells (madeCells #[.int .u8 0] k) 5))) := (Below.refl _ _).alloc (by simp) _
  have em : (madeCells #[Value.int IntKind.u8 0] k)[0]? = some (.int .u8 ((((List.replicate k 0).getD 0 0 : Nat)) : Int)) := by simpa [go_sem] using zc
  generalize (List.replicate k 0).getD 0 0 = y0 at *
  have HO' := Lib.hid (HO.out.stored 0 (2 ^ r % 256))
  have HD : Hid (∀ d ∈ (List.replicate k 0).set 0 (2 ^ r % 256), d < 256) := fun d hd => by
    rcases List.mem_or_eq_of_mem_set hd with h | h
    · have := (List.mem_replicate.1 h).2; omega
    · rw [h]; exact Nat.mod_lt _ (by decide)
  have HV : Hid (bv ((List.replicate k 0).set 0 (2 ^ r % 256)) = 2 ^ n) := by
    show _ = _
    rw [HR.out, HK.out, List.replicate_succ, List.set_cons_zero, bv, bv_zeros, List.length_replicate, Nat.pow_add, Nat.pow_mul]
    have h1 : 2 ^ r % 256 = 2 ^ r := by rcases hr8 with rfl | rfl | rfl | rfl | rfl | rfl | rfl | rfl <;> rfl
    rw [h1, Nat.mul_comm]; rfl
  clear zc zf hr8
  go_enter Tryz.func17, Tryz.ntmps17
  go_wp2_with fail
  have HX : Hid (Row (w.heap.size + 1) .u8 ((w.alloc (.cells #[.bool false, .slice none 0 0] 24)).alloc (.cells ((madeCells #[Value.int IntKind.u8 0] k).setIfInBounds 0 (Value.int IntKind.u8 (2 ^ r % 256))) 5)) (.slice (some ⟨w.heap.size + 1, 0, none⟩) k k) ((List.replicate k 0).set 0 (2 ^ r % 256))) := by
    have := HO'.out.row
    show Row _ _ _ _ _
    simpa [go_sem] using this
  refine (f11_any false _ _ (by simp; omega) HD.out _ _ HX.out).mono ?_
  rintro e w2 ⟨v2, rfl, hs, hb⟩
  obtain ⟨d2, a2, k2, c2, rfl⟩ := hs.shape
  rw [HV.out] at hs
  have HS := Lib.hid (hs.le (B' := w.heap.size + 1) (m := 513) (by simp) (by have := strip_len ((List.replicate k 0).set 0 (2 ^ r % 256)); simp at this; omega))
  have HB2 : Hid (Below (w.heap.size + 1) (w.alloc (.cells #[.bool false, .slice none 0 0] 24)) w2) := ((Below.refl _ _).alloc (by simp) _).trans (hb.mono (by simp))
  obtain ⟨c0, f0⟩ := later HB2.out (by omega)
  clear hs hb HX HO' HO HB
  go_wp2_with fail
  refine bodyPost_ret (v := .agg #[.bool d2, .slice a2 k2 c2]) (by simp [results, Tryz.results17, go_sem, c0]) rfl ?_
  refine ⟨_, rfl, ?_, ?_⟩
  · refine SInt.le (B := w.heap.size + 1) (n := 513) ?_ (by omega) (Nat.le_refl _)
    iterate 2 (refine SInt.setOld ?_ (show w.heap.size < w.heap.size + 1 by omega) _)
    exact HS.out
  · iterate 2 (refine Below.setCell ?_ (show w.heap.size ≤ w.heap.size by omega) _)
    exact ((Below.refl _ _).alloc (Nat.le_refl _) _).trans (HB2.out.mono (by omega))

set_option maxRecDepth 100000 in
theorem f33_any (v : Value) (z : Int) (B k : Nat) (w : World) (hx : SInt B k w v z) : Calls Tryz.prog 33 #[v] w fun e w' => e = .returned (.bool (decide (z = 0))) ∧ Below w.heap.size w w' := by
  obtain ⟨s1, l1, rfl, r1, b1, hl1⟩ := hx
  obtain ⟨a1, c1, rfl⟩ := r1.len
  have F : Hid (decide (z = 0) = ((l1.length : Int) == 0)) := by
    show _ = _
    have := b1.zero
    rw [Bool.eq_iff_iff]; simp
    constructor
    · rintro rfl; exact b1.zero.1 rfl
    · intro h; have := b1.zero.2 h; omega
  clear r1 b1
  generalize decide (z < 0) = d at *
  go_enter Tryz.func33, Tryz.ntmps33
  go_wp2
  go_ret
  exact ⟨ret_bool F.out.symm, (Below.refl _ _).alloc (Nat.le_refl _) _⟩
end Go.Proofs.YtllgogkjcbdpkaaGreatDoor.Z
