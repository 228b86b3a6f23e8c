/- Written by wip/tools/port2.py out of the text Sp8 of seat Ytidkdjnfpepnfaa. -/
/- The walk of the reference's Mul. -/
import Derived.Test.YtllgogkjcbdpkaaGreatDoorZSp7
namespace Go.Proofs.YtllgogkjcbdpkaaGreatDoor.Z
open Go.RowKit

/-- A row of ints of the call's own: from its block's head on. -/
def OwnI (B : Nat) (w : World) (g n c : Nat) (xs : List Nat) : Prop := w.ownsRow B 3 1 (.slice (some ⟨g, 0, none⟩) n c) n (xs.map fun x => Value.int .i64 (x : Nat))
theorem OwnI.len {B : Nat} {w : World} {g n c : Nat} {xs : List Nat} (h : OwnI B w g n c xs) : xs.length = n := by simpa using h.1
theorem OwnI.cell {B : Nat} {w : World} {g n c : Nat} {xs : List Nat} (h : OwnI B w g n c xs) (j : Nat) (hj : j < n) : w.cell? ⟨g, j, none⟩ = some (.int .i64 ((xs.getD j 0 : Nat) : Int)) := by
  have := World.ownsRow.cellAt h j (by omega)
  rw [this]
  have := h.len
  simp [show j < xs.length by omega]
theorem OwnI.free {B : Nat} {w : World} {g n c : Nat} {xs : List Nat} (h : OwnI B w g n c xs) (j : Nat) : w.frozen? ⟨g, j, none⟩ = false := World.ownsRow.frozenAt h j
theorem OwnI.low {B : Nat} {w : World} {g n c : Nat} {xs : List Nat} (h : OwnI B w g n c xs) : B ≤ g ∧ g < w.heap.size := World.ownsRow.lt h g rfl
theorem OwnI.stored {B : Nat} {w : World} {g n c : Nat} {xs : List Nat} (h : OwnI B w g n c xs) (j y : Nat) : OwnI B (w.setCell ⟨g, j, none⟩ (.int .i64 (y : Int))) g n c (xs.set j y) := by
  have := (World.ownsRow.stored h j (.int .i64 (y : Int))).1
  unfold OwnI
  rw [List.map_set]
  exact this
theorem OwnI.below {B : Nat} {w w' : World} {g n c : Nat} {xs : List Nat} {B' : Nat} (h : OwnI B w g n c xs) (hb : Below B' w w') (hB : w.heap.size ≤ B') : OwnI B w' g n c xs :=
  World.ownsRow.kept (row := none) h ⟨hb.os, hb.tape, hb.output, hb.size, fun k hk _ => hb.block k (by omega)⟩ (.inr (by simp [Value.ownBlock]))
theorem OwnI.draws {B : Nat} {w : World} {g n c : Nat} {xs : List Nat} (h : OwnI B w g n c xs) (k : Nat) : OwnI B (w.drewN k) g n c xs := h
theorem ownI_made (w : World) (n c : Nat) (hn : n ≤ c) (hc : c ≤ maxLen) : OwnI w.heap.size (w.alloc (.cells (madeCells #[.int .i64 0] c) 3)) w.heap.size n c (List.replicate n 0) := by
  refine ⟨by simp, .inr ⟨w.heap.size, c, _, rfl, Nat.le_refl _, heap_alloc_new w _, hn, hc, by simp [size_madeCells], ?_⟩⟩
  rw [toList_madeCells_one]
  simp [List.take_replicate]
  omega
theorem info3 : (Tryz.prog.info? 3).map (fun i => (i.zero, i.size, i.bytes)) = some (some (.int .i64 0), 1, 8) := by kernel_rfl

/-- The number of digits, the lowest one first. -/
def dv : List Nat → Nat
  | [] => 0
  | a :: r => a + 256 * dv r
theorem dv_zeros (k : Nat) : dv (List.replicate k 0) = 0 := by
  induction k with
  | zero => rfl
  | succ k ih => simp [List.replicate_succ, dv, ih]
theorem dv_set (l : List Nat) (j b : Nat) (h : j < l.length) : dv (l.set j b) + l.getD j 0 * 256 ^ j = dv l + b * 256 ^ j := by
  induction l generalizing j with
  | nil => simp at h
  | cons a r ih =>
    cases j with
    | zero => simp [dv]; omega
    | succ j =>
      have := ih j (by simpa using h)
      simp only [List.set_cons_succ, List.getD_cons_succ, dv, Nat.pow_succ]
      have e1 : r.getD j 0 * (256 ^ j * 256) = 256 * (r.getD j 0 * 256 ^ j) := by rw [Nat.mul_comm (256 ^ j), ← Nat.mul_assoc, Nat.mul_comm _ 256, Nat.mul_assoc]
      have e2 : b * (256 ^ j * 256) = 256 * (b * 256 ^ j) := by rw [Nat.mul_comm (256 ^ j), ← Nat.mul_assoc, Nat.mul_comm _ 256, Nat.mul_assoc]
      omega
theorem dv_append (a b : List Nat) : dv (a ++ b) = dv a + 256 ^ a.length * dv b := by
  induction a with
  | nil => simp [dv]
  | cons x r ih => simp only [List.cons_append, dv, ih, List.length_cons, Nat.pow_succ, Nat.mul_add, Nat.add_assoc]; congr 2; rw [Nat.mul_comm (256 ^ r.length) 256, Nat.mul_assoc]
theorem dv_take_succ (l : List Nat) (p : Nat) (h : p < l.length) : dv (l.take (p + 1)) = dv (l.take p) + l.getD p 0 * 256 ^ p := by
  rw [List.take_succ_eq_append_getElem h, dv_append]
  simp [dv, h, List.length_take, Nat.min_eq_left (Nat.le_of_lt h)]
  rw [Nat.mul_comm]
theorem dv_ge (l : List Nat) (j : Nat) : l.getD j 0 * 256 ^ j ≤ dv l := by
  by_cases h : j < l.length
  · have := dv_set l j 0 h
    simp at this ⊢
    omega
  · simp [h]
theorem lo_le (l : List Nat) (p : Nat) : lo l p ≤ bv l := by
  have := bv_append (l.take (l.length - p)) (l.drop (l.length - p))
  rw [List.take_append_drop] at this
  unfold lo; omega
theorem lo_lt (l : List Nat) (hd : ∀ d ∈ l, d < 256) (p : Nat) : lo l p < 256 ^ p := by
  have := bv_lt (l.drop (l.length - p)) (fun d h => hd d (List.mem_of_mem_drop h))
  refine Nat.lt_of_lt_of_le this (Nat.pow_le_pow_right (by decide) ?_)
  simp; omega
theorem mul_bound (l1 l2 : List Nat) (hd1 : ∀ d ∈ l1, d < 256) (hd2 : ∀ d ∈ l2, d < 256) (V c i k : Nat) (h : V + c * 256 ^ (i + k) = lo l1 i * bv l2 + dg l1 i * 256 ^ i * lo l2 k) (hc : 0 < c) : k ≤ l2.length := by
  have h1 : dg l1 i * 256 ^ i * lo l2 k ≤ dg l1 i * 256 ^ i * bv l2 := Nat.mul_le_mul_left _ (lo_le l2 k)
  have h2 : lo l1 (i + 1) * bv l2 = lo l1 i * bv l2 + dg l1 i * 256 ^ i * bv l2 := by rw [lo_succ, Nat.add_mul]
  have h3 := lo_lt l1 hd1 (i + 1)
  have h4 := bv_lt l2 hd2
  have h5 : lo l1 (i + 1) * bv l2 < 256 ^ (i + 1) * 256 ^ l2.length := Nat.mul_lt_mul'' h3 h4
  have h6 : 1 * 256 ^ (i + k) ≤ c * 256 ^ (i + k) := Nat.mul_le_mul_right _ hc
  rw [← Nat.pow_add] at h5
  have h7 : 256 ^ (i + k) < 256 ^ (i + 1 + l2.length) := by omega
  have := (Nat.pow_lt_pow_iff_right (by decide : 1 < 256)).1 h7
  omega
theorem mul_step (V V' D x y c P T U : Nat) (h1 : V' + D * P = V + (D + x * y + c) % 256 * P) (h2 : V + c * P = T) (h3 : U = x * y * P) : V' + (D + x * y + c) / 256 * (P * 256) = T + U := by
  subst h2 h3
  have := Nat.mod_add_div (D + x * y + c) 256
  have e : (D + x * y + c) % 256 * P + (D + x * y + c) / 256 * (P * 256) = (D + x * y + c) * P := by
    rw [Nat.mul_comm P 256, ← Nat.mul_assoc, ← Nat.add_mul]; congr 1; omega
  rw [Nat.add_mul, Nat.add_mul] at e
  omega
theorem mul_eq (x y i k : Nat) : x * 256 ^ i * (y * 256 ^ k) = x * y * 256 ^ (i + k) := by
  rw [Nat.pow_add, Nat.mul_mul_mul_comm]

theorem signed_mul (d1 d2 : Bool) (a b : Nat) : signed (!(d1 == d2)) (a * b) = signed d1 a * signed d2 b := by
  cases d1 <;> cases d2 <;> simp [signed, Int.mul_neg, Int.neg_mul]

set_option maxRecDepth 100000 in
set_option maxHeartbeats 4000000 in
theorem f34_any (k1 k2 : Nat) (hk1 : k1 ≤ 1000) (hk2 : k2 ≤ 1000) (v1 v2 : Value) (z1 z2 : Int) (B : Nat) (w : World) (hx : SInt B k1 w v1 z1) (hy : SInt B k2 w v2 z2) :
    Calls Tryz.prog 34 #[v1, v2] w (MakesS (k1 + k2) (z1 * z2) w) := by
  obtain ⟨s1, l1, rfl, r1, b1, hl1⟩ := hx
  obtain ⟨s2, l2, rfl, r2, b2, hl2⟩ := hy
  obtain ⟨a1, c1, rfl⟩ := r1.len
  obtain ⟨a2, c2, rfl⟩ := r2.len
  obtain ⟨i0, hi, hz0, hz1, hz2⟩ := info_parts info3
  obtain ⟨i5, hi5, hy0, hy1, hy2⟩ := info_parts info5
  have hs1 := signed_self z1
  have hs2 := signed_self z2
  generalize decide (z1 < 0) = d1 at *
  generalize decide (z2 < 0) = d2 at *
  have HR1 := Lib.hid (((r1.alloc (.cells #[.bool d1, .slice a1 l1.length c1] 24)).alloc (.cells #[.bool d2, .slice a2 l2.length c2] 24)).alloc (.cells #[.bool false, .slice none 0 0] 24))
  have HR2 := Lib.hid (((r2.alloc (.cells #[.bool d1, .slice a1 l1.length c1] 24)).alloc (.cells #[.bool d2, .slice a2 l2.length c2] 24)).alloc (.cells #[.bool false, .slice none 0 0] 24))
  have HB1 := Lib.hid b1
  have HB2 := Lib.hid b2
  have HS1 := Lib.hid hs1
  have HS2 := Lib.hid hs2
  clear r1 r2 b1 b2 hs1 hs2
  have HA : Hid (Below w.heap.size w (((w.alloc (.cells #[.bool d1, .slice a1 l1.length c1] 24)).alloc (.cells #[.bool d2, .slice a2 l2.length c2] 24)).alloc (.cells #[.bool false, .slice none 0 0] 24))) := (((Below.refl _ _).alloc (Nat.le_refl _) _).alloc (by simp) _).alloc (by simp; omega) _
  have hmk := fun w : World => run_make (P := Tryz.prog) w 92 3 i0 (.int .i64 0) Tryz.underlying92 hi hz0 .i64 .i64 ((l1.length : Int) + l2.length + 1) ((l1.length : Int) + l2.length + 1) (by omega) (by omega) (by rw [hz2]; omega) (by omega)
  simp only [hz1, show ((l1.length : Int) + l2.length + 1).toNat = l1.length + l2.length + 1 from by omega, Nat.mul_one] at hmk
  have HO := Lib.hid (ownI_made (((w.alloc (.cells #[.bool d1, .slice a1 l1.length c1] 24)).alloc (.cells #[.bool d2, .slice a2 l2.length c2] 24)).alloc (.cells #[.bool false, .slice none 0 0] 24)) (l1.length + l2.length + 1) (l1.length + l2.length + 1) (Nat.le_refl _) (by simp [maxLen]; omega))
  have HBW := Lib.hid ((Below.refl (w.heap.size + 3) (((w.alloc (.cells #[.bool d1, .slice a1 l1.length c1] 24)).alloc (.cells #[.bool d2, .slice a2 l2.length c2] 24)).alloc (.cells #[.bool false, .slice none 0 0] 24))).alloc (by simp) (.cells (madeCells #[Value.int .i64 0] (l1.length + l2.length + 1)) 3))
  obtain ⟨N, hN⟩ : ∃ N, N = l1.length + l2.length + 1 := ⟨_, rfl⟩
  rw [← hN] at HO HBW
  simp only [← hN] at hmk
  have HN := Lib.hid hN
  have hN2 : N ≤ 2001 := by omega
  clear hN
  have hlen1 : l1.length ≤ 1000 := by omega
  have hlen2 : l2.length ≤ 1000 := by omega
  go_enter Tryz.func34, Tryz.ntmps34
  go_wp2_with fail
  go_loopw [7, 8, 9, 10] (fun vi _ _ _ wr => ∃ i : Nat, vi = .int .i64 i ∧ i ≤ l1.length ∧ ∃ D, Hid (∀ d ∈ D, d < 256) ∧ Hid (dv D = lo l1 i * bv l2) ∧ Hid (OwnI (w.heap.size + 3) wr (w.heap.size + 3) N N D) ∧ Hid (Below (w.heap.size + 3) (((w.alloc (.cells #[.bool d1, .slice a1 l1.length c1] 24)).alloc (.cells #[.bool d2, .slice a2 l2.length c2] 24)).alloc (.cells #[.bool false, .slice none 0 0] 24)) wr)) (fun vi _ _ _ _ => l1.length - (intOf vi).toNat)
  case atStart => exact ⟨0, rfl, Nat.zero_le _, List.replicate N 0, fun d hd => by have := (List.mem_replicate.1 hd).2; omega, by show _ = _; simp [lo_zero, dv_zeros], by have := HO.out; simp only [World.size_alloc] at this; exact this, HBW.out⟩
  case round =>
    obtain ⟨i, rfl, hi1, D, HDL, HDV, HOr, HBr⟩ := hrel
    obtain ⟨⟨x0, x1, x2⟩, y0, y1, y2⟩ := later3 HBr.out (Nat.le_refl _)
    by_cases hlt : i < l1.length
    · have HIx : Hid (i < l1.length) := hlt
      have hxl := dg_lt l1 HB1.out.low i
      have HF1 : Hid (∀ (wq : World) (m : Nat), Row B .u8 wq (.slice a1 l1.length c1) l1 → Calls Tryz.prog 37 #[.slice a1 l1.length c1, .int .i64 i] (wq.drewN m) fun e w' => e = .returned (.int .i64 (dg l1 i : Nat)) ∧ wq.drewN m = w') := fun wq m h => f37_any _ l1 (by omega) HB1.out.low B i _ h
      have HLS := Lib.hid (lo_succ l1 i)
      have HMB := Lib.hid (mul_bound l1 l2 HB1.out.low HB2.out.low)
      go_wp2
      go_loopw [8, 9, 10] (fun vc vk _ wr => ∃ c k : Nat, vc = .int .i64 c ∧ vk = .int .i64 k ∧ c ≤ 255 ∧ k ≤ l2.length + 1 ∧ ∃ D, Hid (∀ d ∈ D, d < 256) ∧ Hid (dv D + c * 256 ^ (i + k) = lo l1 i * bv l2 + dg l1 i * 256 ^ i * lo l2 k) ∧ Hid (OwnI (w.heap.size + 3) wr (w.heap.size + 3) N N D) ∧ Hid (Below (w.heap.size + 3) (((w.alloc (.cells #[.bool d1, .slice a1 l1.length c1] 24)).alloc (.cells #[.bool d2, .slice a2 l2.length c2] 24)).alloc (.cells #[.bool false, .slice none 0 0] 24)) wr)) (fun _ vk _ _ => l2.length + 1 - (intOf vk).toNat)
      case atStart => exact ⟨0, 0, rfl, rfl, by omega, by omega, D, HDL.out, by show _ = _; rw [HDV.out]; simp [lo_zero], HOr.out, HBr.out⟩
      case round =>
        clear HDL HDV HOr HBr D x0 x1 x2 y0 y1 y2
        obtain ⟨c, k, rfl, rfl, hc, hk, D, HDL, HDV, HOr, HBr⟩ := hrel
        obtain ⟨⟨x0, x1, x2⟩, y0, y1, y2⟩ := later3 HBr.out (Nat.le_refl _)
        by_cases hgo : k < l2.length ∨ 0 < c
        · have hkl : k ≤ l2.length := by
            rcases hgo with h | h
            · omega
            · exact HMB.out _ _ _ _ HDV.out h
          have hjN : i + k < N := by have := HN.out; omega
          have hyl := dg_lt l2 HB2.out.low k
          have HF2 : Hid (∀ (wq : World) (m : Nat), Row B .u8 wq (.slice a2 l2.length c2) l2 → Calls Tryz.prog 37 #[.slice a2 l2.length c2, .int .i64 k] (wq.drewN m) fun e w' => e = .returned (.int .i64 (dg l2 k : Nat)) ∧ wq.drewN m = w') := fun wq m h => f37_any _ l2 (by omega) HB2.out.low B k _ h
          have zc := HOr.out.cell (i + k) hjN
          have zf := HOr.out.free (i + k)
          have hDl : D.getD (i + k) 0 < 256 := by
            by_cases h : i + k < D.length
            · simp [h]; exact HDL.out _ (List.getElem_mem h)
            · simp [h]
          have hxy : dg l1 i * dg l2 k ≤ 255 * 255 := Nat.mul_le_mul (by omega) (by omega)
          have HDL' : Hid (∀ d ∈ D.set (i + k) ((D.getD (i + k) 0 + dg l1 i * dg l2 k + c) % 256), d < 256) := fun d hd => by
            rcases List.mem_or_eq_of_mem_set hd with h | h
            · exact HDL.out d h
            · rw [h]; exact Nat.mod_lt _ (by decide)
          have HDV' : Hid (dv (D.set (i + k) ((D.getD (i + k) 0 + dg l1 i * dg l2 k + c) % 256)) + (D.getD (i + k) 0 + dg l1 i * dg l2 k + c) / 256 * 256 ^ (i + (k + 1)) = lo l1 i * bv l2 + dg l1 i * 256 ^ i * lo l2 (k + 1)) := by
            show _ = _
            rw [lo_succ l2 k, Nat.mul_add, ← Nat.add_assoc (lo l1 i * bv l2), ← Nat.add_assoc i k 1, Nat.pow_succ]
            exact mul_step _ _ _ _ _ _ _ _ _ (dv_set D (i + k) _ (by rw [HOr.out.len]; exact hjN)) HDV.out (mul_eq _ _ i k)
          have HO' := Lib.hid (HOr.out.stored (i + k) ((D.getD (i + k) 0 + dg l1 i * dg l2 k + c) % 256))
          have HRa := Lib.hid (HR1.out.below HBr.out (by simp))
          have HRb := Lib.hid (HR2.out.below HBr.out (by simp))
          generalize D.getD (i + k) 0 = y at *
          generalize dg l1 i = p at *
          generalize dg l2 k = q at *
          clear HDL HDV HLS HMB
          have HO'' : Hid (∀ nq, OwnI (w.heap.size + 3) ((wr.drewN nq).setCell ⟨w.heap.size + 1 + 1 + 1, i + k, none⟩ (.int .i64 (((y : Int) + (p : Int) * (q : Int) + (c : Int)) % 256))) (w.heap.size + 3) N N (D.set (i + k) ((y + p * q + c) % 256))) := fun nq => by
            have := (HOr.out.draws nq).stored (i + k) ((y + p * q + c) % 256)
            push_cast at this
            exact this
          rcases (show k < l2.length ∨ (¬ k < l2.length ∧ 0 < c) by omega) with hgo | ⟨hgo, hcp⟩
          · go_wp2
            go_quiet ((first | (go_at_call_of 37 (Value.slice a1 l1.length c1); exact quiet_left (HF1.out _ _ HRa.out)) | (go_at_call 37; exact quiet_left (HF2.out _ _ HRb.out))))
            go_wp2
            exact ⟨⟨(y + p * q + c) / 256, k + 1, congrArg (Value.int .i64) (by push_cast; rfl), by go_num, by omega, by omega, _, HDL', HDV', HO''.out _, (below_drewN HBr.out _).setCell (p := ⟨w.heap.size + 3, i + k, none⟩) (Nat.le_refl _) _⟩, by simp [intOf]; omega⟩
          · go_wp2
            go_quiet ((first | (go_at_call_of 37 (Value.slice a1 l1.length c1); exact quiet_left (HF1.out _ _ HRa.out)) | (go_at_call 37; exact quiet_left (HF2.out _ _ HRb.out))))
            go_wp2
            exact ⟨⟨(y + p * q + c) / 256, k + 1, congrArg (Value.int .i64) (by push_cast; rfl), by go_num, by omega, by omega, _, HDL', HDV', HO''.out _, (below_drewN HBr.out _).setCell (p := ⟨w.heap.size + 3, i + k, none⟩) (Nat.le_refl _) _⟩, by simp [intOf]; omega⟩
        · have hc0 : c = 0 := by omega
          have hk0 : ¬ k < l2.length := by omega
          subst hc0
          have HDV' : Hid (dv D = lo l1 (i + 1) * bv l2) := by
            have := HDV.out
            rw [lo_all l2 k (by omega)] at this
            show _ = _
            rw [lo_succ, Nat.add_mul]; omega
          go_wp2
          go_roundw
          case rel => exact ⟨i + 1, by go_num, by omega, D, HDL, HDV', HOr, HBr⟩
          case measure => simp [intOf]; omega
    · obtain rfl : i = l1.length := by omega
      have hmk8 := fun w : World => run_make (P := Tryz.prog) w 22 5 i5 (.int .u8 0) Tryz.underlying22 hi5 hy0 .i64 .i64 ((l1.length : Int) + l2.length) ((l1.length : Int) + l2.length) (by omega) (by omega) (by rw [hy2]; omega) (by omega)
      simp only [hy1, show ((l1.length : Int) + l2.length).toNat = l1.length + l2.length from by omega, Nat.mul_one] at hmk8
      have HOB := Lib.hid (ownB_made wr (l1.length + l2.length) (l1.length + l2.length) (Nat.le_refl _) (by simp [maxLen]; omega))
      have HBB := Lib.hid ((Below.refl wr.heap.size wr).alloc (Nat.le_refl _) (.cells (madeCells #[Value.int .u8 0] (l1.length + l2.length)) 5))
      obtain ⟨M, hM⟩ : ∃ M, M = l1.length + l2.length := ⟨_, rfl⟩
      rw [← hM] at HOB HBB
      simp only [← hM] at hmk8
      have HMN : Hid (N = M + 1) := by show _ = _; rw [hM]; exact HN.out
      have HM := Lib.hid hM
      have hM2 : M ≤ 2000 := by omega
      have eM : (l1.length : Int) + (l2.length : Int) = (M : Int) := by omega
      clear hM
      have hwr : w.heap.size + 3 ≤ wr.heap.size := Nat.le_of_lt HOr.out.low.2
      have hmk9 := hmk8
      simp only [eM] at hmk9
      go_wp2
      go_loopw [12] (fun vi w2 => ∃ p : Nat, vi = .int .i64 p ∧ p ≤ M ∧ ∃ ys, Hid (Put M p (dv (D.take p)) ys) ∧ Hid (OwnB wr.heap.size w2 wr.heap.size M M ys) ∧ Hid (Below wr.heap.size wr w2)) (fun vi _ => M - (intOf vi).toNat)
      case atStart => exact ⟨0, rfl, Nat.zero_le _, _, by show Put _ _ _ _; simpa [dv] using Put.start M, HOB.out, HBB.out⟩
      case round =>
        obtain ⟨p, rfl, hp, ys, HP, HOy, HBy⟩ := hrel
        by_cases hpM : p < M
        · have HDp := Lib.hid (dv_take_succ D p (by rw [HOr.out.len, HMN.out]; omega))
          have zd := (HOr.out.below HBy.out (Nat.le_refl _)).cell p (by rw [HMN.out]; omega)
          have hyl : D.getD p 0 < 256 := by
            by_cases h : p < D.length
            · simp [h]; exact HDL.out _ (List.getElem_mem h)
            · simp [h]
          have eq : ((M : Int) - 1 - p) = ((M - 1 - p : Nat) : Int) := by omega
          have hq : M - 1 - p < M := by omega
          have HI : Hid (M - 1 - p + p + 1 = M) := by show _ = _; omega
          have hpN : p < N := by have := HMN.out; omega
          generalize M - 1 - p = q at *
          have zc := HOy.out.cell q hq
          have zf := HOy.out.free q
          have HO' := Lib.hid (HOy.out.stored q (D.getD p 0))
          have HP' : Hid (Put M (p + 1) (dv (D.take (p + 1))) (ys.set q (D.getD p 0))) := by
            show Put _ _ _ _
            rw [HDp.out]
            exact HP.out.step _ hyl q HI.out
          generalize ys.getD q 0 = yq at *
          generalize D.getD p 0 = y at *
          clear HDp HP
          go_wp2
          exact ⟨⟨p + 1, by go_num, by omega, _, HP', HO'.out, HBy.out.setCell (p := ⟨_, q, none⟩) (Nat.le_refl _) _⟩, by simp [intOf]; omega⟩
        · obtain rfl : p = M := by omega
          have HV : Hid (bv ys = z1.natAbs * z2.natAbs) := by
            have h1 := HP.out.sum
            rw [Nat.sub_self] at h1
            have h2 := dv_take_succ D p (by rw [HOr.out.len, HMN.out]; omega)
            have h3 : D.take (p + 1) = D := List.take_of_length_le (by rw [HOr.out.len, HMN.out]; omega)
            have h4 := HDV.out
            rw [lo_all l1 l1.length (Nat.le_refl _)] at h4
            have h5 : bv l1 * bv l2 < 256 ^ l1.length * 256 ^ l2.length := Nat.mul_lt_mul'' (bv_lt l1 HB1.out.low) (bv_lt l2 HB2.out.low)
            rw [← Nat.pow_add, ← HM.out] at h5
            rw [h3, h4] at h2
            have h6 : D.getD p 0 = 0 := by
              rcases Nat.eq_zero_or_pos (D.getD p 0) with h | h
              · exact h
              · have : 1 * 256 ^ p ≤ D.getD p 0 * 256 ^ p := Nat.mul_le_mul_right _ h
                omega
            rw [h6] at h2
            show bv ys = _
            rw [← HB1.out.val, ← HB2.out.val, show bv ys = bv (ys.drop 0) from rfl, h1]
            omega
          have HYL : Hid (∀ d ∈ ys, d < 256) := HP.out.low
          have hylen := Lib.hid HOy.out.len
          obtain ⟨⟨x0, x1, x2⟩, y0, y1, y2⟩ := later3 (HBr.out.trans (HBy.out.mono hwr)) (Nat.le_refl _)
          have HB3 := Lib.hid (HBr.out.trans (HBy.out.mono hwr))
          have HF := Lib.hid (fun d => f11_any d _ ys (by rw [hylen.out]; omega) HYL.out _ _ HOy.out.row)
          have hz3 := HBy.out.size
          clear HP HDV HBy HBr
          go_wp2_with fail
          refine (HF.out _).mono ?_
          rintro e w3 ⟨v3, rfl, hs3, hbel⟩
          obtain ⟨d3, a3, k3, c3, rfl⟩ := hs3.shape
          have HQ : Hid (signed (!d1 == d2) (bv ys) = z1 * z2) := by
            show _ = _
            rw [HV.out, signed_mul, ← HS1.out, ← HS2.out]
          have HL : Hid ((strip ys).length ≤ k1 + k2) := by
            have h1 := strip_len ys
            have h2 := hylen.out
            have h3 := HM.out
            show _ ≤ _; omega
          rw [HQ.out] at hs3
          have HX3 := Lib.hid hs3
          have HB4 := Lib.hid (HB3.out.trans (hbel.mono (by omega)))
          obtain ⟨⟨p0, p1, p2⟩, q0, q1, q2⟩ := later3 HB4.out (Nat.le_refl _)
          have HE := Lib.hid (fun u1 u2 => add_end HA.out HB4.out HX3.out (by omega) HL.out u1 u2)
          clear hs3 hbel x0 x1 x2 y0 y1 y2 HX3 HB3 HR1 HR2 hmk hmk8 hmk9
          go_wp2
          refine bodyPost_ret (v := .agg #[.bool d3, .slice a3 k3 c3]) (by simp [results, Tryz.results34, go_sem, p2]) rfl ?_
          exact ⟨_, rfl, (HE.out _ _).1, (HE.out _ _).2⟩
end Go.Proofs.YtllgogkjcbdpkaaGreatDoor.Z
