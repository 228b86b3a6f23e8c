/- Walks of the package's white space. (Printed by mkr3.py.) -/
import Derived.Test.YtgcofpmhojplhaaGreatDoorR2
namespace Go.Proofs.YtgcofpmhojplhaaGreatDoor
open Go.RowKit

def rows : List (Nat × Nat × Nat) := [(9, 13, 1), (32, 133, 101), (160, 5760, 5600), (8192, 8202, 1), (8232, 8233, 1), (8239, 8287, 48), (12288, 12288, 1)]
def amongL : List (Nat × Nat × Nat) → Nat → Bool
  | [], _ => false
  | (a, b, s) :: t, x => if x < a then false else if x ≤ b then (x - a) % s == 0 else amongL t x
theorem ret_bool {a b : Bool} (h : a = b) : Ending.returned (.bool a) = .returned (.bool b) := by rw [h]
set_option maxRecDepth 100000 in
set_option maxHeartbeats 4000000 in
theorem f89_space (g x : Nat) (h0 : 128 ≤ x) (h1 : x ≤ 1114111) (w : World) (hg : g < w.heap.size) (hc : w.cell? ⟨g, 0, none⟩ = some (.int .i32 9) ∧ w.cell? ⟨g, 1, none⟩ = some (.int .i32 13) ∧ w.cell? ⟨g, 2, none⟩ = some (.int .i32 1) ∧ w.cell? ⟨g, 3, none⟩ = some (.int .i32 32) ∧ w.cell? ⟨g, 4, none⟩ = some (.int .i32 133) ∧ w.cell? ⟨g, 5, none⟩ = some (.int .i32 101) ∧ w.cell? ⟨g, 6, none⟩ = some (.int .i32 160) ∧ w.cell? ⟨g, 7, none⟩ = some (.int .i32 5760) ∧ w.cell? ⟨g, 8, none⟩ = some (.int .i32 5600) ∧ w.cell? ⟨g, 9, none⟩ = some (.int .i32 8192) ∧ w.cell? ⟨g, 10, none⟩ = some (.int .i32 8202) ∧ w.cell? ⟨g, 11, none⟩ = some (.int .i32 1) ∧ w.cell? ⟨g, 12, none⟩ = some (.int .i32 8232) ∧ w.cell? ⟨g, 13, none⟩ = some (.int .i32 8233) ∧ w.cell? ⟨g, 14, none⟩ = some (.int .i32 1) ∧ w.cell? ⟨g, 15, none⟩ = some (.int .i32 8239) ∧ w.cell? ⟨g, 16, none⟩ = some (.int .i32 8287) ∧ w.cell? ⟨g, 17, none⟩ = some (.int .i32 48) ∧ w.cell? ⟨g, 18, none⟩ = some (.int .i32 12288) ∧ w.cell? ⟨g, 19, none⟩ = some (.int .i32 12288) ∧ w.cell? ⟨g, 20, none⟩ = some (.int .i32 1)) :
    Calls Tryz.prog 89 #[.slice (some ⟨g, 0, none⟩) 7 7, .int .i32 x] w fun e w' => e = .returned (.bool (amongL rows x)) ∧ Below w.heap.size w w' := by
  have HC := Lib.hid hc
  have HG := Lib.hid hg
  clear hc hg
  go_enter Tryz.func89, Tryz.ntmps89
  go_wp2
  go_loopw [9] (fun i wr => ∃ k : Nat, k ≤ 7 ∧ i = .int .i64 k ∧ Hid (amongL (rows.drop k) x = amongL rows x) ∧ Hid (Below w.heap.size w wr)) (fun i _ => 7 - (RowKit.intOf i).toNat)
  case atStart => exact ⟨0, by omega, rfl, rfl, Below.refl _ _⟩
  case round =>
    obtain ⟨k, hk, rfl, HA, HB⟩ := hrel
    rcases (show k = 0 ∨ k = 1 ∨ k = 2 ∨ k = 3 ∨ k = 4 ∨ k = 5 ∨ k = 6 ∨ k = 7 by omega) with rfl | rfl | rfl | rfl | rfl | rfl | rfl | rfl
    · have c0 : wr.cell? ⟨g, 0, none⟩ = some (.int .i32 9) := (HB.out.cell (p := ⟨g, 0, none⟩) HG.out).trans HC.out.1
      have c1 : wr.cell? ⟨g, 1, none⟩ = some (.int .i32 13) := (HB.out.cell (p := ⟨g, 1, none⟩) HG.out).trans HC.out.2.1
      have c2 : wr.cell? ⟨g, 2, none⟩ = some (.int .i32 1) := (HB.out.cell (p := ⟨g, 2, none⟩) HG.out).trans HC.out.2.2.1
      have hlt : ¬ x < 9 := by omega
      have hle : ¬ x ≤ 13 := by omega
      · have hv : Hid (amongL (rows.drop 1) x = amongL rows x) := by show _ = _; rw [← HA.out]; simp only [rows, List.drop_succ_cons, List.drop_zero, amongL, if_neg hlt, if_neg hle]
        go_wp2
        go_roundw
        case rel => exact ⟨1, by omega, rfl, hv.out, HB.out.alloc HB.out.size _⟩
        case measure => simp [RowKit.intOf]
    · have c0 : wr.cell? ⟨g, 3, none⟩ = some (.int .i32 32) := (HB.out.cell (p := ⟨g, 3, none⟩) HG.out).trans HC.out.2.2.2.1
      have c1 : wr.cell? ⟨g, 4, none⟩ = some (.int .i32 133) := (HB.out.cell (p := ⟨g, 4, none⟩) HG.out).trans HC.out.2.2.2.2.1
      have c2 : wr.cell? ⟨g, 5, none⟩ = some (.int .i32 101) := (HB.out.cell (p := ⟨g, 5, none⟩) HG.out).trans HC.out.2.2.2.2.2.1
      have hlt : ¬ x < 32 := by omega
      by_cases hle : x ≤ 133
      · have hv : Hid (amongL rows x = ((x - 32) % 101 == 0)) := by show _ = _; rw [← HA.out]; simp only [rows, List.drop_succ_cons, List.drop_zero, amongL, if_neg hlt, if_pos hle]
        obtain ⟨d, hd⟩ : ∃ d, x = 32 + d := ⟨x - 32, by omega⟩
        have hm : Hid (((x - 32) % 101 == 0) = decide (d % 101 = 0)) := by
          show _ = _
          rw [hd, Nat.add_sub_cancel_left]
          by_cases h : d % 101 = 0 <;> simp [h]
        go_wp2
        go_ret
        refine ⟨ret_bool ?_, HB.out.alloc HB.out.size _⟩
        rw [hv.out, hm.out]
        first
          | rfl
          | (rw [Bool.eq_iff_iff]; simp; omega)
          | (rw [Bool.eq_iff_iff]; simp)
      · have hv : Hid (amongL (rows.drop 2) x = amongL rows x) := by show _ = _; rw [← HA.out]; simp only [rows, List.drop_succ_cons, List.drop_zero, amongL, if_neg hlt, if_neg hle]
        go_wp2
        go_roundw
        case rel => exact ⟨2, by omega, rfl, hv.out, HB.out.alloc HB.out.size _⟩
        case measure => simp [RowKit.intOf]
    · have c0 : wr.cell? ⟨g, 6, none⟩ = some (.int .i32 160) := (HB.out.cell (p := ⟨g, 6, none⟩) HG.out).trans HC.out.2.2.2.2.2.2.1
      have c1 : wr.cell? ⟨g, 7, none⟩ = some (.int .i32 5760) := (HB.out.cell (p := ⟨g, 7, none⟩) HG.out).trans HC.out.2.2.2.2.2.2.2.1
      have c2 : wr.cell? ⟨g, 8, none⟩ = some (.int .i32 5600) := (HB.out.cell (p := ⟨g, 8, none⟩) HG.out).trans HC.out.2.2.2.2.2.2.2.2.1
      by_cases hlt : x < 160
      · have hv : Hid (amongL rows x = false) := by show _ = _; rw [← HA.out]; simp only [rows, List.drop_succ_cons, List.drop_zero, amongL, if_pos hlt]
        go_wp2
        go_ret
        exact ⟨by rw [hv.out]; rfl, HB.out.alloc HB.out.size _⟩
      · by_cases hle : x ≤ 5760
        · have hv : Hid (amongL rows x = ((x - 160) % 5600 == 0)) := by show _ = _; rw [← HA.out]; simp only [rows, List.drop_succ_cons, List.drop_zero, amongL, if_neg hlt, if_pos hle]
          obtain ⟨d, hd⟩ : ∃ d, x = 160 + d := ⟨x - 160, by omega⟩
          have hm : Hid (((x - 160) % 5600 == 0) = decide (d % 5600 = 0)) := by
            show _ = _
            rw [hd, Nat.add_sub_cancel_left]
            by_cases h : d % 5600 = 0 <;> simp [h]
          go_wp2
          go_ret
          refine ⟨ret_bool ?_, HB.out.alloc HB.out.size _⟩
          rw [hv.out, hm.out]
          first
            | rfl
            | (rw [Bool.eq_iff_iff]; simp; omega)
            | (rw [Bool.eq_iff_iff]; simp)
        · have hv : Hid (amongL (rows.drop 3) x = amongL rows x) := by show _ = _; rw [← HA.out]; simp only [rows, List.drop_succ_cons, List.drop_zero, amongL, if_neg hlt, if_neg hle]
          go_wp2
          go_roundw
          case rel => exact ⟨3, by omega, rfl, hv.out, HB.out.alloc HB.out.size _⟩
          case measure => simp [RowKit.intOf]
    · have c0 : wr.cell? ⟨g, 9, none⟩ = some (.int .i32 8192) := (HB.out.cell (p := ⟨g, 9, none⟩) HG.out).trans HC.out.2.2.2.2.2.2.2.2.2.1
      have c1 : wr.cell? ⟨g, 10, none⟩ = some (.int .i32 8202) := (HB.out.cell (p := ⟨g, 10, none⟩) HG.out).trans HC.out.2.2.2.2.2.2.2.2.2.2.1
      have c2 : wr.cell? ⟨g, 11, none⟩ = some (.int .i32 1) := (HB.out.cell (p := ⟨g, 11, none⟩) HG.out).trans HC.out.2.2.2.2.2.2.2.2.2.2.2.1
      by_cases hlt : x < 8192
      · have hv : Hid (amongL rows x = false) := by show _ = _; rw [← HA.out]; simp only [rows, List.drop_succ_cons, List.drop_zero, amongL, if_pos hlt]
        go_wp2
        go_ret
        exact ⟨by rw [hv.out]; rfl, HB.out.alloc HB.out.size _⟩
      · by_cases hle : x ≤ 8202
        · have hv : Hid (amongL rows x = ((x - 8192) % 1 == 0)) := by show _ = _; rw [← HA.out]; simp only [rows, List.drop_succ_cons, List.drop_zero, amongL, if_neg hlt, if_pos hle]
          obtain ⟨d, hd⟩ : ∃ d, x = 8192 + d := ⟨x - 8192, by omega⟩
          have hm : Hid (((x - 8192) % 1 == 0) = decide (d % 1 = 0)) := by
            show _ = _
            rw [hd, Nat.add_sub_cancel_left]
            by_cases h : d % 1 = 0 <;> simp [h]
          go_wp2
          go_ret
          refine ⟨ret_bool ?_, HB.out.alloc HB.out.size _⟩
          rw [hv.out, hm.out]
          first
            | rfl
            | (rw [Bool.eq_iff_iff]; simp; omega)
            | (rw [Bool.eq_iff_iff]; simp)
        · have hv : Hid (amongL (rows.drop 4) x = amongL rows x) := by show _ = _; rw [← HA.out]; simp only [rows, List.drop_succ_cons, List.drop_zero, amongL, if_neg hlt, if_neg hle]
          go_wp2
          go_roundw
          case rel => exact ⟨4, by omega, rfl, hv.out, HB.out.alloc HB.out.size _⟩
          case measure => simp [RowKit.intOf]
    · have c0 : wr.cell? ⟨g, 12, none⟩ = some (.int .i32 8232) := (HB.out.cell (p := ⟨g, 12, none⟩) HG.out).trans HC.out.2.2.2.2.2.2.2.2.2.2.2.2.1
      have c1 : wr.cell? ⟨g, 13, none⟩ = some (.int .i32 8233) := (HB.out.cell (p := ⟨g, 13, none⟩) HG.out).trans HC.out.2.2.2.2.2.2.2.2.2.2.2.2.2.1
      have c2 : wr.cell? ⟨g, 14, none⟩ = some (.int .i32 1) := (HB.out.cell (p := ⟨g, 14, none⟩) HG.out).trans HC.out.2.2.2.2.2.2.2.2.2.2.2.2.2.2.1
      by_cases hlt : x < 8232
      · have hv : Hid (amongL rows x = false) := by show _ = _; rw [← HA.out]; simp only [rows, List.drop_succ_cons, List.drop_zero, amongL, if_pos hlt]
        go_wp2
        go_ret
        exact ⟨by rw [hv.out]; rfl, HB.out.alloc HB.out.size _⟩
      · by_cases hle : x ≤ 8233
        · have hv : Hid (amongL rows x = ((x - 8232) % 1 == 0)) := by show _ = _; rw [← HA.out]; simp only [rows, List.drop_succ_cons, List.drop_zero, amongL, if_neg hlt, if_pos hle]
          obtain ⟨d, hd⟩ : ∃ d, x = 8232 + d := ⟨x - 8232, by omega⟩
          have hm : Hid (((x - 8232) % 1 == 0) = decide (d % 1 = 0)) := by
            show _ = _
            rw [hd, Nat.add_sub_cancel_left]
            by_cases h : d % 1 = 0 <;> simp [h]
          go_wp2
          go_ret
          refine ⟨ret_bool ?_, HB.out.alloc HB.out.size _⟩
          rw [hv.out, hm.out]
          first
            | rfl
            | (rw [Bool.eq_iff_iff]; simp; omega)
            | (rw [Bool.eq_iff_iff]; simp)
        · have hv : Hid (amongL (rows.drop 5) x = amongL rows x) := by show _ = _; rw [← HA.out]; simp only [rows, List.drop_succ_cons, List.drop_zero, amongL, if_neg hlt, if_neg hle]
          go_wp2
          go_roundw
          case rel => exact ⟨5, by omega, rfl, hv.out, HB.out.alloc HB.out.size _⟩
          case measure => simp [RowKit.intOf]
    · have c0 : wr.cell? ⟨g, 15, none⟩ = some (.int .i32 8239) := (HB.out.cell (p := ⟨g, 15, none⟩) HG.out).trans HC.out.2.2.2.2.2.2.2.2.2.2.2.2.2.2.2.1
      have c1 : wr.cell? ⟨g, 16, none⟩ = some (.int .i32 8287) := (HB.out.cell (p := ⟨g, 16, none⟩) HG.out).trans HC.out.2.2.2.2.2.2.2.2.2.2.2.2.2.2.2.2.1
      have c2 : wr.cell? ⟨g, 17, none⟩ = some (.int .i32 48) := (HB.out.cell (p := ⟨g, 17, none⟩) HG.out).trans HC.out.2.2.2.2.2.2.2.2.2.2.2.2.2.2.2.2.2.1
      by_cases hlt : x < 8239
      · have hv : Hid (amongL rows x = false) := by show _ = _; rw [← HA.out]; simp only [rows, List.drop_succ_cons, List.drop_zero, amongL, if_pos hlt]
        go_wp2
        go_ret
        exact ⟨by rw [hv.out]; rfl, HB.out.alloc HB.out.size _⟩
      · by_cases hle : x ≤ 8287
        · have hv : Hid (amongL rows x = ((x - 8239) % 48 == 0)) := by show _ = _; rw [← HA.out]; simp only [rows, List.drop_succ_cons, List.drop_zero, amongL, if_neg hlt, if_pos hle]
          obtain ⟨d, hd⟩ : ∃ d, x = 8239 + d := ⟨x - 8239, by omega⟩
          have hm : Hid (((x - 8239) % 48 == 0) = decide (d % 48 = 0)) := by
            show _ = _
            rw [hd, Nat.add_sub_cancel_left]
            by_cases h : d % 48 = 0 <;> simp [h]
          go_wp2
          go_ret
          refine ⟨ret_bool ?_, HB.out.alloc HB.out.size _⟩
          rw [hv.out, hm.out]
          first
            | rfl
            | (rw [Bool.eq_iff_iff]; simp; omega)
            | (rw [Bool.eq_iff_iff]; simp)
        · have hv : Hid (amongL (rows.drop 6) x = amongL rows x) := by show _ = _; rw [← HA.out]; simp only [rows, List.drop_succ_cons, List.drop_zero, amongL, if_neg hlt, if_neg hle]
          go_wp2
          go_roundw
          case rel => exact ⟨6, by omega, rfl, hv.out, HB.out.alloc HB.out.size _⟩
          case measure => simp [RowKit.intOf]
    · have c0 : wr.cell? ⟨g, 18, none⟩ = some (.int .i32 12288) := (HB.out.cell (p := ⟨g, 18, none⟩) HG.out).trans HC.out.2.2.2.2.2.2.2.2.2.2.2.2.2.2.2.2.2.2.1
      have c1 : wr.cell? ⟨g, 19, none⟩ = some (.int .i32 12288) := (HB.out.cell (p := ⟨g, 19, none⟩) HG.out).trans HC.out.2.2.2.2.2.2.2.2.2.2.2.2.2.2.2.2.2.2.2.1
      have c2 : wr.cell? ⟨g, 20, none⟩ = some (.int .i32 1) := (HB.out.cell (p := ⟨g, 20, none⟩) HG.out).trans HC.out.2.2.2.2.2.2.2.2.2.2.2.2.2.2.2.2.2.2.2.2
      by_cases hlt : x < 12288
      · have hv : Hid (amongL rows x = false) := by show _ = _; rw [← HA.out]; simp only [rows, List.drop_succ_cons, List.drop_zero, amongL, if_pos hlt]
        go_wp2
        go_ret
        exact ⟨by rw [hv.out]; rfl, HB.out.alloc HB.out.size _⟩
      · by_cases hle : x ≤ 12288
        · have hv : Hid (amongL rows x = ((x - 12288) % 1 == 0)) := by show _ = _; rw [← HA.out]; simp only [rows, List.drop_succ_cons, List.drop_zero, amongL, if_neg hlt, if_pos hle]
          obtain ⟨d, hd⟩ : ∃ d, x = 12288 + d := ⟨x - 12288, by omega⟩
          have hm : Hid (((x - 12288) % 1 == 0) = decide (d % 1 = 0)) := by
            show _ = _
            rw [hd, Nat.add_sub_cancel_left]
            by_cases h : d % 1 = 0 <;> simp [h]
          go_wp2
          go_ret
          refine ⟨ret_bool ?_, HB.out.alloc HB.out.size _⟩
          rw [hv.out, hm.out]
          first
            | rfl
            | (rw [Bool.eq_iff_iff]; simp; omega)
            | (rw [Bool.eq_iff_iff]; simp)
        · have hv : Hid (amongL (rows.drop 7) x = amongL rows x) := by show _ = _; rw [← HA.out]; simp only [rows, List.drop_succ_cons, List.drop_zero, amongL, if_neg hlt, if_neg hle]
          go_wp2
          go_roundw
          case rel => exact ⟨7, by omega, rfl, hv.out, HB.out.alloc HB.out.size _⟩
          case measure => simp [RowKit.intOf]
    · have hv : Hid (amongL rows x = false) := by show _ = _; rw [← HA.out]; rfl
      go_wp2
      go_ret
      exact ⟨by rw [hv.out]; rfl, HB.out⟩
end Go.Proofs.YtgcofpmhojplhaaGreatDoor
