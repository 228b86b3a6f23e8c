/- A natural number of the package shifted into itself. -/
import Derived.Test.YtllgogkjcbdpkaaGreatDoorRh
import Derived.Test.YtllgogkjcbdpkaaGreatDoorMP
import Derived.Test.YtllgogkjcbdpkaaGreatDoorZBig14
namespace Go.Proofs.YtllgogkjcbdpkaaGreatDoor.Z
open Go.RowKit

set_option maxRecDepth 100000 in
theorem f62_grow (a : Option Addr) (m c : Nat) (z : Int) (h1 : 2 ≤ z) (hc : (c : Int) < z) (hn : z ≤ 1000000) (w : World) : Calls Tryz.prog 62 #[.slice a m c, .int .i64 z] w (MakesOwn z.toNat (List.replicate z.toNat 0) w) := by
  obtain ⟨n, rfl⟩ : ∃ n : Nat, z = (n : Int) := ⟨z.toNat, by omega⟩
  rw [Int.toNat_natCast]
  obtain ⟨i0, hi, hz0, hz1, hz2⟩ := info_parts info85
  have hmk := fun w : World => run_make (P := Tryz.prog) w 77 85 i0 (.int .u64 0) Tryz.underlying77 hi hz0 .i64 .i64 (n : Int) ((n : Int) + 4) (by omega) (by omega) (by rw [hz2]; omega) (by omega)
  simp only [hz1, show ((n : Int) + 4).toNat = n + 4 from by omega, Int.toNat_natCast, Nat.mul_one] at hmk
  have HO := Lib.hid (own_made w n (n + 4) (by omega) (by simp [maxLen]; omega))
  have hne : ((n : Int) == 1) = false := by rw [beq_eq_false_iff_ne]; omega
  have hcn : decide (n ≤ c) = false := by simp; omega
  go_enter Tryz.func62, Tryz.ntmps62
  go_wp2
  go_ret
  exact ⟨_, _, rfl, HO.out, (Below.refl _ _).alloc (Nat.le_refl _) _⟩
set_option maxRecDepth 100000 in
set_option maxHeartbeats 2000000 in
theorem f87_self (B gx off c : Nat) (xs : List Nat) (z n : Nat) (h0 : 0 < xs.length) (hl : xs.length ≤ 900) (hn : n ≠ 0) (hn2 : n ≤ 4096) (w : World) (hr : Row B .u64 w (.slice (some ⟨gx, off, none⟩) xs.length c) xs) (hgx : gx < w.heap.size) (hx : IsW z xs) (hcx : c ≤ xs.length) :
    Calls Tryz.prog 87 #[.slice (some ⟨gx, off, none⟩) xs.length c, .slice (some ⟨gx, off, none⟩) xs.length c, .int .u64 n] w (MakesNat (z * 2 ^ n) w) := by
  have HR := Lib.hid hr
  have HX := Lib.hid hx
  clear hr hx
  have hne : ((n : Int) == 0) = false := by rw [beq_eq_false_iff_ne]; omega
  have hne2 : ((xs.length : Int) == 0) = false := by rw [beq_eq_false_iff_ne]; omega
  obtain ⟨q, hq⟩ : ∃ q, q = n / 64 := ⟨_, rfl⟩
  obtain ⟨s, hs⟩ : ∃ s, s = n % 64 := ⟨_, rfl⟩
  have eq : (n : Int) / 64 = (q : Int) := by omega
  have es : (n : Int) % 64 = (s : Int) := by omega
  have hs2 : s < 64 := by omega
  have hq2 : q ≤ 64 := by omega
  have HN : Hid (n = 64 * q + s) := by show _ = _; omega
  clear hq hs
  go_enter Tryz.func87, Tryz.ntmps87
  go_wp2_with fail
  refine (f62_grow _ _ _ _ (by omega) (by omega) (by omega) _).mono ?_
  rintro e w1 ⟨g, c1, rfl, ho, hb⟩
  have eN : ((xs.length : Int) + (q : Int) + 1).toNat = xs.length + q + 1 := by omega
  rw [eN] at ho
  rw [eN]
  have hcap := ho.cap
  have hg := ho.low
  have HO := Lib.hid ho
  have HB := Lib.hid hb
  have hgx2 : gx ≠ g := by omega
  have HR1 := Lib.hid (HR.out.below hb (Nat.le_refl _))
  have es2 : (xs.length : Int) + (q : Int) - (xs.length : Int) = (q : Int) := by omega
  clear ho hb eN
  by_cases hs0 : s = 0
  · subst hs0
    have HZ : Hid ((List.replicate (xs.length + q + 1) 0).take q ++ (xs ++ (List.replicate (xs.length + q + 1) 0).drop (q + xs.length)) = List.replicate q 0 ++ (xs ++ [0])) := by
      show _ = _
      rw [List.take_replicate, List.drop_replicate, Nat.min_eq_left (by omega), show xs.length + q + 1 - (q + xs.length) = 1 from by omega]; rfl
    have K2 : Hid (xs.length = xs.length + q - q) := by show _ = _; omega
    have K1 : Hid (q + xs.length ≤ xs.length + q + 1) := by show _ ≤ _; omega
    generalize List.replicate (xs.length + q + 1) 0 = Z0 at *
    go_wp2_with (refine wpList_copy_row rfl (.tmp 46) (.tmp 47) 77 77 rfl Tryz.underlying77 (some ⟨g, q, none⟩) (xs.length + q - q) (c1 - q) rfl _ rfl w.heap.size g (xs.length + q + 1) c1 Z0 HO.out B xs HR1.out q (fun _ => rfl) K2.out K1.out ?_)
    intro w2 ho2 hg2
    rw [HZ.out] at ho2
    have HO2 := Lib.hid ho2
    have HB2 : Hid (Below w.heap.size w w2) := HB.out.grown hg2 (by omega) (by intro k hk; cases hk; exact hg.1)
    have zc := ho2.cell (xs.length + q) (by omega)
    have zf := ho2.free (xs.length + q)
    generalize (List.replicate q 0 ++ (xs ++ [0])).getD (xs.length + q) 0 = z0 at *
    clear ho2 hg2
    have HO3 := Lib.hid (HO2.out.stored (xs.length + q) 0)
    rw [set_end q xs.length 0 xs rfl] at HO3
    have HB3 := Lib.hid (HB2.out.setCell (p := ⟨g, xs.length + q, none⟩) hg.1 (.int .u64 0))
    have HZ0 : Hid (∀ j, j < q → (List.replicate q 0 ++ (xs ++ [0])).getD j 0 = 0) := fun j hj => by
      rw [List.getD_eq_getElem?_getD, List.getElem?_append_left (by simpa using hj)]; simp [hj]
    have HQ : Hid (wv (List.replicate q 0 ++ (xs ++ [0])) = z * 2 ^ n ∧ ∀ d ∈ List.replicate q 0 ++ (xs ++ [0]), d < W) := by
      constructor
      · rw [wv_zeros_app, wv_append]
        simp only [wv, Nat.mul_zero, Nat.add_zero]
        rw [HX.out.val, HN.out, Nat.add_zero, Nat.pow_mul, show (2 : Nat) ^ 64 = W from rfl, Nat.mul_comm]
      · intro d hd
        rcases List.mem_append.1 hd with h | h
        · have := (List.mem_replicate.1 h).2; rw [this]; exact W_pos
        · rcases List.mem_append.1 h with h | h
          · exact HX.out.low d h
          · have := List.mem_singleton.1 h
            rw [this]; exact W_pos
    clear HO2 HB2 HZ
    generalize List.replicate q 0 ++ (xs ++ [0]) = L at *
    go_wp2_with (refine wpList_clear_own rfl (.tmp 68) 77 rfl Tryz.underlying77 w.heap.size g (xs.length + q + 1) c1 q _ L rfl HO3.out (by omega) HZ0.out ?_)
    intro w3 ho3 hg3
    have HO4 := Lib.hid ho3
    have HB4 := Lib.hid (HB3.out.grown hg3 (by have := HB3.out.size; first | omega | (simp; omega)) (by intro k hk; cases hk; exact hg.1))
    have HL4 := Lib.hid ho3.len
    clear ho3 hg3 HZ0 HO3 HB3
    go_wp2_with fail
    refine (f64_any w.heap.size g (xs.length + q + 1) c1 L (by omega) w3 HO4.out).mono ?_
    rintro e w4 ⟨rfl, rfl⟩
    go_wp2_with fail
    go_ret
    refine ⟨_, trim L, rfl, ?_, ?_, HB4.out⟩
    · have := Row.take (trim L).length (by rw [← HL4.out]; exact trim_len L) HO4.out.row
      rwa [trim_take_len] at this
    · rw [← HQ.out.1]; exact IsW.ofTrim L HQ.out.2
  · have hne3 : ((s : Int) == 0) = false := by rw [beq_eq_false_iff_ne]; omega
    have hcell : ∀ i, i < xs.length → w1.cell? ⟨gx, off + i, none⟩ = some (.int .u64 ((xs.getD i 0 : Nat) : Int)) := by
      rcases HR1.out with ⟨h, _⟩ | ⟨_, g', o', c', h, _, _, _, hc⟩
      · simp [h] at h0
      · cases h; exact hc
    have HF := Lib.hid (f103_any w.heap.size g (xs.length + q + 1) c1 q s xs (List.replicate (xs.length + q + 1) 0) gx off c (c1 - q) h0 (by omega) HX.out.low (by omega) hs2 w1 HO.out (by omega) hgx2 (by have := HB.out.size; omega) hcell)
    have HZ : Hid ((List.replicate (xs.length + q + 1) 0).take q ++ (shlL s xs ++ (List.replicate (xs.length + q + 1) 0).drop (q + xs.length)) = List.replicate q 0 ++ (shlL s xs ++ [0])) := by
      show _ = _
      rw [List.take_replicate, List.drop_replicate, Nat.min_eq_left (by omega), show xs.length + q + 1 - (q + xs.length) = 1 from by omega]; rfl
    have HSA := Lib.hid (shl_all s (by omega) xs h0)
    clear hcell
    go_wp2_with fail
    refine HF.out.mono ?_
    rintro e w2 ⟨rfl, ho2, hg2⟩
    rw [HZ.out] at ho2
    have HO2 := Lib.hid ho2
    have HB2 : Hid (Below w.heap.size w w2) := HB.out.grown hg2 (by omega) (by intro k hk; cases hk; exact hg.1)
    have zc := ho2.cell (xs.length + q) (by omega)
    have zf := ho2.free (xs.length + q)
    obtain ⟨top, hT⟩ : ∃ top, top = xs.getD (xs.length - 1) 0 / 2 ^ (64 - s) := ⟨_, rfl⟩
    rw [← hT]
    rw [← hT] at HSA
    have HTW : Hid (top < W) := by
      show _ < _
      rw [hT]
      have hlt : xs.length - 1 < xs.length := by omega
      refine Nat.lt_of_le_of_lt (Nat.div_le_self _ _) ?_
      simp [hlt]; exact HX.out.low _ (List.getElem_mem hlt)
    generalize (List.replicate q 0 ++ (shlL s xs ++ [0])).getD (xs.length + q) 0 = z0 at *
    clear hT ho2 hg2 HF
    have HO3 := Lib.hid (HO2.out.stored (xs.length + q) top)
    rw [set_end q xs.length top (shlL s xs) (by simp [shlL])] at HO3
    have HB3 := Lib.hid (HB2.out.setCell (p := ⟨g, xs.length + q, none⟩) hg.1 (.int .u64 (top : Int)))
    have HZ0 : Hid (∀ j, j < q → (List.replicate q 0 ++ (shlL s xs ++ [top])).getD j 0 = 0) := fun j hj => by
      rw [List.getD_eq_getElem?_getD, List.getElem?_append_left (by simpa using hj)]; simp [hj]
    have HQ : Hid (wv (List.replicate q 0 ++ (shlL s xs ++ [top])) = z * 2 ^ n ∧ ∀ d ∈ List.replicate q 0 ++ (shlL s xs ++ [top]), d < W) := by
      constructor
      · rw [wv_zeros_app, wv_append, show (shlL s xs).length = xs.length from by simp [shlL]]
        have := HSA.out
        simp only [wv, Nat.mul_zero, Nat.add_zero]
        rw [this, HX.out.val, HN.out, Nat.pow_add, Nat.pow_mul, show (2 : Nat) ^ 64 = W from rfl, Nat.mul_left_comm]
      · intro d hd
        rcases List.mem_append.1 hd with h | h
        · have := (List.mem_replicate.1 h).2; rw [this]; exact W_pos
        · rcases List.mem_append.1 h with h | h
          · obtain ⟨j, _, rfl⟩ := List.mem_map.1 h
            exact shlW_lt s (by omega) xs HX.out.low j
          · have := List.mem_singleton.1 h
            rw [this]; exact HTW.out
    clear HO2 HB2 HZ HSA
    generalize List.replicate q 0 ++ (shlL s xs ++ [top]) = L at *
    go_wp2_with (refine wpList_clear_own rfl (.tmp 68) 77 rfl Tryz.underlying77 w.heap.size g (xs.length + q + 1) c1 q _ L rfl HO3.out (by omega) HZ0.out ?_)
    intro w3 ho3 hg3
    have HO4 := Lib.hid ho3
    have HB4 := Lib.hid (HB3.out.grown hg3 (by have := HB3.out.size; first | omega | (simp; omega)) (by intro k hk; cases hk; exact hg.1))
    have HL4 := Lib.hid ho3.len
    clear ho3 hg3 HZ0 HO3 HB3
    go_wp2_with fail
    refine (f64_any w.heap.size g (xs.length + q + 1) c1 L (by omega) w3 HO4.out).mono ?_
    rintro e w4 ⟨rfl, rfl⟩
    go_wp2_with fail
    go_ret
    refine ⟨_, trim L, rfl, ?_, ?_, HB4.out⟩
    · have := Row.take (trim L).length (by rw [← HL4.out]; exact trim_len L) HO4.out.row
      rwa [trim_take_len] at this
    · rw [← HQ.out.1]; exact IsW.ofTrim L HQ.out.2
end Go.Proofs.YtllgogkjcbdpkaaGreatDoor.Z
