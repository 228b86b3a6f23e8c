/- Written by wip/tools/port2.py out of the text Big13 of seat Ytidkdjnfpepnfaa. -/
/- Walks of the package's great numbers: shifting to the left. -/
import Derived.Test.YtllgogkjcbdpkaaGreatDoorZBig12
import Derived.Lib.SliceRun
namespace Go.Proofs.YtllgogkjcbdpkaaGreatDoor.Z
open Go.RowKit

theorem OwnW.cleared {B : Nat} {g n c : Nat} : ∀ (k o : Nat) (w : World) (xs : List Nat), OwnW B w g n c xs → o + k ≤ n → (∀ j, o ≤ j → j < o + k → xs.getD j 0 = 0) → OwnW B (w.setCells g o (List.replicate k (.int .u64 0))) g n c xs
  | 0, _, _, _, h, _, _ => h
  | k + 1, o, w, xs, h, ho, hz => by
    have h1 := h.stored o 0
    have h2 : xs.set o 0 = xs := by
      have := hz o (Nat.le_refl _) (by omega)
      have hl : o < xs.length := by rw [h.len]; omega
      simp [hl] at this
      rw [← this]; exact List.set_getElem_self hl
    rw [h2] at h1
    exact OwnW.cleared k (o + 1) _ xs h1 (by omega) fun j h3 h4 => hz j (by omega) (by omega)
theorem grown_cleared {w : World} {g : Nat} (vs : List Value) : ∀ (o : Nat) (w' : World), w.grownBy w' (some g) → w.grownBy (w'.setCells g o vs) (some g) := by
  induction vs with
  | nil => intro o w' h; exact h
  | cons v r ih => intro o w' h; exact ih (o + 1) _ (h.setCell g o v)
theorem wv_zeros_app (q : Nat) (xs : List Nat) : wv (List.replicate q 0 ++ xs) = W ^ q * wv xs := by
  rw [wv_append, wv_zeros, List.length_replicate]; simp

theorem zero93 (w : World) : (zeroValue 85).run Tryz.prog w = .ok (.int .u64 0) w := by
  obtain ⟨i0, hi, hz0, _, _⟩ := info_parts info85
  simp [zeroValue, typeInfo, hi, hz0]

/-- 'clear(own[0:q])', where these words are 0: nothing turns. -/
theorem wp_clear_own {w : World} {o : Oper} {a : Act} {K : Act → World → Prop} {Q : Exit → Act → World → Prop} (d : Operand) (dT : TypeId)
    (ho : o.op = .call { callee := .builtin .clear, args := #[d], argTypes := #[dT] }) (hu : Tryz.prog.underlying dT = some (.slice 85))
    (B g n c q cc : Nat) (xs : List Nat) (hd : a.eval d = .slice (some ⟨g, 0, none⟩) q cc) (hown : OwnW B w g n c xs) (hq : q ≤ n) (hz : ∀ j, j < q → xs.getD j 0 = 0)
    (h : ∀ w', OwnW B w' g n c xs → w.grownBy w' (some g) → K (a.put o.dst (.tuple #[])) w') : o.wp Tryz.prog a w K Q := by
  by_cases h0 : q = 0
  · subst h0
    have hrun : ∀ ty, (Builtin.clear_ #[dT] ty #[.slice (some ⟨g, 0, none⟩) 0 cc]).run Tryz.prog w = .ok (.tuple #[]) w := fun ty => by
      simp [Builtin.clear_, run_underlying hu]
    unfold Oper.wp
    simp [execOp, ho, resolve, invoke, builtin, hd, hrun, Result.andThen]
    exact h w hown (World.grownBy.refl _ _)
  · have hrun := fun ty => Go.Lib.run_clear_slice (P := Tryz.prog) w dT 85 ty (.int .u64 0) hu zero93 rfl rfl g 0 q cc (by omega)
      (fun j hj => by rw [Nat.zero_add, hown.cell j (by omega)]; rfl) (fun j _ => hown.free _)
    unfold Oper.wp
    simp [execOp, ho, resolve, invoke, builtin, hd, hrun, Result.andThen]
    exact h _ (OwnW.cleared q 0 w xs hown (by omega) fun j _ h2 => hz j (by omega)) (grown_cleared _ 0 w (World.grownBy.refl _ _))
theorem wpList_clear_own {w : World} {ops : Array Oper} {rest : List Oper} {o : Oper} {a : Act} {Q : Exit → Act → World → Prop} (hgd : o.guard = none) (d : Operand) (dT : TypeId)
    (ho : o.op = .call { callee := .builtin .clear, args := #[d], argTypes := #[dT] }) (hu : Tryz.prog.underlying dT = some (.slice 85))
    (B g n c q cc : Nat) (xs : List Nat) (hd : a.eval d = .slice (some ⟨g, 0, none⟩) q cc) (hown : OwnW B w g n c xs) (hq : q ≤ n) (hz : ∀ j, j < q → xs.getD j 0 = 0)
    (h : ∀ w', OwnW B w' g n c xs → w.grownBy w' (some g) → wpList Tryz.prog ops Q rest (a.put o.dst (.tuple #[])) w') : wpList Tryz.prog ops Q (o :: rest) a w :=
  wpList_plain hgd fun _ hK => wp_clear_own d dT ho hu B g n c q cc xs hd hown hq hz fun w' h1 h2 => hK _ _ (h w' h1 h2)

set_option maxRecDepth 100000 in
set_option maxHeartbeats 2000000 in
theorem f87_same (B : Nat) (v : Value) (xs : List Nat) (n : Nat) (hl : xs.length ≤ 900) (w : World) (hr : Row B .u64 w v xs) (hx : IsW n xs) :
    Calls Tryz.prog 87 #[.slice none 0 0, v, .int .u64 0] w (MakesNat n w) := by
  obtain ⟨a, c, rfl⟩ := hr.len
  have HR := Lib.hid hr
  have HX := Lib.hid hx
  clear hr hx
  go_enter Tryz.func87, Tryz.ntmps87
  go_wp2_with fail
  refine (f101_nil a xs.length c _).mono ?_
  rintro e w' ⟨rfl, m, rfl⟩
  go_wp2_with fail
  refine (f102_nil _ _).mono ?_
  rintro e w' ⟨rfl, m2, rfl⟩
  go_wp2_with fail
  refine (f65_any B _ xs (by omega) _ (HR.out.draws (m + m2))).mono ?_
  rintro e w2 ⟨v2, rfl, hr2, hb⟩
  have HR2 := Lib.hid hr2
  have HB : Hid (Below w.heap.size w w2) := (below_drewN (Below.refl _ _) (m + m2)).trans hb
  clear hr2 hb
  go_wp2_with fail
  go_ret
  exact ⟨v2, xs, rfl, HR2.out, HX.out, HB.out⟩

set_option maxRecDepth 100000 in
theorem f87_nil (v : Value) (hv : v = .slice none 0 0 ∨ ∃ a c, v = .slice (some a) 0 c) (n : Nat) (hn : n ≠ 0) (w : World) :
    Calls Tryz.prog 87 #[.slice none 0 0, v, .int .u64 n] w (MakesNat 0 w) := by
  have hne : ((n : Int) == 0) = false := by rw [beq_eq_false_iff_ne]; omega
  rcases hv with rfl | ⟨a, c, rfl⟩
  all_goals
    go_enter Tryz.func87, Tryz.ntmps87
    go_wp2
    go_ret
    exact ⟨_, [], rfl, .inl ⟨rfl, .inl rfl⟩, isW_nil, Below.refl _ _⟩

theorem set_end (q m top : Nat) (l : List Nat) (hl : l.length = m) : (List.replicate q 0 ++ (l ++ [0])).set (m + q) top = List.replicate q 0 ++ (l ++ [top]) := by
  subst hl
  rw [List.set_append_right _ _ (by simp), List.set_append_right _ _ (by simp)]
  simp

set_option maxRecDepth 100000 in
set_option maxHeartbeats 2000000 in
theorem f87_core (B gx off c : Nat) (xs : List Nat) (z n : Nat) (h0 : 0 < xs.length) (hl : xs.length ≤ 900) (hn : n ≠ 0) (hn2 : n ≤ 4096) (w : World) (hr : Row B .u64 w (.slice (some ⟨gx, off, none⟩) xs.length c) xs) (hgx : gx < w.heap.size) (hx : IsW z xs) :
    Calls Tryz.prog 87 #[.slice none 0 0, .slice (some ⟨gx, off, none⟩) xs.length c, .int .u64 n] w (MakesNat (z * 2 ^ n) w) := by
  have HR := Lib.hid hr
  have HX := Lib.hid hx
  clear hr hx
  have hne : ((n : Int) == 0) = false := by rw [beq_eq_false_iff_ne]; omega
  have hne2 : ((xs.length : Int) == 0) = false := by rw [beq_eq_false_iff_ne]; omega
  obtain ⟨q, hq⟩ : ∃ q, q = n / 64 := ⟨_, rfl⟩
  obtain ⟨s, hs⟩ : ∃ s, s = n % 64 := ⟨_, rfl⟩
  have eq : (n : Int) / 64 = (q : Int) := by omega
  have es : (n : Int) % 64 = (s : Int) := by omega
  have hs2 : s < 64 := by omega
  have hq2 : q ≤ 64 := by omega
  have HN : Hid (n = 64 * q + s) := by show _ = _; omega
  clear hq hs
  go_enter Tryz.func87, Tryz.ntmps87
  go_wp2_with fail
  refine (f62_int _ (by omega) (by omega) _).mono ?_
  rintro e w1 ⟨g, c1, rfl, ho, hb⟩
  have eN : ((xs.length : Int) + (q : Int) + 1).toNat = xs.length + q + 1 := by omega
  rw [eN] at ho
  rw [eN]
  have hcap := ho.cap
  have hg := ho.low
  have HO := Lib.hid ho
  have HB := Lib.hid hb
  have hgx2 : gx ≠ g := by omega
  have HR1 := Lib.hid (HR.out.below hb (Nat.le_refl _))
  have es2 : (xs.length : Int) + (q : Int) - (xs.length : Int) = (q : Int) := by omega
  clear ho hb eN
  by_cases hs0 : s = 0
  · subst hs0
    have HZ : Hid ((List.replicate (xs.length + q + 1) 0).take q ++ (xs ++ (List.replicate (xs.length + q + 1) 0).drop (q + xs.length)) = List.replicate q 0 ++ (xs ++ [0])) := by
      show _ = _
      rw [List.take_replicate, List.drop_replicate, Nat.min_eq_left (by omega), show xs.length + q + 1 - (q + xs.length) = 1 from by omega]; rfl
    have K2 : Hid (xs.length = xs.length + q - q) := by show _ = _; omega
    have K1 : Hid (q + xs.length ≤ xs.length + q + 1) := by show _ ≤ _; omega
    generalize List.replicate (xs.length + q + 1) 0 = Z0 at *
    go_wp2_with (refine wpList_copy_row rfl (.tmp 46) (.tmp 47) 77 77 rfl Tryz.underlying77 (some ⟨g, q, none⟩) (xs.length + q - q) (c1 - q) rfl _ rfl w.heap.size g (xs.length + q + 1) c1 Z0 HO.out B xs HR1.out q (fun _ => rfl) K2.out K1.out ?_)
    intro w2 ho2 hg2
    rw [HZ.out] at ho2
    have HO2 := Lib.hid ho2
    have HB2 : Hid (Below w.heap.size w w2) := HB.out.grown hg2 (by omega) (by intro k hk; cases hk; exact hg.1)
    have zc := ho2.cell (xs.length + q) (by omega)
    have zf := ho2.free (xs.length + q)
    generalize (List.replicate q 0 ++ (xs ++ [0])).getD (xs.length + q) 0 = z0 at *
    clear ho2 hg2
    have HO3 := Lib.hid (HO2.out.stored (xs.length + q) 0)
    rw [set_end q xs.length 0 xs rfl] at HO3
    have HB3 := Lib.hid (HB2.out.setCell (p := ⟨g, xs.length + q, none⟩) hg.1 (.int .u64 0))
    have HZ0 : Hid (∀ j, j < q → (List.replicate q 0 ++ (xs ++ [0])).getD j 0 = 0) := fun j hj => by
      rw [List.getD_eq_getElem?_getD, List.getElem?_append_left (by simpa using hj)]; simp [hj]
    have HQ : Hid (wv (List.replicate q 0 ++ (xs ++ [0])) = z * 2 ^ n ∧ ∀ d ∈ List.replicate q 0 ++ (xs ++ [0]), d < W) := by
      constructor
      · rw [wv_zeros_app, wv_append]
        simp only [wv, Nat.mul_zero, Nat.add_zero]
        rw [HX.out.val, HN.out, Nat.add_zero, Nat.pow_mul, show (2 : Nat) ^ 64 = W from rfl, Nat.mul_comm]
      · intro d hd
        rcases List.mem_append.1 hd with h | h
        · have := (List.mem_replicate.1 h).2; rw [this]; exact W_pos
        · rcases List.mem_append.1 h with h | h
          · exact HX.out.low d h
          · have := List.mem_singleton.1 h
            rw [this]; exact W_pos
    clear HO2 HB2 HZ
    generalize List.replicate q 0 ++ (xs ++ [0]) = L at *
    go_wp2_with (refine wpList_clear_own rfl (.tmp 68) 77 rfl Tryz.underlying77 w.heap.size g (xs.length + q + 1) c1 q _ L rfl HO3.out (by omega) HZ0.out ?_)
    intro w3 ho3 hg3
    have HO4 := Lib.hid ho3
    have HB4 := Lib.hid (HB3.out.grown hg3 (by have := HB3.out.size; first | omega | (simp; omega)) (by intro k hk; cases hk; exact hg.1))
    have HL4 := Lib.hid ho3.len
    clear ho3 hg3 HZ0 HO3 HB3
    go_wp2_with fail
    refine (f64_any w.heap.size g (xs.length + q + 1) c1 L (by omega) w3 HO4.out).mono ?_
    rintro e w4 ⟨rfl, rfl⟩
    go_wp2_with fail
    go_ret
    refine ⟨_, trim L, rfl, ?_, ?_, HB4.out⟩
    · have := Row.take (trim L).length (by rw [← HL4.out]; exact trim_len L) HO4.out.row
      rwa [trim_take_len] at this
    · rw [← HQ.out.1]; exact IsW.ofTrim L HQ.out.2
  · have hne3 : ((s : Int) == 0) = false := by rw [beq_eq_false_iff_ne]; omega
    have hcell : ∀ i, i < xs.length → w1.cell? ⟨gx, off + i, none⟩ = some (.int .u64 ((xs.getD i 0 : Nat) : Int)) := by
      rcases HR1.out with ⟨h, _⟩ | ⟨_, g', o', c', h, _, _, _, hc⟩
      · simp [h] at h0
      · cases h; exact hc
    have HF := Lib.hid (f103_any w.heap.size g (xs.length + q + 1) c1 q s xs (List.replicate (xs.length + q + 1) 0) gx off c (c1 - q) h0 (by omega) HX.out.low (by omega) hs2 w1 HO.out (by omega) hgx2 (by have := HB.out.size; omega) hcell)
    have HZ : Hid ((List.replicate (xs.length + q + 1) 0).take q ++ (shlL s xs ++ (List.replicate (xs.length + q + 1) 0).drop (q + xs.length)) = List.replicate q 0 ++ (shlL s xs ++ [0])) := by
      show _ = _
      rw [List.take_replicate, List.drop_replicate, Nat.min_eq_left (by omega), show xs.length + q + 1 - (q + xs.length) = 1 from by omega]; rfl
    have HSA := Lib.hid (shl_all s (by omega) xs h0)
    clear hcell
    go_wp2_with fail
    refine HF.out.mono ?_
    rintro e w2 ⟨rfl, ho2, hg2⟩
    rw [HZ.out] at ho2
    have HO2 := Lib.hid ho2
    have HB2 : Hid (Below w.heap.size w w2) := HB.out.grown hg2 (by omega) (by intro k hk; cases hk; exact hg.1)
    have zc := ho2.cell (xs.length + q) (by omega)
    have zf := ho2.free (xs.length + q)
    obtain ⟨top, hT⟩ : ∃ top, top = xs.getD (xs.length - 1) 0 / 2 ^ (64 - s) := ⟨_, rfl⟩
    rw [← hT]
    rw [← hT] at HSA
    have HTW : Hid (top < W) := by
      show _ < _
      rw [hT]
      have hlt : xs.length - 1 < xs.length := by omega
      refine Nat.lt_of_le_of_lt (Nat.div_le_self _ _) ?_
      simp [hlt]; exact HX.out.low _ (List.getElem_mem hlt)
    generalize (List.replicate q 0 ++ (shlL s xs ++ [0])).getD (xs.length + q) 0 = z0 at *
    clear hT ho2 hg2 HF
    have HO3 := Lib.hid (HO2.out.stored (xs.length + q) top)
    rw [set_end q xs.length top (shlL s xs) (by simp [shlL])] at HO3
    have HB3 := Lib.hid (HB2.out.setCell (p := ⟨g, xs.length + q, none⟩) hg.1 (.int .u64 (top : Int)))
    have HZ0 : Hid (∀ j, j < q → (List.replicate q 0 ++ (shlL s xs ++ [top])).getD j 0 = 0) := fun j hj => by
      rw [List.getD_eq_getElem?_getD, List.getElem?_append_left (by simpa using hj)]; simp [hj]
    have HQ : Hid (wv (List.replicate q 0 ++ (shlL s xs ++ [top])) = z * 2 ^ n ∧ ∀ d ∈ List.replicate q 0 ++ (shlL s xs ++ [top]), d < W) := by
      constructor
      · rw [wv_zeros_app, wv_append, show (shlL s xs).length = xs.length from by simp [shlL]]
        have := HSA.out
        simp only [wv, Nat.mul_zero, Nat.add_zero]
        rw [this, HX.out.val, HN.out, Nat.pow_add, Nat.pow_mul, show (2 : Nat) ^ 64 = W from rfl, Nat.mul_left_comm]
      · intro d hd
        rcases List.mem_append.1 hd with h | h
        · have := (List.mem_replicate.1 h).2; rw [this]; exact W_pos
        · rcases List.mem_append.1 h with h | h
          · obtain ⟨j, _, rfl⟩ := List.mem_map.1 h
            exact shlW_lt s (by omega) xs HX.out.low j
          · have := List.mem_singleton.1 h
            rw [this]; exact HTW.out
    clear HO2 HB2 HZ HSA
    generalize List.replicate q 0 ++ (shlL s xs ++ [top]) = L at *
    go_wp2_with (refine wpList_clear_own rfl (.tmp 68) 77 rfl Tryz.underlying77 w.heap.size g (xs.length + q + 1) c1 q _ L rfl HO3.out (by omega) HZ0.out ?_)
    intro w3 ho3 hg3
    have HO4 := Lib.hid ho3
    have HB4 := Lib.hid (HB3.out.grown hg3 (by have := HB3.out.size; first | omega | (simp; omega)) (by intro k hk; cases hk; exact hg.1))
    have HL4 := Lib.hid ho3.len
    clear ho3 hg3 HZ0 HO3 HB3
    go_wp2_with fail
    refine (f64_any w.heap.size g (xs.length + q + 1) c1 L (by omega) w3 HO4.out).mono ?_
    rintro e w4 ⟨rfl, rfl⟩
    go_wp2_with fail
    go_ret
    refine ⟨_, trim L, rfl, ?_, ?_, HB4.out⟩
    · have := Row.take (trim L).length (by rw [← HL4.out]; exact trim_len L) HO4.out.row
      rwa [trim_take_len] at this
    · rw [← HQ.out.1]; exact IsW.ofTrim L HQ.out.2
end Go.Proofs.YtllgogkjcbdpkaaGreatDoor.Z
