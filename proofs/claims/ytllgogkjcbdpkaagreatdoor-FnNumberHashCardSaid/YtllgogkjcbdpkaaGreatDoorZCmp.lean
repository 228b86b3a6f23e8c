/- Written by wip/tools/port2.py out of the text Big20 of seat Ytidkdjnfpepnfaa: nat.cmp alone. -/
import Derived.Test.YtllgogkjcbdpkaaGreatDoorZBig14
namespace Go.Proofs.YtllgogkjcbdpkaaGreatDoor.Z
open Go.RowKit

def ord3n (a b : Nat) : Int := if a < b then -1 else if b < a then 1 else 0
theorem wv_cut (xs : List Nat) (n : Nat) (h : n ≤ xs.length) : wv xs = wv (xs.take n) + W ^ n * wv (xs.drop n) := by
  conv => lhs; rw [← List.take_append_drop n xs]
  rw [wv_append, List.length_take, Nat.min_eq_left h]
theorem word_less {i x y a b R q : Nat} (ha : a < q) (h : x < y) : a + q * (x + i * R) < b + q * (y + i * R) := by
  have : q * (x + i * R) + q ≤ q * (y + i * R) := by
    have : q * (x + 1 + i * R) ≤ q * (y + i * R) := Nat.mul_le_mul_left _ (by omega)
    rw [show x + 1 + i * R = x + i * R + 1 from by omega, Nat.mul_add q (x + i * R) 1] at this
    omega
  omega
theorem cmp_less (xs ys : List Nat) (hx : ∀ d ∈ xs, d < W) (i : Nat) (hxl : i < xs.length) (hyl : i < ys.length) (hd : xs.drop (i + 1) = ys.drop (i + 1)) (h : xs.getD i 0 < ys.getD i 0) : wv xs < wv ys := by
  rw [wv_cut xs i (by omega), wv_cut ys i (by omega), List.drop_eq_getElem_cons hxl, List.drop_eq_getElem_cons hyl, hd]
  simp only [wv]
  have ha := wv_lt (xs.take i) (fun d h => hx d (List.mem_of_mem_take h))
  rw [List.length_take, Nat.min_eq_left (by omega)] at ha
  simp [hxl, hyl] at h
  exact word_less ha h
theorem drop_same (xs ys : List Nat) (i : Nat) (hxl : i < xs.length) (hyl : i < ys.length) (hd : xs.drop (i + 1) = ys.drop (i + 1)) (h : xs.getD i 0 = ys.getD i 0) : xs.drop i = ys.drop i := by
  simp [hxl, hyl] at h
  rw [List.drop_eq_getElem_cons hxl, List.drop_eq_getElem_cons hyl, hd, h]
theorem IsW.len_less {n m : Nat} {xs ys : List Nat} (hx : IsW n xs) (hy : IsW m ys) (h : xs.length < ys.length) : n < m := by
  by_cases hc : n < m
  · exact hc
  · have h1 : m < W ^ xs.length := by
      have := wv_lt xs hx.low
      rw [hx.val] at this; omega
    have := hy.len_le h1
    omega
theorem W_pow_mono {a b : Nat} (h : a ≤ b) : W ^ a ≤ W ^ b := Nat.pow_le_pow_right W_pos h
theorem IsW.lt_pow {n k : Nat} {xs : List Nat} (h : IsW n xs) (hk : xs.length ≤ k) : n < W ^ k := by
  have := wv_lt xs h.low
  rw [h.val] at this
  exact Nat.lt_of_lt_of_le this (W_pow_mono hk)
/-- What cmp tells. -/
def CmpPost (nx ny : Nat) (w : World) (e : Ending) (w' : World) : Prop := e = .returned (.int .i64 (ord3n nx ny)) ∧ ∃ m, w' = w.drewN m
theorem ord3n_lt {a b : Nat} (h : a < b) : ord3n a b = -1 := by unfold ord3n; rw [if_pos h]
theorem ord3n_gt {a b : Nat} (h : b < a) : ord3n a b = 1 := by unfold ord3n; rw [if_neg (by omega), if_pos h]
theorem ord3n_eq (a : Nat) : ord3n a a = 0 := by unfold ord3n; rw [if_neg (by omega), if_neg (by omega)]

set_option maxRecDepth 100000 in
set_option maxHeartbeats 2000000 in
theorem f82_core (gx offx cx gy offy cy : Nat) (xs ys : List Nat) (h0 : 0 < xs.length) (hxy : ys.length = xs.length) (hl : xs.length ≤ 1000) (nx ny : Nat) (hx : IsW nx xs) (hy : IsW ny ys) (w : World)
    (hcx : ∀ i, i < xs.length → w.cell? ⟨gx, offx + i, none⟩ = some (.int .u64 ((xs.getD i 0 : Nat) : Int)))
    (hcy : ∀ i, i < xs.length → w.cell? ⟨gy, offy + i, none⟩ = some (.int .u64 ((ys.getD i 0 : Nat) : Int))) :
    Calls Tryz.prog 82 #[.slice (some ⟨gx, offx, none⟩) xs.length cx, .slice (some ⟨gy, offy, none⟩) xs.length cy] w (CmpPost nx ny w) := by
  have HCX := Lib.hid hcx
  have HCY := Lib.hid hcy
  have HL : Hid (∀ i, i < xs.length → xs.drop (i + 1) = ys.drop (i + 1) → xs.getD i 0 < ys.getD i 0 → ord3n nx ny = -1) := fun i hi hd h => by
    have := cmp_less xs ys hx.low i hi (by omega) hd h
    rw [hx.val, hy.val] at this
    exact ord3n_lt this
  have HG : Hid (∀ i, i < xs.length → xs.drop (i + 1) = ys.drop (i + 1) → ys.getD i 0 < xs.getD i 0 → ord3n nx ny = 1) := fun i hi hd h => by
    have := cmp_less ys xs hy.low i (by omega) hi hd.symm h
    rw [hx.val, hy.val] at this
    exact ord3n_gt this
  have HE : Hid (xs.drop 0 = ys.drop 0 → ord3n nx ny = 0) := fun h => by
    simp at h
    have : nx = ny := by rw [← hx.val, ← hy.val, h]
    subst this; exact ord3n_eq _
  have HXY := Lib.hid hxy
  have HD0 : Hid (xs.drop (xs.length - 1 + 1) = ys.drop (xs.length - 1 + 1)) := by
    show _ = _
    rw [List.drop_of_length_le (by omega), List.drop_of_length_le (by omega)]
  have hne : ((xs.length : Int) == 0) = false := by rw [beq_eq_false_iff_ne]; omega
  have el : (xs.length : Int) - 1 = ((xs.length - 1 : Nat) : Int) := by omega
  clear hcx hcy hx hy hxy
  go_enter Tryz.func82, Tryz.ntmps82
  go_wp2_with fail
  go_loopw [7] (fun vi wr => ∃ k : Nat, vi = .int .i64 k ∧ k < xs.length ∧ Hid (xs.drop (k + 1) = ys.drop (k + 1)) ∧ ∃ nq, wr = w.drewN nq) (fun vi _ => (intOf vi).toNat)
  case atStart => exact ⟨xs.length - 1, by first | rfl | exact congrArg (Value.int .i64) el, by omega, HD0.out, 0, rfl⟩
  case round =>
    obtain ⟨k, rfl, hk, HDk, nq, rfl⟩ := hrel
    have ci := HCX.out k hk
    have cj := HCY.out k hk
    have HL' := Lib.hid (HL.out k hk HDk.out)
    have HG' := Lib.hid (HG.out k hk HDk.out)
    have HS : Hid (xs.getD k 0 = ys.getD k 0 → xs.drop k = ys.drop k) := fun h => drop_same xs ys k hk (by rw [HXY.out]; exact hk) HDk.out h
    clear el hne
    generalize xs.getD k 0 = x at *
    generalize ys.getD k 0 = y at *
    rcases Nat.lt_trichotomy x y with hlt | heq | hgt
    · have hb : ((x : Int) == (y : Int)) = false := by rw [beq_eq_false_iff_ne]; omega
      have HV := Lib.hid (HL'.out hlt)
      by_cases hk0 : k = 0
      · subst hk0
        rw [Nat.add_zero] at ci cj
        go_wp2_with fail
        go_quiet (fail)
        go_wp2_with fail
        go_quiet (fail)
        go_wp2_with fail
        go_ret
        exact ⟨ret_int HV.out.symm, by first | exact ⟨_, rfl⟩ | (simp only [World.drewN_drewN]; exact ⟨_, rfl⟩)⟩
      · have hkp : 0 < k := by omega
        go_wp2_with fail
        go_quiet (fail)
        go_wp2_with fail
        go_quiet (fail)
        go_wp2_with fail
        go_ret
        exact ⟨ret_int HV.out.symm, by first | exact ⟨_, rfl⟩ | (simp only [World.drewN_drewN]; exact ⟨_, rfl⟩)⟩
    · subst heq
      by_cases hk0 : k = 0
      · subst hk0
        rw [Nat.add_zero] at ci cj
        have HV := Lib.hid (HE.out (HS.out rfl))
        go_wp2_with fail
        go_quiet (fail)
        go_wp2_with fail
        go_quiet (fail)
        go_wp2_with fail
        go_quiet (fail)
        go_wp2_with fail
        go_ret
        exact ⟨ret_int HV.out.symm, by first | exact ⟨_, rfl⟩ | (simp only [World.drewN_drewN]; exact ⟨_, rfl⟩)⟩
      · have hkp : 0 < k := by omega
        have hk1 : (1 : Int) ≤ k := by omega
        have HD1 : Hid (xs.drop (k - 1 + 1) = ys.drop (k - 1 + 1)) := by
          show _ = _
          rw [show k - 1 + 1 = k from by omega]; exact HS.out rfl
        go_wp2_with fail
        go_quiet (fail)
        go_wp2_with fail
        go_roundw
        case rel => exact ⟨k - 1, congrArg (Value.int .i64) (by omega), by omega, HD1, by first | exact ⟨_, rfl⟩ | (simp only [World.drewN_drewN]; exact ⟨_, rfl⟩)⟩
        case measure => simp [intOf]; omega
    · have hb : ((x : Int) == (y : Int)) = false := by rw [beq_eq_false_iff_ne]; omega
      have hnl : ¬ x < y := by omega
      have HV := Lib.hid (HG'.out hgt)
      by_cases hk0 : k = 0
      · subst hk0
        rw [Nat.add_zero] at ci cj
        go_wp2_with fail
        go_quiet (fail)
        go_wp2_with fail
        go_quiet (fail)
        go_wp2_with fail
        go_quiet (fail)
        go_wp2_with fail
        go_ret
        exact ⟨ret_int HV.out.symm, by first | exact ⟨_, rfl⟩ | (simp only [World.drewN_drewN]; exact ⟨_, rfl⟩)⟩
      · have hkp : 0 < k := by omega
        go_wp2_with fail
        go_quiet (fail)
        go_wp2_with fail
        go_quiet (fail)
        go_wp2_with fail
        go_quiet (fail)
        go_wp2_with fail
        go_ret
        exact ⟨ret_int HV.out.symm, by first | exact ⟨_, rfl⟩ | (simp only [World.drewN_drewN]; exact ⟨_, rfl⟩)⟩

set_option maxRecDepth 100000 in
theorem f82_any (B1 B2 : Nat) (v1 v2 : Value) (xs ys : List Nat) (hl : xs.length ≤ 1000) (nx ny : Nat) (hx : IsW nx xs) (hy : IsW ny ys) (w : World) (h1 : Row B1 .u64 w v1 xs) (h2 : Row B2 .u64 w v2 ys) :
    Calls Tryz.prog 82 #[v1, v2] w (CmpPost nx ny w) := by
  rcases Nat.lt_trichotomy xs.length ys.length with h | h | h
  · obtain ⟨a1, c1, rfl⟩ := h1.len
    obtain ⟨a2, c2, rfl⟩ := h2.len
    have HV := Lib.hid (ord3n_lt (hx.len_less hy h))
    have hne : ((xs.length : Int) != (ys.length : Int)) = true := by rw [bne_iff_ne]; omega
    clear h1 h2 hx hy
    go_enter Tryz.func82, Tryz.ntmps82
    go_wp2
    go_ret
    exact ⟨ret_int HV.out.symm, 0, rfl⟩
  · by_cases h0 : xs.length = 0
    · have ex : xs = [] := List.eq_nil_of_length_eq_zero h0
      have ey : ys = [] := List.eq_nil_of_length_eq_zero (by omega)
      have HV : Hid (ord3n nx ny = 0) := by
        have : nx = ny := by rw [← hx.val, ← hy.val, ex, ey]
        show _ = _
        subst this; exact ord3n_eq _
      obtain ⟨a1, c1, rfl⟩ := h1.len
      obtain ⟨a2, c2, rfl⟩ := h2.len
      rw [← h, h0]
      clear h1 h2 hx hy ex ey h h0
      go_enter Tryz.func82, Tryz.ntmps82
      go_wp2
      go_ret
      exact ⟨ret_int HV.out.symm, 0, rfl⟩
    · rcases h1 with ⟨h', _⟩ | ⟨p, gx, ox, cx, rfl, _, _, _, q⟩
      · simp [h'] at h0
      rcases h2 with ⟨h', _⟩ | ⟨p', gy, oy, cy, rfl, _, _, _, q'⟩
      · exact absurd (by rw [h, h']; rfl) h0
      have := f82_core gx ox cx gy oy cy xs ys p h.symm hl nx ny hx hy w q (fun i hi => q' i (by omega))
      rwa [← h]
  · obtain ⟨a1, c1, rfl⟩ := h1.len
    obtain ⟨a2, c2, rfl⟩ := h2.len
    have HV := Lib.hid (ord3n_gt (hy.len_less hx h))
    have hne : ((xs.length : Int) != (ys.length : Int)) = true := by rw [bne_iff_ne]; omega
    have hnl : ¬ xs.length < ys.length := by omega
    clear h1 h2 hx hy
    go_enter Tryz.func82, Tryz.ntmps82
    go_wp2
    go_ret
    exact ⟨ret_int HV.out.symm, 0, rfl⟩
end Go.Proofs.YtllgogkjcbdpkaaGreatDoor.Z
