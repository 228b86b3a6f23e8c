/- Walks of the package's great numbers: sub and cmp of natural numbers, whole. -/
import Derived.Test.YtidkdjnfpepnfaaBig19
namespace Go.Proofs.Ytidkdjnfpepnfaa
open Go.RowKit

set_option maxRecDepth 100000 in
theorem f66_any (B1 B2 : Nat) (v1 v2 : Value) (xs ys : List Nat) (hl : xs.length ≤ 900) (nx ny : Nat) (hx : IsW nx xs) (hy : IsW ny ys) (hge : ny ≤ nx) (w : World) (h1 : Row B1 .u64 w v1 xs) (h2 : Row B2 .u64 w v2 ys) :
    Calls Try.prog 66 #[.slice none 0 0, v1, v2] w (MakesNat (nx - ny) w) := by
  by_cases hy0 : ys.length = 0
  · have ey : ys = [] := List.eq_nil_of_length_eq_zero hy0
    have hny : ny = 0 := by rw [← hy.val, ey]; rfl
    subst hny
    obtain ⟨a2, c2, rfl⟩ := h2.len
    by_cases hx0 : xs.length = 0
    · have ex : xs = [] := List.eq_nil_of_length_eq_zero hx0
      have hnx : nx = 0 := by rw [← hx.val, ex]; rfl
      subst hnx
      obtain ⟨a1, c1, rfl⟩ := h1.len
      rw [hx0, hy0]
      clear h1 h2 hx hy ex ey hl hx0 hy0 hge
      go_enter Try.func66, Try.ntmps66
      go_wp2
      go_ret
      exact ⟨_, [], rfl, .inl ⟨rfl, .inl rfl⟩, isW_nil, Below.refl _ _⟩
    · have HF := Lib.hid (f71_any B1 v1 xs (by omega) w h1)
      obtain ⟨a1, c1, rfl⟩ := h1.len
      have HX := Lib.hid hx
      have hne1 : ((xs.length : Int) == 0) = false := by rw [beq_eq_false_iff_ne]; omega
      rw [hy0]
      clear h1 h2 hx hy ey hge
      go_enter Try.func66, Try.ntmps66
      go_wp2_with fail
      refine HF.out.mono ?_
      rintro e w2 ⟨v2, rfl, hr, hb⟩
      have HR := Lib.hid hr
      have HB := Lib.hid hb
      clear hr hb
      go_wp2_with fail
      go_ret
      exact ⟨v2, xs, rfl, HR.out, HX.out, HB.out⟩
  · have hxy : ys.length ≤ xs.length := by
      by_cases h : ys.length ≤ xs.length
      · exact h
      · have := hx.len_less hy (by omega); omega
    have hx0 : 0 < xs.length := by omega
    rcases h1 with ⟨h, _⟩ | ⟨p, gx, ox, cx, rfl, q⟩
    · simp [h] at hx0
    rcases h2 with ⟨h, _⟩ | ⟨p', gy, oy, cy, rfl, q'⟩
    · simp [h] at hy0
    exact f66_core gx ox cx gy oy cy B1 B2 xs ys (by omega) hl nx ny hx hy hge w (.inr ⟨p, gx, ox, cx, rfl, q⟩) (.inr ⟨p', gy, oy, cy, rfl, q'⟩)

/-- What cmp tells. -/
def CmpPost (nx ny : Nat) (w : World) (e : Ending) (w' : World) : Prop := e = .returned (.int .i64 (ord3n nx ny)) ∧ ∃ m, w' = w.drewN m
theorem ord3n_lt {a b : Nat} (h : a < b) : ord3n a b = -1 := by unfold ord3n; rw [if_pos h]
theorem ord3n_gt {a b : Nat} (h : b < a) : ord3n a b = 1 := by unfold ord3n; rw [if_neg (by omega), if_pos h]
theorem ord3n_eq (a : Nat) : ord3n a a = 0 := by unfold ord3n; rw [if_neg (by omega), if_neg (by omega)]

set_option maxRecDepth 100000 in
set_option maxHeartbeats 2000000 in
theorem f65_core (gx offx cx gy offy cy : Nat) (xs ys : List Nat) (h0 : 0 < xs.length) (hxy : ys.length = xs.length) (hl : xs.length ≤ 1000) (nx ny : Nat) (hx : IsW nx xs) (hy : IsW ny ys) (w : World)
    (hcx : ∀ i, i < xs.length → w.cell? ⟨gx, offx + i, none⟩ = some (.int .u64 ((xs.getD i 0 : Nat) : Int)))
    (hcy : ∀ i, i < xs.length → w.cell? ⟨gy, offy + i, none⟩ = some (.int .u64 ((ys.getD i 0 : Nat) : Int))) :
    Calls Try.prog 65 #[.slice (some ⟨gx, offx, none⟩) xs.length cx, .slice (some ⟨gy, offy, none⟩) xs.length cy] w (CmpPost nx ny w) := by
  have HCX := Lib.hid hcx
  have HCY := Lib.hid hcy
  have HL : Hid (∀ i, i < xs.length → xs.drop (i + 1) = ys.drop (i + 1) → xs.getD i 0 < ys.getD i 0 → ord3n nx ny = -1) := fun i hi hd h => by
    have := cmp_less xs ys hx.low i hi (by omega) hd h
    rw [hx.val, hy.val] at this
    exact ord3n_lt this
  have HG : Hid (∀ i, i < xs.length → xs.drop (i + 1) = ys.drop (i + 1) → ys.getD i 0 < xs.getD i 0 → ord3n nx ny = 1) := fun i hi hd h => by
    have := cmp_less ys xs hy.low i (by omega) hi hd.symm h
    rw [hx.val, hy.val] at this
    exact ord3n_gt this
  have HE : Hid (xs.drop 0 = ys.drop 0 → ord3n nx ny = 0) := fun h => by
    simp at h
    have : nx = ny := by rw [← hx.val, ← hy.val, h]
    subst this; exact ord3n_eq _
  have HXY := Lib.hid hxy
  have HD0 : Hid (xs.drop (xs.length - 1 + 1) = ys.drop (xs.length - 1 + 1)) := by
    show _ = _
    rw [List.drop_of_length_le (by omega), List.drop_of_length_le (by omega)]
  have hne : ((xs.length : Int) == 0) = false := by rw [beq_eq_false_iff_ne]; omega
  have el : (xs.length : Int) - 1 = ((xs.length - 1 : Nat) : Int) := by omega
  clear hcx hcy hx hy hxy
  go_enter Try.func65, Try.ntmps65
  go_wp2_with fail
  go_loopw [7] (fun vi wr => ∃ k : Nat, vi = .int .i64 k ∧ k < xs.length ∧ Hid (xs.drop (k + 1) = ys.drop (k + 1)) ∧ ∃ nq, wr = w.drewN nq) (fun vi _ => (intOf vi).toNat)
  case atStart => exact ⟨xs.length - 1, by first | rfl | exact congrArg (Value.int .i64) el, by omega, HD0.out, 0, rfl⟩
  case round =>
    obtain ⟨k, rfl, hk, HDk, nq, rfl⟩ := hrel
    have ci := HCX.out k hk
    have cj := HCY.out k hk
    have HL' := Lib.hid (HL.out k hk HDk.out)
    have HG' := Lib.hid (HG.out k hk HDk.out)
    have HS : Hid (xs.getD k 0 = ys.getD k 0 → xs.drop k = ys.drop k) := fun h => drop_same xs ys k hk (by rw [HXY.out]; exact hk) HDk.out h
    clear el hne
    generalize xs.getD k 0 = x at *
    generalize ys.getD k 0 = y at *
    rcases Nat.lt_trichotomy x y with hlt | heq | hgt
    · have hb : ((x : Int) == (y : Int)) = false := by rw [beq_eq_false_iff_ne]; omega
      have HV := Lib.hid (HL'.out hlt)
      by_cases hk0 : k = 0
      · subst hk0
        rw [Nat.add_zero] at ci cj
        go_wp2_with fail
        go_quiet (fail)
        go_wp2_with fail
        go_quiet (fail)
        go_wp2_with fail
        go_ret
        exact ⟨ret_int HV.out.symm, by first | exact ⟨_, rfl⟩ | (simp only [World.drewN_drewN]; exact ⟨_, rfl⟩)⟩
      · have hkp : 0 < k := by omega
        go_wp2_with fail
        go_quiet (fail)
        go_wp2_with fail
        go_quiet (fail)
        go_wp2_with fail
        go_ret
        exact ⟨ret_int HV.out.symm, by first | exact ⟨_, rfl⟩ | (simp only [World.drewN_drewN]; exact ⟨_, rfl⟩)⟩
    · subst heq
      by_cases hk0 : k = 0
      · subst hk0
        rw [Nat.add_zero] at ci cj
        have HV := Lib.hid (HE.out (HS.out rfl))
        go_wp2_with fail
        go_quiet (fail)
        go_wp2_with fail
        go_quiet (fail)
        go_wp2_with fail
        go_quiet (fail)
        go_wp2_with fail
        go_ret
        exact ⟨ret_int HV.out.symm, by first | exact ⟨_, rfl⟩ | (simp only [World.drewN_drewN]; exact ⟨_, rfl⟩)⟩
      · have hkp : 0 < k := by omega
        have hk1 : (1 : Int) ≤ k := by omega
        have HD1 : Hid (xs.drop (k - 1 + 1) = ys.drop (k - 1 + 1)) := by
          show _ = _
          rw [show k - 1 + 1 = k from by omega]; exact HS.out rfl
        go_wp2_with fail
        go_quiet (fail)
        go_wp2_with fail
        go_roundw
        case rel => exact ⟨k - 1, congrArg (Value.int .i64) (by omega), by omega, HD1, by first | exact ⟨_, rfl⟩ | (simp only [World.drewN_drewN]; exact ⟨_, rfl⟩)⟩
        case measure => simp [intOf]; omega
    · have hb : ((x : Int) == (y : Int)) = false := by rw [beq_eq_false_iff_ne]; omega
      have hnl : ¬ x < y := by omega
      have HV := Lib.hid (HG'.out hgt)
      by_cases hk0 : k = 0
      · subst hk0
        rw [Nat.add_zero] at ci cj
        go_wp2_with fail
        go_quiet (fail)
        go_wp2_with fail
        go_quiet (fail)
        go_wp2_with fail
        go_quiet (fail)
        go_wp2_with fail
        go_ret
        exact ⟨ret_int HV.out.symm, by first | exact ⟨_, rfl⟩ | (simp only [World.drewN_drewN]; exact ⟨_, rfl⟩)⟩
      · have hkp : 0 < k := by omega
        go_wp2_with fail
        go_quiet (fail)
        go_wp2_with fail
        go_quiet (fail)
        go_wp2_with fail
        go_quiet (fail)
        go_wp2_with fail
        go_ret
        exact ⟨ret_int HV.out.symm, by first | exact ⟨_, rfl⟩ | (simp only [World.drewN_drewN]; exact ⟨_, rfl⟩)⟩

set_option maxRecDepth 100000 in
theorem f65_any (B1 B2 : Nat) (v1 v2 : Value) (xs ys : List Nat) (hl : xs.length ≤ 1000) (nx ny : Nat) (hx : IsW nx xs) (hy : IsW ny ys) (w : World) (h1 : Row B1 .u64 w v1 xs) (h2 : Row B2 .u64 w v2 ys) :
    Calls Try.prog 65 #[v1, v2] w (CmpPost nx ny w) := by
  rcases Nat.lt_trichotomy xs.length ys.length with h | h | h
  · obtain ⟨a1, c1, rfl⟩ := h1.len
    obtain ⟨a2, c2, rfl⟩ := h2.len
    have HV := Lib.hid (ord3n_lt (hx.len_less hy h))
    have hne : ((xs.length : Int) != (ys.length : Int)) = true := by rw [bne_iff_ne]; omega
    clear h1 h2 hx hy
    go_enter Try.func65, Try.ntmps65
    go_wp2
    go_ret
    exact ⟨ret_int HV.out.symm, 0, rfl⟩
  · by_cases h0 : xs.length = 0
    · have ex : xs = [] := List.eq_nil_of_length_eq_zero h0
      have ey : ys = [] := List.eq_nil_of_length_eq_zero (by omega)
      have HV : Hid (ord3n nx ny = 0) := by
        have : nx = ny := by rw [← hx.val, ← hy.val, ex, ey]
        show _ = _
        subst this; exact ord3n_eq _
      obtain ⟨a1, c1, rfl⟩ := h1.len
      obtain ⟨a2, c2, rfl⟩ := h2.len
      rw [← h, h0]
      clear h1 h2 hx hy ex ey h h0
      go_enter Try.func65, Try.ntmps65
      go_wp2
      go_ret
      exact ⟨ret_int HV.out.symm, 0, rfl⟩
    · rcases h1 with ⟨h', _⟩ | ⟨p, gx, ox, cx, rfl, _, _, _, q⟩
      · simp [h'] at h0
      rcases h2 with ⟨h', _⟩ | ⟨p', gy, oy, cy, rfl, _, _, _, q'⟩
      · exact absurd (by rw [h, h']; rfl) h0
      have := f65_core gx ox cx gy oy cy xs ys p h.symm hl nx ny hx hy w q (fun i hi => q' i (by omega))
      rwa [← h]
  · obtain ⟨a1, c1, rfl⟩ := h1.len
    obtain ⟨a2, c2, rfl⟩ := h2.len
    have HV := Lib.hid (ord3n_gt (hy.len_less hx h))
    have hne : ((xs.length : Int) != (ys.length : Int)) = true := by rw [bne_iff_ne]; omega
    have hnl : ¬ xs.length < ys.length := by omega
    clear h1 h2 hx hy
    go_enter Try.func65, Try.ntmps65
    go_wp2
    go_ret
    exact ⟨ret_int HV.out.symm, 0, rfl⟩
end Go.Proofs.Ytidkdjnfpepnfaa
