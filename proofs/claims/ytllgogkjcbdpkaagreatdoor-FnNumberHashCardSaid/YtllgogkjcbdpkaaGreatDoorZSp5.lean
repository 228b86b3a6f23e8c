/- Written by wip/tools/port2.py out of the text Sp5 of seat Ytidkdjnfpepnfaa. -/
/- Walks of the reference's magnitudes: order, less. -/
import Derived.Test.YtllgogkjcbdpkaaGreatDoorZSp4
namespace Go.Proofs.YtllgogkjcbdpkaaGreatDoor.Z
open Go.RowKit

/-- How two numbers stand. -/
def ord3 (a b : Nat) : Int := if a < b then -1 else if a = b then 0 else 1
theorem ord3_lt {a b : Nat} (h : a < b) : ord3 a b = -1 := by simp [ord3, h]
theorem ord3_gt {a b : Nat} (h : b < a) : ord3 a b = 1 := by simp [ord3, show ¬ a < b by omega, show a ≠ b by omega]
theorem ord3_eq (a : Nat) : ord3 a a = 0 := by simp [ord3]
theorem IsB.lt_of_len {n m : Nat} {l k : List Nat} (h1 : IsB n l) (h2 : IsB m k) (h : l.length < k.length) : n < m := by
  cases k with
  | nil => simp at h
  | cons a r =>
    have h3 := h1.lt
    have h4 := h2.ge
    have h5 : 256 ^ l.length ≤ 256 ^ r.length := Nat.pow_le_pow_right (by decide) (by simp at h; omega)
    omega
theorem bv_lt_at (l k : List Nat) (hl : l.length = k.length) (hd1 : ∀ d ∈ l, d < 256) (q : Nat) (hq : q < l.length) (h : ∀ i, i < q → l.getD i 0 = k.getD i 0) (hx : l.getD q 0 < k.getD q 0) : bv l < bv k := by
  have h1 : l.take q = k.take q := by
    apply List.ext_getElem
    · simp; omega
    · intro i a b
      simp at a b
      have := h i (by omega)
      simp [show i < l.length by omega, show i < k.length by omega] at this
      simpa using this
  have e1 : l = l.take q ++ (l.getD q 0 :: l.drop (q + 1)) := by
    have : l.drop q = l.getD q 0 :: l.drop (q + 1) := by rw [List.drop_eq_getElem_cons hq]; simp [hq]
    rw [← this, List.take_append_drop]
  have hk : q < k.length := by omega
  have e2 : k = k.take q ++ (k.getD q 0 :: k.drop (q + 1)) := by
    have : k.drop q = k.getD q 0 :: k.drop (q + 1) := by rw [List.drop_eq_getElem_cons hk]; simp [hk]
    rw [← this, List.take_append_drop]
  have h5 := bv_lt (l.drop (q + 1)) (fun d hd => hd1 d (List.mem_of_mem_drop hd))
  generalize l.getD q 0 = x at *
  generalize k.getD q 0 = y at *
  rw [e1, e2, h1, bv_append, bv_append]
  have h3 : (x :: l.drop (q + 1)).length = (y :: k.drop (q + 1)).length := by simp; omega
  rw [h3]
  have h4 : (l.drop (q + 1)).length = (k.drop (q + 1)).length := by simp; omega
  simp only [bv]
  rw [h4] at h5 ⊢
  have h6 : (x + 1) * 256 ^ (k.drop (q + 1)).length ≤ y * 256 ^ (k.drop (q + 1)).length := Nat.mul_le_mul_right _ hx
  rw [Nat.add_mul] at h6
  omega
theorem eq_of_all (l k : List Nat) (hl : l.length = k.length) (h : ∀ i, i < l.length → l.getD i 0 = k.getD i 0) : l = k := by
  apply List.ext_getElem hl
  intro i a b
  have := h i a
  simpa [a, b] using this

set_option maxRecDepth 100000 in
set_option maxHeartbeats 1000000 in
theorem f36_any (v1 v2 : Value) (l1 l2 : List Nat) (n1 n2 : Nat) (h1 : IsB n1 l1) (h2 : IsB n2 l2) (hl1 : l1.length ≤ 100000) (hl2 : l2.length ≤ 100000) (B : Nat) (w : World) (hr1 : Row B .u8 w v1 l1) (hr2 : Row B .u8 w v2 l2) :
    Calls Tryz.prog 36 #[v1, v2] w fun e w' => e = .returned (.int .i64 (ord3 n1 n2)) ∧ ∃ m, w' = w.drewN m := by
  by_cases hne : l1.length = l2.length
  · by_cases h0 : l1.length = 0
    · have e1 : l1 = [] := List.eq_nil_of_length_eq_zero h0
      have e2 : l2 = [] := List.eq_nil_of_length_eq_zero (by omega)
      have F : Hid (ord3 n1 n2 = 0) := by
        show _ = _
        rw [h1.zero.2 e1, h2.zero.2 e2]; exact ord3_eq 0
      subst e1 e2
      obtain ⟨a1, c1, rfl⟩ := hr1.len
      obtain ⟨a2, c2, rfl⟩ := hr2.len
      clear hr1 hr2 h1 h2 h0 hne
      go_enter Tryz.func36, Tryz.ntmps36
      go_wp2
      go_loopw [5] (fun i wr => i = .int .i64 0 ∧ wr = w) (fun _ _ => 0)
      case atStart => exact ⟨rfl, rfl⟩
      case round =>
        obtain ⟨rfl, rfl⟩ := hrel
        go_wp2
        go_ret
        exact ⟨ret_int F.out.symm, 0, rfl⟩
    · rcases hr1 with ⟨rfl, _⟩ | ⟨_, g1, o1, c1, rfl, _, _, _, hc1⟩
      · simp at h0
      rcases hr2 with ⟨rfl, _⟩ | ⟨_, g2, o2, c2, rfl, _, _, _, hc2⟩
      · exact absurd hne h0
      have H1 := Lib.hid h1
      have H2 := Lib.hid h2
      have HC1 := Lib.hid hc1
      have HC2 := Lib.hid hc2
      have HE := Lib.hid hne
      rw [← hne]
      clear h1 h2 hc1 hc2 hne
      go_enter Tryz.func36, Tryz.ntmps36
      go_wp2
      go_loopw [5] (fun i wr => ∃ k : Nat, i = .int .i64 k ∧ k ≤ l1.length ∧ Hid (∀ j, j < k → l1.getD j 0 = l2.getD j 0) ∧ ∃ m, wr = w.drewN m) (fun i _ => l1.length - (intOf i).toNat)
      case atStart => exact ⟨0, rfl, Nat.zero_le _, fun j hj => by omega, 0, rfl⟩
      case round =>
        obtain ⟨k, rfl, hk, HZ, m, rfl⟩ := hrel
        by_cases hlt : k < l1.length
        · have e1 := HC1.out k hlt
          have e2 := HC2.out k (by rw [← HE.out]; exact hlt)
          by_cases hxy : l1.getD k 0 = l2.getD k 0
          · have HZ' : Hid (∀ j, j < k + 1 → l1.getD j 0 = l2.getD j 0) := fun j hj => by
              by_cases h : j = k
              · subst h; exact hxy
              · exact HZ.out j (by omega)
            rw [hxy] at e1
            clear hxy
            generalize l2.getD k 0 = x at *
            go_wp2
            go_quiet (fail)
            go_wp2
            go_roundw
            case rel => exact ⟨k + 1, by go_num, by omega, HZ', by first | exact ⟨_, rfl⟩ | (simp only [World.drewN_drewN]; exact ⟨_, rfl⟩)⟩
            case measure => simp [intOf]; omega
          · have hne1 : (((l1.getD k 0 : Nat) : Int) == ((l2.getD k 0 : Nat) : Int)) = false := by rw [beq_eq_false_iff_ne]; omega
            by_cases hlt2 : l1.getD k 0 < l2.getD k 0
            · have F : Hid (ord3 n1 n2 = -1) := by
                show _ = _
                refine ord3_lt ?_
                rw [← H1.out.val, ← H2.out.val]
                exact bv_lt_at l1 l2 HE.out H1.out.low k hlt HZ.out hlt2
              have hlt3 : ((l1.getD k 0 : Nat) : Int) < ((l2.getD k 0 : Nat) : Int) := by omega
              generalize l1.getD k 0 = x at *
              generalize l2.getD k 0 = y at *
              clear hxy hlt2
              go_wp2
              go_quiet (fail)
              go_wp2
              go_quiet (fail)
              go_wp2
              go_ret
              exact ⟨ret_int F.out.symm, by first | exact ⟨_, rfl⟩ | (simp only [World.drewN_drewN]; exact ⟨_, rfl⟩)⟩
            · have F : Hid (ord3 n1 n2 = 1) := by
                show _ = _
                refine ord3_gt ?_
                rw [← H1.out.val, ← H2.out.val]
                exact bv_lt_at l2 l1 HE.out.symm H2.out.low k (by rw [← HE.out]; exact hlt) (fun i hi => (HZ.out i hi).symm) (by omega)
              have hlt3 : ¬ ((l1.getD k 0 : Nat) : Int) < ((l2.getD k 0 : Nat) : Int) := by omega
              generalize l1.getD k 0 = x at *
              generalize l2.getD k 0 = y at *
              clear hxy hlt2
              go_wp2
              go_quiet (fail)
              go_wp2
              go_quiet (fail)
              go_wp2
              go_ret
              exact ⟨ret_int F.out.symm, by first | exact ⟨_, rfl⟩ | (simp only [World.drewN_drewN]; exact ⟨_, rfl⟩)⟩
        · obtain rfl : k = l1.length := by omega
          have F : Hid (ord3 n1 n2 = 0) := by
            show _ = _
            rw [← H1.out.val, ← H2.out.val, eq_of_all l1 l2 HE.out HZ.out]; exact ord3_eq _
          go_wp2
          go_ret
          exact ⟨ret_int F.out.symm, m, rfl⟩
  · obtain ⟨a1, c1, rfl⟩ := hr1.len
    obtain ⟨a2, c2, rfl⟩ := hr2.len
    clear hr1 hr2
    have hb : ((l1.length : Int) == (l2.length : Int)) = false := by rw [beq_eq_false_iff_ne]; omega
    by_cases hlt : l1.length < l2.length
    · have F : Hid (ord3 n1 n2 = -1) := ord3_lt (h1.lt_of_len h2 hlt)
      have hlt3 : (l1.length : Int) < l2.length := by omega
      clear h1 h2 hne
      go_enter Tryz.func36, Tryz.ntmps36
      go_wp2
      go_ret
      exact ⟨ret_int F.out.symm, 0, rfl⟩
    · have F : Hid (ord3 n1 n2 = 1) := ord3_gt (h2.lt_of_len h1 (by omega))
      have hlt3 : ¬ (l1.length : Int) < l2.length := by omega
      clear h1 h2 hne
      go_enter Tryz.func36, Tryz.ntmps36
      go_wp2
      go_ret
      exact ⟨ret_int F.out.symm, 0, rfl⟩

theorem less_step (v b p x y d b' : Nat) (A B : Nat) (h : v + B = A + b * 256 ^ p) (hd : d + y + b = x + 256 * b') : v + d * 256 ^ p + (B + y * 256 ^ p) = A + x * 256 ^ p + b' * 256 ^ (p + 1) := by
  have h1 : d * 256 ^ p + y * 256 ^ p + b * 256 ^ p = x * 256 ^ p + b' * 256 ^ (p + 1) := by
    rw [Nat.pow_succ, Nat.mul_comm (256 ^ p) 256, ← Nat.mul_assoc, ← Nat.add_mul, ← Nat.add_mul, ← Nat.add_mul, hd, Nat.mul_comm 256 b']
  omega

set_option maxRecDepth 100000 in
set_option maxHeartbeats 2000000 in
theorem f39_any (v1 v2 : Value) (l1 l2 : List Nat) (n1 n2 : Nat) (h1 : IsB n1 l1) (h2 : IsB n2 l2) (hge : n2 ≤ n1) (hl1 : l1.length ≤ 100000) (B : Nat) (w : World) (hr1 : Row B .u8 w v1 l1) (hr2 : Row B .u8 w v2 l2) :
    Calls Tryz.prog 39 #[v1, v2] w (MakesMag (n1 - n2) w) := by
  obtain ⟨i0, hi, hz0, hz1, hz2⟩ := info_parts info5
  have hl21 : l2.length ≤ l1.length := by
    rcases Nat.lt_or_ge l1.length l2.length with h | h
    · have := h1.lt_of_len h2 h; omega
    · exact h
  obtain ⟨a1, c1, rfl⟩ := hr1.len
  obtain ⟨a2, c2, rfl⟩ := hr2.len
  have HR1 := Lib.hid hr1
  have HR2 := Lib.hid hr2
  have H1 := Lib.hid h1
  have H2 := Lib.hid h2
  have HGE := Lib.hid hge
  clear hr1 hr2 h1 h2 hge
  obtain ⟨n, hn⟩ : ∃ n, n = l1.length := ⟨_, rfl⟩
  have hmk := fun w : World => run_make (P := Tryz.prog) w 22 5 i0 (.int .u8 0) Tryz.underlying22 hi hz0 .i64 .i64 (n : Int) (n : Int) (by omega) (by omega) (by rw [hz2]; omega) (by omega)
  simp only [hz1, Int.toNat_natCast, Nat.mul_one] at hmk
  have HO := Lib.hid (ownB_made w n n (Nat.le_refl _) (by simp [maxLen]; omega))
  have HN := Lib.hid hn
  have hn2 : n ≤ 100001 := by omega
  rw [← hn]
  have hl2n : l2.length ≤ n := by omega
  clear hl21 hn hl1
  go_enter Tryz.func39, Tryz.ntmps39
  go_wp2_with fail
  go_loopw [6, 7, 8] (fun vb vi _ wr => ∃ b p : Nat, vb = .int .i64 b ∧ vi = .int .i64 p ∧ p ≤ n ∧ b ≤ 1 ∧ ∃ ys v, Hid (Put n p v ys) ∧ Hid (v + lo l2 p = lo l1 p + b * 256 ^ p) ∧ Hid (OwnB w.heap.size wr w.heap.size n n ys) ∧ Hid (Below w.heap.size w wr)) (fun _ vi _ _ => n - (intOf vi).toNat)
  case atStart => exact ⟨0, 0, rfl, rfl, Nat.zero_le _, by omega, _, 0, Put.start n, by show _ = _; simp [lo_zero], HO.out, (Below.refl _ _).alloc (Nat.le_refl _) _⟩
  case round =>
    obtain ⟨b, p, rfl, rfl, hp, hb, ys, v, HP, HS, HOr, HB⟩ := hrel
    by_cases hpn : p < n
    · have HF1 : Hid _ := Lib.hid (f37_any _ l1 (by rw [← HN.out]; omega) H1.out.low B p wr (HR1.out.below HB.out (Nat.le_refl _)))
      have HF2 := Lib.hid (f37_any _ l2 (by omega) H2.out.low B p wr (HR2.out.below HB.out (Nat.le_refl _)))
      have hx := dg_lt l1 H1.out.low p
      have hy := dg_lt l2 H2.out.low p
      have HE1 := Lib.hid (lo_succ l1 p)
      have HE2 := Lib.hid (lo_succ l2 p)
      rw [← HN.out] at HF1
      generalize dg l1 p = x at *
      generalize dg l2 p = y at *
      have eq : ((n : Int) - 1 - p) = ((n - 1 - p : Nat) : Int) := by omega
      have hq : n - 1 - p < n := by omega
      have HI : Hid (n - 1 - p + p + 1 = n) := by show _ = _; omega
      generalize n - 1 - p = q at *
      have zc := HOr.out.cell q hq
      have zf := HOr.out.free q
      generalize ys.getD q 0 = y0 at *
      by_cases hlt : x < y + b
      · obtain ⟨d, hd⟩ : ∃ d : Nat, d + y + b = x + 256 * 1 := ⟨x + 256 - y - b, by omega⟩
        have hd2 : d < 256 := by omega
        have hd3 : ((x : Int) - y - b + 256) = (d : Int) := by omega
        have hd4 : ((x : Int) - y - b) < 0 := by omega
        have HO' := Lib.hid (HOr.out.stored q d)
        have HP' := Lib.hid (HP.out.step d hd2 q HI.out)
        have HS' : Hid (v + d * 256 ^ p + lo l2 (p + 1) = lo l1 (p + 1) + 1 * 256 ^ (p + 1)) := by
          show _ = _
          rw [HE1.out, HE2.out]; exact less_step v b p x y d 1 _ _ HS.out hd
        clear hd hlt
        go_wp2_with fail
        refine HF1.out.mono ?_
        rintro e w' ⟨rfl, rfl⟩
        go_wp2_with fail
        refine HF2.out.mono ?_
        rintro e w' ⟨rfl, rfl⟩
        go_wp2_with fail
        exact ⟨⟨1, p + 1, rfl, by go_num, by omega, by omega, _, _, HP', HS', HO'.out, HB.out.setCell (p := ⟨w.heap.size, q, none⟩) (Nat.le_refl _) _⟩, by simp [intOf]; omega⟩
      · obtain ⟨d, hd⟩ : ∃ d : Nat, d + y + b = x + 256 * 0 := ⟨x - y - b, by omega⟩
        have hd2 : d < 256 := by omega
        have hd3 : ((x : Int) - y - b) = (d : Int) := by omega
        have HO' := Lib.hid (HOr.out.stored q d)
        have HP' := Lib.hid (HP.out.step d hd2 q HI.out)
        have HS' : Hid (v + d * 256 ^ p + lo l2 (p + 1) = lo l1 (p + 1) + 0 * 256 ^ (p + 1)) := by
          show _ = _
          rw [HE1.out, HE2.out]; exact less_step v b p x y d 0 _ _ HS.out hd
        have hd5 : ¬ (d : Int) < 0 := by omega
        clear hd hlt
        go_wp2_with fail
        refine HF1.out.mono ?_
        rintro e w' ⟨rfl, rfl⟩
        go_wp2_with fail
        refine HF2.out.mono ?_
        rintro e w' ⟨rfl, rfl⟩
        go_wp2_with fail
        exact ⟨⟨0, p + 1, rfl, by go_num, by omega, by omega, _, _, HP', HS', HO'.out, HB.out.setCell (p := ⟨w.heap.size, q, none⟩) (Nat.le_refl _) _⟩, by simp [intOf]; omega⟩
    · obtain rfl : p = n := by omega
      have HV : Hid (IsB (n1 - n2) (strip ys)) := by
        have h1 := HS.out
        have h2 := HN.out
        rw [lo_all l1 p (by omega), lo_all l2 p hl2n, H1.out.val, H2.out.val] at h1
        have h3 := HP.out.lt (Nat.le_refl _)
        have h4 := HGE.out
        have h8 : bv ys = v := by have := HP.out.sum; rw [Nat.sub_self] at this; exact this
        have h7 : b = 0 := by
          rcases Nat.eq_zero_or_pos b with h | h
          · exact h
          · have : b = 1 := by omega
            subst this
            omega
        subst h7
        have h9 : bv ys = n1 - n2 := by rw [h8]; omega
        rw [← h9]
        exact IsB.ofStrip ys HP.out.low
      have HY := Lib.hid (f30_any _ ys (by rw [HOr.out.len]; omega) wr _ HOr.out.row)
      clear HP HS
      go_wp2_with fail
      refine HY.out.mono ?_
      rintro e w2 ⟨v2, rfl, hr, hb⟩
      have HR := Lib.hid (hr.le HB.out.size)
      have HB2 := Lib.hid (HB.out.trans (hb.mono HB.out.size))
      clear hr hb
      go_wp2_with fail
      go_ret
      exact ⟨v2, _, rfl, HR.out, HV.out, HB2.out⟩
end Go.Proofs.YtllgogkjcbdpkaaGreatDoor.Z
