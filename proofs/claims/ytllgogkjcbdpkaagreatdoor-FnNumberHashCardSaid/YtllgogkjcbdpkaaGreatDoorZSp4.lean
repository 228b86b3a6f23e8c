/- Written by wip/tools/port2.py out of the text Sp4 of seat Ytidkdjnfpepnfaa. -/
/- Walks of the reference's magnitudes: digit, sum; the plain laws behind them. -/
import Derived.Test.YtllgogkjcbdpkaaGreatDoorZIbWalk
namespace Go.Proofs.YtllgogkjcbdpkaaGreatDoor.Z
open Go.RowKit

/-- The digit at a place, the lowest place first. -/
def dg (l : List Nat) (i : Nat) : Nat := if i < l.length then l.getD (l.length - 1 - i) 0 else 0
/-- The number of the lowest p digits. -/
def lo (l : List Nat) (p : Nat) : Nat := bv (l.drop (l.length - p))
theorem lo_zero (l : List Nat) : lo l 0 = 0 := by simp [lo, bv]
theorem lo_all (l : List Nat) (p : Nat) (h : l.length ≤ p) : lo l p = bv l := by simp [lo, show l.length - p = 0 from by omega]
theorem lo_succ (l : List Nat) (p : Nat) : lo l (p + 1) = lo l p + dg l p * 256 ^ p := by
  by_cases h : p < l.length
  · have h1 : l.length - (p + 1) < l.length := by omega
    have h2 : l.length - (p + 1) = l.length - 1 - p := by omega
    have h3 : l.length - 1 - p < l.length := by omega
    have h4 : l.length - 1 - p + 1 = l.length - p := by omega
    simp only [lo, dg, h, if_true]
    rw [h2, List.drop_eq_getElem_cons h3, bv, h4]
    simp [h3]
    rw [show l.length - (l.length - p) = p from by omega]; omega
  · rw [lo_all l (p + 1) (by omega), lo_all l p (by omega)]
    simp [dg, h]
theorem dg_lt (l : List Nat) (hd : ∀ d ∈ l, d < 256) (i : Nat) : dg l i < 256 := by
  unfold dg
  split
  · have h3 : l.length - 1 - i < l.length := by omega
    simp [h3]; exact hd _ (List.getElem_mem h3)
  · omega

set_option maxRecDepth 100000 in
theorem f37_any (v : Value) (l : List Nat) (hl : l.length ≤ 2147483647) (hd : ∀ d ∈ l, d < 256) (B i : Nat) (w : World) (hr : Row B .u8 w v l) :
    Calls Tryz.prog 37 #[v, .int .i64 i] w fun e w' => e = .returned (.int .i64 (dg l i : Nat)) ∧ w = w' := by
  by_cases hi : i < l.length
  · rcases hr with ⟨rfl, _⟩ | ⟨h0, g, off, c, rfl, hc, hB, hg, hcell⟩
    · simp at hi
    · have e1 := hcell (l.length - 1 - i) (by omega)
      have e2 : Hid (dg l i = l.getD (l.length - 1 - i) 0) := by show _ = _; simp [dg, hi]
      have e3 : ((l.length : Int) - 1 - i) = ((l.length - 1 - i : Nat) : Int) := by omega
      have e4 : l.length - 1 - i < l.length := by omega
      have hi' : (i : Int) < l.length := by omega
      have hx : l.getD (l.length - 1 - i) 0 < 256 := by simp [e4]; exact hd _ (List.getElem_mem e4)
      clear hcell hd
      generalize l.getD (l.length - 1 - i) 0 = x at *
      generalize l.length - 1 - i = q at *
      go_enter Tryz.func37, Tryz.ntmps37
      go_wp2
      go_ret
      exact ⟨by rw [e2.out]; rfl, rfl⟩
  · have e2 : Hid (dg l i = 0) := by show _ = _; simp [dg, hi]
    obtain ⟨a, c, rfl⟩ := hr.len
    have hi' : ¬ (i : Int) < l.length := by omega
    clear hr
    go_enter Tryz.func37, Tryz.ntmps37
    go_wp2
    go_ret
    exact ⟨by rw [e2.out]; rfl, rfl⟩


/-- What makes a magnitude leaves. -/
def MakesMag (n : Nat) (w : World) (e : Ending) (w' : World) : Prop :=
  ∃ v l, e = .returned v ∧ Row w.heap.size .u8 w' v l ∧ IsB n l ∧ Below w.heap.size w w'

theorem sum_step (v c p x y : Nat) (A B : Nat) (h : v + c * 256 ^ p = A + B) : v + (x + y + c) % 256 * 256 ^ p + (x + y + c) / 256 * 256 ^ (p + 1) = A + x * 256 ^ p + (B + y * 256 ^ p) := by
  have h1 : (x + y + c) % 256 * 256 ^ p + (x + y + c) / 256 * 256 ^ (p + 1) = (x + y + c) * 256 ^ p := by
    have := Nat.mod_add_div (x + y + c) 256
    rw [Nat.pow_succ, Nat.mul_comm (256 ^ p) 256, ← Nat.mul_assoc, ← Nat.add_mul]
    congr 1; omega
  have h2 : (x + y + c) * 256 ^ p = x * 256 ^ p + y * 256 ^ p + c * 256 ^ p := by rw [Nat.add_mul, Nat.add_mul]
  omega
theorem Put.lt {n p v : Nat} {ys : List Nat} (h : Put n p v ys) (hp : p ≤ n) : v < 256 ^ p := by
  have := bv_lt (ys.drop (n - p)) (fun d hd => h.low d (List.mem_of_mem_drop hd))
  rw [h.sum, List.length_drop, h.len, show n - (n - p) = p from by omega] at this
  exact this

set_option maxRecDepth 100000 in
set_option maxHeartbeats 2000000 in
theorem f38_any (v1 v2 : Value) (l1 l2 : List Nat) (m : Nat) (hm : m ≤ 100000) (hl1 : l1.length ≤ m) (hl2 : l2.length ≤ m) (hd1 : ∀ d ∈ l1, d < 256) (hd2 : ∀ d ∈ l2, d < 256) (B : Nat) (w : World) (hr1 : Row B .u8 w v1 l1) (hr2 : Row B .u8 w v2 l2) :
    Calls Tryz.prog 38 #[v1, v2] w (MakesMag (bv l1 + bv l2) w) := by
  obtain ⟨i0, hi, hz0, hz1, hz2⟩ := info_parts info5
  obtain ⟨a1, c1, rfl⟩ := hr1.len
  obtain ⟨a2, c2, rfl⟩ := hr2.len
  have HR1 := Lib.hid hr1
  have HR2 := Lib.hid hr2
  have HD1 := Lib.hid hd1
  have HD2 := Lib.hid hd2
  clear hr1 hr2 hd1 hd2
  obtain ⟨n, hn⟩ : ∃ n, n = max l1.length l2.length + 1 := ⟨_, rfl⟩
  have hmk := fun w : World => run_make (P := Tryz.prog) w 22 5 i0 (.int .u8 0) Tryz.underlying22 hi hz0 .i64 .i64 (n : Int) (n : Int) (by omega) (by omega) (by rw [hz2]; omega) (by omega)
  simp only [hz1, Int.toNat_natCast, Nat.mul_one] at hmk
  have HO := Lib.hid (ownB_made w n n (Nat.le_refl _) (by simp [maxLen]; omega))
  have hmax : (max (l1.length : Int) l2.length + 1) = (n : Int) := by omega
  have HN := Lib.hid hn
  have hn2 : n ≤ 100001 := by omega
  have hn3 : 1 ≤ n := by omega
  have hq1 : l1.length ≤ 100000 := by omega
  have hq2 : l2.length ≤ 100000 := by omega
  clear hn
  go_enter Tryz.func38, Tryz.ntmps38
  go_wp2_with fail
  go_loopw [7, 8, 9] (fun vc vi _ wr => ∃ c p : Nat, vc = .int .i64 c ∧ vi = .int .i64 p ∧ p ≤ n ∧ c ≤ 1 ∧ ∃ ys v, Hid (Put n p v ys) ∧ Hid (v + c * 256 ^ p = lo l1 p + lo l2 p) ∧ Hid (OwnB w.heap.size wr w.heap.size n n ys) ∧ Hid (Below w.heap.size w wr)) (fun _ vi _ _ => n - (intOf vi).toNat)
  case atStart => exact ⟨0, 0, rfl, rfl, Nat.zero_le _, by omega, _, 0, Put.start n, by show _ = _; simp [lo_zero], HO.out, (Below.refl _ _).alloc (Nat.le_refl _) _⟩
  case round =>
    obtain ⟨c, p, rfl, rfl, hp, hc, ys, v, HP, HS, HOr, HB⟩ := hrel
    by_cases hpn : p < n
    · have HF1 := Lib.hid (f37_any _ l1 (by omega) HD1.out B p wr (HR1.out.below HB.out (Nat.le_refl _)))
      have HF2 := Lib.hid (f37_any _ l2 (by omega) HD2.out B p wr (HR2.out.below HB.out (Nat.le_refl _)))
      have hx := dg_lt l1 HD1.out p
      have hy := dg_lt l2 HD2.out p
      have HE1 := Lib.hid (lo_succ l1 p)
      have HE2 := Lib.hid (lo_succ l2 p)
      generalize dg l1 p = x at *
      generalize dg l2 p = y at *
      have eq : ((n : Int) - 1 - p) = ((n - 1 - p : Nat) : Int) := by omega
      have hq : n - 1 - p < n := by omega
      have HI : Hid (n - 1 - p + p + 1 = n) := by show _ = _; omega
      generalize n - 1 - p = q at *
      have zc := HOr.out.cell q hq
      have zf := HOr.out.free q
      have HO' := Lib.hid (HOr.out.stored q ((x + y + c) % 256))
      have HP' := Lib.hid (HP.out.step ((x + y + c) % 256) (by omega) q HI.out)
      have HS' : Hid (v + (x + y + c) % 256 * 256 ^ p + (x + y + c) / 256 * 256 ^ (p + 1) = lo l1 (p + 1) + lo l2 (p + 1)) := by
        show _ = _
        rw [HE1.out, HE2.out]; exact sum_step v c p x y _ _ HS.out
      generalize ys.getD q 0 = y0 at *
      go_wp2_with fail
      refine HF1.out.mono ?_
      rintro e w' ⟨rfl, rfl⟩
      go_wp2_with fail
      refine HF2.out.mono ?_
      rintro e w' ⟨rfl, rfl⟩
      go_wp2_with fail
      exact ⟨⟨(x + y + c) / 256, p + 1, by go_num, by go_num, by omega, by omega, _, _, HP', HS', by show OwnB _ _ _ _ _ _; simpa using HO'.out, HB.out.setCell (p := ⟨w.heap.size, q, none⟩) (Nat.le_refl _) _⟩, by simp [intOf]; omega⟩
    · obtain rfl : p = n := by omega
      have HV : Hid (IsB (bv l1 + bv l2) (strip ys)) := by
        have h1 := HS.out
        have h2 := HN.out
        rw [lo_all l1 p (by omega), lo_all l2 p (by omega)] at h1
        have h3 := bv_lt l1 HD1.out
        have h4 := bv_lt l2 HD2.out
        have h5 : 256 ^ l1.length ≤ 256 ^ (max l1.length l2.length) := Nat.pow_le_pow_right (by decide) (Nat.le_max_left _ _)
        have h6 : 256 ^ l2.length ≤ 256 ^ (max l1.length l2.length) := Nat.pow_le_pow_right (by decide) (Nat.le_max_right _ _)
        have h7 : c = 0 := by
          rcases Nat.eq_zero_or_pos c with h | h
          · exact h
          · have : c = 1 := by omega
            subst this
            rw [h2, Nat.pow_succ] at h1
            generalize 256 ^ (max l1.length l2.length) = M at *
            omega
        have h8 : bv ys = v := by have := HP.out.sum; rw [Nat.sub_self] at this; exact this
        subst h7
        have h9 : bv ys = bv l1 + bv l2 := by rw [h8, ← h1]; simp
        rw [← h9]
        exact IsB.ofStrip ys HP.out.low
      have HY := Lib.hid (f30_any _ ys (by rw [HOr.out.len]; omega) wr _ HOr.out.row)
      clear HP HS
      go_wp2_with fail
      refine HY.out.mono ?_
      rintro e w2 ⟨v2, rfl, hr, hb⟩
      have HR := Lib.hid (hr.le HB.out.size)
      have HB2 := Lib.hid (HB.out.trans (hb.mono HB.out.size))
      clear hr hb
      go_wp2_with fail
      go_ret
      exact ⟨v2, _, rfl, HR.out, HV.out, HB2.out⟩
end Go.Proofs.YtllgogkjcbdpkaaGreatDoor.Z
