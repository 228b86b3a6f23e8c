/- The reference's bits: one bit, how many there are; its bytes of a number, its lowest 64 bits. -/
import Derived.Test.YtllgogkjcbdpkaaGreatDoorNb
import Derived.Laws.BitsLemmas
import Derived.Outline
namespace Go.Proofs.YtllgogkjcbdpkaaGreatDoor.Z
open Go.RowKit

theorem and_one (y : Nat) (hy : y < 256) : bits BinOp.and IntKind.i64 (y : Int) 1 = ((y % 2 : Nat) : Int) := by
  have := bits_mask .i64 62 (by decide) (fun n h0 h1 => by rw [IntKind.wrap_i64]; omega) 1 (by omega) (y : Int) (by omega) (by omega)
  rw [show (2 : Int) ^ 1 - 1 = 1 by decide] at this
  rw [this]; omega
set_option maxRecDepth 100000 in
theorem f18_any (v : Value) (l : List Nat) (hl : l.length ≤ 2147483647) (hd : ∀ d ∈ l, d < 256) (B i : Nat) (hi : i ≤ 100000) (w : World) (hr : Row B .u8 w v l) :
    Calls Tryz.prog 18 #[v, .int .i64 i] w fun e w' => e = .returned (.int .i64 (bt (bv l) i : Nat)) ∧ w = w' := by
  have F := Lib.hid (f37_any v l hl hd B (i / 8) w hr)
  have HE := Lib.hid (bt_dg l hd i)
  have hx := dg_lt l hd (i / 8)
  have e8 : (i : Int) / 8 = ((i / 8 : Nat) : Int) := by omega
  have er : (i : Int) % 8 = ((i % 8 : Nat) : Int) := by omega
  have hr8 : i % 8 < 8 := by omega
  clear hd hr
  generalize dg l (i / 8) = x at *
  generalize i % 8 = r at *
  generalize i / 8 = q at *
  go_enter Tryz.func18, Tryz.ntmps18
  go_wp2_with fail
  go_at_call 37
  refine F.out.mono ?_
  rintro e w' ⟨rfl, rfl⟩
  clear F
  go_wp2_with fail
  go_ret
  refine ⟨?_, rfl⟩
  rw [← HE.out]
  have e : (x : Int) / 2 ^ r = ((x / 2 ^ r : Nat) : Int) := by simp
  rw [e, and_one _ (Nat.lt_of_le_of_lt (Nat.div_le_self _ _) hx)]
  rfl
/-- How many bits a number has. -/
def LengthIs (z : Int) (w : World) (e : Ending) (w' : World) : Prop := ∃ k : Nat, e = .returned (.int .i64 k) ∧ LenIs z.natAbs k ∧ Below w.heap.size w w'
set_option maxRecDepth 100000 in
set_option maxHeartbeats 2000000 in
theorem f12_any (n : Nat) (hn : n ≤ 1000) (v : Value) (z : Int) (B : Nat) (w : World) (hx : SInt B n w v z) : Calls Tryz.prog 12 #[v] w (LengthIs z w) := by
  obtain ⟨sl, l, rfl, hr, hb, hl⟩ := hx
  obtain ⟨a, c, rfl⟩ := hr.len
  have bel : Below w.heap.size w (w.alloc (.cells #[.bool (decide (z < 0)), .slice a l.length c] 24)) := (Below.refl _ _).alloc (Nat.le_refl _) _
  have H18 := Lib.hid (fun i (hi : i ≤ 100000) => f18_any _ l (by omega) hb.low B i hi _ (hr.below bel (Nat.le_refl _)))
  have HV := Lib.hid hb.val
  have HT : Hid (z.natAbs < 2 ^ (8 * l.length)) := by have := hb.lt; rwa [p8] at this
  have HB := Lib.hid bel
  have hl2 : l.length ≤ 1000 := by omega
  rw [hb.val] at H18
  clear hr hb bel hl
  generalize hd : decide (z < 0) = d at *
  clear hd
  generalize hm : z.natAbs = m at *
  have HM := Lib.hid hm
  clear hm
  generalize hL : l.length = L at *
  clear hL
  go_enter Tryz.func12, Tryz.ntmps12
  go_wp2_with fail
  generalize hW : w.alloc (.cells #[.bool d, .slice a L c] 24) = W at *
  have c1 : W.cell? ⟨w.heap.size, 1, none⟩ = some (.slice a L c) := by rw [← hW]; simp
  clear hW
  go_loop [3] (fun i => ∃ k : Nat, i = .int .i64 k ∧ k ≤ 8 * L ∧ Hid (m < 2 ^ k)) (fun i => (intOf i).toNat)
  case atStart => exact ⟨8 * L, by go_num, by omega, HT.out⟩
  case round =>
    obtain ⟨k, rfl, hk, HK⟩ := hrel
    by_cases h0 : k = 0
    · subst h0
      go_wp2_with fail
      go_ret
      exact ⟨0, rfl, by rw [HM.out]; exact ⟨HK.out, .inl rfl⟩, HB.out⟩
    · obtain ⟨j, rfl⟩ : ∃ j, k = j + 1 := ⟨k - 1, by omega⟩
      have hb := bt_lt m j
      have HS := Lib.hid (len_step HK.out)
      have H := Lib.hid (H18.out j (by omega))
      generalize bt m j = b at *
      have hb2 : b = 0 ∨ b = 1 := by omega
      clear hb
      go_wp2_with fail
      go_at_call 18
      refine H.out.mono ?_
      rintro e w' ⟨rfl, rfl⟩
      rcases hb2 with rfl | rfl
      · go_wp2_with fail
        go_round
        case rel => exact ⟨j, by go_num, by omega, HS.out.2 (by first | rfl | trivial)⟩
        case measure => simp [intOf]
      · go_wp2_with fail
        go_ret
        exact ⟨j + 1, by go_num, by rw [HM.out]; exact HS.out.1 (by first | rfl | trivial), HB.out⟩
def BytesIs (u : Nat) (w : World) (e : Ending) (w' : World) : Prop := ∃ v l, e = .returned v ∧ Row w.heap.size .u8 w' v l ∧ l.length = 8 ∧ (∀ d ∈ l, d < 256) ∧ bv l = u ∧ Below w.heap.size w w'
theorem mod_step (u k : Nat) : u % 256 ^ k + u / 256 ^ k % 256 * 256 ^ k = u % 256 ^ (k + 1) := by
  rw [Nat.pow_succ, Nat.mod_mul, Nat.mul_comm (256 ^ k)]
theorem div_step (u k : Nat) : u / 256 ^ k / 256 = u / 256 ^ (k + 1) := by rw [Nat.pow_succ, Nat.div_div_eq_div_mul]
set_option maxRecDepth 100000 in
set_option maxHeartbeats 2000000 in
theorem f24_any (u : Nat) (hu : u < 18446744073709551616) (w : World) : Calls Tryz.prog 24 #[.int .u64 u] w (BytesIs u w) := by
  obtain ⟨i0, hi, hz0, hz1, hz2⟩ := info_parts info5
  have hmk := fun w : World => run_make (P := Tryz.prog) w 22 5 i0 (.int .u8 0) Tryz.underlying22 hi hz0 .i64 .i64 (8 : Int) (8 : Int) (by omega) (by omega) (by rw [hz2]; omega) (by omega)
  simp only [hz1, show (8 : Int).toNat = 8 by rfl, Nat.mul_one] at hmk
  have HO := Lib.hid (ownB_made w 8 8 (Nat.le_refl _) (by simp [maxLen]))
  go_enter Tryz.func24, Tryz.ntmps24
  go_wp2_with fail
  go_loopw [0, 4] (fun vu vi wr => ∃ k : Nat, vi = .int .i64 (7 - (k : Int)) ∧ k ≤ 8 ∧ ∃ ys x, vu = .int .u64 (x : Nat) ∧ x < 18446744073709551616 ∧ Hid (x = u / 256 ^ k) ∧ Hid (Put 8 k (u % 256 ^ k) ys) ∧ Hid (OwnB w.heap.size wr w.heap.size 8 8 ys) ∧ Hid (Below w.heap.size w wr)) (fun _ vi _ => (intOf vi + 1).toNat)
  case atStart => exact ⟨0, rfl, by omega, _, u, rfl, hu, by show _ = _; simp, by have := Put.start 8; rwa [show u % 256 ^ 0 = 0 by simp [Nat.mod_one]], HO.out, (Below.refl _ _).alloc (Nat.le_refl _) _⟩
  case round =>
    obtain ⟨k, rfl, hk, ys, x, rfl, hx, HX, HP, HOr, HB⟩ := hrel
    by_cases h8 : k < 8
    · have zc := HOr.out.cell (7 - k) (by omega)
      have zf := HOr.out.free (7 - k)
      have HO' := Lib.hid (HOr.out.stored (7 - k) (x % 256))
      have HP' : Hid (Put 8 (k + 1) (u % 256 ^ (k + 1)) (ys.set (7 - k) (x % 256))) := by
        show Put _ _ _ _
        rw [HX.out, ← mod_step]
        exact HP.out.step _ (Nat.mod_lt _ (by decide)) (7 - k) (by omega)
      have HX' : Hid (x / 256 = u / 256 ^ (k + 1)) := by show _ = _; rw [HX.out, div_step]
      have eq : (7 : Int) - (k : Int) = ((7 - k : Nat) : Int) := by omega
      have hq : 7 - k < 8 := by omega
      have HQ : Hid (((7 - k : Nat) : Int) - 1 = 7 - ((k + 1 : Nat) : Int)) := by show _ = _; omega
      generalize 7 - k = q at *
      generalize ys.getD q 0 = y0 at *
      go_wp2_with fail
      exact ⟨⟨k + 1, by rw [HQ.out], by omega, _, x / 256, by go_num, by omega, HX', HP', by show OwnB _ _ _ _ _ _; simpa using HO'.out, HB.out.setCell (p := ⟨w.heap.size, q, none⟩) (Nat.le_refl _) _⟩, by simp [intOf]; omega⟩
    · obtain rfl : k = 8 := by omega
      go_wp2_with fail
      go_ret
      refine ⟨_, ys, rfl, HOr.out.row, HOr.out.len, HP.out.low, ?_, HB.out⟩
      have h8 := HP.out.sum
      rw [Nat.sub_self] at h8
      have h9 : u % 256 ^ 8 = u := Nat.mod_eq_of_lt (by simpa using hu)
      rw [← h9]; exact h8
end Go.Proofs.YtllgogkjcbdpkaaGreatDoor.Z
