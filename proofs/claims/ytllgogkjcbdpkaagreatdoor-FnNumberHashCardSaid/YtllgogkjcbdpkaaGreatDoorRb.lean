/- The reference's lowest 64 bits, a small integer, the parts of a float. -/
import Derived.Test.YtllgogkjcbdpkaaGreatDoorRa
import Derived.Test.YtllgogkjcbdpkaaGreatDoorFb
import Derived.Laws.Bits64b
namespace Go.Proofs.YtllgogkjcbdpkaaGreatDoor.Z
open Go.RowKit

theorem or_some (x y : Nat) (hy : y < 256) : ∃ m : Nat, bits BinOp.or IntKind.u64 (IntKind.u64.wrap ((x : Int) * 256)) (y : Int) = (m : Int) ∧ m < 18446744073709551616 := by
  have e : IntKind.u64.wrap ((x : Int) * 256) = ((x * 256 % 18446744073709551616 : Nat) : Int) := by rw [IntKind.wrap_u64]; omega
  rw [e, bits_or_u64_nat _ _ (Nat.mod_lt _ (by decide)) (by omega)]
  exact ⟨_, rfl, Nat.or_lt_two_pow (n := 64) (Nat.mod_lt _ (by decide)) (by omega)⟩
def LowIs (w : World) (e : Ending) (w' : World) : Prop := ∃ x : Nat, x < 18446744073709551616 ∧ e = .returned (.int .u64 x) ∧ Below w.heap.size w w'
set_option maxRecDepth 100000 in
set_option maxHeartbeats 2000000 in
theorem f22_any (n : Nat) (hn : n ≤ 1000) (v : Value) (z : Int) (B : Nat) (w : World) (hx : SInt B n w v z) : Calls Tryz.prog 22 #[v] w (LowIs w) := by
  obtain ⟨sl, l, rfl, hr, hb, hl⟩ := hx
  obtain ⟨a, c, rfl⟩ := hr.len
  have bel : Below w.heap.size w (w.alloc (.cells #[.bool (decide (z < 0)), .slice a l.length c] 24)) := (Below.refl _ _).alloc (Nat.le_refl _) _
  have H37 := Lib.hid (fun i => f37_any _ l (by omega) hb.low B i _ (hr.below bel (Nat.le_refl _)))
  have HD := Lib.hid (fun i => dg_lt l hb.low i)
  have HB := Lib.hid bel
  clear hr hb bel hl
  generalize decide (z < 0) = d at *
  generalize hL : l.length = L at *
  clear hL
  go_enter Tryz.func22, Tryz.ntmps22
  go_wp2_with fail
  generalize hW : w.alloc (.cells #[.bool d, .slice a L c] 24) = W at *
  have c1 : W.cell? ⟨w.heap.size, 1, none⟩ = some (.slice a L c) := by rw [← hW]; simp
  clear hW
  go_loop [3, 4] (fun u i => ∃ (k x : Nat), i = .int .i64 (7 - (k : Int)) ∧ k ≤ 8 ∧ u = .int .u64 x ∧ x < 18446744073709551616) (fun _ i => (intOf i + 1).toNat)
  case atStart => exact ⟨0, 0, rfl, by omega, rfl, by omega⟩
  case round =>
    obtain ⟨k, x, rfl, hk, rfl, hx⟩ := hrel
    by_cases h8 : k < 8
    · have H := Lib.hid (H37.out (7 - k))
      have hdg := HD.out (7 - k)
      have eq : (7 : Int) - (k : Int) = ((7 - k : Nat) : Int) := by omega
      have HQ : Hid (((7 - k : Nat) : Int) - 1 = 7 - ((k + 1 : Nat) : Int)) := by show _ = _; omega
      have hq : 7 - k < 8 := by omega
      generalize dg l (7 - k) = y at *
      generalize 7 - k = q at *
      go_wp2_with fail
      go_at_call 37
      refine H.out.mono ?_
      rintro e w' ⟨rfl, rfl⟩
      obtain ⟨m, hm1, hm2⟩ := or_some x y hdg
      have HM := Lib.hid hm1
      clear hm1
      go_wp2_with fail
      exact ⟨⟨k + 1, m, by rw [HQ.out], by omega, by rw [HM.out], hm2⟩, by simp [intOf]; omega⟩
    · obtain rfl : k = 8 := by omega
      go_wp2_with fail
      go_ret
      exact ⟨x, hx, rfl, HB.out⟩
set_option maxRecDepth 100000 in
set_option maxHeartbeats 2000000 in
theorem f20_one (w : World) : Calls Tryz.prog 20 #[.int .i64 1] w (MakesS 8 1 w) := by
  have H24 : Hid (∀ w, Calls Tryz.prog 24 #[.int .u64 1] w (BytesIs 1 w)) := fun w => f24_any 1 (by decide) w
  go_enter Tryz.func20, Tryz.ntmps20
  go_wp2_with fail
  go_at_call 24
  refine (H24.out _).mono ?_
  rintro e w1 ⟨v, l, rfl, hr, hl, hd, hv, hb⟩
  obtain ⟨a, c, rfl⟩ := hr.len
  have HB1 := Lib.hid (((Below.refl w.heap.size w).alloc (Nat.le_refl _) (.cells #[.bool false, .slice none 0 0] 24)).trans (hb.mono (by simp)))
  have HZ : Hid (w.heap.size + 1 ≤ w1.heap.size) := by have := hb.size; simp at this; show _ ≤ _; omega
  have HBW : Hid (Below (w.heap.size + 1) (w.alloc (.cells #[.bool false, .slice none 0 0] 24)) w1) := hb.mono (by simp)
  have H11 := Lib.hid (f11_any false _ l (by omega) hd w1 _ hr)
  rw [hv, show signed false 1 = 1 from rfl] at H11
  have HS : Hid ((strip l).length ≤ 8) := by have := strip_len l; show _ ≤ _; omega
  clear hr hd hv hb hl
  go_wp2_with fail
  go_at_call 11
  refine H11.out.mono ?_
  rintro e w2 ⟨v2, rfl, hs, hb2⟩
  obtain ⟨d2, a2, k2, c2, rfl⟩ := hs.shape
  have HS2 := Lib.hid hs
  have HB2 := Lib.hid (HB1.out.trans (hb2.mono HB1.out.size))
  have HBX : Hid (Below (w.heap.size + 1) (w.alloc (.cells #[.bool false, .slice none 0 0] 24)) w2) := (HBW.out.trans (hb2.mono HZ.out))
  obtain ⟨c0, f0⟩ := later HBX.out (by omega)
  clear hs hb2 H11
  go_wp2_with fail
  refine bodyPost_ret (v := .agg #[.bool d2, .slice a2 k2 c2]) (by simp [results, Tryz.results20, go_sem, c0]) rfl ?_
  refine ⟨_, rfl, ?_, ?_⟩
  · refine SInt.le (B := w.heap.size + 1) (n := 8) ?_ (by omega) (Nat.le_refl _)
    iterate 2 (refine SInt.setOld ?_ (show w.heap.size < w.heap.size + 1 by omega) _)
    exact HS2.out.le HZ.out HS.out
  · iterate 2 (refine Below.setCell ?_ (show w.heap.size ≤ w.heap.size by omega) _)
    exact HB2.out
theorem call10 (x : Nat) (w : World) : (callFunc 10 #[.float .f64 x]).run Tryz.prog w = .ok (.value (.int .u64 x)) w := by
  rw [run_callFunc_extern Tryz.func10 (by kernel_rfl) (by kernel_rfl) (by kernel_rfl) (e := Extern.MathFloatBits.float64bits) (by kernel_rfl)]
  rfl
/-- The power of a float's parts. -/
def pw (r : Nat) : Int := if r < 2 ^ 52 then -1074 else (r / 2 ^ 52 : Nat) - 1075
theorem mask_u64 (i x : Nat) (hi : i ≤ 64) (hx : x < 18446744073709551616) : bits BinOp.and IntKind.u64 (x : Int) (2 ^ i - 1) = ((x % 2 ^ i : Nat) : Int) := by
  have := bits_mask .u64 64 (by decide) (fun n h0 h1 => by rw [IntKind.wrap_u64]; omega) i hi (x : Int) (by omega) (by omega)
  rw [this]; simp
theorem fw_exp (s : Bool) (r : Nat) (h : r < 2047 * 2 ^ 52) : fw s r / 4503599627370496 % 2048 = r / 4503599627370496 := by unfold fw; cases s <;> simp <;> omega
theorem fw_man (s : Bool) (r : Nat) : fw s r % 4503599627370496 = r % 4503599627370496 := by unfold fw; cases s <;> simp <;> omega
theorem fw_top (s : Bool) (r : Nat) (h : r < 2047 * 2 ^ 52) : fw s r / 9223372036854775808 = if s then 1 else 0 := by unfold fw; cases s <;> simp <;> omega
theorem or_top (a : Nat) (h : a < 4503599627370496) : bits BinOp.or IntKind.u64 (a : Int) 4503599627370496 = ((a + 4503599627370496 : Nat) : Int) := by
  have := bits_or_u64_nat a 4503599627370496 (by omega) (by omega)
  have e : a ||| 4503599627370496 = a + 4503599627370496 := by
    rw [Nat.or_comm]
    have := Nat.two_pow_add_eq_or_of_lt (i := 52) (b := a) (by omega) 1
    simp only [Nat.reducePow, Nat.mul_one] at this
    omega
  rw [e] at this
  exact this
set_option maxRecDepth 100000 in
set_option maxHeartbeats 2000000 in
theorem f23_any (s : Bool) (r : Nat) (h : r < 2047 * 2 ^ 52) (w : World) : Calls Tryz.prog 23 #[.float .f64 (fw s r)] w fun e w' => e = .returned (.tuple #[.bool s, .int .u64 (mg r : Nat), .int .i64 (pw r)]) ∧ w = w' := by
  have hc := fun w => call10 (fw s r) w
  have hlt := fw_lt s r h
  have HE := Lib.hid (fw_exp s r h)
  have HMN := Lib.hid (fw_man s r)
  have HT := Lib.hid (fw_top s r h)
  obtain ⟨u, hu⟩ : ∃ u, u = fw s r := ⟨_, rfl⟩
  rw [← hu] at hc hlt HE HMN HT ⊢
  clear hu
  have m1 : bits BinOp.and IntKind.u64 ((u : Int) / 4503599627370496) 2047 = ((u / 4503599627370496 % 2048 : Nat) : Int) := by
    have := mask_u64 11 (u / 4503599627370496) (by omega) (by omega)
    rw [show (2 : Int) ^ 11 - 1 = 2047 by decide] at this
    rw [← this]; rfl
  have m2 : bits BinOp.and IntKind.u64 (u : Int) 4503599627370495 = ((u % 4503599627370496 : Nat) : Int) := by
    have := mask_u64 52 u (by omega) (by omega)
    rw [show (2 : Int) ^ 52 - 1 = 4503599627370495 by decide] at this
    rw [← this]
  rw [HE.out] at m1
  rw [HMN.out] at m2
  have ht : ((u : Int) / 9223372036854775808 == 1) = s := by
    have : (u : Int) / 9223372036854775808 = ((u / 9223372036854775808 : Nat) : Int) := by omega
    rw [this, HT.out]; cases s <;> rfl
  have mo := or_top (r % 4503599627370496) (Nat.mod_lt _ (by decide))
  by_cases hr : r < 2 ^ 52
  · have hq : ((r : Int) / 4503599627370496 == 0) = true := by
      have : (r : Int) / 4503599627370496 = 0 := by omega
      simp [this]
    have HMG : Hid ((mg r : Int) = (r : Int) % 4503599627370496) := by show _ = _; unfold mg; rw [if_pos hr]; omega
    have HPW : Hid (pw r = -1074) := by show _ = _; unfold pw; rw [if_pos hr]
    have hb : (r : Int) / 4503599627370496 ≤ 2047 := by omega
    have hb0 : (0 : Int) ≤ (r : Int) / 4503599627370496 := by omega
    clear hr mo h HE HMN HT
    go_enter Tryz.func23, Tryz.ntmps23
    go_wp2_with fail
    go_ret3
    exact ⟨by rw [HMG.out, HPW.out]; rfl, rfl⟩
  · have hq : ((r : Int) / 4503599627370496 == 0) = false := by
      have : ¬ (r : Int) / 4503599627370496 = 0 := by omega
      simpa using this
    have HMG : Hid (mg r = r % 4503599627370496 + 4503599627370496) := by show _ = _; unfold mg; rw [if_neg hr]; omega
    have HPW : Hid (pw r = (r : Int) / 4503599627370496 - 1075) := by show _ = _; unfold pw; rw [if_neg hr]; omega
    have hb : (r : Int) / 4503599627370496 ≤ 2047 := by omega
    have hb0 : (0 : Int) ≤ (r : Int) / 4503599627370496 := by omega
    have mo2 : bits BinOp.or IntKind.u64 ((r : Int) % 4503599627370496) 4503599627370496 = ((mg r : Nat) : Int) := by
      rw [HMG.out, ← mo]; congr 1
    clear hr h HE HMN HT mo HMG
    go_enter Tryz.func23, Tryz.ntmps23
    go_wp2_with fail
    go_ret3
    exact ⟨by rw [HPW.out]; rfl, rfl⟩
end Go.Proofs.YtllgogkjcbdpkaaGreatDoor.Z
