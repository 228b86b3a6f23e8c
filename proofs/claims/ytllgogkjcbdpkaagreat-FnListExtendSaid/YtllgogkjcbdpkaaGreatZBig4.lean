/- Written by wip/tools/port2.py out of the text Big4 of seat Ytidkdjnfpepnfaa. -/
/- Walks of the package's great numbers: how many bits. -/
import Derived.Test.YtllgogkjcbdpkaaGreatZBig3
import Derived.Test.YtllgogkjcbdpkaaGreatZShelf
import Derived.Lib.ItoaNum
namespace Go.Proofs.YtllgogkjcbdpkaaGreat.Z
open Go.RowKit

/-- y is x, or x with some more bits below its highest one. -/
def Smear (x y : Nat) : Prop := x ≤ y ∧ ∀ k, k ≤ 64 → x < 2 ^ k → y < 2 ^ k
theorem or_shift (x s : Nat) (M : Int) (hM : M = ((2 ^ s : Nat) : Int)) (hx : x < 2 ^ 64) : ∃ y : Nat, bits BinOp.or IntKind.u64 (x : Int) ((x : Int) / M) = (y : Int) ∧ Smear x y ∧ y < 2 ^ 64 := by
  subst hM
  have hq : x / 2 ^ s ≤ x := Nat.div_le_self _ _
  refine ⟨x ||| x / 2 ^ s, ?_, ⟨Nat.left_le_or, fun k _ h => Nat.or_lt_two_pow h (Nat.lt_of_le_of_lt hq h)⟩, Nat.or_lt_two_pow hx (Nat.lt_of_le_of_lt hq hx)⟩
  rw [← Int.natCast_ediv, (bits_nat .u64 64 (by decide) (fun n h1 h2 => wraps_u64 n h1 h2) x (x / 2 ^ s) hx (by omega)).2]
theorem Smear.trans {x y z : Nat} (h : Smear x y) (k : Smear y z) : Smear x z := ⟨Nat.le_trans h.1 k.1, fun i hi hx => k.2 i hi (h.2 i hi hx)⟩

/-- What bitLen tells of the words xs. -/
def BitsPost (m : Nat) (w : World) (e : Ending) (w' : World) : Prop := ∃ L : Int, e = .returned (.int .i64 L) ∧ 0 ≤ L ∧ L ≤ 1000000000 ∧ (L < 32 ↔ m < 2147483648) ∧ (L < 33 ↔ m < 4294967296) ∧ w = w'

set_option maxRecDepth 100000 in
theorem f88_nil (v : Value) (hv : v = .slice none 0 0 ∨ ∃ a c, v = .slice (some a) 0 c) (w : World) : Calls Tryz.prog 88 #[v] w (BitsPost 0 w) := by
  rcases hv with rfl | ⟨a, c, rfl⟩
  all_goals
    go_enter Tryz.func88, Tryz.ntmps88
    go_wp2
    go_ret
    exact ⟨0, rfl, by omega, by omega, by omega, by omega, rfl⟩

theorem bitLen_lt (y k : Nat) (hk : 1 ≤ k) (hk2 : k ≤ 64) (hy : y < 2 ^ 64) : Lib.bitLen y < k ↔ y < 2 ^ (k - 1) := by
  constructor
  · intro h
    by_cases h0 : y = 0
    · subst h0; exact Nat.pow_pos (by decide)
    · have hb := Lib.bitLenAux_bounds 64 y hy h0
      have : 2 ^ Lib.bitLenAux 64 y ≤ 2 ^ (k - 1) := Nat.pow_le_pow_right (by decide) (by unfold Lib.bitLen at h; omega)
      omega
  · intro h
    have := Lib.bitLen_le y (k - 1) (by omega) h
    omega

set_option maxRecDepth 100000 in
set_option maxHeartbeats 1000000 in
theorem f88_any (g off n c x m : Nat) (hn : 0 < n) (hnb : n ≤ 1000000) (w : World) (hx : x < 18446744073709551616) (hx0 : 0 < x) (h1 : n = 1 → m = x) (h2 : 1 < n → 18446744073709551616 ≤ m)
    (hcell : w.cell? ⟨g, off + (n - 1), none⟩ = some (.int .u64 (x : Int))) :
    Calls Tryz.prog 88 #[.slice (some ⟨g, off, none⟩) n c] w (BitsPost m w) := by
  have hn1 : (0 : Int) < n := by omega
  have H1 := Lib.hid h1
  have H2 := Lib.hid h2
  have HX := Lib.hid hx
  clear h1 h2 hx
  go_enter Tryz.func88, Tryz.ntmps88
  go_wp2_with fail
  obtain ⟨y1, e1, s1, b1⟩ := or_shift x 1 2 (by decide) HX.out
  rw [e1]
  obtain ⟨y2, e2, s2, b2⟩ := or_shift y1 2 4 (by decide) b1
  rw [e2]
  obtain ⟨y3, e3, s3, b3⟩ := or_shift y2 4 16 (by decide) b2
  rw [e3]
  obtain ⟨y4, e4, s4, b4⟩ := or_shift y3 8 256 (by decide) b3
  rw [e4]
  obtain ⟨y5, e5, s5, b5⟩ := or_shift y4 16 65536 (by decide) b4
  rw [e5]
  obtain ⟨y6, e6, s6, b6⟩ := or_shift y5 32 4294967296 (by decide) b5
  rw [show (y5 : Int) / 65536 / 65536 = (y5 : Int) / 4294967296 from by omega, e6]
  have S := Lib.hid (((((s1.trans s2).trans s3).trans s4).trans s5).trans s6)
  have HB6 := Lib.hid b6
  clear e1 e2 e3 e4 e5 e6 s1 s2 s3 s4 s5 s6 b1 b2 b3 b4 b5 b6
  refine (Tryz.bits_Len (y6 : Int) w (by omega) (by have := HB6.out; omega)).mono ?_
  rintro e w' ⟨rfl, rfl⟩
  have hlen : Hid (Lib.bitLen y6 ≤ 64) := Lib.bitLen_le y6 64 (by omega) HB6.out
  have h31 := Lib.hid (bitLen_lt y6 32 (by omega) (by omega) HB6.out)
  have h32 := Lib.hid (bitLen_lt y6 33 (by omega) (by omega) HB6.out)
  have hpos : Hid (1 ≤ Lib.bitLen y6) := by
    show 1 ≤ _
    have := (bitLen_lt y6 1 (by omega) (by omega) HB6.out)
    have h3 := S.out.1
    omega
  rw [Int.toNat_natCast]
  generalize Lib.bitLen y6 = L at *
  have hL := hlen.out
  go_wp2_with fail
  go_ret
  refine ⟨_, rfl, ?_⟩
  have q1 := h31.out
  have q2 := h32.out
  have q3 := hpos.out
  have q4 := S.out.1
  have q5 := S.out.2 31 (by omega)
  have q6 := S.out.2 32 (by omega)
  have q7 := H1.out
  have q8 := H2.out
  simp only [Nat.reduceSub] at q1 q2
  refine ⟨by omega, by omega, ?_, ?_, rfl⟩
  · by_cases hn : n = 1
    · have := q7 hn
      subst hn
      constructor
      · intro h; have : y6 < 2 ^ 31 := q1.1 (by omega); omega
      · intro h; have : L < 32 := q1.2 (q5 (by omega)); omega
    · have := q8 (by omega)
      constructor <;> intro h <;> omega
  · by_cases hn : n = 1
    · have := q7 hn
      subst hn
      constructor
      · intro h; have : y6 < 2 ^ 32 := q2.1 (by omega); omega
      · intro h; have : L < 33 := q2.2 (q6 (by omega)); omega
    · have := q8 (by omega)
      constructor <;> intro h <;> omega
end Go.Proofs.YtllgogkjcbdpkaaGreat.Z
