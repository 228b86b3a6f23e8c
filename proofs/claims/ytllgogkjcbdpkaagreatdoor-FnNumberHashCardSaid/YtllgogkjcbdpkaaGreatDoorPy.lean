/- The law: an integer that is the worth of a float has the float's hash. -/
import Derived.Test.YtllgogkjcbdpkaaGreatDoorPx
namespace Go.Proofs.YtllgogkjcbdpkaaGreatDoor.Z
open Go.RowKit

theorem SInt.above {B n : Nat} {w w' : World} {v : Value} {z : Int} (h : SInt B n w v z) (hb : Below w.heap.size w w') : SInt 0 n w' v z := (h.below hb (Nat.le_refl _)).le (Nat.zero_le _) (Nat.le_refl _)
set_option maxRecDepth 100000 in
set_option maxHeartbeats 4000000 in
theorem f3_core (neg : Bool) (v : Value) (l : List Nat) (hl : l.length ≤ 2147483647) (hd : ∀ d ∈ l, d < 256) (w : World) (hr : Row 0 .u8 w v l) :
    Calls Tryz.prog 3 #[.bool neg, v] w fun e w' => e = .returned (.bool true) ∧ Below w.heap.size w w' := by
  have H4 := Lib.hid (f4_core neg 120 (by omega) v l (l.take 120) hl hd rfl w hr)
  obtain ⟨a, c, rfl⟩ := hr.len
  generalize signed neg (bv (l.take 120)) = z at *
  clear hd hr
  generalize l.length = L at *
  go_enter Tryz.func3, Tryz.ntmps3
  go_wp2_with fail
  go_at_call 4
  refine H4.out.mono ?_
  rintro e w1 ⟨v1, u1, rfl, hs1, hv1, hb1⟩
  obtain ⟨d1, a1, k1, c1, rfl⟩ := hs1.shape
  obtain ⟨d2, a2, k2, c2, rfl⟩ := hv1.shape
  have hA : Below w1.heap.size w1 ((w1.alloc (.cells #[.bool d1, .slice a1 k1 c1] 24)).alloc (.cells #[.int .i64 2, .bool d2, .slice a2 k2 c2, .int .u64 0, .string ⟨#[]⟩, .slice none 0 0] 28)) := ((Below.refl _ _).alloc (Nat.le_refl _) _).alloc (by simp) _
  have HS1 := Lib.hid (hs1.above hA)
  have HB1 := Lib.hid (hb1.trans (hA.mono hb1.size))
  clear hs1 hv1 hb1 hA
  go_wp2_with fail
  go_at_call 5
  refine (f5_any _ z _ 0 HS1.out).mono ?_
  rintro e w2 ⟨s, r, hr, rfl, hb2⟩
  have HR := Lib.hid hr
  have HB2 := Lib.hid (HB1.out.trans (hb2.mono HB1.out.size))
  have H6 := Lib.hid (fun W => f6_any s r hr W)
  have H9 := Lib.hid (fun W => f9_any s r hr W)
  have hc := fun W => call10 (fw s r) W
  clear hr hb2
  generalize fw s r = u at *
  generalize sg s (tr r) = y at *
  go_wp2_with fail
  go_at_call 6
  refine (H6.out _).mono ?_
  rintro e w3 ⟨v3, b3, rfl, hs3, hb3⟩
  obtain ⟨d3, a3, k3, c3, rfl⟩ := hs3.shape
  have hA : Below w3.heap.size w3 (w3.alloc (.cells #[.bool d3, .slice a3 k3 c3] 24)) := (Below.refl _ _).alloc (Nat.le_refl _) _
  have HS3 := Lib.hid (hs3.above hA)
  have hB3 := HB2.out.trans (hb3.mono HB2.out.size)
  have HB3 := Lib.hid (hB3.trans (hA.mono hB3.size))
  clear hs3 hb3 hA hB3
  go_wp2_with fail
  go_at_call 8
  refine (f8_any 600 (by omega) _ y _ 0 HS3.out).mono ?_
  rintro e w4 ⟨v4, rfl, hv4, hb4⟩
  have HV4 := Lib.hid hv4
  have HB4 := Lib.hid (HB3.out.trans (hb4.mono HB3.out.size))
  clear hv4 hb4
  go_wp2_with fail
  go_at_call 7
  refine (f7_any 600 (by omega) _ y _ _ HV4.out).mono ?_
  rintro e w5 ⟨rfl, hb5⟩
  have HB5 := Lib.hid (HB4.out.trans (hb5.mono HB4.out.size))
  clear hb5
  go_wp2_with fail
  go_at_call 9
  refine (H9.out _).mono ?_
  rintro e w6 ⟨rfl, hb6⟩
  have HB6 := Lib.hid (HB5.out.trans (hb6.mono HB5.out.size))
  clear hb6
  generalize hsh y = k at *
  go_wp2_with fail
  go_ret
  exact ⟨rfl, HB6.out⟩
set_option maxRecDepth 100000 in
theorem f3_far (neg : Bool) (a : Option Addr) (n c : Nat) (hn : 2147483647 < n) (w : World) : Calls Tryz.prog 3 #[.bool neg, .slice a n c] w fun e w' => e = .returned (.bool true) ∧ Below w.heap.size w w' := by
  go_enter Tryz.func3, Tryz.ntmps3
  go_wp2_with fail
  go_ret
  exact ⟨rfl, Below.refl _ _⟩
end Go.Proofs.YtllgogkjcbdpkaaGreatDoor.Z
