/- The walk of laws.FnIntLsh. -/
import Derived.Test.YtidkdjnfpepnfaaBig14
import Derived.Test.YtidkdjnfpepnfaaSp9
import Derived.Test.YtidkdjnfpepnfaaIbWalk
import Derived.IntWalk
namespace Go.Proofs.Ytidkdjnfpepnfaa
open Go.RowKit

set_option maxRecDepth 100000 in
set_option maxHeartbeats 1000000 in
theorem f5_core (neg : Bool) (v : Value) (l : List Nat) (hl : l.length ≤ 2147483647) (hd : ∀ d ∈ l, d < 256) (N : Nat) (hN : N < 18446744073709551616) (w : World) (hr : Row 0 .u8 w v l) :
    Calls Try.prog 5 #[.bool neg, v, .int .u64 N] w fun e w' => e = .returned (.bool true) ∧ Below w.heap.size w w' := by
  have HF := Lib.hid (f12_core neg 100 (by omega) v l (l.take 100) hl hd rfl w hr)
  obtain ⟨a, c, rfl⟩ := hr.len
  clear hr
  generalize signed neg (bv (l.take 100)) = z at *
  obtain ⟨n, hn⟩ : ∃ n, n = N % 4097 := ⟨_, rfl⟩
  have en : (N : Int) % 4097 = (n : Int) := by omega
  have hn2 : n ≤ 4096 := by omega
  clear hn
  go_enter Try.func5, Try.ntmps5
  go_wp2_with fail
  refine HF.out.mono ?_
  rintro e w1 ⟨v, u, rfl, hs, hv, hb⟩
  obtain ⟨d2, a2, k2, c2, rfl⟩ := hv.shape
  obtain ⟨d1, a1, k1, c1, rfl⟩ := hs.shape
  have HS := Lib.hid hs
  have HV := Lib.hid hv
  have HB := Lib.hid hb
  clear hs hv hb HF
  have HS0 := Lib.hid ((HS.out.below ((Below.refl w1.heap.size w1).alloc (Nat.le_refl _) (.cells #[.bool d1, .slice a1 k1 c1] 30)) (Nat.le_refl _)).below ((Below.refl (w1.heap.size + 1) (w1.alloc (.cells #[.bool d1, .slice a1 k1 c1] 30))).alloc (by simp) (.cells #[.int .i64 2, .bool d2, .slice a2 k2 c2, .int .u64 0, .string ⟨#[]⟩, .slice none 0 0] 27)) (by simp))
  have HV0 := Lib.hid ((HV.out.below ((Below.refl w1.heap.size w1).alloc (Nat.le_refl _) (.cells #[.bool d1, .slice a1 k1 c1] 30)) (Nat.le_refl _)).below ((Below.refl (w1.heap.size + 1) (w1.alloc (.cells #[.bool d1, .slice a1 k1 c1] 30))).alloc (by simp) (.cells #[.int .i64 2, .bool d2, .slice a2 k2 c2, .int .u64 0, .string ⟨#[]⟩, .slice none 0 0] 27)) (by simp))
  have HB0 : Hid (Below w.heap.size w ((w1.alloc (.cells #[.bool d1, .slice a1 k1 c1] 30)).alloc (.cells #[.int .i64 2, .bool d2, .slice a2 k2 c2, .int .u64 0, .string ⟨#[]⟩, .slice none 0 0] 27))) := (HB.out.alloc HB.out.size _).alloc (by have := HB.out.size; simp; omega) _
  clear HS HV HB hd
  go_wp2_with fail
  rw [en]
  have eW : IntKind.i64.wrap (n : Int) = (n : Int) := IntWalk.i64_in _ (by omega)
  clear en
  go_region_held3 (fun w' => w'.cell? ⟨w1.heap.size, 0, none⟩ = some (.bool d1) ∧ w'.cell? ⟨w1.heap.size, 1, none⟩ = some (.slice a1 k1 c1) ∧ w'.cell? ⟨w1.heap.size + 1, 0, none⟩ = some (.int .i64 2) ∧ w'.cell? ⟨w1.heap.size + 1, 1, none⟩ = some (.bool d2) ∧ w'.cell? ⟨w1.heap.size + 1, 2, none⟩ = some (.slice a2 k2 c2) ∧ w'.cell? ⟨w1.heap.size + 1, 3, none⟩ = some (.int .u64 0) ∧ w'.cell? ⟨w1.heap.size + 1, 4, none⟩ = some (.string ⟨#[]⟩) ∧ w'.cell? ⟨w1.heap.size + 1, 5, none⟩ = some (.slice none 0 0))
    (first
      | exact ⟨hf.1 0, hf.1 1, hf.2.2.1 0, hf.2.2.1 1, hf.2.2.1 2, hf.2.2.1 3, hf.2.2.1 4, hf.2.2.1 5⟩
      | exact ⟨hd.1 0, hd.1 1, hd.2.2.1 0, hd.2.2.1 1, hd.2.2.1 2, hd.2.2.1 3, hd.2.2.1 4, hd.2.2.1 5⟩
      | exact ⟨hc.1 0, hc.1 1, hc.2.2.1 0, hc.2.2.1 1, hc.2.2.1 2, hc.2.2.1 3, hc.2.2.1 4, hc.2.2.1 5⟩
      | go_keep)
    (first
      | (go_at_call 14; refine (f14_any 100 (by omega) _ z n hn2 _ _ (VInt.drew HV0.out)).mono ?_; rintro e w2 ⟨v2, rfl, hv2, hb2⟩; have hb3 := Lib.hid (((Below.refl (w1.heap.size + 2) _).drew).trans (hb2.mono (by simp))); have hc := later2 hb3.out (Nat.le_refl _); have hs2 := Lib.hid (HS0.out.below hb3.out (by simp)); have hx2 := Lib.hid hv2; clear hv2 hb2)
      | (go_at_call 15; refine (f15_any 100 (by omega) _ z n hn2 _ _ hs2.out).mono ?_; rintro e w3 ⟨v3, rfl, hs3, hb4⟩; have hb5 := Lib.hid (hb3.out.trans (hb4.mono (by have := hb3.out.size; simp at this; omega))); have hd := later2 hb5.out (Nat.le_refl _); have hx3 := Lib.hid (hx2.out.below hb4 (Nat.le_refl _)); have hs4 := Lib.hid hs3; clear hs3 hb4)
      | (go_at_call 8; refine (f8_any 8000 613 (by omega) _ _ (z * 2 ^ n) _ _ _ hx3.out hs4.out).mono ?_; rintro e w4 ⟨rfl, hb6⟩; have hb7 := Lib.hid (hb5.out.trans (hb6.mono (by have := hb5.out.size; simp at this; omega))); have hf := later2 hb7.out (Nat.le_refl _); clear hb6)
      )
  have HE := Lib.hid (HB0.out.trans (hb7.out.mono (by have := HB0.out.size; simp at this; omega)))
  clear hc hd hf hs2 hx2 hx3 hs4 hb3 hb5 hb7 HS0 HV0
  go_wp2
  go_ret
  exact ⟨rfl, HE.out⟩

theorem f5_any (neg : Bool) (a : Option Addr) (len cap : Nat) (zs : List Int) (n : Int) (hn : (Lit.int .u64 n).wf = true) (w : World) (h : IsRow .u8 w a len cap zs) :
    Calls Try.prog 5 #[.bool neg, .slice a len cap, .int .u64 n] w fun e w' => e = .returned (.bool true) ∧ Below w.heap.size w w' := by
  have hn' : 0 ≤ n ∧ n < 18446744073709551616 := by
    simp [Lit.wf, show IntKind.u64.min = 0 from by decide, show IntKind.u64.max = 18446744073709551615 from by decide] at hn
    omega
  by_cases hl : len ≤ 2147483647
  · obtain ⟨l, h1, h2, h3⟩ := h.toRow
    obtain ⟨N, rfl⟩ := Int.eq_ofNat_of_zero_le hn'.1
    exact f5_core neg _ l (by omega) h2 N (by omega) w h3
  · have hl' : (2147483647 : Int) < len := by omega
    clear h hn hn'
    go_enter Try.func5, Try.ntmps5
    go_wp2
    go_ret
    exact ⟨rfl, Below.refl _ _⟩
end Go.Proofs.Ytidkdjnfpepnfaa
