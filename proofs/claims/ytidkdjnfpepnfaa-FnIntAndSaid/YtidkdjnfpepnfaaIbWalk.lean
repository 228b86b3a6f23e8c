/- The walk of laws.FnIntBack; what the laws are told of their bytes. -/
import Derived.Test.YtidkdjnfpepnfaaBig11
import Derived.Test.YtidkdjnfpepnfaaSp3
namespace Go.Proofs.Ytidkdjnfpepnfaa
open Go.RowKit

/-- A slice of bytes that came in, as a list of numbers. -/
theorem IsRow.toRow {w : World} {a : Option Addr} {len cap : Nat} {zs : List Int} (h : IsRow .u8 w a len cap zs) :
    ∃ l : List Nat, l.length = len ∧ (∀ d ∈ l, d < 256) ∧ Row 0 .u8 w (.slice a len cap) l := by
  rcases h with ⟨rfl, rfl, rfl, rfl⟩ | ⟨x, rfl, h1, h2, h3, h4, h5⟩
  · exact ⟨[], rfl, by simp, .inl ⟨rfl, .inl rfl⟩⟩
  · by_cases h0 : len = 0
    · subst h0
      exact ⟨[], rfl, by simp, .inl ⟨rfl, .inr ⟨_, _, rfl⟩⟩⟩
    · have hwf : ∀ i, i < zs.length → 0 ≤ zs.getD i 0 ∧ zs.getD i 0 < 256 := fun i hi => by
        have := h5 (zs.getD i 0) (by simp [hi])
        generalize zs.getD i 0 = y at *
        simp [Lit.wf, show IntKind.u8.min = 0 from by decide, show IntKind.u8.max = 255 from by decide] at this
        omega
      have hx : x.spot = none := by
        have := h4 0 (by omega)
        have hx0 : x.add 0 = x := by simp [Addr.add]
        rw [hx0] at this
        unfold World.cell? at this
        split at this
        · cases hsp : x.spot with
          | none => rfl
          | some s => simp [hsp] at this
        · cases this
      obtain ⟨g, off, sp⟩ := x
      simp only at hx
      subst hx
      have hadd : ∀ i, (⟨g, off, none⟩ : Addr).add i = ⟨g, off + i, none⟩ := fun i => by unfold Addr.add; split <;> simp_all
      refine ⟨(zs.take len).map Int.toNat, by simp; omega, fun d hd => ?_, .inr ⟨by simp; omega, g, off, cap, ?_, by simp; omega, Nat.zero_le _, ?_, fun i hi => ?_⟩⟩
      · obtain ⟨y, hy, rfl⟩ := List.mem_map.1 hd
        obtain ⟨i, hi, rfl⟩ := List.getElem_of_mem (List.mem_of_mem_take hy)
        have := hwf i hi
        simp [hi] at this
        omega
      · simp [Nat.min_eq_left (show len ≤ zs.length by omega)]
      · have := h4 0 (by omega)
        rw [hadd] at this
        exact World.block_lt_of_cell? w ⟨g, off + 0, none⟩ this
      · simp at hi
        have h6 := h4 i (by omega)
        have h7 := hwf i (by omega)
        rw [hadd] at h6
        rw [h6]
        have h8 : i < zs.length := by omega
        have h9 : i < len := by omega
        simp [h8] at h7
        simp [h8, h9]
        omega

theorem SInt.shape {B n : Nat} {w : World} {v : Value} {z : Int} (h : SInt B n w v z) : ∃ d a k c, v = .agg #[.bool d, .slice a k c] := by
  obtain ⟨sl, l, rfl, hr, _⟩ := h
  obtain ⟨a, c, rfl⟩ := hr.len
  exact ⟨_, _, _, _, rfl⟩
theorem VInt.drew {B n : Nat} {w : World} {v : Value} {z : Int} (h : VInt B n w v z) : VInt B n w.drew v z := h
theorem SInt.drew {B n : Nat} {w : World} {v : Value} {z : Int} (h : SInt B n w v z) : SInt B n w.drew v z := h

set_option maxRecDepth 100000 in
set_option maxHeartbeats 1000000 in
theorem f4_core (neg : Bool) (v : Value) (l : List Nat) (hl : l.length ≤ 2147483647) (hd : ∀ d ∈ l, d < 256) (w : World) (hr : Row 0 .u8 w v l) :
    Calls Try.prog 4 #[.bool neg, v] w fun e w' => e = .returned (.bool true) ∧ Below w.heap.size w w' := by
  have HF := Lib.hid (f12_core neg 400 (by omega) v l (l.take 400) hl hd rfl w hr)
  obtain ⟨a, c, rfl⟩ := hr.len
  clear hr
  generalize signed neg (bv (l.take 400)) = z at *
  go_enter Try.func4, Try.ntmps4
  go_wp2_with fail
  refine HF.out.mono ?_
  rintro e w1 ⟨v, u, rfl, hs, hv, hb⟩
  obtain ⟨d2, a2, k2, c2, rfl⟩ := hv.shape
  obtain ⟨d1, a1, k1, c1, rfl⟩ := hs.shape
  have HS := Lib.hid hs
  have HV := Lib.hid hv
  have HB := Lib.hid hb
  clear hs hv hb HF
  have HS0 := Lib.hid ((HS.out.below ((Below.refl w1.heap.size w1).alloc (Nat.le_refl _) (.cells #[.bool d1, .slice a1 k1 c1] 30)) (Nat.le_refl _)).below ((Below.refl (w1.heap.size + 1) (w1.alloc (.cells #[.bool d1, .slice a1 k1 c1] 30))).alloc (by simp) (.cells #[.int .i64 2, .bool d2, .slice a2 k2 c2, .int .u64 0, .string ⟨#[]⟩, .slice none 0 0] 27)) (by simp))
  have HV0 := Lib.hid ((HV.out.below ((Below.refl w1.heap.size w1).alloc (Nat.le_refl _) (.cells #[.bool d1, .slice a1 k1 c1] 30)) (Nat.le_refl _)).below ((Below.refl (w1.heap.size + 1) (w1.alloc (.cells #[.bool d1, .slice a1 k1 c1] 30))).alloc (by simp) (.cells #[.int .i64 2, .bool d2, .slice a2 k2 c2, .int .u64 0, .string ⟨#[]⟩, .slice none 0 0] 27)) (by simp))
  have HB0 : Hid (Below w.heap.size w ((w1.alloc (.cells #[.bool d1, .slice a1 k1 c1] 30)).alloc (.cells #[.int .i64 2, .bool d2, .slice a2 k2 c2, .int .u64 0, .string ⟨#[]⟩, .slice none 0 0] 27))) := (HB.out.alloc HB.out.size _).alloc (by have := HB.out.size; simp; omega) _
  clear HS HV HB hd
  go_wp2_with fail
  go_region_held3 (fun w' => w'.cell? ⟨w1.heap.size, 0, none⟩ = some (.bool d1) ∧ w'.cell? ⟨w1.heap.size, 1, none⟩ = some (.slice a1 k1 c1) ∧ w'.cell? ⟨w1.heap.size + 1, 0, none⟩ = some (.int .i64 2) ∧ w'.cell? ⟨w1.heap.size + 1, 1, none⟩ = some (.bool d2) ∧ w'.cell? ⟨w1.heap.size + 1, 2, none⟩ = some (.slice a2 k2 c2) ∧ w'.cell? ⟨w1.heap.size + 1, 3, none⟩ = some (.int .u64 0) ∧ w'.cell? ⟨w1.heap.size + 1, 4, none⟩ = some (.string ⟨#[]⟩) ∧ w'.cell? ⟨w1.heap.size + 1, 5, none⟩ = some (.slice none 0 0))
    (first
      | exact ⟨hd.1 0, hd.1 1, hd.2.2.1 0, hd.2.2.1 1, hd.2.2.1 2, hd.2.2.1 3, hd.2.2.1 4, hd.2.2.1 5⟩
      | exact ⟨hc.1 0, hc.1 1, hc.2.2.1 0, hc.2.2.1 1, hc.2.2.1 2, hc.2.2.1 3, hc.2.2.1 4, hc.2.2.1 5⟩
      | go_keep)
    (first
      | (go_at_call 13; refine (f13_any 400 (by omega) _ z _ _ (VInt.drew HV0.out)).mono ?_; rintro e w2 ⟨v2, rfl, hv2, hb2⟩; have hb3 := Lib.hid (((Below.refl (w1.heap.size + 2) _).drew).trans (hb2.mono (by simp))); have hc := later2 hb3.out (Nat.le_refl _); have hs2 := Lib.hid (HS0.out.below hb3.out (by simp)); have hx2 := Lib.hid hv2; clear hv2 hb2)
      | (go_at_call 8; refine (f8_any 8000 400 (by omega) _ _ z _ _ _ hx2.out hs2.out).mono ?_; rintro e w3 ⟨rfl, hb4⟩; have hb5 := Lib.hid (hb3.out.trans (hb4.mono (by have := hb3.out.size; simp at this; omega))); have hd := later2 hb5.out (Nat.le_refl _); clear hb4)
      )
  have HE := Lib.hid (HB0.out.trans (hb5.out.mono (by have := HB0.out.size; simp at this; omega)))
  clear hc hd hs2 hx2 hb3 hb5 HS0 HV0
  go_wp2
  go_ret
  exact ⟨rfl, HE.out⟩

theorem f4_any (neg : Bool) (a : Option Addr) (len cap : Nat) (zs : List Int) (w : World) (h : IsRow .u8 w a len cap zs) :
    Calls Try.prog 4 #[.bool neg, .slice a len cap] w fun e w' => e = .returned (.bool true) ∧ Below w.heap.size w w' := by
  by_cases hl : len ≤ 2147483647
  · obtain ⟨l, h1, h2, h3⟩ := h.toRow
    exact f4_core neg _ l (by omega) h2 w h3
  · have hl' : (2147483647 : Int) < len := by omega
    clear h
    go_enter Try.func4, Try.ntmps4
    go_wp2
    go_ret
    exact ⟨rfl, Below.refl _ _⟩
end Go.Proofs.Ytidkdjnfpepnfaa
