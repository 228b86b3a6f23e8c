/- Written by wip/tools/port2.py out of the text Big3 of seat Ytidkdjnfpepnfaa. -/
/- Walks of the package's great numbers: setBytes. -/
import Derived.Test.YtllgogkjcbdpkaaGreatDoorZBig2
namespace Go.Proofs.YtllgogkjcbdpkaaGreatDoor.Z
open Go.RowKit

theorem f62_int (z : Int) (h1 : 1 ≤ z) (hn : z ≤ 1000000) (w : World) : Calls Tryz.prog 62 #[.slice none 0 0, .int .i64 z] w (MakesOwn z.toNat (List.replicate z.toNat 0) w) := by
  obtain ⟨n, rfl⟩ := Int.eq_ofNat_of_zero_le (show 0 ≤ z by omega)
  exact f62_any n (by omega) (by omega) w

theorem OwnW.stored {B : Nat} {w : World} {g n c : Nat} {xs : List Nat} (h : OwnW B w g n c xs) (j y : Nat) : OwnW B (w.setCell ⟨g, j, none⟩ (.int .u64 (y : Int))) g n c (xs.set j y) := by
  have := (World.ownsRow.stored h j (.int .u64 (y : Int))).1
  unfold OwnW
  rw [List.map_set]
  exact this

theorem or_step (t M : Nat) (ht : t < 8) (hM : M = 256 ^ t) (D b : Nat) (hD : D < 256 ^ t) (hb : b < 256) (x : Int) (hx : x = (b : Int) * (M : Int)) : bits BinOp.or IntKind.u64 (D : Int) x = ((D + b * 256 ^ t : Nat) : Int) := by
  subst hM
  subst hx
  have e : (256 : Nat) ^ t = 2 ^ (8 * t) := by rw [Nat.pow_mul]
  have hp : (2 : Nat) ^ (8 * t) ≤ 2 ^ 56 := Nat.pow_le_pow_right (by decide) (by omega)
  have hbm : b * 2 ^ (8 * t) ≤ 255 * 2 ^ (8 * t) := Nat.mul_le_mul_right _ (by omega)
  rw [e] at hD ⊢
  rw [← Int.natCast_mul, (bits_nat .u64 64 (by decide) (fun n h1 h2 => wraps_u64 n h1 h2) D (b * 2 ^ (8 * t)) (by omega) (by omega)).2]
  congr 1
  rw [Nat.or_comm, Nat.mul_comm, ← Nat.two_pow_add_eq_or_of_lt hD]
  omega
theorem step_low (t D b : Nat) (hD : D < 256 ^ t) (hb : b < 256) : D + b * 256 ^ t < 256 ^ (t + 1) := by
  have : b * 256 ^ t ≤ 255 * 256 ^ t := Nat.mul_le_mul_right _ (by omega)
  rw [Nat.pow_succ]; omega
theorem step_val {A Q q t D b : Nat} (h1 : A = Q * 256 ^ t + D) (h2 : Q = q * 256 + b) : A = q * 256 ^ (t + 1) + (D + b * 256 ^ t) := by
  subst h2
  rw [h1, Nat.pow_succ, Nat.add_mul, Nat.mul_comm (256 ^ t) 256, ← Nat.mul_assoc]; omega

/-- What setBytes leaves. -/
def MakesNat (n : Nat) (w : World) (e : Ending) (w' : World) : Prop := ∃ v xs, e = .returned v ∧ Row w.heap.size .u64 w' v xs ∧ IsW n xs ∧ Below w.heap.size w w'

set_option maxRecDepth 100000 in
theorem f50_nil (w : World) (v : Value) (hv : v = .slice none 0 0 ∨ ∃ a c, v = .slice (some a) 0 c) : Calls Tryz.prog 50 #[.slice none 0 0, v] w (MakesNat 0 w) := by
  rcases hv with rfl | ⟨a, c, rfl⟩
  all_goals
    go_enter Tryz.func50, Tryz.ntmps50
    go_wp2_with (go_at_call 62; refine (f62_zero _).mono ?_; rintro e w' ⟨rfl, rfl⟩)
    go_loop [5, 6] (fun i _ => i = .int .i64 0) (fun _ _ => 0)
    case atStart => rfl
    case round =>
      obtain rfl := hrel
      go_wp2_with (go_at_call 64; refine (f64_nil _).mono ?_; rintro e w' ⟨rfl, rfl⟩)
      go_ret
      exact ⟨_, [], rfl, .inl ⟨rfl, .inl rfl⟩, ⟨rfl, by simp, rfl⟩, Below.refl _ _⟩

set_option maxRecDepth 100000 in
set_option maxHeartbeats 2000000 in
theorem f50_any (gb off cb : Nat) (l : List Nat) (h0 : 0 < l.length) (hl : l.length ≤ 4000) (hcb : l.length ≤ cb) (hd : ∀ d ∈ l, d < 256) (w : World) (hgb : gb < w.heap.size)
    (hcell : ∀ i, i < l.length → w.cell? ⟨gb, off + i, none⟩ = some (.int .u8 ((l.getD i 0 : Nat) : Int))) :
    Calls Tryz.prog 50 #[.slice none 0 0, .slice (some ⟨gb, off, none⟩) l.length cb] w (MakesNat (bv l) w) := by
  have HC := Lib.hid hcell
  have HD := Lib.hid hd
  clear hcell hd
  go_enter Tryz.func50, Tryz.ntmps50
  go_wp2_with fail
  refine (f62_int _ (by omega) (by omega) _).mono ?_
  rintro e w1 ⟨g, c, rfl, ho, hb⟩
  have hnn : 8 * (((l.length : Int) + 8 - 1) / 8).toNat ≤ l.length + 7 ∧ l.length ≤ 8 * (((l.length : Int) + 8 - 1) / 8).toNat := by omega
  obtain ⟨hn1, hn2⟩ := hnn
  generalize (((l.length : Int) + 8 - 1) / 8).toNat = n at *
  have HO := Lib.hid ho
  have HB := Lib.hid hb
  obtain ⟨hg1, hg2⟩ := ho.low
  have hnc := ho.cap
  clear ho
  have HC1 : Hid (∀ i, i < l.length → w1.cell? ⟨gb, off + i, none⟩ = some (.int .u8 ((l.getD i 0 : Nat) : Int))) := fun i hi => (hb.cell (p := ⟨gb, off + i, none⟩) hgb).trans (HC.out i hi)
  clear hb HC
  go_wp2_with fail
  go_loopw [5, 6] (fun vi vk wr => ∃ i k : Nat, vi = .int .i64 i ∧ vk = .int .i64 k ∧ i + 8 * k = l.length ∧ ∃ xs, Hid (Laid l n k xs) ∧ Hid (OwnW w.heap.size wr g n c xs) ∧ Hid (Below w.heap.size w wr) ∧ w1.heap.size ≤ wr.heap.size) (fun vi _ _ => (intOf vi).toNat)
  case atStart => exact ⟨l.length, 0, rfl, rfl, by omega, _, Laid.start l n, HO.out, HB.out, Nat.le_refl _⟩
  case round =>
    obtain ⟨i, k, rfl, rfl, hik, xs, HL, HOr, HBr, hsz⟩ := hrel
    have HCr : Hid (∀ i, i < l.length → wr.cell? ⟨gb, off + i, none⟩ = some (.int .u8 ((l.getD i 0 : Nat) : Int))) := fun i hi => (HBr.out.cell (p := ⟨gb, off + i, none⟩) hgb).trans (((HB.out.cell (p := ⟨gb, off + i, none⟩) hgb).symm).trans (HC1.out i hi))
    by_cases h8 : 8 ≤ i
    · obtain ⟨j, rfl⟩ : ∃ j, i = j + 8 := ⟨i - 8, by omega⟩
      have hk : k < n := by omega
      have hzc := HOr.out.cell k hk
      have hzf := HOr.out.free k
      have hcj : ¬ cb = j := by omega
      have HL' := Lib.hid (HL.out.step HD.out hk j (by omega))
      have HO' := Lib.hid (HOr.out.stored k (be8 fun t => l.getD (j + t) 0))
      have HF := Lib.hid (f63_any gb (off + j) (cb - j) (by omega) (fun t => l.getD (j + t) 0) (fun t ht => by
        have hi : j + t < l.length := by omega
        simp [hi]; exact HD.out _ (List.getElem_mem hi)) wr (fun t ht => by rw [Nat.add_assoc]; exact HCr.out (j + t) (by omega)))
      generalize (be8 fun t => l.getD (j + t) 0) = y at *
      generalize xs.getD k 0 = x0 at *
      go_wp2_with fail
      refine HF.out.mono ?_
      rintro e w2 ⟨rfl, m, rfl⟩
      go_wp2_with fail
      go_roundw
      case rel => exact ⟨j, k + 1, rfl, by go_num, by omega, _, HL', HO'.out.draws m, below_drewN (HBr.out.setCell (p := ⟨g, k, none⟩) hg1 _) m, by simpa using hsz⟩
      case measure => simp [intOf]; omega
    · have h8' : ¬ (8 : Int) ≤ i := by omega
      by_cases hi0 : i = 0
      · subst hi0
        have hk : k = n := by omega
        have HV : Hid (wv xs = bv l) := HL.out.done (by omega) hk
        have HN := Lib.hid (f64_any w.heap.size g n c xs (by omega) wr HOr.out)
        go_wp2_with fail
        refine HN.out.mono ?_
        rintro e w2 ⟨rfl, rfl⟩
        go_wp2_with fail
        go_ret
        refine ⟨_, trim xs, rfl, ?_, ?_, HBr.out⟩
        · have := Row.take (trim xs).length (by rw [← HOr.out.len]; exact trim_len xs) HOr.out.row
          rwa [trim_take_len] at this
        · rw [← HV.out]; exact IsW.ofTrim xs HL.out.low
      · have hk : k + 1 = n := by omega
        have hip : (0 : Int) < i := by omega
        go_wp2_with fail
        go_loop [5, 7, 8] (fun vi vd vs => ∃ (j t D : Nat) (S : Int), vi = .int .i64 j ∧ vd = .int .u64 (D : Int) ∧ vs = .int .u64 S ∧ j + t = i ∧ S = 8 * (t : Int) ∧ D < 256 ^ t ∧ Hid (bv (l.take i) = bv (l.take j) * 256 ^ t + D)) (fun vi _ _ => (intOf vi).toNat)
        case atStart => exact ⟨i, 0, 0, 0, rfl, rfl, rfl, by omega, by omega, by decide, by show _ = _; simp⟩
        case round =>
          obtain ⟨j, t, D, S, rfl, rfl, rfl, hjt, hS, hD, HV⟩ := hrel
          by_cases hj0 : j = 0
          · subst hj0
            have hDe : Hid (bv (l.take i) = D) := by show _ = _; rw [HV.out]; simp [bv]
            have hti : t = i := by omega
            have hDW : D < W := by
              have : 256 ^ t ≤ 256 ^ 8 := Nat.pow_le_pow_right (by decide) (by omega)
              unfold W; omega
            have HLast : Hid (wv (xs.set k D) = bv l ∧ ∀ d ∈ xs.set k D, d < W) := by
              have := HL.out.last hk i (by omega) (by rw [hDe.out]; exact hDW)
              rwa [hDe.out] at this
            have HO' := Lib.hid (HOr.out.stored k D)
            have hzc := HOr.out.cell k (by omega)
            have hzf := HOr.out.free k
            have HB' : Hid (Below w.heap.size w (wr.setCell ⟨g, k, none⟩ (.int .u64 (D : Int)))) := HBr.out.setCell (p := ⟨g, k, none⟩) hg1 _
            have HN := Lib.hid (f64_any w.heap.size g n c (xs.set k D) (by omega) _ HO'.out)
            have hnk : Hid (n = k + 1) := hk.symm
            obtain rfl : k = n - 1 := by omega
            clear hjt hS hD hti hDW hk
            generalize xs.getD (n - 1) 0 = x0 at *
            go_wp2_with fail
            refine HN.out.mono ?_
            rintro e w2 ⟨rfl, rfl⟩
            go_wp2_with fail
            go_ret
            refine ⟨_, trim (xs.set (n - 1) D), rfl, ?_, ?_, HB'.out⟩
            · have := Row.take (trim (xs.set (n - 1) D)).length (Nat.le_trans (trim_len _) (Nat.le_of_eq HO'.out.len)) HO'.out.row
              rwa [trim_take_len] at this
            · rw [← HLast.out.1]; exact IsW.ofTrim _ HLast.out.2
          · obtain ⟨q, rfl⟩ : ∃ q, j = q + 1 := ⟨j - 1, by omega⟩
            have hbl : l.getD q 0 < 256 := by
              have hi : q < l.length := by omega
              simp [hi]; exact HD.out _ (List.getElem_mem hi)
            have hbc := HCr.out q (by omega)
            have HV' := Lib.hid (bv_take_succ l q (by omega))
            generalize l.getD q 0 = b at *
            have hqi : q < i := by omega
            have HJ := Lib.hid hjt
            have ht : t = 0 ∨ t = 1 ∨ t = 2 ∨ t = 3 ∨ t = 4 ∨ t = 5 ∨ t = 6 := by omega
            clear hjt
            rcases ht with rfl | rfl | rfl | rfl | rfl | rfl | rfl
            · obtain rfl : S = 0 := by omega
              clear hS
              have HB2 := Lib.hid hD
              clear hD
              go_wp2_with fail
              refine ⟨⟨q, 1, D + b * 256 ^ 0, 8, rfl, ?_, rfl, by have := HJ.out; omega, by omega, step_low 0 D b HB2.out hbl, step_val HV.out HV'.out⟩, by simp [intOf]⟩
              exact congrArg (Value.int .u64) (or_step 0 1 (by omega) (by decide) D b HB2.out hbl _ (by simp))
            · obtain rfl : S = 8 := by omega
              clear hS
              have HB2 := Lib.hid hD
              clear hD
              go_wp2_with fail
              refine ⟨⟨q, 2, D + b * 256 ^ 1, 16, rfl, ?_, rfl, by have := HJ.out; omega, by omega, step_low 1 D b HB2.out hbl, step_val HV.out HV'.out⟩, by simp [intOf]⟩
              exact congrArg (Value.int .u64) (or_step 1 256 (by omega) (by decide) D b HB2.out hbl _ (by rfl))
            · obtain rfl : S = 16 := by omega
              clear hS
              have HB2 := Lib.hid hD
              clear hD
              go_wp2_with fail
              refine ⟨⟨q, 3, D + b * 256 ^ 2, 24, rfl, ?_, rfl, by have := HJ.out; omega, by omega, step_low 2 D b HB2.out hbl, step_val HV.out HV'.out⟩, by simp [intOf]⟩
              exact congrArg (Value.int .u64) (or_step 2 65536 (by omega) (by decide) D b HB2.out hbl _ (by rfl))
            · obtain rfl : S = 24 := by omega
              clear hS
              have HB2 := Lib.hid hD
              clear hD
              go_wp2_with fail
              refine ⟨⟨q, 4, D + b * 256 ^ 3, 32, rfl, ?_, rfl, by have := HJ.out; omega, by omega, step_low 3 D b HB2.out hbl, step_val HV.out HV'.out⟩, by simp [intOf]⟩
              exact congrArg (Value.int .u64) (or_step 3 16777216 (by omega) (by decide) D b HB2.out hbl _ (by rfl))
            · obtain rfl : S = 32 := by omega
              clear hS
              have HB2 := Lib.hid hD
              clear hD
              go_wp2_with fail
              refine ⟨⟨q, 5, D + b * 256 ^ 4, 40, rfl, ?_, rfl, by have := HJ.out; omega, by omega, step_low 4 D b HB2.out hbl, step_val HV.out HV'.out⟩, by simp [intOf]⟩
              exact congrArg (Value.int .u64) (or_step 4 4294967296 (by omega) (by decide) D b HB2.out hbl _ (by rfl))
            · obtain rfl : S = 40 := by omega
              clear hS
              have HB2 := Lib.hid hD
              clear hD
              go_wp2_with fail
              refine ⟨⟨q, 6, D + b * 256 ^ 5, 48, rfl, ?_, rfl, by have := HJ.out; omega, by omega, step_low 5 D b HB2.out hbl, step_val HV.out HV'.out⟩, by simp [intOf]⟩
              exact congrArg (Value.int .u64) (or_step 5 1099511627776 (by omega) (by decide) D b HB2.out hbl _ (by rfl))
            · obtain rfl : S = 48 := by omega
              clear hS
              have HB2 := Lib.hid hD
              clear hD
              go_wp2_with fail
              refine ⟨⟨q, 7, D + b * 256 ^ 6, 56, rfl, ?_, rfl, by have := HJ.out; omega, by omega, step_low 6 D b HB2.out hbl, step_val HV.out HV'.out⟩, by simp [intOf]⟩
              exact congrArg (Value.int .u64) (or_step 6 281474976710656 (by omega) (by decide) D b HB2.out hbl _ (by rfl))
end Go.Proofs.YtllgogkjcbdpkaaGreatDoor.Z
