/- Walks of the package's great numbers: words added and taken away. -/
import Derived.Test.YtidkdjnfpepnfaaBig12
import Derived.Test.YtidkdjnfpepnfaaCar
import Derived.Shelf.Spec.BitsCarry
namespace Go.Proofs.Ytidkdjnfpepnfaa
open Go.RowKit

theorem call95 (x y c : Nat) (hc : c ≤ 1) (w : World) :
    (callFunc 95 #[.int .u64 x, .int .u64 y, .int .u64 c]).run Try.prog w = .ok (.value (.tuple #[.int .u64 ((addLo x y c : Nat) : Int), .int .u64 ((addHi x y c : Nat) : Int)])) w := by
  rw [run_callFunc_extern Try.func95 (by kernel_rfl) (by kernel_rfl) (by kernel_rfl) (e := add64Entry) (by kernel_rfl), run_add64 x y c (by omega) (by omega) (by omega) (by omega)]
  simp only [Result.andThen, addLo, addHi, W]
  congr 5 <;> omega
theorem call97 (x y c : Nat) (hc : c ≤ 1) (w : World) :
    (callFunc 97 #[.int .u64 x, .int .u64 y, .int .u64 c]).run Try.prog w = .ok (.value (.tuple #[.int .u64 ((subLo x y c : Nat) : Int), .int .u64 ((subHi x y c : Nat) : Int)])) w := by
  rw [run_callFunc_extern Try.func97 (by kernel_rfl) (by kernel_rfl) (by kernel_rfl) (e := sub64Entry) (by kernel_rfl), run_sub64 x y c hc]
  simp only [Result.andThen, subLo, subHi, W]

set_option maxRecDepth 100000 in
theorem f90_any (x y c : Nat) (hc : c ≤ 1) (w : World) : Calls Try.prog 90 #[.int .u64 x, .int .u64 y, .int .u64 c] w fun e w' => e = .returned (.tuple #[.int .u64 ((addLo x y c : Nat) : Int), .int .u64 ((addHi x y c : Nat) : Int)]) ∧ w' = w := by
  have hx := fun w => call95 x y c hc w
  generalize addLo x y c = l at *
  generalize addHi x y c = h at *
  go_enter Try.func90, Try.ntmps90
  go_wp2
  go_ret2
  exact ⟨rfl, rfl⟩
set_option maxRecDepth 100000 in
theorem f92_any (x y c : Nat) (hc : c ≤ 1) (w : World) : Calls Try.prog 92 #[.int .u64 x, .int .u64 y, .int .u64 c] w fun e w' => e = .returned (.tuple #[.int .u64 ((subLo x y c : Nat) : Int), .int .u64 ((subHi x y c : Nat) : Int)]) ∧ w' = w := by
  have hx := fun w => call97 x y c hc w
  generalize subLo x y c = l at *
  generalize subHi x y c = h at *
  go_enter Try.func92, Try.ntmps92
  go_wp2
  go_ret2
  exact ⟨rfl, rfl⟩

/-- What words added (taken away) into the block g leave: from q on, as many as xs has. -/
def VecPost (lo hi : Nat → Nat → Nat → Nat) (B g N c q : Nat) (xs ys : List Nat) (cin : Nat) (Z : List Nat) (w : World) (e : Ending) (w' : World) : Prop :=
  e = .returned (.int .u64 ((cry hi xs ys cin xs.length : Nat) : Int)) ∧ OwnW B w' g N c (Z.take q ++ (vvL lo hi xs ys cin xs.length ++ Z.drop (q + xs.length))) ∧ w.grownBy w' (some g)

theorem grown_heap {w w' : World} {g : Option Nat} {a : Addr} {v : Value} {n : Nat} (h : w.grownBy (w'.setCell a v) g) : w.grownBy ((w'.drewN n).setCell a v) g := ⟨h.os, h.tape, h.output, h.size, h.block⟩
theorem drop_one (Z : List Nat) (k : Nat) : (Z.drop k).drop 1 = Z.drop (k + 1) := by simp [List.drop_drop]

set_option maxRecDepth 100000 in
set_option maxHeartbeats 2000000 in
theorem f89_any (B g N c : Nat) (xs ys Z : List Nat) (gx offx cx gy offy cy cz : Nat) (hxy : ys.length = xs.length) (hl : xs.length ≤ 1000) (hxlow : ∀ d ∈ xs, d < W) (hylow : ∀ d ∈ ys, d < W) (w : World) (ho : OwnW B w g N c Z) (hq : xs.length ≤ N)
    (hnx : gx ≠ g) (hgx : gx < w.heap.size) (hny : gy ≠ g) (hgy : gy < w.heap.size)
    (hcx : ∀ i, i < xs.length → w.cell? ⟨gx, offx + i, none⟩ = some (.int .u64 ((xs.getD i 0 : Nat) : Int)))
    (hcy : ∀ i, i < xs.length → w.cell? ⟨gy, offy + i, none⟩ = some (.int .u64 ((ys.getD i 0 : Nat) : Int))) :
    Calls Try.prog 89 #[.slice (some ⟨g, 0, none⟩) xs.length cz, .slice (some ⟨gx, offx, none⟩) xs.length cx, .slice (some ⟨gy, offy, none⟩) ys.length cy] w (VecPost addLo addHi B g N c 0 xs ys 0 Z w) := by
  have HCX := Lib.hid hcx
  have HCY := Lib.hid hcy
  have HO := Lib.hid ho
  have HQ := Lib.hid hq
  have HL := Lib.hid ho.len
  have HC1 := Lib.hid (cry_add_le xs ys hxlow hylow 0 (by omega))
  rw [hxy]
  clear hcx hcy hxlow hylow ho hxy
  go_enter Try.func89, Try.ntmps89
  go_wp2_with fail
  go_loopw [6, 25] (fun vc vi wr => ∃ k : Nat, vi = .int .i64 k ∧ k ≤ xs.length ∧ vc = .int .u64 ((cry addHi xs ys 0 k : Nat) : Int) ∧ Hid (OwnW B wr g N c (vvL addLo addHi xs ys 0 k ++ Z.drop k)) ∧ Hid (w.grownBy wr (some g))) (fun _ vi _ => xs.length - (intOf vi).toNat)
  case atStart => exact ⟨0, rfl, Nat.zero_le _, rfl, HO.out, World.grownBy.refl _ _⟩
  case round =>
    obtain ⟨k, rfl, hk, rfl, HOr, HG⟩ := hrel
    by_cases hlt : k < xs.length
    · have ci := (HG.out.cell_far ⟨gx, offx + k, none⟩ hgx (by simpa using hnx)).trans (HCX.out k hlt)
      have cj := (HG.out.cell_far ⟨gy, offy + k, none⟩ hgy (by simpa using hny)).trans (HCY.out k hlt)
      have zc := HOr.out.cell k (by have := HQ.out; omega)
      have zf := HOr.out.free k
      have hc1 := HC1.out k
      have HO' := Lib.hid (HOr.out.stored k (addLo (xs.getD k 0) (ys.getD k 0) (cry addHi xs ys 0 k)))
      have HG' := Lib.hid (HG.out.setCell g k (.int .u64 ((addLo (xs.getD k 0) (ys.getD k 0) (cry addHi xs ys 0 k) : Nat) : Int)))
      have HE : Hid ((vvL addLo addHi xs ys 0 k ++ Z.drop k).set k (addLo (xs.getD k 0) (ys.getD k 0) (cry addHi xs ys 0 k)) = vvL addLo addHi xs ys 0 (k + 1) ++ Z.drop (k + 1)) := by
        show _ = _
        have := lay_step [] (vvL addLo addHi xs ys 0 k) (Z.drop k) (addLo (xs.getD k 0) (ys.getD k 0) (cry addHi xs ys 0 k)) k (by simp [vvL_len]) (by simp [vvL_len]; rw [HL.out]; have := HQ.out; omega)
        rw [vvL_succ, ← drop_one]
        simpa using this
      have HE2 : Hid (cry addHi xs ys 0 (k + 1) = addHi (xs.getD k 0) (ys.getD k 0) (cry addHi xs ys 0 k)) := rfl
      rw [HE.out] at HO'
      generalize (vvL addLo addHi xs ys 0 k ++ Z.drop k).getD k 0 = z0 at *
      generalize cry addHi xs ys 0 k = cc at *
      generalize xs.getD k 0 = x at *
      generalize ys.getD k 0 = y at *
      have HF := Lib.hid (fun w => f90_any x y cc hc1 w)
      generalize addLo x y cc = l at *
      generalize addHi x y cc = h at *
      clear HE HC1
      go_wp2
      go_quiet ((go_at_call 90; exact Calls.quiet_of_same (HF.out _)))
      go_wp2
      go_roundw
      case rel => exact ⟨k + 1, by go_num, by omega, by rw [HE2.out], HO'.out, grown_heap HG'.out⟩
      case measure => simp [intOf]; omega
    · obtain rfl : k = xs.length := by omega
      go_wp2
      go_ret
      exact ⟨rfl, by have := HOr.out; simpa using this, HG.out⟩
set_option maxRecDepth 100000 in
set_option maxHeartbeats 2000000 in
theorem f91_any (B g N c : Nat) (xs ys Z : List Nat) (gx offx cx gy offy cy cz : Nat) (hxy : ys.length = xs.length) (hl : xs.length ≤ 1000) (w : World) (ho : OwnW B w g N c Z) (hq : xs.length ≤ N)
    (hnx : gx ≠ g) (hgx : gx < w.heap.size) (hny : gy ≠ g) (hgy : gy < w.heap.size)
    (hcx : ∀ i, i < xs.length → w.cell? ⟨gx, offx + i, none⟩ = some (.int .u64 ((xs.getD i 0 : Nat) : Int)))
    (hcy : ∀ i, i < xs.length → w.cell? ⟨gy, offy + i, none⟩ = some (.int .u64 ((ys.getD i 0 : Nat) : Int))) :
    Calls Try.prog 91 #[.slice (some ⟨g, 0, none⟩) xs.length cz, .slice (some ⟨gx, offx, none⟩) xs.length cx, .slice (some ⟨gy, offy, none⟩) ys.length cy] w (VecPost subLo subHi B g N c 0 xs ys 0 Z w) := by
  have HCX := Lib.hid hcx
  have HCY := Lib.hid hcy
  have HO := Lib.hid ho
  have HQ := Lib.hid hq
  have HL := Lib.hid ho.len
  have HC1 := Lib.hid (cry_sub_le xs ys 0 (by omega))
  rw [hxy]
  clear hcx hcy ho hxy
  go_enter Try.func91, Try.ntmps91
  go_wp2_with fail
  go_loopw [6, 25] (fun vc vi wr => ∃ k : Nat, vi = .int .i64 k ∧ k ≤ xs.length ∧ vc = .int .u64 ((cry subHi xs ys 0 k : Nat) : Int) ∧ Hid (OwnW B wr g N c (vvL subLo subHi xs ys 0 k ++ Z.drop k)) ∧ Hid (w.grownBy wr (some g))) (fun _ vi _ => xs.length - (intOf vi).toNat)
  case atStart => exact ⟨0, rfl, Nat.zero_le _, rfl, HO.out, World.grownBy.refl _ _⟩
  case round =>
    obtain ⟨k, rfl, hk, rfl, HOr, HG⟩ := hrel
    by_cases hlt : k < xs.length
    · have ci := (HG.out.cell_far ⟨gx, offx + k, none⟩ hgx (by simpa using hnx)).trans (HCX.out k hlt)
      have cj := (HG.out.cell_far ⟨gy, offy + k, none⟩ hgy (by simpa using hny)).trans (HCY.out k hlt)
      have zc := HOr.out.cell k (by have := HQ.out; omega)
      have zf := HOr.out.free k
      have hc1 := HC1.out k
      have HO' := Lib.hid (HOr.out.stored k (subLo (xs.getD k 0) (ys.getD k 0) (cry subHi xs ys 0 k)))
      have HG' := Lib.hid (HG.out.setCell g k (.int .u64 ((subLo (xs.getD k 0) (ys.getD k 0) (cry subHi xs ys 0 k) : Nat) : Int)))
      have HE : Hid ((vvL subLo subHi xs ys 0 k ++ Z.drop k).set k (subLo (xs.getD k 0) (ys.getD k 0) (cry subHi xs ys 0 k)) = vvL subLo subHi xs ys 0 (k + 1) ++ Z.drop (k + 1)) := by
        show _ = _
        have := lay_step [] (vvL subLo subHi xs ys 0 k) (Z.drop k) (subLo (xs.getD k 0) (ys.getD k 0) (cry subHi xs ys 0 k)) k (by simp [vvL_len]) (by simp [vvL_len]; rw [HL.out]; have := HQ.out; omega)
        rw [vvL_succ, ← drop_one]
        simpa using this
      have HE2 : Hid (cry subHi xs ys 0 (k + 1) = subHi (xs.getD k 0) (ys.getD k 0) (cry subHi xs ys 0 k)) := rfl
      rw [HE.out] at HO'
      generalize (vvL subLo subHi xs ys 0 k ++ Z.drop k).getD k 0 = z0 at *
      generalize cry subHi xs ys 0 k = cc at *
      generalize xs.getD k 0 = x at *
      generalize ys.getD k 0 = y at *
      have HF := Lib.hid (fun w => f92_any x y cc hc1 w)
      generalize subLo x y cc = l at *
      generalize subHi x y cc = h at *
      clear HE HC1
      go_wp2
      go_quiet ((go_at_call 92; exact Calls.quiet_of_same (HF.out _)))
      go_wp2
      go_roundw
      case rel => exact ⟨k + 1, by go_num, by omega, by rw [HE2.out], HO'.out, grown_heap HG'.out⟩
      case measure => simp [intOf]; omega
    · obtain rfl : k = xs.length := by omega
      go_wp2
      go_ret
      exact ⟨rfl, by have := HOr.out; simpa using this, HG.out⟩

set_option maxRecDepth 100000 in
theorem f81_any (B g N c : Nat) (xs ys Z : List Nat) (gx offx cx gy offy cy cz : Nat) (hxy : ys.length = xs.length) (hl : xs.length ≤ 1000) (hxlow : ∀ d ∈ xs, d < W) (hylow : ∀ d ∈ ys, d < W) (w : World) (ho : OwnW B w g N c Z) (hq : xs.length ≤ N)
    (hnx : gx ≠ g) (hgx : gx < w.heap.size) (hny : gy ≠ g) (hgy : gy < w.heap.size)
    (hcx : ∀ i, i < xs.length → w.cell? ⟨gx, offx + i, none⟩ = some (.int .u64 ((xs.getD i 0 : Nat) : Int)))
    (hcy : ∀ i, i < xs.length → w.cell? ⟨gy, offy + i, none⟩ = some (.int .u64 ((ys.getD i 0 : Nat) : Int))) :
    Calls Try.prog 81 #[.slice (some ⟨g, 0, none⟩) xs.length cz, .slice (some ⟨gx, offx, none⟩) xs.length cx, .slice (some ⟨gy, offy, none⟩) ys.length cy] w (VecPost addLo addHi B g N c 0 xs ys 0 Z w) := by
  have HF := Lib.hid (f89_any B g N c xs ys Z gx offx cx gy offy cy cz hxy hl hxlow hylow w ho hq hnx hgx hny hgy hcx hcy)
  clear hl hxlow hylow ho hq hnx hgx hny hgy hcx hcy hxy
  go_enter Try.func81, Try.ntmps81
  go_wp2_with fail
  refine HF.out.mono ?_
  rintro e w2 ⟨rfl, h1, h2⟩
  have H1 := Lib.hid h1
  have H2 := Lib.hid h2
  clear h1 h2 HF
  go_wp2_with fail
  go_ret
  exact ⟨rfl, H1.out, H2.out⟩

set_option maxRecDepth 100000 in
theorem f83_any (B g N c : Nat) (xs ys Z : List Nat) (gx offx cx gy offy cy cz : Nat) (hxy : ys.length = xs.length) (hl : xs.length ≤ 1000) (w : World) (ho : OwnW B w g N c Z) (hq : xs.length ≤ N)
    (hnx : gx ≠ g) (hgx : gx < w.heap.size) (hny : gy ≠ g) (hgy : gy < w.heap.size)
    (hcx : ∀ i, i < xs.length → w.cell? ⟨gx, offx + i, none⟩ = some (.int .u64 ((xs.getD i 0 : Nat) : Int)))
    (hcy : ∀ i, i < xs.length → w.cell? ⟨gy, offy + i, none⟩ = some (.int .u64 ((ys.getD i 0 : Nat) : Int))) :
    Calls Try.prog 83 #[.slice (some ⟨g, 0, none⟩) xs.length cz, .slice (some ⟨gx, offx, none⟩) xs.length cx, .slice (some ⟨gy, offy, none⟩) ys.length cy] w (VecPost subLo subHi B g N c 0 xs ys 0 Z w) := by
  have HF := Lib.hid (f91_any B g N c xs ys Z gx offx cx gy offy cy cz hxy hl w ho hq hnx hgx hny hgy hcx hcy)
  clear hl ho hq hnx hgx hny hgy hcx hcy hxy
  go_enter Try.func83, Try.ntmps83
  go_wp2_with fail
  refine HF.out.mono ?_
  rintro e w2 ⟨rfl, h1, h2⟩
  have H1 := Lib.hid h1
  have H2 := Lib.hid h2
  clear h1 h2 HF
  go_wp2_with fail
  go_ret
  exact ⟨rfl, H1.out, H2.out⟩
end Go.Proofs.Ytidkdjnfpepnfaa
