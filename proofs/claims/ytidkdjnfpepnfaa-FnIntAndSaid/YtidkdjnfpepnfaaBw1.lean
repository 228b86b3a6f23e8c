/- Walks of the package's great numbers: one; both bit by bit. -/
import Derived.Test.YtidkdjnfpepnfaaBig20
import Derived.Test.YtidkdjnfpepnfaaAndNum
import Derived.Laws.BitsAllLaws
namespace Go.Proofs.Ytidkdjnfpepnfaa
open Go.RowKit

set_option maxRecDepth 100000 in
theorem f67_any (w : World) : Calls Try.prog 67 #[] w fun e w' => e = .returned (.slice (some ⟨w.heap.size, 0, none⟩) 1 1) ∧ w' = w.alloc (.cells #[.int .u64 1] 93) := by
  go_enter Try.func67, Try.ntmps67
  go_wp2
  go_ret
  exact ⟨rfl, rfl⟩
theorem one_row (w : World) : Row w.heap.size .u64 (w.alloc (.cells #[.int .u64 1] 93)) (.slice (some ⟨w.heap.size, 0, none⟩) 1 1) [1] := by
  refine .inr ⟨by simp, w.heap.size, 0, 1, by simp, by simp, Nat.le_refl _, by simp, fun i hi => ?_⟩
  simp at hi
  subst hi
  simp [go_sem]

theorem u64_and_nat' (a b : Nat) (ha : a < W) (hb : b < W) : bits .and .u64 (a : Int) (b : Int) = ((a &&& b : Nat) : Int) :=
  (bits_nat .u64 64 (by decide) (fun n h1 h2 => wraps_u64 n h1 h2) a b ha hb).1
theorem u64_or_nat' (a b : Nat) (ha : a < W) (hb : b < W) : bits .or .u64 (a : Int) (b : Int) = ((a ||| b : Nat) : Int) :=
  (bits_nat .u64 64 (by decide) (fun n h1 h2 => wraps_u64 n h1 h2) a b ha hb).2
theorem u64_adn_nat' (a b : Nat) (ha : a < W) (hb : b < W) : bits .andNot .u64 (a : Int) (b : Int) = ((adn a b : Nat) : Int) := by
  rw [u64_andNot_nat a b ha hb]
  congr 1
  have h := and_cpl 64 false true a b ha hb
  unfold cpl at h
  simpa using h

theorem bw_set (F : Nat → Nat → Nat) (xs ys Z : List Nat) (i v : Nat) (hi : i < Z.length) (hv : v = F (xs.getD i 0) (ys.getD i 0)) : (bwL F xs ys i ++ Z.drop i).set i v = bwL F xs ys (i + 1) ++ Z.drop (i + 1) := by
  subst hv
  have := lay_step [] (bwL F xs ys i) (Z.drop i) (F (xs.getD i 0) (ys.getD i 0)) i (by simp [bwL_len]) (by simp [bwL_len]; omega)
  rw [bwL_succ, ← drop_one]
  simpa using this

set_option maxRecDepth 100000 in
set_option maxHeartbeats 4000000 in
theorem f69_gt (gx offx cx gy offy cy B1 B2 : Nat) (xs ys : List Nat) (h1 : 0 < xs.length) (h2 : 0 < ys.length) (hlx : xs.length ≤ 900) (hly : ys.length ≤ 900) (nx ny : Nat) (hx : IsW nx xs) (hy : IsW ny ys) (w : World)
    (hrx : Row B1 .u64 w (.slice (some ⟨gx, offx, none⟩) xs.length cx) xs) (hry : Row B2 .u64 w (.slice (some ⟨gy, offy, none⟩) ys.length cy) ys) (hlt : ys.length < xs.length) :
    Calls Try.prog 69 #[.slice none 0 0, .slice (some ⟨gx, offx, none⟩) xs.length cx, .slice (some ⟨gy, offy, none⟩) ys.length cy] w (MakesNat (nx &&& ny) w) := by
  obtain ⟨hcx, hgx, hcellx⟩ := hrx.cellsOf h1
  obtain ⟨hcy, hgy, hcelly⟩ := hry.cellsOf h2
  have HCX := Lib.hid hcellx
  have HCY := Lib.hid hcelly
  have HX := Lib.hid hx
  have HY := Lib.hid hy
  have HXL : Hid (∀ d ∈ xs, d < W) := hx.low
  have HYL : Hid (∀ d ∈ ys, d < W) := hy.low
  have hpx : (1 : Int) ≤ xs.length := by omega
  have hpy : (1 : Int) ≤ ys.length := by omega
  have HV : Hid (wv (bwL (fun a b => a &&& b) xs ys ys.length) = nx &&& ny) := by
    show _ = _
    rw [bw_cut bitAnd xs ys hx.low hy.low ys.length (by omega) (by omega) (by rw [List.drop_of_length_le (Nat.le_refl ys.length)]; simp [wv]), hx.val, hy.val]
  have HLow := Lib.hid (bwL_low bitAnd xs ys hx.low hy.low ys.length)
  clear hrx hry hcellx hcelly hx hy
  go_enter Try.func69, Try.ntmps69
  go_wp2_with fail
  refine (f73_int _ (by omega) (by omega) _).mono ?_
  rintro e w1 ⟨g, c1, rfl, ho, hb⟩
  rw [Int.toNat_natCast] at ho
  rw [Int.toNat_natCast]
  have hg := ho.low
  have hcap := ho.cap
  have HO := Lib.hid ho
  have HB := Lib.hid hb
  have HLen : Hid ((List.replicate ys.length 0).length = ys.length) := by show _ = _; simp
  have HMN : Hid (ys.length ≤ ys.length) := by show _ ≤ _; omega
  have HZD := Lib.hid (rep_drop ys.length ys.length)
  generalize List.replicate ys.length 0 = Z at *
  have hgx1 : gx ≠ g := by omega
  have hgy1 : gy ≠ g := by omega
  have hgx2 : gx < w1.heap.size := Nat.lt_of_lt_of_le hgx hb.size
  have hgy2 : gy < w1.heap.size := Nat.lt_of_lt_of_le hgy hb.size
  clear ho hb
  go_wp2_with fail
  go_loopw [9] (fun vi wr => ∃ i : Nat, vi = .int .i64 i ∧ i ≤ ys.length ∧ Hid (OwnW w.heap.size wr g ys.length c1 (bwL (fun a b => a &&& b) xs ys i ++ Z.drop i)) ∧ Hid (w1.grownBy wr (some g))) (fun vi _ => ys.length - (intOf vi).toNat)
  case atStart => exact ⟨0, rfl, Nat.zero_le _, by have := HO.out; show OwnW _ _ _ _ _ _; simpa [bwL] using this, World.grownBy.refl _ _⟩
  case round =>
    obtain ⟨i, rfl, hi, HOr, HG⟩ := hrel
    by_cases hil : i < ys.length
    · have ci := (HG.out.cell_far ⟨gx, offx + i, none⟩ hgx2 (by simpa using hgx1)).trans ((HB.out.cell (p := ⟨gx, offx + i, none⟩) hgx).trans (HCX.out i (by omega)))
      have cj := (HG.out.cell_far ⟨gy, offy + i, none⟩ hgy2 (by simpa using hgy1)).trans ((HB.out.cell (p := ⟨gy, offy + i, none⟩) hgy).trans (HCY.out i (by omega)))
      have zc := HOr.out.cell i (by have := HMN.out; omega)
      have zf := HOr.out.free i
      have hbv := u64_and_nat' (xs.getD i 0) (ys.getD i 0) (getD_lt xs HXL.out i) (getD_lt ys HYL.out i)
      have HO' := Lib.hid (HOr.out.stored i ((fun a b => a &&& b) (xs.getD i 0) (ys.getD i 0)))
      rw [bw_set (fun a b => a &&& b) xs ys Z i _ (by rw [HLen.out]; have := HMN.out; omega) rfl] at HO'
      have HG' := Lib.hid (HG.out.setCell g i (.int .u64 (((fun a b => a &&& b) (xs.getD i 0) (ys.getD i 0) : Nat) : Int)))
      have hxi : i < xs.length := by omega
      have hyi : i < ys.length := by omega
      obtain ⟨v, hv⟩ : ∃ v, v = (fun a b => a &&& b) (xs.getD i 0) (ys.getD i 0) := ⟨_, rfl⟩
      rw [← hv] at HO' HG'
      have hbv' : bits BinOp.and IntKind.u64 ((xs.getD i 0 : Nat) : Int) ((ys.getD i 0 : Nat) : Int) = (v : Int) := by rw [hv]; exact hbv
      clear hbv hv
      generalize (bwL (fun a b => a &&& b) xs ys i ++ Z.drop i).getD i 0 = z0 at *
      generalize xs.getD i 0 = x at *
      generalize ys.getD i 0 = y at *
      go_wp2_with fail
      go_region_held3 (fun w' => w'.cell? ⟨gx, offx + i, none⟩ = some (.int .u64 x) ∧ w'.cell? ⟨gy, offy + i, none⟩ = some (.int .u64 y))
        (first
          | exact ⟨set_other_drew ci hgx1, set_other_drew cj hgy1⟩
          | exact ⟨set_other ci hgx1, set_other cj hgy1⟩
          | exact ⟨ci, cj⟩
          | go_keep)
        (fail)
      generalize bits BinOp.and IntKind.u64 (x : Int) (y : Int) = V at *
      obtain rfl := hbv'
      go_wp2
      first
        | exact ⟨⟨i + 1, by go_num, by omega, HO'.out, grown_drew HG'.out⟩, by simp [intOf]; omega⟩
        | exact ⟨⟨i + 1, by go_num, by omega, HO'.out, HG'.out⟩, by simp [intOf]; omega⟩
    · obtain rfl : i = ys.length := by omega
      have HO3 : Hid (OwnW w.heap.size wr g ys.length c1 (bwL (fun a b => a &&& b) xs ys ys.length)) := by
        have := HOr.out
        rw [HZD.out, Nat.sub_self] at this
        show OwnW _ _ _ _ _ _
        simpa using this
      have HB3 : Hid (Below w.heap.size w wr) := HB.out.grown HG.out (by have := HB.out.size; omega) (by intro q hq; cases hq; exact hg.1)
      clear HOr HG HO HB
      go_wp2_with fail
      refine (f75_any w.heap.size g ys.length c1 _ (by omega) _ HO3.out).mono ?_
      rintro e w4 ⟨rfl, rfl⟩
      go_wp2_with fail
      go_ret
      refine ⟨_, trim (bwL (fun a b => a &&& b) xs ys ys.length), rfl, ?_, ?_, HB3.out⟩
      · have := Row.take (trim (bwL (fun a b => a &&& b) xs ys ys.length)).length (by have := trim_len (bwL (fun a b => a &&& b) xs ys ys.length); rw [HO3.out.len] at this; exact this) HO3.out.row
        rwa [trim_take_len] at this
      · rw [← HV.out]; exact IsW.ofTrim _ HLow.out

set_option maxRecDepth 100000 in
set_option maxHeartbeats 4000000 in
theorem f69_le (gx offx cx gy offy cy B1 B2 : Nat) (xs ys : List Nat) (h1 : 0 < xs.length) (h2 : 0 < ys.length) (hlx : xs.length ≤ 900) (hly : ys.length ≤ 900) (nx ny : Nat) (hx : IsW nx xs) (hy : IsW ny ys) (w : World)
    (hrx : Row B1 .u64 w (.slice (some ⟨gx, offx, none⟩) xs.length cx) xs) (hry : Row B2 .u64 w (.slice (some ⟨gy, offy, none⟩) ys.length cy) ys) (hlt : xs.length ≤ ys.length) :
    Calls Try.prog 69 #[.slice none 0 0, .slice (some ⟨gx, offx, none⟩) xs.length cx, .slice (some ⟨gy, offy, none⟩) ys.length cy] w (MakesNat (nx &&& ny) w) := by
  obtain ⟨hcx, hgx, hcellx⟩ := hrx.cellsOf h1
  obtain ⟨hcy, hgy, hcelly⟩ := hry.cellsOf h2
  have HCX := Lib.hid hcellx
  have HCY := Lib.hid hcelly
  have HX := Lib.hid hx
  have HY := Lib.hid hy
  have HXL : Hid (∀ d ∈ xs, d < W) := hx.low
  have HYL : Hid (∀ d ∈ ys, d < W) := hy.low
  have hpx : (1 : Int) ≤ xs.length := by omega
  have hpy : (1 : Int) ≤ ys.length := by omega
  have HV : Hid (wv (bwL (fun a b => a &&& b) xs ys xs.length) = nx &&& ny) := by
    show _ = _
    rw [bw_cut bitAnd xs ys hx.low hy.low xs.length (by omega) (by omega) (by rw [List.drop_of_length_le (Nat.le_refl xs.length)]; simp [wv]), hx.val, hy.val]
  have HLow := Lib.hid (bwL_low bitAnd xs ys hx.low hy.low xs.length)
  clear hrx hry hcellx hcelly hx hy
  go_enter Try.func69, Try.ntmps69
  go_wp2_with fail
  refine (f73_int _ (by omega) (by omega) _).mono ?_
  rintro e w1 ⟨g, c1, rfl, ho, hb⟩
  rw [Int.toNat_natCast] at ho
  rw [Int.toNat_natCast]
  have hg := ho.low
  have hcap := ho.cap
  have HO := Lib.hid ho
  have HB := Lib.hid hb
  have HLen : Hid ((List.replicate xs.length 0).length = xs.length) := by show _ = _; simp
  have HMN : Hid (xs.length ≤ xs.length) := by show _ ≤ _; omega
  have HZD := Lib.hid (rep_drop xs.length xs.length)
  generalize List.replicate xs.length 0 = Z at *
  have hgx1 : gx ≠ g := by omega
  have hgy1 : gy ≠ g := by omega
  have hgx2 : gx < w1.heap.size := Nat.lt_of_lt_of_le hgx hb.size
  have hgy2 : gy < w1.heap.size := Nat.lt_of_lt_of_le hgy hb.size
  clear ho hb
  go_wp2_with fail
  go_loopw [9] (fun vi wr => ∃ i : Nat, vi = .int .i64 i ∧ i ≤ xs.length ∧ Hid (OwnW w.heap.size wr g xs.length c1 (bwL (fun a b => a &&& b) xs ys i ++ Z.drop i)) ∧ Hid (w1.grownBy wr (some g))) (fun vi _ => xs.length - (intOf vi).toNat)
  case atStart => exact ⟨0, rfl, Nat.zero_le _, by have := HO.out; show OwnW _ _ _ _ _ _; simpa [bwL] using this, World.grownBy.refl _ _⟩
  case round =>
    obtain ⟨i, rfl, hi, HOr, HG⟩ := hrel
    by_cases hil : i < xs.length
    · have ci := (HG.out.cell_far ⟨gx, offx + i, none⟩ hgx2 (by simpa using hgx1)).trans ((HB.out.cell (p := ⟨gx, offx + i, none⟩) hgx).trans (HCX.out i (by omega)))
      have cj := (HG.out.cell_far ⟨gy, offy + i, none⟩ hgy2 (by simpa using hgy1)).trans ((HB.out.cell (p := ⟨gy, offy + i, none⟩) hgy).trans (HCY.out i (by omega)))
      have zc := HOr.out.cell i (by have := HMN.out; omega)
      have zf := HOr.out.free i
      have hbv := u64_and_nat' (xs.getD i 0) (ys.getD i 0) (getD_lt xs HXL.out i) (getD_lt ys HYL.out i)
      have HO' := Lib.hid (HOr.out.stored i ((fun a b => a &&& b) (xs.getD i 0) (ys.getD i 0)))
      rw [bw_set (fun a b => a &&& b) xs ys Z i _ (by rw [HLen.out]; have := HMN.out; omega) rfl] at HO'
      have HG' := Lib.hid (HG.out.setCell g i (.int .u64 (((fun a b => a &&& b) (xs.getD i 0) (ys.getD i 0) : Nat) : Int)))
      have hxi : i < xs.length := by omega
      have hyi : i < ys.length := by omega
      obtain ⟨v, hv⟩ : ∃ v, v = (fun a b => a &&& b) (xs.getD i 0) (ys.getD i 0) := ⟨_, rfl⟩
      rw [← hv] at HO' HG'
      have hbv' : bits BinOp.and IntKind.u64 ((xs.getD i 0 : Nat) : Int) ((ys.getD i 0 : Nat) : Int) = (v : Int) := by rw [hv]; exact hbv
      clear hbv hv
      generalize (bwL (fun a b => a &&& b) xs ys i ++ Z.drop i).getD i 0 = z0 at *
      generalize xs.getD i 0 = x at *
      generalize ys.getD i 0 = y at *
      go_wp2_with fail
      go_region_held3 (fun w' => w'.cell? ⟨gx, offx + i, none⟩ = some (.int .u64 x) ∧ w'.cell? ⟨gy, offy + i, none⟩ = some (.int .u64 y))
        (first
          | exact ⟨set_other_drew ci hgx1, set_other_drew cj hgy1⟩
          | exact ⟨set_other ci hgx1, set_other cj hgy1⟩
          | exact ⟨ci, cj⟩
          | go_keep)
        (fail)
      generalize bits BinOp.and IntKind.u64 (x : Int) (y : Int) = V at *
      obtain rfl := hbv'
      go_wp2
      first
        | exact ⟨⟨i + 1, by go_num, by omega, HO'.out, grown_drew HG'.out⟩, by simp [intOf]; omega⟩
        | exact ⟨⟨i + 1, by go_num, by omega, HO'.out, HG'.out⟩, by simp [intOf]; omega⟩
    · obtain rfl : i = xs.length := by omega
      have HO3 : Hid (OwnW w.heap.size wr g xs.length c1 (bwL (fun a b => a &&& b) xs ys xs.length)) := by
        have := HOr.out
        rw [HZD.out, Nat.sub_self] at this
        show OwnW _ _ _ _ _ _
        simpa using this
      have HB3 : Hid (Below w.heap.size w wr) := HB.out.grown HG.out (by have := HB.out.size; omega) (by intro q hq; cases hq; exact hg.1)
      clear HOr HG HO HB
      go_wp2_with fail
      refine (f75_any w.heap.size g xs.length c1 _ (by omega) _ HO3.out).mono ?_
      rintro e w4 ⟨rfl, rfl⟩
      go_wp2_with fail
      go_ret
      refine ⟨_, trim (bwL (fun a b => a &&& b) xs ys xs.length), rfl, ?_, ?_, HB3.out⟩
      · have := Row.take (trim (bwL (fun a b => a &&& b) xs ys xs.length)).length (by have := trim_len (bwL (fun a b => a &&& b) xs ys xs.length); rw [HO3.out.len] at this; exact this) HO3.out.row
        rwa [trim_take_len] at this
      · rw [← HV.out]; exact IsW.ofTrim _ HLow.out

set_option maxRecDepth 100000 in
theorem f69_nil (v1 v2 : Value) (xs ys : List Nat) (B1 B2 : Nat) (nx ny : Nat) (hx : IsW nx xs) (hy : IsW ny ys) (w : World) (h1 : Row B1 .u64 w v1 xs) (h2 : Row B2 .u64 w v2 ys) (h0 : xs.length = 0 ∨ ys.length = 0) :
    Calls Try.prog 69 #[.slice none 0 0, v1, v2] w (MakesNat (nx &&& ny) w) := by
  have hz : nx &&& ny = 0 := by
    rcases h0 with h | h
    · rw [hx.zero.2 (List.eq_nil_of_length_eq_zero h), Nat.zero_and]
    · rw [hy.zero.2 (List.eq_nil_of_length_eq_zero h), Nat.and_zero]
  rw [hz]
  obtain ⟨a1, c1, rfl⟩ := h1.len
  obtain ⟨a2, c2, rfl⟩ := h2.len
  have hc : (ys.length = 0 ∧ 0 < xs.length) ∨ (xs.length = 0) := by omega
  clear h0 hx hy hz h1 h2
  rcases hc with ⟨h, h'⟩ | h
  all_goals
    rw [h]
    clear h
    go_enter Try.func69, Try.ntmps69
    go_wp2_with fail
    refine (f73_zero _).mono ?_
    rintro e w1 ⟨rfl, rfl⟩
    go_wp2_with fail
    go_loop [9] (fun vi => vi = .int .i64 0) (fun _ => 0)
    case atStart => rfl
    case round =>
      obtain rfl := hrel
      go_wp2_with fail
      refine (f75_nil _).mono ?_
      rintro e w2 ⟨rfl, rfl⟩
      go_wp2_with fail
      go_ret
      exact ⟨_, [], rfl, .inl ⟨rfl, .inl rfl⟩, isW_nil, Below.refl _ _⟩

theorem f69_any (B1 B2 : Nat) (v1 v2 : Value) (xs ys : List Nat) (hlx : xs.length ≤ 900) (hly : ys.length ≤ 900) (nx ny : Nat) (hx : IsW nx xs) (hy : IsW ny ys) (w : World) (h1 : Row B1 .u64 w v1 xs) (h2 : Row B2 .u64 w v2 ys) :
    Calls Try.prog 69 #[.slice none 0 0, v1, v2] w (MakesNat (nx &&& ny) w) := by
  by_cases h0 : xs.length = 0 ∨ ys.length = 0
  · exact f69_nil v1 v2 xs ys B1 B2 nx ny hx hy w h1 h2 h0
  · have hx0 : 0 < xs.length := by omega
    have hy0 : 0 < ys.length := by omega
    rcases h1 with ⟨h, _⟩ | ⟨p, gx, ox, cx, rfl, q⟩
    · simp [h] at hx0
    rcases h2 with ⟨h, _⟩ | ⟨p', gy, oy, cy, rfl, q'⟩
    · simp [h] at hy0
    by_cases hlt : ys.length < xs.length
    · exact f69_gt gx ox cx gy oy cy B1 B2 xs ys hx0 hy0 hlx hly nx ny hx hy w (.inr ⟨p, gx, ox, cx, rfl, q⟩) (.inr ⟨p', gy, oy, cy, rfl, q'⟩) hlt
    · exact f69_le gx ox cx gy oy cy B1 B2 xs ys hx0 hy0 hlx hly nx ny hx hy w (.inr ⟨p, gx, ox, cx, rfl, q⟩) (.inr ⟨p', gy, oy, cy, rfl, q'⟩) (by omega)
end Go.Proofs.Ytidkdjnfpepnfaa
