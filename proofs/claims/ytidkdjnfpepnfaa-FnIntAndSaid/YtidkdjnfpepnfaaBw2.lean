/- Walks of the package's great numbers: the bits of the first one that the second one lacks. (Printed by mkbw.py.) -/
import Derived.Test.YtidkdjnfpepnfaaBw1
import Derived.Test.YtidkdjnfpepnfaaBig17
namespace Go.Proofs.Ytidkdjnfpepnfaa
open Go.RowKit

theorem copy_lay2 (V R ys : List Nat) (p : Nat) (hp : p = V.length) (hR : R.length = ys.length) : (V ++ R).take p ++ (ys ++ (V ++ R).drop (p + ys.length)) = V ++ ys := by
  have := copy_lay [] V R ys p (by simpa using hp)
  rw [List.drop_of_length_le (by omega : R.length ≤ ys.length)] at this
  simpa using this

set_option maxRecDepth 100000 in
set_option maxHeartbeats 4000000 in
theorem f70_gt (gx offx cx gy offy cy B1 B2 : Nat) (xs ys : List Nat) (h1 : 0 < xs.length) (h2 : 0 < ys.length) (hlx : xs.length ≤ 900) (hly : ys.length ≤ 900) (nx ny : Nat) (hx : IsW nx xs) (hy : IsW ny ys) (w : World)
    (hrx : Row B1 .u64 w (.slice (some ⟨gx, offx, none⟩) xs.length cx) xs) (hry : Row B2 .u64 w (.slice (some ⟨gy, offy, none⟩) ys.length cy) ys) (hlt : ys.length < xs.length) :
    Calls Try.prog 70 #[.slice none 0 0, .slice (some ⟨gx, offx, none⟩) xs.length cx, .slice (some ⟨gy, offy, none⟩) ys.length cy] w (MakesNat (adn nx ny) w) := by
  obtain ⟨hcx, hgx, hcellx⟩ := hrx.cellsOf h1
  obtain ⟨hcy, hgy, hcelly⟩ := hry.cellsOf h2
  have HCX := Lib.hid hcellx
  have HCY := Lib.hid hcelly
  have HX := Lib.hid hx
  have HY := Lib.hid hy
  have HXL : Hid (∀ d ∈ xs, d < W) := hx.low
  have HYL : Hid (∀ d ∈ ys, d < W) := hy.low
  have hpx : (1 : Int) ≤ xs.length := by omega
  have hpy : (1 : Int) ≤ ys.length := by omega
  have HV : Hid (wv (bwL adn xs ys ys.length ++ xs.drop ys.length) = adn nx ny) := by
    show _ = _
    rw [bw_rest bitAdn adn_zero xs ys hx.low hy.low (by omega), hx.val, hy.val]
  have HLow : Hid (∀ d ∈ bwL adn xs ys ys.length ++ xs.drop ys.length, d < W) := fun d hd => by
    rcases List.mem_append.1 hd with h | h
    · exact bwL_low bitAdn xs ys hx.low hy.low ys.length d h
    · exact hx.low d (List.mem_of_mem_drop h)
  clear hrx hry hcellx hcelly hx hy
  go_enter Try.func70, Try.ntmps70
  go_wp2_with fail
  refine (f73_int _ (by omega) (by omega) _).mono ?_
  rintro e w1 ⟨g, c1, rfl, ho, hb⟩
  rw [Int.toNat_natCast] at ho
  rw [Int.toNat_natCast]
  have hg := ho.low
  have hcap := ho.cap
  have HO := Lib.hid ho
  have HB := Lib.hid hb
  have HLen : Hid ((List.replicate xs.length 0).length = xs.length) := by show _ = _; simp
  have HMN : Hid (ys.length ≤ xs.length) := by show _ ≤ _; omega
  have HZD := Lib.hid (rep_drop xs.length ys.length)
  generalize List.replicate xs.length 0 = Z at *
  have hgx1 : gx ≠ g := by omega
  have hgy1 : gy ≠ g := by omega
  have hgx2 : gx < w1.heap.size := Nat.lt_of_lt_of_le hgx hb.size
  have hgy2 : gy < w1.heap.size := Nat.lt_of_lt_of_le hgy hb.size
  clear ho hb
  go_wp2_with fail
  go_loopw [9] (fun vi wr => ∃ i : Nat, vi = .int .i64 i ∧ i ≤ ys.length ∧ Hid (OwnW w.heap.size wr g xs.length c1 (bwL adn xs ys i ++ Z.drop i)) ∧ Hid (w1.grownBy wr (some g))) (fun vi _ => ys.length - (intOf vi).toNat)
  case atStart => exact ⟨0, rfl, Nat.zero_le _, by have := HO.out; show OwnW _ _ _ _ _ _; simpa [bwL] using this, World.grownBy.refl _ _⟩
  case round =>
    obtain ⟨i, rfl, hi, HOr, HG⟩ := hrel
    by_cases hil : i < ys.length
    · have ci := (HG.out.cell_far ⟨gx, offx + i, none⟩ hgx2 (by simpa using hgx1)).trans ((HB.out.cell (p := ⟨gx, offx + i, none⟩) hgx).trans (HCX.out i (by omega)))
      have cj := (HG.out.cell_far ⟨gy, offy + i, none⟩ hgy2 (by simpa using hgy1)).trans ((HB.out.cell (p := ⟨gy, offy + i, none⟩) hgy).trans (HCY.out i (by omega)))
      have zc := HOr.out.cell i (by have := HMN.out; omega)
      have zf := HOr.out.free i
      have hbv := u64_adn_nat' (xs.getD i 0) (ys.getD i 0) (getD_lt xs HXL.out i) (getD_lt ys HYL.out i)
      have HO' := Lib.hid (HOr.out.stored i (adn (xs.getD i 0) (ys.getD i 0)))
      rw [bw_set adn xs ys Z i _ (by rw [HLen.out]; have := HMN.out; omega) rfl] at HO'
      have HG' := Lib.hid (HG.out.setCell g i (.int .u64 ((adn (xs.getD i 0) (ys.getD i 0) : Nat) : Int)))
      have hxi : i < xs.length := by omega
      have hyi : i < ys.length := by omega
      obtain ⟨v, hv⟩ : ∃ v, v = adn (xs.getD i 0) (ys.getD i 0) := ⟨_, rfl⟩
      rw [← hv] at HO' HG'
      have hbv' : bits BinOp.andNot IntKind.u64 ((xs.getD i 0 : Nat) : Int) ((ys.getD i 0 : Nat) : Int) = (v : Int) := by rw [hv]; exact hbv
      clear hbv hv
      generalize (bwL adn xs ys i ++ Z.drop i).getD i 0 = z0 at *
      generalize xs.getD i 0 = x at *
      generalize ys.getD i 0 = y at *
      go_wp2_with fail
      go_region_held3 (fun w' => w'.cell? ⟨gx, offx + i, none⟩ = some (.int .u64 x) ∧ w'.cell? ⟨gy, offy + i, none⟩ = some (.int .u64 y))
        (first
          | exact ⟨set_other_drew ci hgx1, set_other_drew cj hgy1⟩
          | exact ⟨set_other ci hgx1, set_other cj hgy1⟩
          | exact ⟨ci, cj⟩
          | go_keep)
        (fail)
      generalize bits BinOp.andNot IntKind.u64 (x : Int) (y : Int) = V at *
      obtain rfl := hbv'
      go_wp2
      first
        | exact ⟨⟨i + 1, by go_num, by omega, HO'.out, grown_drew HG'.out⟩, by simp [intOf]; omega⟩
        | exact ⟨⟨i + 1, by go_num, by omega, HO'.out, HG'.out⟩, by simp [intOf]; omega⟩
    · obtain rfl : i = ys.length := by omega
      have hz1 : ¬ c1 = ys.length := by omega
      have hz2 : ¬ cx = ys.length := by omega
      have hs1 : (ys.length : Int) ≤ xs.length := by omega
      have hs2 : (xs.length : Int) ≤ c1 := by omega
      have hs3 : (xs.length : Int) ≤ cx := by omega
      have HR := Lib.hid (cell_row (B := 0) (k := ys.length) (xs := xs) (w := wr) (c := cx) (Nat.zero_le _) (Nat.lt_of_lt_of_le hgx2 HG.out.size) (by omega) (by omega) (fun i hi => (HG.out.cell_far ⟨gx, offx + i, none⟩ hgx2 (by simpa using hgx1)).trans ((HB.out.cell (p := ⟨gx, offx + i, none⟩) hgx).trans (HCX.out i hi))))
      have HOd : Hid (OwnW w.heap.size wr.drew g xs.length c1 (bwL adn xs ys ys.length ++ Z.drop ys.length)) := HOr.out
      have HRd : Hid (Row 0 .u64 wr.drew (.slice (some ⟨gx, offx + ys.length, none⟩) (xs.length - ys.length) (cx - ys.length)) (xs.drop ys.length)) := HR.out
      have HGd : Hid (w1.grownBy wr.drew (some g)) := grown_drew HG.out
      clear HOr HR HG
      go_wp2_with fail
      go_still_tail 8, (by kernel_rfl)
      change wpList Try.prog _ _ _ _ (World.drew wr)
      generalize wr.drew = wd at *
      refine wpList_copy_row rfl (.tmp 41) (.tmp 45) 69 69 rfl Try.underlying69 (some ⟨g, ys.length, none⟩) (xs.length - ys.length) (c1 - ys.length) rfl _ rfl w.heap.size g xs.length c1 _ HOd.out 0 (xs.drop ys.length) HRd.out ys.length (fun _ => rfl) (by simp) (by simp; omega) ?_
      intro w2 ho2 hg2
      rw [copy_lay2 (bwL adn xs ys ys.length) (Z.drop ys.length) (xs.drop ys.length) ys.length (bwL_len _ _ _ _).symm (by rw [HZD.out]; simp)] at ho2
      have HO3 := Lib.hid ho2
      have HB3 : Hid (Below w.heap.size w w2) := (HB.out.grown HGd.out (by have := HB.out.size; omega) (by intro q hq; cases hq; exact hg.1)).grown hg2 (by have := HB.out.size; have := HGd.out.size; omega) (by intro q hq; cases hq; exact hg.1)
      clear ho2 hg2 HOd HRd HGd HO HB
      go_wp2_with fail
      refine (f75_any w.heap.size g xs.length c1 _ (by omega) _ HO3.out).mono ?_
      rintro e w4 ⟨rfl, rfl⟩
      go_wp2_with fail
      go_ret
      refine ⟨_, trim (bwL adn xs ys ys.length ++ xs.drop ys.length), rfl, ?_, ?_, HB3.out⟩
      · have := Row.take (trim (bwL adn xs ys ys.length ++ xs.drop ys.length)).length (by have := trim_len (bwL adn xs ys ys.length ++ xs.drop ys.length); rw [HO3.out.len] at this; exact this) HO3.out.row
        rwa [trim_take_len] at this
      · rw [← HV.out]; exact IsW.ofTrim _ HLow.out

set_option maxRecDepth 100000 in
set_option maxHeartbeats 4000000 in
theorem f70_lt (gx offx cx gy offy cy B1 B2 : Nat) (xs ys : List Nat) (h1 : 0 < xs.length) (h2 : 0 < ys.length) (hlx : xs.length ≤ 900) (hly : ys.length ≤ 900) (nx ny : Nat) (hx : IsW nx xs) (hy : IsW ny ys) (w : World)
    (hrx : Row B1 .u64 w (.slice (some ⟨gx, offx, none⟩) xs.length cx) xs) (hry : Row B2 .u64 w (.slice (some ⟨gy, offy, none⟩) ys.length cy) ys) (hlt : xs.length < ys.length) :
    Calls Try.prog 70 #[.slice none 0 0, .slice (some ⟨gx, offx, none⟩) xs.length cx, .slice (some ⟨gy, offy, none⟩) ys.length cy] w (MakesNat (adn nx ny) w) := by
  obtain ⟨hcx, hgx, hcellx⟩ := hrx.cellsOf h1
  obtain ⟨hcy, hgy, hcelly⟩ := hry.cellsOf h2
  have HCX := Lib.hid hcellx
  have HCY := Lib.hid hcelly
  have HX := Lib.hid hx
  have HY := Lib.hid hy
  have HXL : Hid (∀ d ∈ xs, d < W) := hx.low
  have HYL : Hid (∀ d ∈ ys, d < W) := hy.low
  have hpx : (1 : Int) ≤ xs.length := by omega
  have hpy : (1 : Int) ≤ ys.length := by omega
  have HV : Hid (wv (bwL adn xs ys xs.length) = adn nx ny) := by
    show _ = _
    rw [bw_cut bitAdn xs ys hx.low hy.low xs.length (by omega) (by omega) (by rw [List.drop_of_length_le (Nat.le_refl xs.length)]; exact zero_adn _), hx.val, hy.val]
  have HLow := Lib.hid (bwL_low bitAdn xs ys hx.low hy.low xs.length)
  clear hrx hry hcellx hcelly hx hy
  go_enter Try.func70, Try.ntmps70
  go_wp2_with fail
  refine (f73_int _ (by omega) (by omega) _).mono ?_
  rintro e w1 ⟨g, c1, rfl, ho, hb⟩
  rw [Int.toNat_natCast] at ho
  rw [Int.toNat_natCast]
  have hg := ho.low
  have hcap := ho.cap
  have HO := Lib.hid ho
  have HB := Lib.hid hb
  have HLen : Hid ((List.replicate xs.length 0).length = xs.length) := by show _ = _; simp
  have HMN : Hid (xs.length ≤ xs.length) := by show _ ≤ _; omega
  have HZD := Lib.hid (rep_drop xs.length xs.length)
  generalize List.replicate xs.length 0 = Z at *
  have hgx1 : gx ≠ g := by omega
  have hgy1 : gy ≠ g := by omega
  have hgx2 : gx < w1.heap.size := Nat.lt_of_lt_of_le hgx hb.size
  have hgy2 : gy < w1.heap.size := Nat.lt_of_lt_of_le hgy hb.size
  clear ho hb
  go_wp2_with fail
  go_loopw [9] (fun vi wr => ∃ i : Nat, vi = .int .i64 i ∧ i ≤ xs.length ∧ Hid (OwnW w.heap.size wr g xs.length c1 (bwL adn xs ys i ++ Z.drop i)) ∧ Hid (w1.grownBy wr (some g))) (fun vi _ => xs.length - (intOf vi).toNat)
  case atStart => exact ⟨0, rfl, Nat.zero_le _, by have := HO.out; show OwnW _ _ _ _ _ _; simpa [bwL] using this, World.grownBy.refl _ _⟩
  case round =>
    obtain ⟨i, rfl, hi, HOr, HG⟩ := hrel
    by_cases hil : i < xs.length
    · have ci := (HG.out.cell_far ⟨gx, offx + i, none⟩ hgx2 (by simpa using hgx1)).trans ((HB.out.cell (p := ⟨gx, offx + i, none⟩) hgx).trans (HCX.out i (by omega)))
      have cj := (HG.out.cell_far ⟨gy, offy + i, none⟩ hgy2 (by simpa using hgy1)).trans ((HB.out.cell (p := ⟨gy, offy + i, none⟩) hgy).trans (HCY.out i (by omega)))
      have zc := HOr.out.cell i (by have := HMN.out; omega)
      have zf := HOr.out.free i
      have hbv := u64_adn_nat' (xs.getD i 0) (ys.getD i 0) (getD_lt xs HXL.out i) (getD_lt ys HYL.out i)
      have HO' := Lib.hid (HOr.out.stored i (adn (xs.getD i 0) (ys.getD i 0)))
      rw [bw_set adn xs ys Z i _ (by rw [HLen.out]; have := HMN.out; omega) rfl] at HO'
      have HG' := Lib.hid (HG.out.setCell g i (.int .u64 ((adn (xs.getD i 0) (ys.getD i 0) : Nat) : Int)))
      have hxi : i < xs.length := by omega
      have hyi : i < ys.length := by omega
      obtain ⟨v, hv⟩ : ∃ v, v = adn (xs.getD i 0) (ys.getD i 0) := ⟨_, rfl⟩
      rw [← hv] at HO' HG'
      have hbv' : bits BinOp.andNot IntKind.u64 ((xs.getD i 0 : Nat) : Int) ((ys.getD i 0 : Nat) : Int) = (v : Int) := by rw [hv]; exact hbv
      clear hbv hv
      generalize (bwL adn xs ys i ++ Z.drop i).getD i 0 = z0 at *
      generalize xs.getD i 0 = x at *
      generalize ys.getD i 0 = y at *
      go_wp2_with fail
      go_region_held3 (fun w' => w'.cell? ⟨gx, offx + i, none⟩ = some (.int .u64 x) ∧ w'.cell? ⟨gy, offy + i, none⟩ = some (.int .u64 y))
        (first
          | exact ⟨set_other_drew ci hgx1, set_other_drew cj hgy1⟩
          | exact ⟨set_other ci hgx1, set_other cj hgy1⟩
          | exact ⟨ci, cj⟩
          | go_keep)
        (fail)
      generalize bits BinOp.andNot IntKind.u64 (x : Int) (y : Int) = V at *
      obtain rfl := hbv'
      go_wp2
      first
        | exact ⟨⟨i + 1, by go_num, by omega, HO'.out, grown_drew HG'.out⟩, by simp [intOf]; omega⟩
        | exact ⟨⟨i + 1, by go_num, by omega, HO'.out, HG'.out⟩, by simp [intOf]; omega⟩
    · obtain rfl : i = xs.length := by omega
      have hc : (c1 = xs.length ∨ ¬ c1 = xs.length) ∧ (cx = xs.length ∨ ¬ cx = xs.length) := by omega
      have hs2 : (xs.length : Int) ≤ c1 := by omega
      have hs3 : (xs.length : Int) ≤ cx := by omega
      have HO3 : Hid (OwnW w.heap.size wr.drew g xs.length c1 (bwL adn xs ys xs.length)) := by
        have := HOr.out
        rw [HZD.out, Nat.sub_self] at this
        have h2 : OwnW w.heap.size wr g xs.length c1 (bwL adn xs ys xs.length) := by simpa using this
        exact h2
      have HB3 : Hid (Below w.heap.size w wr.drew) := HB.out.grown (grown_drew HG.out) (by have := HB.out.size; omega) (by intro q hq; cases hq; exact hg.1)
      clear HOr HG HO HB
      obtain ⟨hz1 | hz1, hz2 | hz2⟩ := hc
      all_goals
        (try subst hz1)
        (try subst hz2)
        go_wp2_with fail
        go_still_tail 8, (by kernel_rfl)
        change wpList Try.prog _ _ _ _ (World.drew wr)
        generalize wr.drew = wd at *
        refine wpList_copy_nothing rfl (.tmp 41) (.tmp 45) 69 69 rfl 93 Try.underlying69 size93 _ _ _ _ _ _ rfl rfl (by simp) ?_
        go_wp2_with fail
        refine (f75_any w.heap.size g xs.length _ _ (by omega) _ HO3.out).mono ?_
        rintro e w4 ⟨rfl, rfl⟩
        go_wp2_with fail
        go_ret
        refine ⟨_, trim (bwL adn xs ys xs.length), rfl, ?_, ?_, HB3.out⟩
        · have := Row.take (trim (bwL adn xs ys xs.length)).length (by have := trim_len (bwL adn xs ys xs.length); rw [HO3.out.len] at this; exact this) HO3.out.row
          rwa [trim_take_len] at this
        · rw [← HV.out]; exact IsW.ofTrim _ HLow.out

set_option maxRecDepth 100000 in
set_option maxHeartbeats 4000000 in
theorem f70_eq (gx offx cx gy offy cy B1 B2 : Nat) (xs ys : List Nat) (h1 : 0 < xs.length) (h2 : 0 < ys.length) (hlx : xs.length ≤ 900) (_hly : ys.length ≤ 900) (nx ny : Nat) (hx : IsW nx xs) (hy : IsW ny ys) (w : World)
    (hrx : Row B1 .u64 w (.slice (some ⟨gx, offx, none⟩) xs.length cx) xs) (hry : Row B2 .u64 w (.slice (some ⟨gy, offy, none⟩) ys.length cy) ys) (hlt : xs.length ≤ ys.length ∧ ys.length ≤ xs.length) :
    Calls Try.prog 70 #[.slice none 0 0, .slice (some ⟨gx, offx, none⟩) xs.length cx, .slice (some ⟨gy, offy, none⟩) xs.length cy] w (MakesNat (adn nx ny) w) := by
  obtain ⟨hcx, hgx, hcellx⟩ := hrx.cellsOf h1
  obtain ⟨hcy, hgy, hcelly⟩ := hry.cellsOf h2
  have HCX := Lib.hid hcellx
  have HCY := Lib.hid hcelly
  have HX := Lib.hid hx
  have HY := Lib.hid hy
  have HXL : Hid (∀ d ∈ xs, d < W) := hx.low
  have HYL : Hid (∀ d ∈ ys, d < W) := hy.low
  have hpx : (1 : Int) ≤ xs.length := by omega
  have hpy : (1 : Int) ≤ ys.length := by omega
  have HV : Hid (wv (bwL adn xs ys xs.length) = adn nx ny) := by
    show _ = _
    rw [bw_cut bitAdn xs ys hx.low hy.low xs.length (by omega) (by omega) (by rw [List.drop_of_length_le (Nat.le_refl xs.length)]; exact zero_adn _), hx.val, hy.val]
  have HLow := Lib.hid (bwL_low bitAdn xs ys hx.low hy.low xs.length)
  clear hrx hry hcellx hcelly hx hy
  go_enter Try.func70, Try.ntmps70
  go_wp2_with fail
  refine (f73_int _ (by omega) (by omega) _).mono ?_
  rintro e w1 ⟨g, c1, rfl, ho, hb⟩
  rw [Int.toNat_natCast] at ho
  rw [Int.toNat_natCast]
  have hg := ho.low
  have hcap := ho.cap
  have HO := Lib.hid ho
  have HB := Lib.hid hb
  have HLen : Hid ((List.replicate xs.length 0).length = xs.length) := by show _ = _; simp
  have HMN : Hid (xs.length ≤ xs.length) := by show _ ≤ _; omega
  have HZD := Lib.hid (rep_drop xs.length xs.length)
  generalize List.replicate xs.length 0 = Z at *
  have hgx1 : gx ≠ g := by omega
  have hgy1 : gy ≠ g := by omega
  have hgx2 : gx < w1.heap.size := Nat.lt_of_lt_of_le hgx hb.size
  have hgy2 : gy < w1.heap.size := Nat.lt_of_lt_of_le hgy hb.size
  clear ho hb
  go_wp2_with fail
  go_loopw [9] (fun vi wr => ∃ i : Nat, vi = .int .i64 i ∧ i ≤ xs.length ∧ Hid (OwnW w.heap.size wr g xs.length c1 (bwL adn xs ys i ++ Z.drop i)) ∧ Hid (w1.grownBy wr (some g))) (fun vi _ => xs.length - (intOf vi).toNat)
  case atStart => exact ⟨0, rfl, Nat.zero_le _, by have := HO.out; show OwnW _ _ _ _ _ _; simpa [bwL] using this, World.grownBy.refl _ _⟩
  case round =>
    obtain ⟨i, rfl, hi, HOr, HG⟩ := hrel
    by_cases hil : i < xs.length
    · have ci := (HG.out.cell_far ⟨gx, offx + i, none⟩ hgx2 (by simpa using hgx1)).trans ((HB.out.cell (p := ⟨gx, offx + i, none⟩) hgx).trans (HCX.out i (by omega)))
      have cj := (HG.out.cell_far ⟨gy, offy + i, none⟩ hgy2 (by simpa using hgy1)).trans ((HB.out.cell (p := ⟨gy, offy + i, none⟩) hgy).trans (HCY.out i (by omega)))
      have zc := HOr.out.cell i (by have := HMN.out; omega)
      have zf := HOr.out.free i
      have hbv := u64_adn_nat' (xs.getD i 0) (ys.getD i 0) (getD_lt xs HXL.out i) (getD_lt ys HYL.out i)
      have HO' := Lib.hid (HOr.out.stored i (adn (xs.getD i 0) (ys.getD i 0)))
      rw [bw_set adn xs ys Z i _ (by rw [HLen.out]; have := HMN.out; omega) rfl] at HO'
      have HG' := Lib.hid (HG.out.setCell g i (.int .u64 ((adn (xs.getD i 0) (ys.getD i 0) : Nat) : Int)))
      have hxi : i < xs.length := by omega
      have hyi : i < ys.length := by omega
      obtain ⟨v, hv⟩ : ∃ v, v = adn (xs.getD i 0) (ys.getD i 0) := ⟨_, rfl⟩
      rw [← hv] at HO' HG'
      have hbv' : bits BinOp.andNot IntKind.u64 ((xs.getD i 0 : Nat) : Int) ((ys.getD i 0 : Nat) : Int) = (v : Int) := by rw [hv]; exact hbv
      clear hbv hv
      generalize (bwL adn xs ys i ++ Z.drop i).getD i 0 = z0 at *
      generalize xs.getD i 0 = x at *
      generalize ys.getD i 0 = y at *
      go_wp2_with fail
      go_region_held3 (fun w' => w'.cell? ⟨gx, offx + i, none⟩ = some (.int .u64 x) ∧ w'.cell? ⟨gy, offy + i, none⟩ = some (.int .u64 y))
        (first
          | exact ⟨set_other_drew ci hgx1, set_other_drew cj hgy1⟩
          | exact ⟨set_other ci hgx1, set_other cj hgy1⟩
          | exact ⟨ci, cj⟩
          | go_keep)
        (fail)
      generalize bits BinOp.andNot IntKind.u64 (x : Int) (y : Int) = V at *
      obtain rfl := hbv'
      go_wp2
      first
        | exact ⟨⟨i + 1, by go_num, by omega, HO'.out, grown_drew HG'.out⟩, by simp [intOf]; omega⟩
        | exact ⟨⟨i + 1, by go_num, by omega, HO'.out, HG'.out⟩, by simp [intOf]; omega⟩
    · obtain rfl : i = xs.length := by omega
      have hc : (c1 = xs.length ∨ ¬ c1 = xs.length) ∧ (cx = xs.length ∨ ¬ cx = xs.length) := by omega
      have hs2 : (xs.length : Int) ≤ c1 := by omega
      have hs3 : (xs.length : Int) ≤ cx := by omega
      have HO3 : Hid (OwnW w.heap.size wr.drew g xs.length c1 (bwL adn xs ys xs.length)) := by
        have := HOr.out
        rw [HZD.out, Nat.sub_self] at this
        have h2 : OwnW w.heap.size wr g xs.length c1 (bwL adn xs ys xs.length) := by simpa using this
        exact h2
      have HB3 : Hid (Below w.heap.size w wr.drew) := HB.out.grown (grown_drew HG.out) (by have := HB.out.size; omega) (by intro q hq; cases hq; exact hg.1)
      clear HOr HG HO HB
      obtain ⟨hz1 | hz1, hz2 | hz2⟩ := hc
      all_goals
        (try subst hz1)
        (try subst hz2)
        go_wp2_with fail
        go_still_tail 8, (by kernel_rfl)
        change wpList Try.prog _ _ _ _ (World.drew wr)
        generalize wr.drew = wd at *
        refine wpList_copy_nothing rfl (.tmp 41) (.tmp 45) 69 69 rfl 93 Try.underlying69 size93 _ _ _ _ _ _ rfl rfl (by simp) ?_
        go_wp2_with fail
        refine (f75_any w.heap.size g xs.length _ _ (by omega) _ HO3.out).mono ?_
        rintro e w4 ⟨rfl, rfl⟩
        go_wp2_with fail
        go_ret
        refine ⟨_, trim (bwL adn xs ys xs.length), rfl, ?_, ?_, HB3.out⟩
        · have := Row.take (trim (bwL adn xs ys xs.length)).length (by have := trim_len (bwL adn xs ys xs.length); rw [HO3.out.len] at this; exact this) HO3.out.row
          rwa [trim_take_len] at this
        · rw [← HV.out]; exact IsW.ofTrim _ HLow.out

end Go.Proofs.Ytidkdjnfpepnfaa
