/- Walks of the package's great numbers: andNot and or, whole. -/
import Derived.Test.YtidkdjnfpepnfaaBw3
namespace Go.Proofs.Ytidkdjnfpepnfaa
open Go.RowKit

theorem Row.empty {B : Nat} {k : IntKind} {w : World} {v : Value} {l : List Nat} (h : Row B k w v l) (h0 : l.length = 0) : v = .slice none 0 0 ∨ ∃ a c, v = .slice (some a) 0 c := by
  rcases h with ⟨_, h⟩ | ⟨h, _⟩
  · exact h
  · omega

set_option maxRecDepth 100000 in
set_option maxHeartbeats 2000000 in
theorem f70_nilx (v1 : Value) (hv : v1 = .slice none 0 0 ∨ ∃ a c, v1 = .slice (some a) 0 c) (ay : Option Addr) (ny cy : Nat) (w : World) :
    Calls Try.prog 70 #[.slice none 0 0, v1, .slice ay ny cy] w (MakesNat 0 w) := by
  have hn : ny = 0 ∨ 0 < ny := by omega
  have hv' : v1 = .slice none 0 0 ∨ (∃ a, v1 = .slice (some a) 0 0) ∨ ∃ a c, c ≠ 0 ∧ v1 = .slice (some a) 0 c := by
    rcases hv with h | ⟨a, c, h⟩
    · exact .inl h
    · by_cases hc : c = 0
      · subst hc; exact .inr (.inl ⟨a, h⟩)
      · exact .inr (.inr ⟨a, c, hc, h⟩)
  clear hv
  rcases hv' with rfl | ⟨⟨g, o, s⟩, rfl⟩ | ⟨⟨g, o, s⟩, c, hc, rfl⟩
  all_goals
    rcases hn with rfl | hn
    all_goals
      go_enter Try.func70, Try.ntmps70
      go_wp2_with fail
      refine (f73_zero _).mono ?_
      rintro e w1 ⟨rfl, rfl⟩
      go_wp2_with fail
      go_loop [9] (fun vi => vi = .int .i64 0) (fun _ => 0)
      case atStart => rfl
      case round =>
        obtain rfl := hrel
        go_wp2_with fail
        go_still_tail 8, (by kernel_rfl)
        change wpList Try.prog _ _ _ _ (World.drew _)
        refine wpList_copy_nothing rfl (.tmp 41) (.tmp 45) 69 69 rfl 93 Try.underlying69 size93 _ _ _ _ _ _ rfl rfl (by simp) ?_
        go_wp2_with fail
        refine (f75_nil _).mono ?_
        rintro e w2 ⟨rfl, rfl⟩
        go_wp2_with fail
        go_ret
        exact ⟨_, [], rfl, .inl ⟨rfl, .inl rfl⟩, isW_nil, ⟨rfl, rfl, rfl, Nat.le_refl _, fun _ _ => rfl⟩⟩

set_option maxRecDepth 100000 in
set_option maxHeartbeats 2000000 in
theorem f70_nily (gx offx cx B1 : Nat) (xs : List Nat) (h1 : 0 < xs.length) (hlx : xs.length ≤ 900) (nx : Nat) (hx : IsW nx xs) (w : World) (hrx : Row B1 .u64 w (.slice (some ⟨gx, offx, none⟩) xs.length cx) xs) (ay : Option Addr) (cy : Nat) :
    Calls Try.prog 70 #[.slice none 0 0, .slice (some ⟨gx, offx, none⟩) xs.length cx, .slice ay 0 cy] w (MakesNat nx w) := by
  obtain ⟨hcx, hgx, hcellx⟩ := hrx.cellsOf h1
  have HR := Lib.hid hrx
  have HX := Lib.hid hx
  clear hrx hcellx hx
  go_enter Try.func70, Try.ntmps70
  go_wp2_with fail
  refine (f73_int _ (by omega) (by omega) _).mono ?_
  rintro e w1 ⟨g, c1, rfl, ho, hb⟩
  rw [Int.toNat_natCast] at ho
  rw [Int.toNat_natCast]
  have hg := ho.low
  have hcap := ho.cap
  have HO : Hid (OwnW w.heap.size w1.drew g xs.length c1 (List.replicate xs.length 0)) := ho
  have HB := Lib.hid hb
  have HRd : Hid (Row B1 .u64 w1.drew (.slice (some ⟨gx, offx, none⟩) xs.length cx) xs) := HR.out.below hb.drew (Nat.le_refl _)
  have HBd : Hid (Below w.heap.size w w1.drew) := HB.out.drew
  have hz1 : ¬ c1 = 0 := by omega
  have hz2 : ¬ cx = 0 := by omega
  have hs2 : (xs.length : Int) ≤ c1 := by omega
  have hs3 : (xs.length : Int) ≤ cx := by omega
  have HE : Hid ((List.replicate xs.length 0).take 0 ++ (xs ++ (List.replicate xs.length 0).drop (0 + xs.length)) = xs) := by show _ = _; simp
  clear ho hb HR HB
  go_wp2_with fail
  go_loop [9] (fun vi => vi = .int .i64 0) (fun _ => 0)
  case atStart => rfl
  case round =>
    obtain rfl := hrel
    go_wp2_with fail
    go_still_tail 8, (by kernel_rfl)
    change wpList Try.prog _ _ _ _ (World.drew w1)
    generalize w1.drew = wd at *
    generalize List.replicate xs.length 0 = Z at *
    refine wpList_copy_row rfl (.tmp 41) (.tmp 45) 69 69 rfl Try.underlying69 (some ⟨g, 0, none⟩) xs.length c1 rfl _ rfl w.heap.size g xs.length c1 _ HO.out B1 xs HRd.out 0 (fun _ => rfl) rfl (by omega) ?_
    intro w2 ho2 hg2
    rw [HE.out] at ho2
    have HO3 := Lib.hid ho2
    have HB3 : Hid (Below w.heap.size w w2) := HBd.out.grown hg2 (by have := HBd.out.size; omega) (by intro q hq; cases hq; exact hg.1)
    clear ho2 hg2 HO HBd HE HRd
    go_wp2_with fail
    refine (f75_any w.heap.size g xs.length c1 xs (by omega) _ HO3.out).mono ?_
    rintro e w4 ⟨rfl, rfl⟩
    go_wp2_with fail
    go_ret
    refine ⟨_, xs, rfl, ?_, HX.out, HB3.out⟩
    have := HO3.out.row
    rwa [show (trim xs).length = xs.length from by rw [HX.out.top]]

theorem f70_any (B1 B2 : Nat) (v1 v2 : Value) (xs ys : List Nat) (hlx : xs.length ≤ 900) (hly : ys.length ≤ 900) (nx ny : Nat) (hx : IsW nx xs) (hy : IsW ny ys) (w : World) (h1 : Row B1 .u64 w v1 xs) (h2 : Row B2 .u64 w v2 ys) :
    Calls Try.prog 70 #[.slice none 0 0, v1, v2] w (MakesNat (adn nx ny) w) := by
  by_cases hx0 : xs.length = 0
  · have e : nx = 0 := hx.zero.2 (List.eq_nil_of_length_eq_zero hx0)
    obtain ⟨a2, c2, rfl⟩ := h2.len
    rw [e, zero_adn]
    exact f70_nilx v1 (h1.empty hx0) a2 ys.length c2 w
  rcases h1 with ⟨h, _⟩ | ⟨p, gx, ox, cx, rfl, q⟩
  · simp [h] at hx0
  by_cases hy0 : ys.length = 0
  · have e : ny = 0 := hy.zero.2 (List.eq_nil_of_length_eq_zero hy0)
    obtain ⟨a2, c2, rfl⟩ := h2.len
    rw [e, adn_zero, hy0]
    exact f70_nily gx ox cx B1 xs p hlx nx hx w (.inr ⟨p, gx, ox, cx, rfl, q⟩) a2 c2
  rcases h2 with ⟨h, _⟩ | ⟨p', gy, oy, cy, rfl, q'⟩
  · simp [h] at hy0
  rcases Nat.lt_trichotomy xs.length ys.length with hlt | heq | hgt
  · exact f70_lt gx ox cx gy oy cy B1 B2 xs ys p p' hlx hly nx ny hx hy w (.inr ⟨p, gx, ox, cx, rfl, q⟩) (.inr ⟨p', gy, oy, cy, rfl, q'⟩) hlt
  · have := f70_eq gx ox cx gy oy cy B1 B2 xs ys p p' hlx hly nx ny hx hy w (.inr ⟨p, gx, ox, cx, rfl, q⟩) (.inr ⟨p', gy, oy, cy, rfl, q'⟩) ⟨by omega, by omega⟩
    rwa [heq] at this ⊢
  · exact f70_gt gx ox cx gy oy cy B1 B2 xs ys p p' hlx hly nx ny hx hy w (.inr ⟨p, gx, ox, cx, rfl, q⟩) (.inr ⟨p', gy, oy, cy, rfl, q'⟩) hgt

set_option maxRecDepth 100000 in
set_option maxHeartbeats 2000000 in
theorem f68_nil (v1 v2 : Value) (hv1 : v1 = .slice none 0 0 ∨ ∃ a c, v1 = .slice (some a) 0 c) (hv2 : v2 = .slice none 0 0 ∨ ∃ a c, v2 = .slice (some a) 0 c) (w : World) :
    Calls Try.prog 68 #[.slice none 0 0, v1, v2] w (MakesNat 0 w) := by
  have hv' : v1 = .slice none 0 0 ∨ (∃ a, v1 = .slice (some a) 0 0) ∨ ∃ a c, c ≠ 0 ∧ v1 = .slice (some a) 0 c := by
    rcases hv1 with h | ⟨a, c, h⟩
    · exact .inl h
    · by_cases hc : c = 0
      · subst hc; exact .inr (.inl ⟨a, h⟩)
      · exact .inr (.inr ⟨a, c, hc, h⟩)
  clear hv1
  rcases hv2 with rfl | ⟨a2, c2, rfl⟩
  all_goals
    rcases hv' with rfl | ⟨⟨g, o, s⟩, rfl⟩ | ⟨⟨g, o, s⟩, c, hc, rfl⟩
    all_goals
      go_enter Try.func68, Try.ntmps68
      go_wp2_with fail
      refine (f73_zero _).mono ?_
      rintro e w1 ⟨rfl, rfl⟩
      go_wp2_with fail
      go_loop [10] (fun vi => vi = .int .i64 0) (fun _ => 0)
      case atStart => rfl
      case round =>
        obtain rfl := hrel
        go_wp2_with fail
        go_still_tail 8, (by kernel_rfl)
        change wpList Try.prog _ _ _ _ (World.drew _)
        refine wpList_copy_nothing rfl (.tmp 45) (.tmp 49) 69 69 rfl 93 Try.underlying69 size93 _ _ _ _ _ _ rfl rfl (by simp) ?_
        go_wp2_with fail
        refine (f75_nil _).mono ?_
        rintro e w2 ⟨rfl, rfl⟩
        go_wp2_with fail
        go_ret
        exact ⟨_, [], rfl, .inl ⟨rfl, .inl rfl⟩, isW_nil, ⟨rfl, rfl, rfl, Nat.le_refl _, fun _ _ => rfl⟩⟩

set_option maxRecDepth 100000 in
set_option maxHeartbeats 2000000 in
theorem f68_nily (gx offx cx B1 : Nat) (xs : List Nat) (h1 : 0 < xs.length) (hlx : xs.length ≤ 900) (nx : Nat) (hx : IsW nx xs) (w : World) (hrx : Row B1 .u64 w (.slice (some ⟨gx, offx, none⟩) xs.length cx) xs) (ay : Option Addr) (cy : Nat) :
    Calls Try.prog 68 #[.slice none 0 0, .slice (some ⟨gx, offx, none⟩) xs.length cx, .slice ay 0 cy] w (MakesNat nx w) := by
  obtain ⟨hcx, hgx, hcellx⟩ := hrx.cellsOf h1
  have HR := Lib.hid hrx
  have HX := Lib.hid hx
  clear hrx hcellx hx
  go_enter Try.func68, Try.ntmps68
  go_wp2_with fail
  refine (f73_int _ (by omega) (by omega) _).mono ?_
  rintro e w1 ⟨g, c1, rfl, ho, hb⟩
  rw [Int.toNat_natCast] at ho
  rw [Int.toNat_natCast]
  have hg := ho.low
  have hcap := ho.cap
  have HO : Hid (OwnW w.heap.size w1.drew g xs.length c1 (List.replicate xs.length 0)) := ho
  have HB := Lib.hid hb
  have HRd : Hid (Row B1 .u64 w1.drew (.slice (some ⟨gx, offx, none⟩) xs.length cx) xs) := HR.out.below hb.drew (Nat.le_refl _)
  have HBd : Hid (Below w.heap.size w w1.drew) := HB.out.drew
  have hz1 : ¬ c1 = 0 := by omega
  have hz2 : ¬ cx = 0 := by omega
  have hs2 : (xs.length : Int) ≤ c1 := by omega
  have hs3 : (xs.length : Int) ≤ cx := by omega
  have HE : Hid ((List.replicate xs.length 0).take 0 ++ (xs ++ (List.replicate xs.length 0).drop (0 + xs.length)) = xs) := by show _ = _; simp
  clear ho hb HR HB
  go_wp2_with fail
  go_loop [10] (fun vi => vi = .int .i64 0) (fun _ => 0)
  case atStart => rfl
  case round =>
    obtain rfl := hrel
    go_wp2_with fail
    go_still_tail 8, (by kernel_rfl)
    change wpList Try.prog _ _ _ _ (World.drew w1)
    generalize w1.drew = wd at *
    generalize List.replicate xs.length 0 = Z at *
    refine wpList_copy_row rfl (.tmp 45) (.tmp 49) 69 69 rfl Try.underlying69 (some ⟨g, 0, none⟩) xs.length c1 rfl _ rfl w.heap.size g xs.length c1 _ HO.out B1 xs HRd.out 0 (fun _ => rfl) rfl (by omega) ?_
    intro w2 ho2 hg2
    rw [HE.out] at ho2
    have HO3 := Lib.hid ho2
    have HB3 : Hid (Below w.heap.size w w2) := HBd.out.grown hg2 (by have := HBd.out.size; omega) (by intro q hq; cases hq; exact hg.1)
    clear ho2 hg2 HO HBd HE HRd
    go_wp2_with fail
    refine (f75_any w.heap.size g xs.length c1 xs (by omega) _ HO3.out).mono ?_
    rintro e w4 ⟨rfl, rfl⟩
    go_wp2_with fail
    go_ret
    refine ⟨_, xs, rfl, ?_, HX.out, HB3.out⟩
    have := HO3.out.row
    rwa [show (trim xs).length = xs.length from by rw [HX.out.top]]

set_option maxRecDepth 100000 in
set_option maxHeartbeats 2000000 in
theorem f68_nilx (gx offx cx B1 : Nat) (xs : List Nat) (h1 : 0 < xs.length) (hlx : xs.length ≤ 900) (nx : Nat) (hx : IsW nx xs) (w : World) (hrx : Row B1 .u64 w (.slice (some ⟨gx, offx, none⟩) xs.length cx) xs) (ay : Option Addr) (cy : Nat) :
    Calls Try.prog 68 #[.slice none 0 0, .slice ay 0 cy, .slice (some ⟨gx, offx, none⟩) xs.length cx] w (MakesNat nx w) := by
  obtain ⟨hcx, hgx, hcellx⟩ := hrx.cellsOf h1
  have HR := Lib.hid hrx
  have HX := Lib.hid hx
  clear hrx hcellx hx
  go_enter Try.func68, Try.ntmps68
  go_wp2_with fail
  refine (f73_int _ (by omega) (by omega) _).mono ?_
  rintro e w1 ⟨g, c1, rfl, ho, hb⟩
  rw [Int.toNat_natCast] at ho
  rw [Int.toNat_natCast]
  have hg := ho.low
  have hcap := ho.cap
  have HO : Hid (OwnW w.heap.size w1.drew g xs.length c1 (List.replicate xs.length 0)) := ho
  have HB := Lib.hid hb
  have HRd : Hid (Row B1 .u64 w1.drew (.slice (some ⟨gx, offx, none⟩) xs.length cx) xs) := HR.out.below hb.drew (Nat.le_refl _)
  have HBd : Hid (Below w.heap.size w w1.drew) := HB.out.drew
  have hz1 : ¬ c1 = 0 := by omega
  have hz2 : ¬ cx = 0 := by omega
  have hs2 : (xs.length : Int) ≤ c1 := by omega
  have hs3 : (xs.length : Int) ≤ cx := by omega
  have HE : Hid ((List.replicate xs.length 0).take 0 ++ (xs ++ (List.replicate xs.length 0).drop (0 + xs.length)) = xs) := by show _ = _; simp
  clear ho hb HR HB
  go_wp2_with fail
  go_loop [10] (fun vi => vi = .int .i64 0) (fun _ => 0)
  case atStart => rfl
  case round =>
    obtain rfl := hrel
    go_wp2_with fail
    go_still_tail 8, (by kernel_rfl)
    change wpList Try.prog _ _ _ _ (World.drew w1)
    generalize w1.drew = wd at *
    generalize List.replicate xs.length 0 = Z at *
    refine wpList_copy_row rfl (.tmp 45) (.tmp 49) 69 69 rfl Try.underlying69 (some ⟨g, 0, none⟩) xs.length c1 rfl _ rfl w.heap.size g xs.length c1 _ HO.out B1 xs HRd.out 0 (fun _ => rfl) rfl (by omega) ?_
    intro w2 ho2 hg2
    rw [HE.out] at ho2
    have HO3 := Lib.hid ho2
    have HB3 : Hid (Below w.heap.size w w2) := HBd.out.grown hg2 (by have := HBd.out.size; omega) (by intro q hq; cases hq; exact hg.1)
    clear ho2 hg2 HO HBd HE HRd
    go_wp2_with fail
    refine (f75_any w.heap.size g xs.length c1 xs (by omega) _ HO3.out).mono ?_
    rintro e w4 ⟨rfl, rfl⟩
    go_wp2_with fail
    go_ret
    refine ⟨_, xs, rfl, ?_, HX.out, HB3.out⟩
    have := HO3.out.row
    rwa [show (trim xs).length = xs.length from by rw [HX.out.top]]

theorem f68_any (B1 B2 : Nat) (v1 v2 : Value) (xs ys : List Nat) (hlx : xs.length ≤ 900) (hly : ys.length ≤ 900) (nx ny : Nat) (hx : IsW nx xs) (hy : IsW ny ys) (w : World) (h1 : Row B1 .u64 w v1 xs) (h2 : Row B2 .u64 w v2 ys) :
    Calls Try.prog 68 #[.slice none 0 0, v1, v2] w (MakesNat (nx ||| ny) w) := by
  by_cases hx0 : xs.length = 0
  · have e : nx = 0 := hx.zero.2 (List.eq_nil_of_length_eq_zero hx0)
    rw [e, Nat.zero_or]
    by_cases hy0 : ys.length = 0
    · have e : ny = 0 := hy.zero.2 (List.eq_nil_of_length_eq_zero hy0)
      rw [e]
      exact f68_nil v1 v2 (h1.empty hx0) (h2.empty hy0) w
    · rcases h2 with ⟨h, _⟩ | ⟨p', gy, oy, cy, rfl, q'⟩
      · simp [h] at hy0
      obtain ⟨a1, c1, rfl⟩ := h1.len
      rw [hx0]
      exact f68_nilx gy oy cy B2 ys p' hly ny hy w (.inr ⟨p', gy, oy, cy, rfl, q'⟩) a1 c1
  rcases h1 with ⟨h, _⟩ | ⟨p, gx, ox, cx, rfl, q⟩
  · simp [h] at hx0
  by_cases hy0 : ys.length = 0
  · have e : ny = 0 := hy.zero.2 (List.eq_nil_of_length_eq_zero hy0)
    obtain ⟨a2, c2, rfl⟩ := h2.len
    rw [e, Nat.or_zero, hy0]
    exact f68_nily gx ox cx B1 xs p hlx nx hx w (.inr ⟨p, gx, ox, cx, rfl, q⟩) a2 c2
  rcases h2 with ⟨h, _⟩ | ⟨p', gy, oy, cy, rfl, q'⟩
  · simp [h] at hy0
  rcases Nat.lt_trichotomy xs.length ys.length with hlt | heq | hgt
  · exact f68_lt gx ox cx gy oy cy B1 B2 xs ys p p' hlx hly nx ny hx hy w (.inr ⟨p, gx, ox, cx, rfl, q⟩) (.inr ⟨p', gy, oy, cy, rfl, q'⟩) hlt
  · have := f68_eq gx ox cx gy oy cy B1 B2 xs ys p p' hlx hly nx ny hx hy w (.inr ⟨p, gx, ox, cx, rfl, q⟩) (.inr ⟨p', gy, oy, cy, rfl, q'⟩) ⟨by omega, by omega⟩
    rwa [heq] at this ⊢
  · exact f68_gt gx ox cx gy oy cy B1 B2 xs ys p p' hlx hly nx ny hx hy w (.inr ⟨p, gx, ox, cx, rfl, q⟩) (.inr ⟨p', gy, oy, cy, rfl, q'⟩) hgt
end Go.Proofs.Ytidkdjnfpepnfaa
