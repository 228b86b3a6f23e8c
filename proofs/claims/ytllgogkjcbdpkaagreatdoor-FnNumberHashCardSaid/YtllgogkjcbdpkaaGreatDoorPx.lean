/- An integer out of a great float; the hash of any finite float. -/
import Derived.Test.YtllgogkjcbdpkaaGreatDoorPw
namespace Go.Proofs.YtllgogkjcbdpkaaGreatDoor.Z
open Go.RowKit

def RatNew (z : Int) (w : World) (e : Ending) (w' : World) : Prop := e = .returned (.pointer (some ⟨w.heap.size, 0, none⟩)) ∧ ∃ sA sB xs, Rat w' w.heap.size (.bool (decide (z < 0))) sA (.bool false) sB ∧ Row 0 .u64 w' sA xs ∧ IsW z.natAbs xs ∧ xs.length ≤ 1000 ∧ 0 < xs.length ∧ Row 0 .u64 w' sB [1] ∧ Below w.heap.size w w'
set_option maxRecDepth 100000 in
set_option maxHeartbeats 2000000 in
theorem f58_big (s : Bool) (r : Nat) (h : r < 2047 * 2 ^ 52) (hbig : ¬ Fits s r) (w : World) : Calls Tryz.prog 58 #[.float .f64 (fw s r)] w (RatNew (sg s (tr r)) w) := by
  have H69 := Lib.hid (f69_big w.heap.size s r h hbig (w.alloc (.cells #[.bool false, .slice none 0 0, .bool false, .slice none 0 0] 109)) (heap_alloc_new w _))
  clear h hbig
  go_enter Tryz.func58, Tryz.ntmps58
  go_wp2_with fail
  go_at_call 69
  refine H69.out.mono ?_
  rintro e w1 ⟨rfl, sA, sB, xs, h1, h2, h3, h4, h5, h6, h7⟩
  have HH := Lib.hid (And.intro h1 (And.intro h2 (And.intro h3 (And.intro h4 (And.intro h5 (And.intro h6 (grown_below h7)))))))
  clear h1 h2 h3 h4 h5 h6 h7
  go_wp2_with fail
  go_ret
  exact ⟨rfl, sA, sB, xs, HH.out⟩
def DivIs (gz : Nat) (s : Bool) (xs : List Nat) (w : World) (e : Ending) (w' : World) : Prop := e = .returned (.pointer (some ⟨gz, 0, none⟩)) ∧ ∃ v, w'.heap[gz]? = some (.cells #[.bool s, v] 79 (0, 0)) ∧ Row w.heap.size .u64 w' v xs ∧ w.grownBy w' (some gz)
set_option maxRecDepth 100000 in
set_option maxHeartbeats 2000000 in
theorem f59_one (gz g : Nat) (s : Bool) (sA sB : Value) (xs : List Nat) (h0 : 0 < xs.length) (hl : xs.length ≤ 1000) (w : World) (hz : New w gz) (hg : Rat w g (.bool s) sA (.bool false) sB) (hne : g ≠ gz) (hr : Row 0 .u64 w sA xs) (hs : Row 0 .u64 w sB [1]) :
    Calls Tryz.prog 59 #[.pointer (some ⟨gz, 0, none⟩), .pointer (some ⟨g, 0, none⟩), .pointer (some ⟨g, 2, none⟩)] w (DivIs gz s xs w) := by
  have lz : gz < w.heap.size := (Array.getElem?_eq_some_iff.1 hz).1
  have lg := hg.lt
  have hb : Below w.heap.size w (w.alloc (.cells #[.bool false, .slice none 0 0] 79)) := (Below.refl _ _).alloc (Nat.le_refl _) _
  have hg1 : Rat (w.alloc (.cells #[.bool false, .slice none 0 0] 79)) g (.bool s) sA (.bool false) sB := (hb.block g lg).trans hg
  obtain ⟨o, oo, c, rfl, ho, hol, _, _⟩ := row_one hs
  have H70 := Lib.hid (f70_one gz w.heap.size g 0 g 2 s false 0 sA xs o oo c h0 hl (w.alloc (.cells #[.bool false, .slice none 0 0] 79)) ((hb.block gz lz).trans hz) (heap_alloc_new w _) (by omega) hne (by omega) hne (by omega) (hg1.cell 0) (hg1.cell 1) (hr.below hb (Nat.le_refl _)) (hg1.cell 2) (hg1.cell 3) (cell_below ho hb))
  have c2 := hg.cell 2
  have hxs : (s != false) = s := by cases s <;> rfl
  have HX := Lib.hid hxs
  clear hz hg hr hs hb hg1 ho h0 hl hxs
  go_enter Tryz.func59, Tryz.ntmps59
  go_wp2_with fail
  go_at_call 70
  refine H70.out.mono ?_
  rintro e w1 ⟨rfl, v, h1, h2, h3, h4⟩
  rw [HX.out] at h1
  have r0 : w1.cell? ⟨w.heap.size, 0, none⟩ = some (.bool false) := by simp [World.cell?, show w1.heap[w.heap.size]? = _ from h2]
  have hgr : w.grownBy w1 (some gz) := ⟨h4.os, h4.tape, h4.output, Nat.le_trans (by simp) h4.size, fun k hk hn => (h4.block k (by simp; omega) (fun e => hn (by rw [e])) (by omega)).trans (Below.heap_alloc _ _ k hk)⟩
  have HH := Lib.hid (And.intro h1 (And.intro (h3.le (B' := w.heap.size) (by simp)) hgr))
  clear h1 h2 h3 h4 hgr
  go_wp2_with fail
  go_ret
  exact ⟨rfl, v, HH.out⟩
theorem big_order (s : Bool) (r : Nat) (h : r < 2047 * 2 ^ 52) (hbig : ¬ Fits s r) : FloatKind.f64.format.order 14114281232179134464 (fw s r) = some .gt ∨ (FloatKind.f64.format.order 14114281232179134464 (fw s r) = some .lt ∧ ∃ o, FloatKind.f64.format.order (fw s r) 4890909195324358656 = some o ∧ (o = .gt ∨ o = .eq)) := by
  have hV := big_V s r hbig
  have hp : 0 < 2 ^ 63 * 2 ^ LP := Nat.mul_pos (by decide) (Nat.two_pow_pos _)
  unfold Fits at hbig
  rw [lo_word s r h, hi_word s r h]
  generalize 2 ^ 63 * 2 ^ LP = p at *
  generalize V r = v at *
  cases s
  · right
    refine ⟨?_, _, rfl, ?_⟩
    · have : compare (-(p : Int)) (sg false v) = .lt := by rw [Int.compare_eq_lt]; simp [sg]; omega
      rw [this]
    · cases hq : compare (sg false v) (p : Int)
      · rw [Int.compare_eq_lt] at hq; simp [sg] at hq; omega
      · exact .inr rfl
      · exact .inl rfl
  · left
    have : compare (-(p : Int)) (sg true v) = .gt := by
      rw [Int.compare_eq_gt]
      simp [sg] at *
      omega
    rw [this]
set_option maxRecDepth 100000 in
set_option maxHeartbeats 4000000 in
theorem f48_big (s : Bool) (r : Nat) (h : r < 2047 * 2 ^ 52) (hbig : ¬ Fits s r) (w : World) : Calls Tryz.prog 48 #[.float .f64 (fw s r)] w (MadeK (sg s (tr r)) w) := by
  have ho := big_order s r h hbig
  have H58 := Lib.hid (fun W => f58_big s r h hbig W)
  have hT := big_tr s r hbig
  have HD : Hid (decide (sg s (tr r) < 0) = s ∧ (sg s (tr r)).natAbs = tr r) := by
    refine Lib.hid ⟨?_, ?_⟩
    · unfold sg; cases s
      · simp
      · simp; omega
    · unfold sg; cases s <;> simp
  clear h hbig hT
  generalize fw s r = u at *
  rcases ho with h1 | ⟨h1, o, h2, rfl | rfl⟩
  all_goals
    go_enter Tryz.func48, Tryz.ntmps48
    go_wp2_with fail
    go_at_call 58
    refine (H58.out _).mono ?_
    rintro e w1 ⟨rfl, sA, sB, xs, k1, k2, k3, k4, k5, k6, k7⟩
    have hsz : (w.alloc (.cells #[.int .i64 0, .pointer none] 63)).heap.size = w.heap.size + 1 := by simp
    rw [hsz] at k1 k7
    rw [HD.out.1] at k1
    have KN := Lib.hid k3
    have KL := Lib.hid k4
    obtain ⟨o', oo, c, rfl, ho, _, _, _⟩ := row_one k6
    have lg := k1.lt
    have hb2 : Below w1.heap.size w1 (w1.alloc (.cells #[.bool false, .slice none 0 0] 79)) := (Below.refl _ _).alloc (Nat.le_refl _) _
    have r2 : Rat (w1.alloc (.cells #[.bool false, .slice none 0 0] 79)) (w.heap.size + 1) (.bool s) sA (.bool false) (.slice (some ⟨o', oo, none⟩) 1 c) := (hb2.block _ lg).trans k1
    have H61 := Lib.hid (f61_any (w.heap.size + 1) (some ⟨o', oo, none⟩) 1 c (by omega) (w1.alloc (.cells #[.bool false, .slice none 0 0] 79)) (r2.cell 3))
    have H59 := Lib.hid (f59_one w1.heap.size (w.heap.size + 1) s sA _ xs k5 k4 (w1.alloc (.cells #[.bool false, .slice none 0 0] 79)) (heap_alloc_new w1 _) r2 (by omega) (k2.below hb2 (Nat.le_refl _)) (k6.below hb2 (Nat.le_refl _)))
    have B1 := Lib.hid k7
    clear k1 k2 k3 k4 k5 k6 k7 ho hb2 r2 hsz
    go_wp2_with (first
      | (go_at_call 60; refine (f60_any _ _).mono ?_; rintro e w' ⟨rfl, rfl⟩)
      | (go_at_call 61; refine H61.out.mono ?_; rintro e w' ⟨rfl, rfl⟩))
    go_at_call 59
    refine H59.out.mono ?_
    rintro e w3 ⟨rfl, v, d1, d2, d3⟩
    have hx3 : BInt 0 w3 w1.heap.size (sg s (tr r)) v xs := ⟨by rw [HD.out.1]; exact d1, d2.le (Nat.zero_le _), KN.out, KL.out⟩
    have H43 := Lib.hid (f43_any 0 w1.heap.size (sg s (tr r)) v xs w3 hx3)
    have B3 : Hid (Below (w.heap.size + 1) (w.alloc (.cells #[.int .i64 0, .pointer none] 63)) w3) := Lib.hid (B1.out.trans ((grown_below d3).mono (by omega)))
    clear d1 d2 d3 hx3
    go_wp2_with fail
    go_at_call 43
    refine H43.out.mono ?_
    rintro e w4 ⟨v4, rfl, hk, hb⟩
    obtain ⟨a4, p4, rfl⟩ := hk.shape
    have HK := Lib.hid hk
    have hs3 : w.heap.size + 1 ≤ w3.heap.size := by have := B3.out.size; simp at this; omega
    have B4 : Hid (Below (w.heap.size + 1) (w.alloc (.cells #[.int .i64 0, .pointer none] 63)) w4) := Lib.hid (B3.out.trans (hb.mono hs3))
    clear hk hb
    have c0 : w4.cell? ⟨w.heap.size, 0, none⟩ = some (.int .i64 0) := (B4.out.cell (p := ⟨w.heap.size, 0, none⟩) (by show w.heap.size < w.heap.size + 1; omega)).trans (by simp [go_sem])
    have c1 : w4.cell? ⟨w.heap.size, 1, none⟩ = some (.pointer none) := (B4.out.cell (p := ⟨w.heap.size, 1, none⟩) (by show w.heap.size < w.heap.size + 1; omega)).trans (by simp [go_sem])
    have f0 : ∀ i, w4.frozen? ⟨w.heap.size, i, none⟩ = false := fun i => (B4.out.frozen (p := ⟨w.heap.size, i, none⟩) (by show w.heap.size < w.heap.size + 1; omega)).trans (by simp [go_sem])
    go_wp2_with fail
    refine bodyPost_ret (v := .agg #[.int .i64 a4, .pointer p4]) (by simp [results, Tryz.results48, go_sem, c0, c1]) rfl ?_
    refine ⟨_, rfl, ((HK.out.setOld (a := ⟨w.heap.size, 0, none⟩) (by show w.heap.size < w3.heap.size; omega) _).setOld (a := ⟨w.heap.size, 1, none⟩) (by show w.heap.size < w3.heap.size; omega) _).le (by omega), ?_⟩
    exact ((((Below.refl _ _).alloc (Nat.le_refl _) _).trans (B4.out.mono (by omega))).setCell (p := ⟨w.heap.size, 0, none⟩) (Nat.le_refl _) _).setCell (p := ⟨w.heap.size, 1, none⟩) (Nat.le_refl _) _
theorem f48_any (s : Bool) (r : Nat) (h : r < 2047 * 2 ^ 52) (w : World) : Calls Tryz.prog 48 #[.float .f64 (fw s r)] w (MadeK (sg s (tr r)) w) := by
  by_cases hf : Fits s r
  · exact f48_small s r h hf w
  · exact f48_big s r h hf w
theorem f9_any (s : Bool) (r : Nat) (h : r < 2047 * 2 ^ 52) (w : World) : Calls Tryz.prog 9 #[.int .u64 (fw s r : Nat)] w (ToldIs (hsh (sg s (tr r))) w) := f9_of s r h _ (fun W => f48_any s r h W) w
end Go.Proofs.YtllgogkjcbdpkaaGreatDoor.Z
