/- The greatest common divisor of a natural number of the package and one. -/
import Derived.Test.YtllgogkjcbdpkaaGreatDoorPr
namespace Go.Proofs.YtllgogkjcbdpkaaGreatDoor.Z
open Go.RowKit

theorem Two.below {w w' : World} {a b B : Nat} (h : Two w w' a b) (ha : B ≤ a) (hb : B ≤ b) (hB : B ≤ w.heap.size) : Below B w w' := ⟨h.os, h.tape, h.output, h.size, fun k hk => h.block k (by omega) (by omega) (by omega)⟩
theorem row_cell {w : World} {o oo c : Nat} (h : w.cell? ⟨o, oo, none⟩ = some (.int .u64 1)) (hc : 1 ≤ c) : Row 0 .u64 w (.slice (some ⟨o, oo, none⟩) 1 c) [1] :=
  .inr ⟨by simp, o, oo, c, rfl, by simpa using hc, Nat.zero_le _, World.block_lt_of_cell? w _ h, fun i hi => by
    obtain rfl : i = 0 := by simpa using hi
    simpa using h⟩
theorem gcd_end {gz : Nat} {w W6 W7 : World} {e : Ending} (hz : w.heap[gz]? = some (.cells #[.bool false, .slice none 0 0] 79 (0, 0))) (hb : Below w.heap.size w W6) (h : SetAt gz 0 false [1] W6 e W7) : e = .returned (.pointer (some ⟨gz, 0, none⟩)) ∧ ∃ v, W7.heap[gz]? = some (.cells #[.bool false, v] 79 (0, 0)) ∧ Row w.heap.size .u64 W7 v [1] ∧ w.grownBy W7 (some gz) := by
  have lz : gz < w.heap.size := (Array.getElem?_eq_some_iff.1 hz).1
  obtain ⟨he, v, h1, h2, h3⟩ := h.new ((hb.block gz lz).trans hz)
  refine ⟨he, v, h1, h2.le hb.size, ⟨h3.os.trans hb.os, h3.tape.trans hb.tape, h3.output.trans hb.output, Nat.le_trans hb.size h3.size, fun k hk hn => (h3.block k (Nat.lt_of_lt_of_le hk hb.size) hn).trans (hb.block k hk)⟩⟩
theorem row_one {B : Nat} {w : World} {v : Value} (h : Row B .u64 w v [1]) : ∃ o oo c, v = .slice (some ⟨o, oo, none⟩) 1 c ∧ w.cell? ⟨o, oo, none⟩ = some (.int .u64 1) ∧ o < w.heap.size ∧ B ≤ o ∧ 1 ≤ c := by
  rcases h with ⟨h, _⟩ | ⟨_, o, oo, c, rfl, h1, hB, ho, hc⟩
  · simp at h
  · exact ⟨o, oo, c, rfl, by simpa using hc 0 (by simp), ho, hB, h1⟩
def EucIs (gA gB gq gr : Nat) (w : World) (e : Ending) (w' : World) : Prop := e = .returned (.tuple #[.pointer (some ⟨gB, 0, none⟩), .pointer (some ⟨gr, 0, none⟩), .pointer (some ⟨gA, 0, none⟩), .pointer none, .pointer none]) ∧ New w' gr ∧ Two w w' gq gr
set_option maxRecDepth 100000 in
set_option maxHeartbeats 2000000 in
theorem f109_one (gA gB gq gr : Nat) (B : Nat) (sl : Value) (xs : List Nat) (o oo c : Nat) (h0 : 0 < xs.length) (hl : xs.length ≤ 1000) (w : World) (hq : New w gq) (hr : New w gr) (hqr : gq ≠ gr) (hAq : gA ≠ gq) (hAr : gA ≠ gr) (hBq : gB ≠ gq) (hBr : gB ≠ gr)
    (hA : w.heap[gA]? = some (.cells #[.bool false, sl] 79 (0, 0))) (hx : Row B .u64 w sl xs) (hB : w.heap[gB]? = some (.cells #[.bool false, .slice (some ⟨o, oo, none⟩) 1 c] 79 (0, 0))) (ho : w.cell? ⟨o, oo, none⟩ = some (.int .u64 1)) :
    Calls Tryz.prog 109 #[.pointer (some ⟨gA, 0, none⟩), .pointer (some ⟨gB, 0, none⟩), .pointer none, .pointer none, .pointer (some ⟨gq, 0, none⟩), .pointer (some ⟨gr, 0, none⟩), .bool false] w (EucIs gA gB gq gr w) := by
  have H70 := Lib.hid (f70_one gq gr gA 0 gB 0 false false B sl xs o oo c h0 hl w hq hr hqr hAq hAr hBq hBr (by simp [World.cell?, hA]) (by simp [World.cell?, hA]) hx (by simp [World.cell?, hB]) (by simp [World.cell?, hB]) ho)
  clear hq hr hA hB hx ho h0 hl
  go_enter Tryz.func109, Tryz.ntmps109
  go_wp2_with fail
  go_at_call 70
  refine H70.out.mono ?_
  rintro e w1 ⟨rfl, v, _, hn, _, ht⟩
  have HN := Lib.hid hn
  have HT := Lib.hid ht
  clear hn ht
  go_wp2_with fail
  exact bodyPost_ret (v := .tuple #[.pointer (some ⟨gB, 0, none⟩), .pointer (some ⟨gr, 0, none⟩), .pointer (some ⟨gA, 0, none⟩), .pointer none, .pointer none]) (by simp [results, Tryz.results109, go_sem]) rfl ⟨rfl, HN.out, HT.out⟩
theorem f82_gt (B1 B2 : Nat) (v1 v2 : Value) (xs : List Nat) (hl : xs.length ≤ 1000) (m : Nat) (hx : IsW m xs) (hm : 1 < m) (w : World) (h1 : Row B1 .u64 w v1 xs) (h2 : Row B2 .u64 w v2 [1]) : Calls Tryz.prog 82 #[v1, v2] w (fun e w' => e = .returned (.int .i64 1) ∧ Below w.heap.size w w') := by
  refine (f82_any B1 B2 v1 v2 xs [1] hl m 1 hx (isW_one 1 (by decide) (by decide)) w h1 h2).mono ?_
  rintro e w' ⟨he, n, rfl⟩
  rw [ord3n_gt hm] at he
  exact ⟨he, below_drewN (Below.refl _ _) _⟩
def GcdIs (gz : Nat) (w : World) (e : Ending) (w' : World) : Prop := e = .returned (.pointer (some ⟨gz, 0, none⟩)) ∧ ∃ v, w'.heap[gz]? = some (.cells #[.bool false, v] 79 (0, 0)) ∧ Row w.heap.size .u64 w' v [1] ∧ w.grownBy w' (some gz)
set_option maxRecDepth 100000 in
set_option maxHeartbeats 8000000 in
theorem f91_many (gz g : Nat) (B : Nat) (sA sB : Value) (xs : List Nat) (m : Nat) (h1 : 1 < xs.length) (hl : xs.length ≤ 1000) (hx : IsW m xs) (hm : 1 < m) (w : World) (hz : New w gz) (hg : Rat w g (.bool false) sA (.bool false) sB) (hgz : g ≠ gz) (hr : Row B .u64 w sA xs) (hs : Row B .u64 w sB [1]) :
    Calls Tryz.prog 91 #[.pointer (some ⟨gz, 0, none⟩), .pointer none, .pointer none, .pointer (some ⟨g, 0, none⟩), .pointer (some ⟨g, 2, none⟩)] w (GcdIs gz w) := by
  have hgr := hg.lt
  have HG := Lib.hid hg
  have HR := Lib.hid (fun W (hb : Below w.heap.size w W) => hr.below hb (Nat.le_refl _))
  have HS := Lib.hid (fun W (hb : Below w.heap.size w W) => hs.below hb (Nat.le_refl _))
  have HZ := Lib.hid (show w.heap[gz]? = _ from hz)
  have lz : gz < w.heap.size := (Array.getElem?_eq_some_iff.1 hz).1
  have HGZ := Lib.hid hgz
  have BA : Hid (Below w.heap.size w (w.alloc (.cells #[.bool false, .slice none 0 0] 79))) := Lib.hid ((Below.refl _ _).alloc (Nat.le_refl _) _)
  have RA : Hid (Rat (w.alloc (.cells #[.bool false, .slice none 0 0] 79)) g (.bool false) sA (.bool false) sB) := Lib.hid ((BA.out.block g hgr).trans hg)
  have HA := Lib.hid (f105_at w.heap.size g 0 false B sA xs _ _ 109 (heap_alloc_new w _) RA.out (by omega) (RA.out.cell 0) (RA.out.cell 1) (HR.out _ BA.out) hl)
  clear hg hr hs hz hgz
  go_enter Tryz.func91, Tryz.ntmps91
  go_wp2_with fail
  go_at_call 105
  refine HA.out.mono ?_
  rintro e w1 ⟨rfl, vA, hA1, hrA, hgA⟩
  have B1 : Hid (Below w.heap.size w w1) := Lib.hid (grown_below hgA)
  have BB : Hid (Below w.heap.size w (w1.alloc (.cells #[.bool false, .slice none 0 0] 79))) := Lib.hid (B1.out.alloc B1.out.size _)
  have hlt1 : w.heap.size < w1.heap.size := (Array.getElem?_eq_some_iff.1 hA1).1
  have RB : Hid (Rat (w1.alloc (.cells #[.bool false, .slice none 0 0] 79)) g (.bool false) sA (.bool false) sB) := Lib.hid ((BB.out.block g hgr).trans HG.out)
  have HB := Lib.hid (f105_at w1.heap.size g 2 false B sB [1] _ _ 109 (heap_alloc_new w1 _) RB.out (by omega) (RB.out.cell 2) (RB.out.cell 3) (HS.out _ BB.out) (by simp))
  have HA1 := Lib.hid hA1
  have HRA := Lib.hid hrA
  clear hA1 hrA hgA
  go_wp2_with fail
  go_at_call 105
  refine HB.out.mono ?_
  rintro e w2 ⟨rfl, vB, hB2, hrB, hgB⟩
  have hb2 := grown_below hgB
  have B2 : Hid (Below w.heap.size w w2) := Lib.hid (B1.out.trans (hb2.mono B1.out.size))
  have hlt2 : w1.heap.size < w2.heap.size := (Array.getElem?_eq_some_iff.1 hB2).1
  have HA2 := Lib.hid ((hb2.block w.heap.size hlt1).trans HA1.out)
  have HB2 := Lib.hid hB2
  have HRA2 := Lib.hid (HRA.out.below hb2 (Nat.le_refl _))
  have HRB := Lib.hid hrB
  clear hB2 hrB hgB hb2
  have b3 : Below w2.heap.size w2 ((w2.alloc (.cells #[.bool false, .slice none 0 0] 79)).alloc (.cells #[.bool false, .slice none 0 0] 79)) := ((Below.refl _ _).alloc (Nat.le_refl _) _).alloc (by simp) _
  have hQ3 := (Below.heap_alloc (w2.alloc (.cells #[.bool false, .slice none 0 0] 79)) (.cells #[.bool false, .slice none 0 0] 79) w2.heap.size (by simp)).trans (heap_alloc_new w2 _)
  have hR3 := heap_alloc_new (w2.alloc (.cells #[.bool false, .slice none 0 0] 79)) (.cells #[.bool false, .slice none 0 0] 79)
  have hA3 := (b3.block w.heap.size (by omega)).trans HA2.out
  have hB3 := (b3.block w1.heap.size hlt2).trans HB2.out
  have rA3 := HRA2.out.below b3 (Nat.le_refl _)
  have rB3 := HRB.out.below b3 (Nat.le_refl _)
  have B3 := Lib.hid (B2.out.trans (b3.mono B2.out.size))
  rw [show (w2.alloc (.cells #[.bool false, .slice none 0 0] 79)).heap.size = w2.heap.size + 1 by simp] at hR3
  have hz3 : w2.heap.size + 1 < ((w2.alloc (.cells #[.bool false, .slice none 0 0] 79)).alloc (.cells #[.bool false, .slice none 0 0] 79)).heap.size := by simp
  go_wp2_with fail
  obtain ⟨o, oo, cB, rfl, hob2, holq, hoB, hcB⟩ := row_one HRB.out
  have hob := cell_below hob2 b3
  generalize hW3 : (w2.alloc (.cells #[.bool false, .slice none 0 0] 79)).alloc (.cells #[.bool false, .slice none 0 0] 79) = W3 at *
  clear hW3 b3
  clear HA HB RA RB BA BB HA1 HRA HA2 HB2 HRA2 HRB B1 B2
  generalize hq : w2.heap.size = gq at *
  generalize hb : w1.heap.size = gB at *
  clear hq hb hob2
  obtain ⟨aA, cA, rfl⟩ := rA3.len
  have H82 := Lib.hid (fun W (hb : Below W3.heap.size W3 W) => f82_gt _ _ _ _ xs hl m hx hm W (rA3.below hb (Nat.le_refl _)) (rB3.below hb (Nat.le_refl _)))
  have a1 : W3.cell? ⟨w.heap.size, 1, none⟩ = some (.slice aA xs.length cA) := by simp [World.cell?, hA3]
  have b1 : W3.cell? ⟨gB, 1, none⟩ = some (.slice (some ⟨o, oo, none⟩) 1 cB) := by simp [World.cell?, hB3]
  have lA : w.heap.size < W3.heap.size := (Array.getElem?_eq_some_iff.1 hA3).1
  have lB : gB < W3.heap.size := (Array.getElem?_eq_some_iff.1 hB3).1
  have lq : gq < W3.heap.size := (Array.getElem?_eq_some_iff.1 hQ3).1
  have lr : gq + 1 < W3.heap.size := (Array.getElem?_eq_some_iff.1 hR3).1
  have KA := Lib.hid (fun W (hb : Below W3.heap.size W3 W) => (hb.block w.heap.size lA).trans hA3)
  have KB := Lib.hid (fun W (hb : Below W3.heap.size W3 W) => (hb.block gB lB).trans hB3)
  have KQ := Lib.hid (fun W (hb : Below W3.heap.size W3 W) => (hb.block gq lq).trans hQ3)
  have KR := Lib.hid (fun W (hb : Below W3.heap.size W3 W) => (hb.block (gq + 1) lr).trans hR3)
  have RA := Lib.hid (fun W (hb : Below W3.heap.size W3 W) => rA3.below hb (Nat.le_refl _))
  have RB := Lib.hid (fun W (hb : Below W3.heap.size W3 W) => rB3.below hb (Nat.le_refl _))
  have hlen : 0 < xs.length := by omega
  have hne : [1].length = 1 := rfl
  clear hA3 hB3 hQ3 hR3 rA3 rB3 hne
  go_region_held3 (fun w' => w'.cell? ⟨w.heap.size, 1, none⟩ = some (.slice aA xs.length cA) ∧ w'.cell? ⟨gB, 1, none⟩ = some (.slice (some ⟨o, oo, none⟩) 1 cB))
    (first
      | exact S5
      | exact ⟨a1, b1⟩
      | go_keep)
    (first
      | (go_at_call 82; refine (H82.out _ (Below.refl _ _).drew).mono ?_; rintro e W5 ⟨rfl, hb5⟩; have B5 : Hid (Below W3.heap.size W3 W5) := Lib.hid ⟨hb5.os, hb5.tape, hb5.output, hb5.size, hb5.block⟩; have S5 : W5.cell? ⟨w.heap.size, 1, none⟩ = some (.slice aA xs.length cA) ∧ W5.cell? ⟨gB, 1, none⟩ = some (.slice (some ⟨o, oo, none⟩) 1 cB) := ⟨cell_below a1 B5.out, cell_below b1 B5.out⟩; clear hb5))
  obtain ⟨a5, b5⟩ := S5
  have H109 := Lib.hid (f109_one w.heap.size gB gq (gq + 1) _ _ xs o oo cB hlen hl W5 (KQ.out _ B5.out) (KR.out _ B5.out) (by omega) (by omega) (by omega) (by omega) (by omega) (KA.out _ B5.out) (RA.out _ B5.out) (KB.out _ B5.out) (cell_below hob B5.out))
  have ho5 := cell_below hob B5.out
  have h1i : (1 : Int) < (xs.length : Int) := by omega
  clear a1 b1 hob
  go_wp2_with fail
  refine wp_loop_rounds 1 ?_
  rw [rounds_succ]
  go_wp2_with fail
  go_at_call 109
  refine H109.out.mono ?_
  rintro e W6 ⟨rfl, hn6, ht6⟩
  have lz3 : gz < W3.heap.size := by have := B3.out.size; omega
  have b56 : Below w.heap.size W5 W6 := ht6.below (by omega) (by omega) (by have := B5.out.size; omega)
  have B6 : Hid (Below w.heap.size w W6) := Lib.hid ((B3.out.trans (B5.out.mono B3.out.size)).trans (b56.mono (Nat.le_refl _)))
  have hGg : Rat W6 g (.bool false) sA (.bool false) sB := (B6.out.block g (by omega)).trans HG.out
  have g0 := hGg.cell 0
  obtain ⟨rc6, rf6, lr6⟩ := blk_cells (show W6.heap[gq + 1]? = _ from hn6)
  have r61 := rc6 1
  have hB6 := (ht6.block gB (Nat.lt_of_lt_of_le lB B5.out.size) (by omega) (by omega)).trans (KB.out _ B5.out)
  have ho6 : W6.cell? ⟨o, oo, none⟩ = some (.int .u64 1) := (World.cell?_of_block (w := W5) (ht6.block o (by have := B5.out.size; omega) (by omega) (by omega))).trans ho5
  have hz6 := (B6.out.block gz (by omega)).trans HZ.out
  have H51 := Lib.hid (f51_at gz 0 gB 0 false false 0 (.slice (some ⟨o, oo, none⟩) 1 cB) [1] W6 _ _ 79 79 hz6 hB6 (by omega) (by simp [World.cell?, hz6]) (by simp [World.cell?, hz6]) (by simp [World.cell?, hB6]) (by simp [World.cell?, hB6]) (row_cell ho6 (by omega)) (by simp))
  clear hn6 ht6 b56 hGg rc6 rf6 hB6 ho6 hz6
  go_wp2_with fail
  go_at_call 51
  refine H51.out.mono ?_
  intro e W7 h
  obtain ⟨rfl, hend⟩ := gcd_end HZ.out B6.out h
  have HE := Lib.hid hend
  clear h hend
  go_wp2_with fail
  go_ret
  exact ⟨rfl, HE.out⟩
end Go.Proofs.YtllgogkjcbdpkaaGreatDoor.Z
