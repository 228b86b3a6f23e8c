/- The greatest common divisor of one word and one: the copies own their rows. -/
import Derived.Test.YtllgogkjcbdpkaaGreatDoorPs
namespace Go.Proofs.YtllgogkjcbdpkaaGreatDoor.Z
open Go.RowKit

def OwnWords (xs : List Nat) (w : World) (e : Ending) (w' : World) : Prop := ∃ g c, e = .returned (.slice (some ⟨g, 0, none⟩) xs.length c) ∧ OwnW w.heap.size w' g xs.length c xs ∧ Below w.heap.size w w'
set_option maxRecDepth 100000 in
set_option maxHeartbeats 1000000 in
theorem f65_own (B : Nat) (v : Value) (xs : List Nat) (h0 : 0 < xs.length) (hn : xs.length ≤ 1000) (w : World) (hr : Row B .u64 w v xs) : Calls Tryz.prog 65 #[.slice none 0 0, v] w (OwnWords xs w) := by
  obtain ⟨a, c, rfl⟩ := hr.len
  have HR := Lib.hid hr
  clear hr
  go_enter Tryz.func65, Tryz.ntmps65
  go_wp2_with fail
  refine (f62_any xs.length (by omega) (by omega) _).mono ?_
  rintro e w1 ⟨g, c1, rfl, ho, hb⟩
  have hlow := ho.low
  have HR1 := Lib.hid (HR.out.below hb (Nat.le_refl _))
  have HO := Lib.hid ho
  have HB := Lib.hid hb
  have HZ : Hid (xs ++ (List.replicate xs.length 0).drop xs.length = xs) := by show _ = _; simp
  clear hb ho
  generalize List.replicate xs.length 0 = Z at *
  have K1 : Hid (0 + xs.length ≤ xs.length) := by show _ ≤ _; omega
  go_wp2_with (refine wpList_copy_row rfl (.tmp 9) (.tmp 10) 77 77 rfl Tryz.underlying77 (some ⟨g, 0, none⟩) xs.length c1 rfl _ rfl w.heap.size g xs.length c1 Z HO.out B xs HR1.out 0 (fun _ => rfl) rfl K1.out ?_)
  intro w2 ho2 hg2
  rw [HZ.out] at ho2
  have HR2 := Lib.hid ho2
  have HB2 : Hid (Below w.heap.size w w2) := HB.out.grown hg2 (by omega) (by intro k hk; cases hk; exact hlow.1)
  clear ho2 hg2
  go_wp2_with fail
  go_ret
  exact ⟨_, _, rfl, HR2.out, HB2.out⟩
def SetOwn (gz oz : Nat) (b : Bool) (xs : List Nat) (w : World) (e : Ending) (w' : World) : Prop := e = .returned (.pointer (some ⟨gz, oz, none⟩)) ∧ ∃ w1 gg c, OwnW w.heap.size w1 gg xs.length c xs ∧ Below w.heap.size w w1 ∧ w' = (w1.setCell ⟨gz, oz + 1, none⟩ (.slice (some ⟨gg, 0, none⟩) xs.length c)).setCell ⟨gz, oz, none⟩ (.bool b)
set_option maxRecDepth 100000 in
set_option maxHeartbeats 2000000 in
theorem f51_own (gz oz gx ox : Nat) (bz b : Bool) (B : Nat) (sl : Value) (xs : List Nat) (w : World) (cz cx : Array Value) (tz tx : TypeId) (hz : w.heap[gz]? = some (.cells cz tz (0, 0))) (hx : w.heap[gx]? = some (.cells cx tx (0, 0))) (hne : gz ≠ gx)
    (z0 : w.cell? ⟨gz, oz, none⟩ = some (.bool bz)) (z1 : w.cell? ⟨gz, oz + 1, none⟩ = some (.slice none 0 0)) (x0 : w.cell? ⟨gx, ox, none⟩ = some (.bool b)) (x1 : w.cell? ⟨gx, ox + 1, none⟩ = some sl) (hr : Row B .u64 w sl xs) (h0 : 0 < xs.length) (hl : xs.length ≤ 1000) :
    Calls Tryz.prog 51 #[.pointer (some ⟨gz, oz, none⟩), .pointer (some ⟨gx, ox, none⟩)] w (SetOwn gz oz b xs w) := by
  obtain ⟨ax, kx, rfl⟩ := hr.len
  have hp := ptr_off (o := oz) (o' := ox) hne hz hx
  have zl : gz < w.heap.size := (Array.getElem?_eq_some_iff.1 hz).1
  have xl : gx < w.heap.size := (Array.getElem?_eq_some_iff.1 hx).1
  have fz : ∀ i, w.frozen? ⟨gz, i, none⟩ = false := fun i => Joins.unfrozen_of_block hz i
  have H65 := Lib.hid (fun W (hb : Below w.heap.size w W) => f65_own B (.slice ax xs.length kx) xs h0 hl W (hr.below hb (Nat.le_refl _)))
  have hne' : gx ≠ gz := Ne.symm hne
  generalize hLL : xs.length = L at *
  have HLL := Lib.hid hLL
  clear hz hx hr hl h0 hne hLL
  go_enter Tryz.func51, Tryz.ntmps51
  go_wp2_with fail
  go_region_with
    ((go_at_call 65; refine (H65.out _ (Below.refl _ _).drew).mono ?_; rintro e w2 ⟨gg, k2, rfl, hrow, hb⟩; have HB2 : Hid (Below w.heap.size w w2) := ⟨hb.os, hb.tape, hb.output, hb.size, hb.block⟩; have f2 : ∀ i, w2.frozen? ⟨gz, i, none⟩ = false := (fun i => (HB2.out.frozen (p := ⟨gz, i, none⟩) zl).trans (fz i)); have c20 := cell_below z0 HB2.out; have c21 := cell_below z1 HB2.out; have c2x := cell_below x0 HB2.out; have HROW := Lib.hid hrow; clear hrow hb))
  all_goals
    go_wp2
    go_ret
    exact ⟨rfl, w2, _, _, HROW.out, HB2.out, rfl⟩
theorem SetOwn.new {g : Nat} {b : Bool} {xs : List Nat} {w w' : World} {e : Ending} {y0 y1 : Value} (h : SetOwn g 0 b xs w e w') (hg : w.heap[g]? = some (.cells #[y0, y1] 79 (0, 0))) : e = .returned (.pointer (some ⟨g, 0, none⟩)) ∧ ∃ gg c, w'.heap[g]? = some (.cells #[.bool b, .slice (some ⟨gg, 0, none⟩) xs.length c] 79 (0, 0)) ∧ OwnW w.heap.size w' gg xs.length c xs ∧ w.grownBy w' (some g) := by
  obtain ⟨he, w1, gg, c, hr, hb, rfl⟩ := h
  have hl : g < w.heap.size := (Array.getElem?_eq_some_iff.1 hg).1
  have hg1 := (hb.block g hl).trans hg
  refine ⟨he, gg, c, Joins.block_setCell (Joins.block_setCell hg1 (i := 1) _) (i := 0) _, own_setOld (own_setOld hr (a := ⟨g, 1, none⟩) hl _) (a := ⟨g, 0, none⟩) hl _, ?_⟩
  exact ((below_grownBy hb _).setCell g 1 _).setCell g 0 _
def AbsOwn (g : Nat) (xs : List Nat) (w : World) (e : Ending) (w' : World) : Prop := e = .returned (.pointer (some ⟨g, 0, none⟩)) ∧ ∃ gg c, w'.heap[g]? = some (.cells #[.bool false, .slice (some ⟨gg, 0, none⟩) xs.length c] 79 (0, 0)) ∧ OwnW w.heap.size w' gg xs.length c xs ∧ w.grownBy w' (some g)
set_option maxRecDepth 100000 in
set_option maxHeartbeats 2000000 in
theorem f105_own (g gx ox : Nat) (b : Bool) (B : Nat) (sl : Value) (xs : List Nat) (w : World) (cx : Array Value) (tx : TypeId) (hg : New w g) (hx : w.heap[gx]? = some (.cells cx tx (0, 0))) (hne : g ≠ gx)
    (x0 : w.cell? ⟨gx, ox, none⟩ = some (.bool b)) (x1 : w.cell? ⟨gx, ox + 1, none⟩ = some sl) (hr : Row B .u64 w sl xs) (h0 : 0 < xs.length) (hl : xs.length ≤ 1000) :
    Calls Tryz.prog 105 #[.pointer (some ⟨g, 0, none⟩), .pointer (some ⟨gx, ox, none⟩)] w (AbsOwn g xs w) := by
  have H51 := Lib.hid (f51_own g 0 gx ox false b B sl xs w _ cx 79 tx (show w.heap[g]? = _ from hg) hx hne (by simp [World.cell?, show w.heap[g]? = _ from hg]) (by simp [World.cell?, show w.heap[g]? = _ from hg]) x0 x1 hr h0 hl)
  have HG := Lib.hid (show w.heap[g]? = _ from hg)
  have hlt : g < w.heap.size := (Array.getElem?_eq_some_iff.1 HG.out).1
  clear hg hx hne x0 x1 hr h0 hl
  go_enter Tryz.func105, Tryz.ntmps105
  go_wp2_with fail
  go_at_call 51
  refine H51.out.mono ?_
  intro e w1 h
  obtain ⟨rfl, gg, c, hv, hrow, hgr⟩ := h.new HG.out
  have z0 : w1.cell? ⟨g, 0, none⟩ = some (.bool b) := by simp [World.cell?, hv]
  have zf : ∀ i, w1.frozen? ⟨g, i, none⟩ = false := fun i => by simp [World.frozen?, hv]
  have HV := Lib.hid hv
  have HR := Lib.hid hrow
  have HGR := Lib.hid hgr
  clear h hv hrow hgr
  go_wp2
  go_ret
  exact ⟨rfl, gg, c, Joins.block_setCell HV.out (i := 0) _, own_setOld HR.out (a := ⟨g, 0, none⟩) hlt _, HGR.out.setCell g 0 _⟩
set_option maxRecDepth 100000 in
set_option maxHeartbeats 8000000 in
theorem f91_one (gz g : Nat) (B : Nat) (sA sB : Value) (m : Nat) (hmW : m < W) (hm : 1 < m) (w : World) (hz : New w gz) (hg : Rat w g (.bool false) sA (.bool false) sB) (hgz : g ≠ gz) (hr : Row B .u64 w sA [m]) (hs : Row B .u64 w sB [1]) :
    Calls Tryz.prog 91 #[.pointer (some ⟨gz, 0, none⟩), .pointer none, .pointer none, .pointer (some ⟨g, 0, none⟩), .pointer (some ⟨g, 2, none⟩)] w (GcdIs gz w) := by
  have hgr := hg.lt
  have HG := Lib.hid hg
  have HR := Lib.hid (fun W (hb : Below w.heap.size w W) => hr.below hb (Nat.le_refl _))
  have HS := Lib.hid (fun W (hb : Below w.heap.size w W) => hs.below hb (Nat.le_refl _))
  have HZ := Lib.hid (show w.heap[gz]? = _ from hz)
  have lz : gz < w.heap.size := (Array.getElem?_eq_some_iff.1 hz).1
  have HGZ := Lib.hid hgz
  have BA : Hid (Below w.heap.size w (w.alloc (.cells #[.bool false, .slice none 0 0] 79))) := Lib.hid ((Below.refl _ _).alloc (Nat.le_refl _) _)
  have RA : Hid (Rat (w.alloc (.cells #[.bool false, .slice none 0 0] 79)) g (.bool false) sA (.bool false) sB) := Lib.hid ((BA.out.block g hgr).trans hg)
  have HA := Lib.hid (f105_own w.heap.size g 0 false B sA [m] _ _ 109 (heap_alloc_new w _) RA.out (by omega) (RA.out.cell 0) (RA.out.cell 1) (HR.out _ BA.out) (by simp) (by simp))
  clear hg hr hs hz hgz
  go_enter Tryz.func91, Tryz.ntmps91
  go_wp2_with fail
  go_at_call 105
  refine HA.out.mono ?_
  rintro e w1 ⟨rfl, oA, cA, hA1, hrA, hgA⟩
  rw [show [m].length = 1 from rfl] at hA1 hrA
  have B1 : Hid (Below w.heap.size w w1) := Lib.hid (grown_below hgA)
  have BB : Hid (Below w.heap.size w (w1.alloc (.cells #[.bool false, .slice none 0 0] 79))) := Lib.hid (B1.out.alloc B1.out.size _)
  have hlt1 : w.heap.size < w1.heap.size := (Array.getElem?_eq_some_iff.1 hA1).1
  have RB : Hid (Rat (w1.alloc (.cells #[.bool false, .slice none 0 0] 79)) g (.bool false) sA (.bool false) sB) := Lib.hid ((BB.out.block g hgr).trans HG.out)
  have HB := Lib.hid (f105_at w1.heap.size g 2 false B sB [1] _ _ 109 (heap_alloc_new w1 _) RB.out (by omega) (RB.out.cell 2) (RB.out.cell 3) (HS.out _ BB.out) (by simp))
  have HA1 := Lib.hid hA1
  have HRA := Lib.hid hrA
  clear hA1 hrA hgA
  go_wp2_with fail
  go_at_call 105
  refine HB.out.mono ?_
  rintro e w2 ⟨rfl, vB, hB2, hrB, hgB⟩
  have hb2 := grown_below hgB
  have B2 : Hid (Below w.heap.size w w2) := Lib.hid (B1.out.trans (hb2.mono B1.out.size))
  have hlt2 : w1.heap.size < w2.heap.size := (Array.getElem?_eq_some_iff.1 hB2).1
  have HA2 := Lib.hid ((hb2.block w.heap.size hlt1).trans HA1.out)
  have HB2 := Lib.hid hB2
  have HRA2 := Lib.hid (HRA.out.below hb2 (Nat.le_refl _))
  have HRB := Lib.hid hrB
  clear hB2 hrB hgB hb2
  have b3 : Below w2.heap.size w2 ((w2.alloc (.cells #[.bool false, .slice none 0 0] 79)).alloc (.cells #[.bool false, .slice none 0 0] 79)) := ((Below.refl _ _).alloc (Nat.le_refl _) _).alloc (by simp) _
  have hQ3 := (Below.heap_alloc (w2.alloc (.cells #[.bool false, .slice none 0 0] 79)) (.cells #[.bool false, .slice none 0 0] 79) w2.heap.size (by simp)).trans (heap_alloc_new w2 _)
  have hR3 := heap_alloc_new (w2.alloc (.cells #[.bool false, .slice none 0 0] 79)) (.cells #[.bool false, .slice none 0 0] 79)
  have hA3 := (b3.block w.heap.size (by omega)).trans HA2.out
  have hB3 := (b3.block w1.heap.size hlt2).trans HB2.out
  have rA3 := HRA2.out.below b3 (Nat.le_refl _)
  have rB3 := HRB.out.below b3 (Nat.le_refl _)
  have B3 := Lib.hid (B2.out.trans (b3.mono B2.out.size))
  rw [show (w2.alloc (.cells #[.bool false, .slice none 0 0] 79)).heap.size = w2.heap.size + 1 by simp] at hR3
  have hz3 : w2.heap.size + 1 < ((w2.alloc (.cells #[.bool false, .slice none 0 0] 79)).alloc (.cells #[.bool false, .slice none 0 0] 79)).heap.size := by simp
  go_wp2_with fail
  obtain ⟨o, oo, cB, rfl, hob2, holq, hoB, hcB⟩ := row_one HRB.out
  have hob := cell_below hob2 b3
  generalize hW3 : (w2.alloc (.cells #[.bool false, .slice none 0 0] 79)).alloc (.cells #[.bool false, .slice none 0 0] 79) = W3 at *
  clear hW3 b3
  clear HA HB RA RB BA BB HA1 HRA HA2 HB2 HRA2 HRB B1 B2
  generalize hq : w2.heap.size = gq at *
  generalize hb : w1.heap.size = gB at *
  clear hq hb hob2
  have H82 := Lib.hid (fun W (hb : Below W3.heap.size W3 W) => f82_gt _ _ _ _ [m] (by simp) m (isW_one m (by omega) hmW) hm W (rA3.row.below hb (Nat.le_refl _)) (rB3.below hb (Nat.le_refl _)))
  have a1 : W3.cell? ⟨w.heap.size, 1, none⟩ = some (.slice (some ⟨oA, 0, none⟩) 1 cA) := by simp [World.cell?, hA3]
  have b1 : W3.cell? ⟨gB, 1, none⟩ = some (.slice (some ⟨o, oo, none⟩) 1 cB) := by simp [World.cell?, hB3]
  have lA : w.heap.size < W3.heap.size := (Array.getElem?_eq_some_iff.1 hA3).1
  have lB : gB < W3.heap.size := (Array.getElem?_eq_some_iff.1 hB3).1
  have lq : gq < W3.heap.size := (Array.getElem?_eq_some_iff.1 hQ3).1
  have lr : gq + 1 < W3.heap.size := (Array.getElem?_eq_some_iff.1 hR3).1
  have KA := Lib.hid (fun W (hb : Below W3.heap.size W3 W) => (hb.block w.heap.size lA).trans hA3)
  have KB := Lib.hid (fun W (hb : Below W3.heap.size W3 W) => (hb.block gB lB).trans hB3)
  have KQ := Lib.hid (fun W (hb : Below W3.heap.size W3 W) => (hb.block gq lq).trans hQ3)
  have KR := Lib.hid (fun W (hb : Below W3.heap.size W3 W) => (hb.block (gq + 1) lr).trans hR3)
  have RA := Lib.hid (fun W (hb : Below W3.heap.size W3 W) => rA3.below hb (Nat.le_refl _))
  have RB := Lib.hid (fun W (hb : Below W3.heap.size W3 W) => rB3.below hb (Nat.le_refl _))
  have hne : [1].length = 1 := rfl
  clear hA3 hB3 hQ3 hR3 rA3 rB3 hne
  go_region_held3 (fun w' => w'.cell? ⟨w.heap.size, 1, none⟩ = some (.slice (some ⟨oA, 0, none⟩) 1 cA) ∧ w'.cell? ⟨gB, 1, none⟩ = some (.slice (some ⟨o, oo, none⟩) 1 cB))
    (first
      | exact S5
      | exact ⟨a1, b1⟩
      | go_keep)
    (first
      | (go_at_call 82; refine (H82.out _ (Below.refl _ _).drew).mono ?_; rintro e W5 ⟨rfl, hb5⟩; have B5 : Hid (Below W3.heap.size W3 W5) := Lib.hid ⟨hb5.os, hb5.tape, hb5.output, hb5.size, hb5.block⟩; have S5 : W5.cell? ⟨w.heap.size, 1, none⟩ = some (.slice (some ⟨oA, 0, none⟩) 1 cA) ∧ W5.cell? ⟨gB, 1, none⟩ = some (.slice (some ⟨o, oo, none⟩) 1 cB) := ⟨cell_below a1 B5.out, cell_below b1 B5.out⟩; clear hb5))
  obtain ⟨a5, b5⟩ := S5
  have ho5 := cell_below hob B5.out
  have O5 := RA.out _ B5.out
  have m5 := O5.cell 0 (by omega)
  have f5 := O5.free 0
  have HO5 := Lib.hid O5
  simp only [List.getD_cons_zero] at m5
  clear a1 b1 hob O5
  go_wp2_with fail
  refine wp_loop_rounds 1 ?_
  rw [rounds_succ]
  go_wp2_with fail
  go_region_held3 (fun w' => (w'.cell? ⟨w.heap.size, 1, none⟩ = some (.slice (some ⟨oA, 0, none⟩) 1 cA) ∧ w'.cell? ⟨gB, 1, none⟩ = some (.slice (some ⟨o, oo, none⟩) 1 cB)) ∧ (w'.cell? ⟨oA, 0, none⟩ = some (.int .u64 (m : Nat)) ∧ w'.cell? ⟨o, oo, none⟩ = some (.int .u64 1)))
    (exact ⟨⟨a5, b5⟩, m5, ho5⟩)
    (fail)
  go_wp2_with fail
  refine wp_loop_rounds 2 ?_
  rw [rounds_succ]
  go_wp2_with fail
  go_region_held3 (fun _ => True) (trivial) (fail)
  have hGg : Rat W5 g (.bool false) sA (.bool false) sB := ((B3.out.trans (B5.out.mono B3.out.size)).block g hgr).trans HG.out
  have g0 := hGg.cell 0
  have nA : g ≠ oA := by have := HO5.out.low.1; simp at this; omega
  clear hGg
  go_wp2_with fail
  rw [rounds_succ]
  go_wp2_with fail
  have hoA : w.heap.size < oA := by have := HO5.out.low.1; simp at this; omega
  have hcA : 1 ≤ cA := HO5.out.cap
  have B6 : Below w.heap.size w (W5.setCell ⟨oA, 0, none⟩ (.int .u64 1)).drew.drew := (((B3.out.trans (B5.out.mono B3.out.size)).setCell (p := ⟨oA, 0, none⟩) (Nat.le_of_lt hoA) _).drew).drew
  have hA6 : (W5.setCell ⟨oA, 0, none⟩ (.int .u64 1)).drew.drew.heap[w.heap.size]? = some (.cells #[.bool false, .slice (some ⟨oA, 0, none⟩) 1 cA] 79 (0, 0)) := (Below.heap_setCell W5 ⟨oA, 0, none⟩ (.int .u64 1) w.heap.size (by show w.heap.size ≠ oA; omega)).trans (KA.out _ B5.out)
  have ho6 : (W5.setCell ⟨oA, 0, none⟩ (.int .u64 1)).drew.drew.cell? ⟨oA, 0, none⟩ = some (.int .u64 1) := World.cell?_setCell_same _ _ _ m5
  have hz6 := (B6.block gz lz).trans HZ.out
  have H51 := Lib.hid (f51_at gz 0 w.heap.size 0 false false 0 (.slice (some ⟨oA, 0, none⟩) 1 cA) [1] _ _ _ 79 79 hz6 hA6 (by omega) (by simp [World.cell?, hz6]) (by simp [World.cell?, hz6]) (by simp [World.cell?, hA6]) (by simp [World.cell?, hA6]) (row_cell ho6 hcA) (by simp))
  have HB6 := Lib.hid B6
  clear B6 hA6 ho6 hz6
  go_at_call 51
  refine H51.out.mono ?_
  intro e W7 h
  obtain ⟨rfl, hend⟩ := gcd_end HZ.out HB6.out h
  have HE := Lib.hid hend
  clear h hend
  go_wp2_with fail
  go_ret
  exact ⟨rfl, HE.out⟩
end Go.Proofs.YtllgogkjcbdpkaaGreatDoor.Z
