/- A quotient's norm, where the denominator is one. -/
import Derived.Test.YtllgogkjcbdpkaaGreatDoorPu
namespace Go.Proofs.YtllgogkjcbdpkaaGreatDoor.Z
open Go.RowKit

theorem f91_any (gz g : Nat) (B : Nat) (sA sB : Value) (xs : List Nat) (m : Nat) (hl : xs.length ≤ 1000) (hx : IsW m xs) (hm : 1 < m) (w : World) (hz : New w gz) (hg : Rat w g (.bool false) sA (.bool false) sB) (hgz : g ≠ gz) (hr : Row B .u64 w sA xs) (hs : Row B .u64 w sB [1]) :
    Calls Tryz.prog 91 #[.pointer (some ⟨gz, 0, none⟩), .pointer none, .pointer none, .pointer (some ⟨g, 0, none⟩), .pointer (some ⟨g, 2, none⟩)] w (GcdIs gz w) := by
  by_cases h1 : 1 < xs.length
  · exact f91_many gz g B sA sB xs m h1 hl hx hm w hz hg hgz hr hs
  · have hmW : m < W := by
      have := hx.lt_pow (k := 1) (by omega)
      simpa using this
    obtain rfl := hx.one hmW (by omega)
    exact f91_one gz g B sA sB m hmW hm w hz hg hgz hr hs
theorem Row.setRat {B : Nat} {w : World} {v : Value} {l : List Nat} {g : Nat} {b0 b2 : Bool} {a1 a3 : Option Addr} {n1 c1 n3 c3 : Nat} (h : Row B .u64 w v l) (hg : Rat w g (.bool b0) (.slice a1 n1 c1) (.bool b2) (.slice a3 n3 c3)) (i : Nat) (u : Value) : Row B .u64 (w.setCell ⟨g, i, none⟩ u) v l := by
  rcases h with h | ⟨h0, g', off, c, hv, hc, hB', hg', hcell⟩
  · exact .inl h
  · have hne : g' ≠ g := fun e => by
      subst e
      have h1 := hcell 0 h0
      rw [hg.cell] at h1
      match off, h1 with
      | 0, h1 => simp at h1
      | 1, h1 => simp at h1
      | 2, h1 => simp at h1
      | 3, h1 => simp at h1
      | k + 4, h1 => simp at h1
    refine .inr ⟨h0, g', off, c, hv, hc, hB', by simpa [World.setCell] using hg', fun j hj => ?_⟩
    rw [World.cell?_of_block (w := w) (Below.heap_setCell w ⟨g, i, none⟩ u g' hne)]
    exact hcell j hj
set_option maxRecDepth 100000 in
theorem f89_any (w : World) : Calls Tryz.prog 89 #[] w fun e w' => e = .returned (.pointer (some ⟨w.heap.size, 0, none⟩)) ∧ w.alloc (.cells #[.pointer none] 139) = w' := by
  go_enter Tryz.func89, Tryz.ntmps89
  go_wp2
  go_ret
  exact ⟨rfl, rfl⟩
def NormIs (g : Nat) (n : Bool) (sA sB : Value) (B : Nat) (xs : List Nat) (w : World) (e : Ending) (w' : World) : Prop := e = .returned (.pointer (some ⟨g, 0, none⟩)) ∧ Rat w' g (.bool n) sA (.bool false) sB ∧ Row B .u64 w' sA xs ∧ Row B .u64 w' sB [1] ∧ w.grownBy w' (some g)
set_option maxRecDepth 100000 in
set_option maxHeartbeats 8000000 in
theorem f79_one (g : Nat) (n b : Bool) (B : Nat) (sA sB : Value) (xs : List Nat) (m : Nat) (h0 : 0 < xs.length) (hl : xs.length ≤ 1000) (hx : IsW m xs) (hm : 1 < m) (w : World) (hg : Rat w g (.bool n) sA (.bool b) sB) (hr : Row B .u64 w sA xs) (hs : Row B .u64 w sB [1]) :
    Calls Tryz.prog 79 #[.pointer (some ⟨g, 0, none⟩)] w (NormIs g n sA sB B xs w) := by
  obtain ⟨aA, cA, rfl⟩ := hr.len
  obtain ⟨aB, cB, rfl⟩ := hs.len
  have c0 := hg.cell
  have f0 := hg.free
  have lg := hg.lt
  have hlA : ((xs.length : Int) == 0) = false := by rw [beq_eq_false_iff_ne]; omega
  have e1 : [1].length = 1 := rfl
  have HG := Lib.hid hg
  have HR := Lib.hid hr
  have HS := Lib.hid hs
  have HXW := Lib.hid hx
  clear hg hr hs hx e1
  go_enter_defers Tryz.func79, Tryz.ntmps79
  go_wp2_with (go_at_call 89; refine (f89_any _).mono ?_; rintro e w' ⟨rfl, rfl⟩)
  have R0 : Rat (w.setCell ⟨g, 0, none⟩ (.bool false)) g (.bool false) (.slice aA xs.length cA) (.bool b) (.slice aB 1 cB) := Joins.block_setCell HG.out (i := 0) _
  have R1 : Rat ((w.setCell ⟨g, 0, none⟩ (.bool false)).setCell ⟨g, 2, none⟩ (.bool false)) g (.bool false) (.slice aA xs.length cA) (.bool false) (.slice aB 1 cB) := Joins.block_setCell R0 (i := 2) _
  have hs1 : ((w.setCell ⟨g, 0, none⟩ (.bool false)).setCell ⟨g, 2, none⟩ (.bool false)).heap.size = w.heap.size := by simp [World.setCell]
  have r1 : Rat (((w.setCell ⟨g, 0, none⟩ (.bool false)).setCell ⟨g, 2, none⟩ (.bool false)).alloc (.cells #[.pointer none] 139)) g (.bool false) (.slice aA xs.length cA) (.bool false) (.slice aB 1 cB) := (Below.heap_alloc _ _ g R1.lt).trans R1
  have rA1 := ((HR.out.setRat HG.out 0 (.bool false)).setRat R0 2 (.bool false)).alloc (.cells #[.pointer none] 139)
  have rB1 := ((HS.out.setRat HG.out 0 (.bool false)).setRat R0 2 (.bool false)).alloc (.cells #[.pointer none] 139)
  have gr0 : w.grownBy ((w.setCell ⟨g, 0, none⟩ (.bool false)).setCell ⟨g, 2, none⟩ (.bool false)) (some g) := ((below_grownBy (Below.refl _ _) g).setCell g 0 _).setCell g 2 _
  have gr1 : w.grownBy (((w.setCell ⟨g, 0, none⟩ (.bool false)).setCell ⟨g, 2, none⟩ (.bool false)).alloc (.cells #[.pointer none] 139)) (some g) := ⟨gr0.os, gr0.tape, gr0.output, Nat.le_trans gr0.size (by simp), fun k hk hn => (Below.heap_alloc _ _ k (by omega)).trans (gr0.block k hk hn)⟩
  have st1 : (((w.setCell ⟨g, 0, none⟩ (.bool false)).setCell ⟨g, 2, none⟩ (.bool false)).alloc (.cells #[.pointer none] 139)).heap[w.heap.size]? = some (.cells #[.pointer none] 139 (0, 0)) := by
    have := heap_alloc_new ((w.setCell ⟨g, 0, none⟩ (.bool false)).setCell ⟨g, 2, none⟩ (.bool false)) (.cells #[.pointer none] 139)
    rwa [hs1] at this
  clear R0 R1 hs1 gr0 c0 f0
  generalize ((w.setCell ⟨g, 0, none⟩ (.bool false)).setCell ⟨g, 2, none⟩ (.bool false)).alloc (.cells #[.pointer none] 139) = W1 at *
  have lg1 := r1.lt
  have ls1 : w.heap.size < W1.heap.size := (Array.getElem?_eq_some_iff.1 st1).1
  have H91 := Lib.hid (fun W (hb : Below W1.heap.size W1 W) (hn : W.heap[W1.heap.size]? = some (.cells #[.bool false, .slice none 0 0] 79 (0, 0))) => f91_any W1.heap.size g B _ _ xs m hl HXW.out hm W hn ((hb.block g lg1).trans r1) (by omega) (rA1.below hb (Nat.le_refl _)) (rB1.below hb (Nat.le_refl _)))
  have HR1 := Lib.hid r1
  have HRA := Lib.hid rA1
  have HRB := Lib.hid rB1
  have HGR := Lib.hid gr1
  have HST := Lib.hid st1
  clear r1 rA1 rB1 gr1 st1
  go_region_held3 (fun _ => True) (trivial)
    (first
      | (go_at_call 68; refine (f68_zero _).mono ?_; rintro e w' ⟨rfl, rfl⟩)
      | (go_at_call 91; refine (H91.out _ ?_ ?_).mono ?_; (· (repeat (first | with_reducible refine Below.drew ?_ | with_reducible refine Below.alloc ?_ (by simp) _)); exact Below.refl _ _); (· exact heap_alloc_new W1 _); rintro e W2 ⟨rfl, v, hv, hrow, hgr⟩; have B2 : Hid (Below W1.heap.size W1 W2) := Lib.hid (grown_belowX (w2 := W1) (.cells #[.bool false, .slice none 0 0] 79) hgr rfl rfl rfl rfl); have HV2 := Lib.hid hv; have HROW2 := Lib.hid hrow; (try clear hv); (try clear hrow); (try clear hgr)))
  have b4 : Below W2.heap.size W2 ((W2.alloc (.cells #[.int .u64 1] 85)).alloc (.cells #[.bool false, .slice (some ⟨W2.heap.size, 0, none⟩) 1 1] 79)) := ((Below.refl _ _).alloc (Nat.le_refl _) _).alloc (by simp) _
  have l2 : W1.heap.size < W2.heap.size := (Array.getElem?_eq_some_iff.1 HV2.out).1
  have y4 := heap_alloc_new (W2.alloc (.cells #[.int .u64 1] 85)) (.cells #[.bool false, .slice (some ⟨W2.heap.size, 0, none⟩) 1 1] 79)
  rw [show (W2.alloc (.cells #[.int .u64 1] 85)).heap.size = W2.heap.size + 1 by simp] at y4
  have o4 : ((W2.alloc (.cells #[.int .u64 1] 85)).alloc (.cells #[.bool false, .slice (some ⟨W2.heap.size, 0, none⟩) 1 1] 79)).cell? ⟨W2.heap.size, 0, none⟩ = some (.int .u64 1) := by simp [go_sem]
  have H92 := Lib.hid (f92_one W1.heap.size (W2.heap.size + 1) v _ _ _ _ (by omega) ((b4.block _ l2).trans HV2.out) y4 (HROW2.out.below b4 (Nat.le_refl _)) (row_cell o4 (Nat.le_refl _)))
  have HB4 := Lib.hid b4
  clear b4 y4 o4
  go_wp2_with (first | (go_at_call 72; refine (f72_any _).mono ?_; rintro e w' ⟨rfl, rfl⟩) | (go_at_call 92; refine H92.out.mono ?_; rintro e W5 ⟨rfl, hb5⟩; have B5 : Hid (Below W1.heap.size W1 W5) := Lib.hid (B2.out.trans ((HB4.out.trans (hb5.mono HB4.out.size)).mono B2.out.size)); have r5 : Rat W5 g (.bool false) (.slice aA xs.length cA) (.bool false) (.slice aB 1 cB) := (B5.out.block g lg1).trans HR1.out; have HR5 := Lib.hid r5; have c5 := HR5.out.cell; have f5 := HR5.out.free; clear hb5 r5))
  refine leaves_cons (f := 90) (args := #[.pointer (some ⟨w.heap.size, 0, none⟩)]) (by simp) (by simp [go_sem]) ?_
  refine (f90_nil w.heap.size .returning _ ?_).mono ?_
  · have hst : W5.heap[w.heap.size]? = some (.cells #[.pointer none] 139 (0, 0)) := (B5.out.block w.heap.size ls1).trans HST.out
    exact set_other (by simp [World.cell?, hst]) (by show w.heap.size ≠ g; omega)
  rintro e u' w'' ⟨rfl, rfl, rfl⟩
  have hB5 := B5.out
  exact ⟨_, results_tmp rfl _ _ _, rfl, Joins.block_setCell HR5.out (i := 0) _, (HRA.out.below hB5 (Nat.le_refl _)).setRat HR5.out 0 _, (HRB.out.below hB5 (Nat.le_refl _)).setRat HR5.out 0 _, World.grownBy.setCell ⟨hB5.os.trans HGR.out.os, hB5.tape.trans HGR.out.tape, hB5.output.trans HGR.out.output, Nat.le_trans HGR.out.size hB5.size, fun k hk hn => (hB5.block k (Nat.lt_of_lt_of_le hk HGR.out.size)).trans (HGR.out.block k hk hn)⟩ g 0 _⟩
end Go.Proofs.YtllgogkjcbdpkaaGreatDoor.Z
