import Derived.Test.YtabeokminikfdaaGreatQD2
set_option linter.all false
set_option maxRecDepth 100000
set_option maxHeartbeats 1000000
namespace Go.Proofs.YtabeokminikfdaaGreat.Z
open Go.RowKit
theorem f59_none (w : World) (a : Option Addr) (c : Nat) : Calls Tryz.prog 59 #[.slice none 0 0, .slice a 0 c] w (MakesNat 0 w) := by
 go_enter Tryz.func59, Tryz.ntmps59
 go_wp2_with (go_at_call 62; refine (f62_zero _).mono ?_; rintro e w' ⟨rfl, rfl⟩)
 go_loop [5, 6] (fun i _ => i = .int .i64 0) (fun _ _ => 0)
 case atStart => rfl
 case round =>
  obtain rfl := hrel
  go_wp2_with (go_at_call 64; refine (f64_nil _).mono ?_; rintro e w' ⟨rfl, rfl⟩)
  go_ret
  exact ⟨_, [], rfl, .inl ⟨rfl, .inl rfl⟩, ⟨rfl, by simp, rfl⟩, Below.refl _ _⟩
theorem f59_row (B : Nat) (v : Value) (l : List Nat) (hl : l.length ≤ 4000) (hd : ∀ d ∈ l, d < 256) (w : World) (hr : Row B .u8 w v l ∨ (l = [] ∧ ∃ a c, v = .slice a 0 c)) : Calls Tryz.prog 59 #[.slice none 0 0, v] w (MakesNat (bv l) w) := by
 rcases hr with (⟨rfl, hv⟩ | ⟨h0, g, off, c, rfl, hc, _, hg, hcell⟩) | ⟨rfl, a, c, rfl⟩
 ·exact f59_nil w v hv
 ·exact f59_any g off c l h0 hl hc hd w hg hcell
 ·exact f59_none w a c
def Flag (w : World) (e : Ending) (w' : World) : Prop := (∃ b : Bool, e = .returned (.bool b)) ∧ w = w'
theorem below_from {g : Nat} {w w2 : World} (h : Below w.heap.size w w2) (hg : g ≤ w.heap.size) : Below g w w2 := h.mono hg
theorem f51_any (g : Nat) (B : Nat) (v : Value) (l : List Nat) (hl : l.length ≤ 4000) (hd : ∀ d ∈ l, d < 256) (w : World) (hn : w.heap[g]? = some (.cells #[.bool false, .slice none 0 0] 197)) (hr : Row B .u8 w v l ∨ (l = [] ∧ ∃ a c, v = .slice a 0 c)) :
  Calls Tryz.prog 51 #[.pointer (some ⟨g, 0, none⟩), v] w fun e w' => e = .returned (.pointer (some ⟨g, 0, none⟩)) ∧ Below g w w' ∧ ∃ sl xs, w'.heap[g]? = some (.cells #[.bool false, sl] 197) ∧ Row w.heap.size .u64 w' sl xs ∧ ∀ d ∈ xs, d < W := by
 have HF := Lib.hid (f59_row B v l hl hd w hr)
 have zl : g < w.heap.size := (Array.getElem?_eq_some_iff.1 hn).1
 have z1 : w.cell? ⟨g, 1, none⟩ = some (.slice none 0 0) := by simp [World.cell?, hn]
 have HN := Lib.hid hn
 clear hn hr hd
 go_enter Tryz.func51, Tryz.ntmps51
 go_wp2_with fail
 refine HF.out.mono ?_
 rintro e w2 ⟨v2, xs, rfl, hrow, hnum, hb⟩
 obtain ⟨a2, k2, rfl⟩ := hrow.len
 have HR := Lib.hid hrow
 have HM := Lib.hid hnum
 have HB := Lib.hid hb
 have HBK := Lib.hid ((hb.block g zl).trans HN.out)
 have f2 := fun i => Joins.unfrozen_of_block HBK.out i
 have c2 := fun i => Joins.cell_of_block HBK.out i
 clear hrow hnum hb
 go_wp2_with fail
 go_ret
 refine ⟨rfl, ((below_from HB.out (Nat.le_of_lt zl)).setCell (Nat.le_refl g) _).setCell (Nat.le_refl g) _, .slice a2 xs.length k2, xs, ?_, ?_, HM.out.low⟩
 ·exact Joins.block_setCell (Joins.block_setCell HBK.out (i := 1) _) (i := 0) _
 ·exact Row.setOld (Row.setOld HR.out zl _) zl _
theorem f60_any (B : Nat) (v : Value) (xs : List Nat) (hx : ∀ d ∈ xs, d < W) (w : World) (hr : Row B .u64 w v xs) : Calls Tryz.prog 60 #[v] w fun e w' => (∃ n : Nat, e = .returned (.int .u64 n) ∧ n < W) ∧ w = w' := by
 rcases hr with ⟨rfl, hv⟩ | ⟨h0, g, off, c, rfl, hc, _, hg, hcell⟩
 ·rcases hv with rfl | ⟨a, c, rfl⟩
  all_goals
   go_enter Tryz.func60, Tryz.ntmps60
   go_wp2
   go_ret
   exact ⟨⟨0, rfl, by decide⟩, rfl⟩
 ·have c0 : w.cell? ⟨g, off, none⟩ = some (.int .u64 ((xs.getD 0 0 : Nat) : Int)) := hcell 0 h0
  have hlt : xs.getD 0 0 < W := hx _ (by rw [List.getD_eq_getElem?_getD, List.getElem?_eq_getElem h0]; exact List.getElem_mem h0)
  have hne : ((xs.length : Int) == 0) = false := by rw [beq_eq_false_iff_ne]; omega
  have hne' : ¬ (xs.length : Int) = 0 := by omega
  have hge : (0 : Int) < xs.length := by omega
  generalize hX : xs.getD 0 0 = X at *
  clear hX hcell hx
  go_enter Tryz.func60, Tryz.ntmps60
  go_wp2
  go_ret
  exact ⟨⟨X, rfl, hlt⟩, rfl⟩
theorem f53_any (g B : Nat) (sl : Value) (xs : List Nat) (hx : ∀ d ∈ xs, d < W) (w : World) (hn : w.heap[g]? = some (.cells #[.bool false, sl] 197)) (hr : Row B .u64 w sl xs) : Calls Tryz.prog 53 #[.pointer (some ⟨g, 0, none⟩)] w fun e w' => (∃ z : Int, e = .returned (.int .i64 z)) ∧ w = w' := by
 obtain ⟨a2, k2, rfl⟩ := hr.len
 have c0 : w.cell? ⟨g, 0, none⟩ = some (.bool false) := by simp [World.cell?, hn]
 have c1 : w.cell? ⟨g, 1, none⟩ = some (.slice a2 xs.length k2) := by simp [World.cell?, hn]
 have HF := Lib.hid (f60_any B _ xs hx w hr)
 clear hn hr hx
 go_enter Tryz.func53, Tryz.ntmps53
 go_wp2_with fail
 refine HF.out.mono ?_
 rintro e w2 ⟨⟨n, rfl, hlt⟩, rfl⟩
 go_wp2
 go_ret
 exact ⟨⟨_, rfl⟩, rfl⟩
theorem f52_any (g B : Nat) (sl : Value) (xs : List Nat) (hx : ∀ d ∈ xs, d < W) (w : World) (hn : w.heap[g]? = some (.cells #[.bool false, sl] 197)) (hr : Row B .u64 w sl xs) : Calls Tryz.prog 52 #[.pointer (some ⟨g, 0, none⟩)] w (Flag w) := by
 obtain ⟨a2, k2, rfl⟩ := hr.len
 have c0 : w.cell? ⟨g, 0, none⟩ = some (.bool false) := by simp [World.cell?, hn]
 have c1 : w.cell? ⟨g, 1, none⟩ = some (.slice a2 xs.length k2) := by simp [World.cell?, hn]
 have HF := Lib.hid (f60_any B _ xs hx w hr)
 clear hn hr hx
 by_cases h1 : xs.length ≤ 1
 ·have h1' : (xs.length : Int) ≤ 1 := by omega
  go_enter Tryz.func52, Tryz.ntmps52
  go_wp2_with fail
  refine HF.out.mono ?_
  rintro e w2 ⟨⟨n, rfl, hlt⟩, rfl⟩
  clear hlt
  go_upto_region 3 with fail
  generalize wrap64 (n : Int) = z
  by_cases hz : 0 ≤ z
  ·have hzb : decide (z ≥ 0) = true := decide_eq_true hz
   go_wp2
   go_ret
   exact ⟨⟨_, rfl⟩, rfl⟩
  ·have hzb : decide (z ≥ 0) = false := decide_eq_false hz
   go_wp2
   go_ret
   exact ⟨⟨_, rfl⟩, rfl⟩
 ·have h1' : ¬ (xs.length : Int) ≤ 1 := by omega
  go_enter Tryz.func52, Tryz.ntmps52
  go_wp2
  go_ret
  exact ⟨⟨_, rfl⟩, rfl⟩
end Go.Proofs.YtabeokminikfdaaGreat.Z
