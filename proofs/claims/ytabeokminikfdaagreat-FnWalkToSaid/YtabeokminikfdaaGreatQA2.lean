import Derived.Test.YtabeokminikfdaaGreatQA1
set_option linter.all false
set_option maxRecDepth 100000
namespace Go.Proofs.YtabeokminikfdaaGreat
open Go.RowKit
theorem f17_0 (w : World) : Calls Tryz.prog 17 #[.int .i64 0] w fun e w' => e = .returned (.int .i64 1) ∧ w = w' := by
 go_enter Tryz.func17, Tryz.ntmps17
 go_wp2
 go_ret
 exact ⟨rfl, rfl⟩
theorem f17_1 (w : World) : Calls Tryz.prog 17 #[.int .i64 1] w fun e w' => e = .returned (.int .i64 2) ∧ w = w' := by
 go_enter Tryz.func17, Tryz.ntmps17
 go_wp2
 go_ret
 exact ⟨rfl, rfl⟩
theorem f17_2 (w : World) : Calls Tryz.prog 17 #[.int .i64 2] w fun e w' => e = .returned (.int .i64 2) ∧ w = w' := by
 go_enter Tryz.func17, Tryz.ntmps17
 go_wp2
 go_ret
 exact ⟨rfl, rfl⟩
theorem f17_3 (w : World) : Calls Tryz.prog 17 #[.int .i64 3] w fun e w' => e = .returned (.int .i64 0) ∧ w = w' := by
 go_enter Tryz.func17, Tryz.ntmps17
 go_wp2
 go_ret
 exact ⟨rfl, rfl⟩
theorem f17_4 (w : World) : Calls Tryz.prog 17 #[.int .i64 4] w fun e w' => e = .returned (.int .i64 1) ∧ w = w' := by
 go_enter Tryz.func17, Tryz.ntmps17
 go_wp2
 go_ret
 exact ⟨rfl, rfl⟩
theorem f17_5 (w : World) : Calls Tryz.prog 17 #[.int .i64 5] w fun e w' => e = .returned (.int .i64 2) ∧ w = w' := by
 go_enter Tryz.func17, Tryz.ntmps17
 go_wp2
 go_ret
 exact ⟨rfl, rfl⟩
theorem f17_6 (w : World) : Calls Tryz.prog 17 #[.int .i64 6] w fun e w' => e = .returned (.int .i64 1) ∧ w = w' := by
 go_enter Tryz.func17, Tryz.ntmps17
 go_wp2
 go_ret
 exact ⟨rfl, rfl⟩
theorem f17_7 (w : World) : Calls Tryz.prog 17 #[.int .i64 7] w fun e w' => e = .returned (.int .i64 1) ∧ w = w' := by
 go_enter Tryz.func17, Tryz.ntmps17
 go_wp2
 go_ret
 exact ⟨rfl, rfl⟩
theorem f17_8 (w : World) : Calls Tryz.prog 17 #[.int .i64 8] w fun e w' => e = .returned (.int .i64 0) ∧ w = w' := by
 go_enter Tryz.func17, Tryz.ntmps17
 go_wp2
 go_ret
 exact ⟨rfl, rfl⟩
theorem f17_9 (w : World) : Calls Tryz.prog 17 #[.int .i64 9] w fun e w' => e = .returned (.int .i64 0) ∧ w = w' := by
 go_enter Tryz.func17, Tryz.ntmps17
 go_wp2
 go_ret
 exact ⟨rfl, rfl⟩
theorem f17_10 (w : World) : Calls Tryz.prog 17 #[.int .i64 10] w fun e w' => e = .returned (.int .i64 0) ∧ w = w' := by
 go_enter Tryz.func17, Tryz.ntmps17
 go_wp2
 go_ret
 exact ⟨rfl, rfl⟩
theorem f17_11 (w : World) : Calls Tryz.prog 17 #[.int .i64 11] w fun e w' => e = .returned (.int .i64 0) ∧ w = w' := by
 go_enter Tryz.func17, Tryz.ntmps17
 go_wp2
 go_ret
 exact ⟨rfl, rfl⟩
theorem f27_0 (w : World) : Calls Tryz.prog 27 #[.int .i64 0] w fun e w' => e = .returned (.int .i64 (-1)) ∧ w = w' := by
 go_enter Tryz.func27, Tryz.ntmps27
 go_wp2
 go_ret
 exact ⟨rfl, rfl⟩
theorem f27_1 (w : World) : Calls Tryz.prog 27 #[.int .i64 1] w fun e w' => e = .returned (.int .i64 0) ∧ w = w' := by
 go_enter Tryz.func27, Tryz.ntmps27
 go_wp2
 go_ret
 exact ⟨rfl, rfl⟩
theorem f27_2 (w : World) : Calls Tryz.prog 27 #[.int .i64 2] w fun e w' => e = .returned (.int .i64 0) ∧ w = w' := by
 go_enter Tryz.func27, Tryz.ntmps27
 go_wp2
 go_ret
 exact ⟨rfl, rfl⟩
theorem f27_3 (w : World) : Calls Tryz.prog 27 #[.int .i64 3] w fun e w' => e = .returned (.int .i64 (-1)) ∧ w = w' := by
 go_enter Tryz.func27, Tryz.ntmps27
 go_wp2
 go_ret
 exact ⟨rfl, rfl⟩
theorem f27_4 (w : World) : Calls Tryz.prog 27 #[.int .i64 4] w fun e w' => e = .returned (.int .i64 (-1)) ∧ w = w' := by
 go_enter Tryz.func27, Tryz.ntmps27
 go_wp2
 go_ret
 exact ⟨rfl, rfl⟩
theorem f27_5 (w : World) : Calls Tryz.prog 27 #[.int .i64 5] w fun e w' => e = .returned (.int .i64 (-1)) ∧ w = w' := by
 go_enter Tryz.func27, Tryz.ntmps27
 go_wp2
 go_ret
 exact ⟨rfl, rfl⟩
theorem f27_6 (w : World) : Calls Tryz.prog 27 #[.int .i64 6] w fun e w' => e = .returned (.int .i64 1) ∧ w = w' := by
 go_enter Tryz.func27, Tryz.ntmps27
 go_wp2
 go_ret
 exact ⟨rfl, rfl⟩
theorem f27_7 (w : World) : Calls Tryz.prog 27 #[.int .i64 7] w fun e w' => e = .returned (.int .i64 2) ∧ w = w' := by
 go_enter Tryz.func27, Tryz.ntmps27
 go_wp2
 go_ret
 exact ⟨rfl, rfl⟩
theorem f27_8 (w : World) : Calls Tryz.prog 27 #[.int .i64 8] w fun e w' => e = .returned (.int .i64 2) ∧ w = w' := by
 go_enter Tryz.func27, Tryz.ntmps27
 go_wp2
 go_ret
 exact ⟨rfl, rfl⟩
theorem f27_9 (w : World) : Calls Tryz.prog 27 #[.int .i64 9] w fun e w' => e = .returned (.int .i64 2) ∧ w = w' := by
 go_enter Tryz.func27, Tryz.ntmps27
 go_wp2
 go_ret
 exact ⟨rfl, rfl⟩
theorem f27_10 (w : World) : Calls Tryz.prog 27 #[.int .i64 10] w fun e w' => e = .returned (.int .i64 3) ∧ w = w' := by
 go_enter Tryz.func27, Tryz.ntmps27
 go_wp2
 go_ret
 exact ⟨rfl, rfl⟩
theorem f27_11 (w : World) : Calls Tryz.prog 27 #[.int .i64 11] w fun e w' => e = .returned (.int .i64 2) ∧ w = w' := by
 go_enter Tryz.func27, Tryz.ntmps27
 go_wp2
 go_ret
 exact ⟨rfl, rfl⟩
theorem f27_12 (w : World) : Calls Tryz.prog 27 #[.int .i64 12] w fun e w' => e = .returned (.int .i64 4) ∧ w = w' := by
 go_enter Tryz.func27, Tryz.ntmps27
 go_wp2
 go_ret
 exact ⟨rfl, rfl⟩
theorem f27_13 (w : World) : Calls Tryz.prog 27 #[.int .i64 13] w fun e w' => e = .returned (.int .i64 1) ∧ w = w' := by
 go_enter Tryz.func27, Tryz.ntmps27
 go_wp2
 go_ret
 exact ⟨rfl, rfl⟩
theorem f27_14 (w : World) : Calls Tryz.prog 27 #[.int .i64 14] w fun e w' => e = .returned (.int .i64 (-1)) ∧ w = w' := by
 go_enter Tryz.func27, Tryz.ntmps27
 go_wp2
 go_ret
 exact ⟨rfl, rfl⟩
theorem f27_15 (w : World) : Calls Tryz.prog 27 #[.int .i64 15] w fun e w' => e = .returned (.int .i64 (-1)) ∧ w = w' := by
 go_enter Tryz.func27, Tryz.ntmps27
 go_wp2
 go_ret
 exact ⟨rfl, rfl⟩
theorem f27_16 (w : World) : Calls Tryz.prog 27 #[.int .i64 16] w fun e w' => e = .returned (.int .i64 (-1)) ∧ w = w' := by
 go_enter Tryz.func27, Tryz.ntmps27
 go_wp2
 go_ret
 exact ⟨rfl, rfl⟩
theorem f27_17 (w : World) : Calls Tryz.prog 27 #[.int .i64 17] w fun e w' => e = .returned (.int .i64 (-1)) ∧ w = w' := by
 go_enter Tryz.func27, Tryz.ntmps27
 go_wp2
 go_ret
 exact ⟨rfl, rfl⟩
theorem f27_18 (w : World) : Calls Tryz.prog 27 #[.int .i64 18] w fun e w' => e = .returned (.int .i64 1) ∧ w = w' := by
 go_enter Tryz.func27, Tryz.ntmps27
 go_wp2
 go_ret
 exact ⟨rfl, rfl⟩
theorem f27_19 (w : World) : Calls Tryz.prog 27 #[.int .i64 19] w fun e w' => e = .returned (.int .i64 (-1)) ∧ w = w' := by
 go_enter Tryz.func27, Tryz.ntmps27
 go_wp2
 go_ret
 exact ⟨rfl, rfl⟩
theorem f27_20 (w : World) : Calls Tryz.prog 27 #[.int .i64 20] w fun e w' => e = .returned (.int .i64 (-1)) ∧ w = w' := by
 go_enter Tryz.func27, Tryz.ntmps27
 go_wp2
 go_ret
 exact ⟨rfl, rfl⟩
theorem f27_21 (w : World) : Calls Tryz.prog 27 #[.int .i64 21] w fun e w' => e = .returned (.int .i64 (-1)) ∧ w = w' := by
 go_enter Tryz.func27, Tryz.ntmps27
 go_wp2
 go_ret
 exact ⟨rfl, rfl⟩
theorem f27_22 (w : World) : Calls Tryz.prog 27 #[.int .i64 22] w fun e w' => e = .returned (.int .i64 (-1)) ∧ w = w' := by
 go_enter Tryz.func27, Tryz.ntmps27
 go_wp2
 go_ret
 exact ⟨rfl, rfl⟩
theorem f27_23 (w : World) : Calls Tryz.prog 27 #[.int .i64 23] w fun e w' => e = .returned (.int .i64 1) ∧ w = w' := by
 go_enter Tryz.func27, Tryz.ntmps27
 go_wp2
 go_ret
 exact ⟨rfl, rfl⟩
def partsOf (k : Int) : Int := if k = 0 then 1 else if k = 1 then 2 else if k = 2 then 2 else if k = 3 then 0 else if k = 4 then 1 else if k = 5 then 2 else if k = 6 then 1 else if k = 7 then 1 else if k = 8 then 0 else if k = 9 then 0 else if k = 10 then 0 else if k = 11 then 0 else -1
def kidsOf (k : Int) : Int := if k = 1 then 0 else if k = 2 then 0 else if k = 6 then 1 else if k = 7 then 2 else if k = 8 then 2 else if k = 9 then 2 else if k = 10 then 3 else if k = 11 then 2 else if k = 12 then 4 else if k = 13 then 1 else if k = 18 then 1 else if k = 23 then 1 else -1
theorem f17_any (k : Int) (w : World) : Calls Tryz.prog 17 #[.int .i64 k] w fun e w' => e = .returned (.int .i64 (partsOf k)) ∧ w = w' := by
 by_cases h0 : k = 0
 ·subst h0; exact f17_0 w
 by_cases h1 : k = 1
 ·subst h1; exact f17_1 w
 by_cases h2 : k = 2
 ·subst h2; exact f17_2 w
 by_cases h3 : k = 3
 ·subst h3; exact f17_3 w
 by_cases h4 : k = 4
 ·subst h4; exact f17_4 w
 by_cases h5 : k = 5
 ·subst h5; exact f17_5 w
 by_cases h6 : k = 6
 ·subst h6; exact f17_6 w
 by_cases h7 : k = 7
 ·subst h7; exact f17_7 w
 by_cases h8 : k = 8
 ·subst h8; exact f17_8 w
 by_cases h9 : k = 9
 ·subst h9; exact f17_9 w
 by_cases h10 : k = 10
 ·subst h10; exact f17_10 w
 by_cases h11 : k = 11
 ·subst h11; exact f17_11 w
 have b0 : (k == 0) = false := by simpa using h0
 have b1 : (k == 1) = false := by simpa using h1
 have b2 : (k == 2) = false := by simpa using h2
 have b3 : (k == 3) = false := by simpa using h3
 have b4 : (k == 4) = false := by simpa using h4
 have b5 : (k == 5) = false := by simpa using h5
 have b6 : (k == 6) = false := by simpa using h6
 have b7 : (k == 7) = false := by simpa using h7
 have b8 : (k == 8) = false := by simpa using h8
 have b9 : (k == 9) = false := by simpa using h9
 have b10 : (k == 10) = false := by simpa using h10
 have b11 : (k == 11) = false := by simpa using h11
 have HP : Hid (partsOf k = -1) := Lib.hid (by unfold partsOf; rw [if_neg h0, if_neg h1, if_neg h2, if_neg h3, if_neg h4, if_neg h5, if_neg h6, if_neg h7, if_neg h8, if_neg h9, if_neg h10, if_neg h11])
 clear h0 h1 h2 h3 h4 h5 h6 h7 h8 h9 h10 h11
 go_enter Tryz.func17, Tryz.ntmps17
 go_wp2
 go_ret
 exact ⟨by rw [HP.out]; rfl, rfl⟩
theorem f27_any (k : Int) (w : World) : Calls Tryz.prog 27 #[.int .i64 k] w fun e w' => e = .returned (.int .i64 (kidsOf k)) ∧ w = w' := by
 by_cases h1 : k = 1
 ·subst h1; exact f27_1 w
 by_cases h2 : k = 2
 ·subst h2; exact f27_2 w
 by_cases h6 : k = 6
 ·subst h6; exact f27_6 w
 by_cases h7 : k = 7
 ·subst h7; exact f27_7 w
 by_cases h8 : k = 8
 ·subst h8; exact f27_8 w
 by_cases h9 : k = 9
 ·subst h9; exact f27_9 w
 by_cases h10 : k = 10
 ·subst h10; exact f27_10 w
 by_cases h11 : k = 11
 ·subst h11; exact f27_11 w
 by_cases h12 : k = 12
 ·subst h12; exact f27_12 w
 by_cases h13 : k = 13
 ·subst h13; exact f27_13 w
 by_cases h18 : k = 18
 ·subst h18; exact f27_18 w
 by_cases h23 : k = 23
 ·subst h23; exact f27_23 w
 have b1 : (k == 1) = false := by simpa using h1
 have b2 : (k == 2) = false := by simpa using h2
 have b6 : (k == 6) = false := by simpa using h6
 have b7 : (k == 7) = false := by simpa using h7
 have b8 : (k == 8) = false := by simpa using h8
 have b9 : (k == 9) = false := by simpa using h9
 have b10 : (k == 10) = false := by simpa using h10
 have b11 : (k == 11) = false := by simpa using h11
 have b12 : (k == 12) = false := by simpa using h12
 have b13 : (k == 13) = false := by simpa using h13
 have b18 : (k == 18) = false := by simpa using h18
 have b23 : (k == 23) = false := by simpa using h23
 have HP : Hid (kidsOf k = -1) := Lib.hid (by unfold kidsOf; rw [if_neg h1, if_neg h2, if_neg h6, if_neg h7, if_neg h8, if_neg h9, if_neg h10, if_neg h11, if_neg h12, if_neg h13, if_neg h18, if_neg h23])
 clear h1 h2 h6 h7 h8 h9 h10 h11 h12 h13 h18 h23
 go_enter Tryz.func27, Tryz.ntmps27
 go_wp2
 go_ret
 exact ⟨by rw [HP.out]; rfl, rfl⟩
def Left (w : World) (g : Nat) (n : Int) : Prop := w.heap[g]? = some (.cells #[.int .i64 n] 38 (0, 0))
def tk (n deep : Int) : Bool := decide (1 ≤ n) && decide (deep ≤ 24)
theorem f12_any (g : Nat) (n deep : Int) (h1 : -1000 ≤ n) (h2 : n ≤ 1000) (w : World) (h : Left w g n) : Calls Tryz.prog 12 #[.pointer (some ⟨g, 0, none⟩), .int .i64 deep] w fun e w' => e = .returned (.bool (tk n deep)) ∧ w' = w.setCell ⟨g, 0, none⟩ (.int .i64 (n - 1)) := by
 have c0 : w.cell? ⟨g, 0, none⟩ = some (.int .i64 n) := by simp [World.cell?, show w.heap[g]? = _ from h]
 have f0 : ∀ i, w.frozen? ⟨g, i, none⟩ = false := fun i => by simp [World.frozen?, show w.heap[g]? = _ from h]
 clear h
 by_cases h3 : 1 ≤ n
 ·have h4 : 0 ≤ n - 1 := by omega
  have HE : Hid (tk n deep = decide (deep ≤ 24)) := Lib.hid (by unfold tk; simp [h3])
  go_enter Tryz.func12, Tryz.ntmps12
  go_wp2
  go_ret
  exact ⟨by rw [HE.out]; rfl, rfl⟩
 ·have h4 : ¬ 0 ≤ n - 1 := by omega
  have HE : Hid (tk n deep = false) := Lib.hid (by unfold tk; simp; omega)
  go_enter Tryz.func12, Tryz.ntmps12
  go_wp2
  go_ret
  exact ⟨by rw [HE.out]; rfl, rfl⟩
end Go.Proofs.YtabeokminikfdaaGreat
namespace Go.Proofs.YtabeokminikfdaaGreat
open Go.RowKit
def SlAt (w : World) (k : Nat) (v : Value) (n : Nat) (P : Nat → Array Value → Prop) : Prop :=
 ∃ a c, v = .slice a n c ∧ n ≤ c ∧ c ≤ maxLen ∧ (0 < n → ∃ g off, a = some ⟨g, off, none⟩ ∧ ∀ i, i < n → ∃ cs : Array Value, cs.size = k ∧ (∀ j, j < k → w.cell? ⟨g, off + i * k + j, none⟩ = cs[j]?) ∧ P i cs)
theorem SlAt.imp {w w' : World} {k : Nat} {v : Value} {n : Nat} {P Q : Nat → Array Value → Prop} (h : SlAt w k v n P) (hb : Below w.heap.size w w') (hPQ : ∀ i cs, i < n → P i cs → Q i cs) : SlAt w' k v n Q := by
 obtain ⟨a, c, hv, h1, h2, h3⟩ := h
 refine ⟨a, c, hv, h1, h2, fun h0 => ?_⟩
 obtain ⟨g, off, ha, hi⟩ := h3 h0
 refine ⟨g, off, ha, fun i hin => ?_⟩
 obtain ⟨cs, hs, hc, hp⟩ := hi i hin
 refine ⟨cs, hs, fun j hj => ?_, hPQ i cs hin hp⟩
 have hcell := hc j hj
 have hsome : cs[j]? = some (cs[j]'(by omega)) := Array.getElem?_eq_getElem (by omega)
 rw [hsome] at hcell
 rw [hsome, ← hcell]
 exact hb.cell (p := ⟨g, off + i * k + j, none⟩) (World.block_lt_of_cell? w _ hcell)
structure EV where
 kind : Int
 op : Int
 text : ByteArray
 vk : Int
 vn : Bool
 vm : Value
 vb : Nat
 vt : ByteArray
 vkids : Value
 kids : Value
 params : Value
def EV.cells (e : EV) : Array Value := #[.int .i64 e.kind, .int .i64 e.op, .string e.text, .int .i64 e.vk, .bool e.vn, e.vm, .int .u64 e.vb, .string e.vt, e.vkids, e.kids, e.params]
def EV.val (e : EV) : Value := .agg e.cells
structure PV where
 kind : Int
 name : ByteArray
 dflt : Value
def PV.cells (p : PV) : Array Value := #[.int .i64 p.kind, .string p.name, p.dflt]
structure SV where
 kind : Int
 op : Int
 text : ByteArray
 names : Value
 exprs : Value
 params : Value
 body : Value
 els : Value
def SV.cells (s : SV) : Array Value := #[.int .i64 s.kind, .int .i64 s.op, .string s.text, s.names, s.exprs, s.params, s.body, s.els]
def SV.val (s : SV) : Value := .agg s.cells
def I64 (x : Int) : Prop := -9223372036854775808 ≤ x ∧ x < 9223372036854775808
def Bytes (w : World) (v : Value) (n : Nat) : Prop := SlAt w 1 v n fun _ cs => ∃ b : Nat, b < 256 ∧ cs = #[.int .u8 b]
def SE : Nat → World → EV → Prop
 | 0, _, _ => False
 | d + 1, w, e => I64 e.kind ∧ I64 e.op ∧ e.text.size ≤ maxLen ∧ I64 e.vk ∧ e.vb < 18446744073709551616 ∧ e.vt.size ≤ maxLen ∧ (∃ n, Bytes w e.vm n) ∧ (∃ a n c, e.vkids = .slice a n c ∧ n ≤ maxLen) ∧
   (∃ n, SlAt w 11 e.kids n fun _ cs => ∃ k : EV, cs = k.cells ∧ SE d w k) ∧
   (∃ n, SlAt w 3 e.params n fun _ cs => ∃ p : PV, cs = p.cells ∧ I64 p.kind ∧ p.name.size ≤ maxLen ∧ ∃ m, SlAt w 11 p.dflt m fun _ cs' => ∃ k : EV, cs' = k.cells ∧ SE d w k)
theorem SE.below : ∀ (d : Nat) {w w' : World} {e : EV}, SE d w e → Below w.heap.size w w' → SE d w' e
 | 0, _, _, _, h, _ => h
 | d + 1, w, w', e, ⟨h1, h2, h3, h4, h5, h6, ⟨n7, h7⟩, h8, ⟨n9, h9⟩, ⟨n10, h10⟩⟩, hb =>
  ⟨h1, h2, h3, h4, h5, h6, ⟨n7, SlAt.imp h7 hb fun _ _ _ h => h⟩, h8, ⟨n9, SlAt.imp h9 hb fun _ _ _ ⟨k, hk, hs⟩ => ⟨k, hk, SE.below d hs hb⟩⟩,
   ⟨n10, SlAt.imp h10 hb fun _ _ _ ⟨p, hp, g1, g2, m, g3⟩ => ⟨p, hp, g1, g2, m, SlAt.imp g3 hb fun _ _ _ ⟨k, hk, hs⟩ => ⟨k, hk, SE.below d hs hb⟩⟩⟩⟩
def SEs (d : Nat) (w : World) (v : Value) (n : Nat) : Prop := SlAt w 11 v n fun _ cs => ∃ k : EV, cs = k.cells ∧ SE d w k
def SPs (d : Nat) (w : World) (v : Value) (n : Nat) : Prop := SlAt w 3 v n fun _ cs => ∃ p : PV, cs = p.cells ∧ I64 p.kind ∧ p.name.size ≤ maxLen ∧ ∃ m, SEs d w p.dflt m
def SS : Nat → World → SV → Prop
 | 0, _, _ => False
 | d + 1, w, s => I64 s.kind ∧ I64 s.op ∧ s.text.size ≤ maxLen ∧ (∃ l, Strs w s.names l ∧ l.length ≤ maxLen) ∧ (∃ n, SEs d w s.exprs n) ∧ (∃ n, SPs d w s.params n) ∧
   (∃ n, SlAt w 8 s.body n fun _ cs => ∃ k : SV, cs = k.cells ∧ SS d w k) ∧ (∃ n, SlAt w 8 s.els n fun _ cs => ∃ k : SV, cs = k.cells ∧ SS d w k)
def SSs (d : Nat) (w : World) (v : Value) (n : Nat) : Prop := SlAt w 8 v n fun _ cs => ∃ k : SV, cs = k.cells ∧ SS d w k
theorem SEs.below {d n : Nat} {w w' : World} {v : Value} (h : SEs d w v n) (hb : Below w.heap.size w w') : SEs d w' v n := SlAt.imp h hb fun _ _ _ ⟨k, hk, hs⟩ => ⟨k, hk, SE.below d hs hb⟩
theorem SPs.below {d n : Nat} {w w' : World} {v : Value} (h : SPs d w v n) (hb : Below w.heap.size w w') : SPs d w' v n := SlAt.imp h hb fun _ _ _ ⟨p, hp, g1, g2, m, g3⟩ => ⟨p, hp, g1, g2, m, g3.below hb⟩
theorem Strs.below {w w' : World} {v : Value} {l : List ByteArray} (h : Strs w v l) (hb : Below w.heap.size w w') : Strs w' v l := by
 rcases h with h | ⟨h0, g, off, c, hv, hc, hi⟩
 ·exact .inl h
 ·exact .inr ⟨h0, g, off, c, hv, hc, fun i hin => (hb.cell (p := ⟨g, off + i, none⟩) (World.block_lt_of_cell? w _ (hi i hin))).trans (hi i hin)⟩
theorem SS.below : ∀ (d : Nat) {w w' : World} {s : SV}, SS d w s → Below w.heap.size w w' → SS d w' s
 | 0, _, _, _, h, _ => h
 | d + 1, w, w', s, ⟨h1, h2, h3, ⟨l, h4, h4'⟩, ⟨n5, h5⟩, ⟨n6, h6⟩, ⟨n7, h7⟩, ⟨n8, h8⟩⟩, hb =>
  ⟨h1, h2, h3, ⟨l, h4.below hb, h4'⟩, ⟨n5, h5.below hb⟩, ⟨n6, h6.below hb⟩, ⟨n7, SlAt.imp h7 hb fun _ _ _ ⟨k, hk, hs⟩ => ⟨k, hk, SS.below d hs hb⟩⟩, ⟨n8, SlAt.imp h8 hb fun _ _ _ ⟨k, hk, hs⟩ => ⟨k, hk, SS.below d hs hb⟩⟩⟩
theorem SSs.below {d n : Nat} {w w' : World} {v : Value} (h : SSs d w v n) (hb : Below w.heap.size w w') : SSs d w' v n := SlAt.imp h hb fun _ _ _ ⟨k, hk, hs⟩ => ⟨k, hk, SS.below d hs hb⟩
end Go.Proofs.YtabeokminikfdaaGreat
