import Derived.Test.YtabeokminikfdaaGreatQB1
import Derived.Test.YtabeokminikfdaaGreatQA3
import Derived.Test.YtabeokminikfdaaGreatQA1
import Derived.Deep.RegionLaw
import Derived.Deep.AppendLies
set_option linter.all false
set_option maxRecDepth 100000
set_option maxHeartbeats 4000000
namespace Go.Proofs.YtabeokminikfdaaGreat
open Go.RowKit
def MkAt (w : World) (gm : Nat) (nm : ByteArray) (c l : Int) (vi vf : Value) : Prop := w.heap[gm]? = some (.cells #[.string nm, .int .i32 c, .int .i32 l, vi, vf, .bool false] 71 (0, 0))
def Row1 (w : World) (base : Nat) (T : TypeId) (v : Value) (N : Nat) : Prop := ∃ n xs, n ≤ N ∧ w.ownsRow base T 1 v n xs
structure Mk (W : World) (gm : Nat) (nm : ByteArray) (vi vf : Value) (N : Nat) (w : World) : Prop where
 obj : ∃ c l, MkAt w gm nm c l vi vf
 ri : Row1 w W.heap.size 53 vi N
 rf : Row1 w W.heap.size 52 vf N
 ni : vi.ownBlock ≠ some gm
 nf : vf.ownBlock ≠ some gm
 apart : ∀ b, vi.ownBlock = some b → vf.ownBlock ≠ some b
 low : W.heap.size ≤ gm
 bel : Below W.heap.size W w
def Safe (gm : Nat) (vi vf : Value) (w : World) (k : Nat) : Prop := k < w.heap.size ∧ k ≠ gm ∧ vi.ownBlock ≠ some k ∧ vf.ownBlock ≠ some k
structure Stp (gm : Nat) (vi vf : Value) (w : World) (vi' vf' : Value) (w' : World) : Prop where
 keep : ∀ k, Safe gm vi vf w k → Safe gm vi' vf' w' k ∧ w'.heap[k]? = w.heap[k]?
 size : w.heap.size ≤ w'.heap.size
theorem Stp.refl (gm : Nat) (vi vf : Value) (w : World) : Stp gm vi vf w vi vf w := ⟨fun _ h => ⟨h, rfl⟩, Nat.le_refl _⟩
theorem Stp.trans {gm : Nat} {vi vf vi1 vf1 vi2 vf2 : Value} {w w1 w2 : World} (h : Stp gm vi vf w vi1 vf1 w1) (h' : Stp gm vi1 vf1 w1 vi2 vf2 w2) : Stp gm vi vf w vi2 vf2 w2 :=
 ⟨fun k hk => by
  obtain ⟨a, b⟩ := h.keep k hk
  obtain ⟨a', b'⟩ := h'.keep k a
  exact ⟨a', b'.trans b⟩, Nat.le_trans h.size h'.size⟩
theorem Stp.of_below {gm : Nat} {vi vf : Value} {w w' : World} (hb : Below w.heap.size w w') : Stp gm vi vf w vi vf w' :=
 ⟨fun k ⟨h1, h2, h3, h4⟩ => ⟨⟨Nat.lt_of_lt_of_le h1 hb.size, h2, h3, h4⟩, hb.block k h1⟩, hb.size⟩
theorem Mk.after {W : World} {gm : Nat} {nm : ByteArray} {vi vf : Value} {N : Nat} {w w' : World} (h : Mk W gm nm vi vf N w) (hb : Below w.heap.size w w') : Mk W gm nm vi vf N w' := by
 obtain ⟨c, l, ho⟩ := h.obj
 obtain ⟨n1, x1, l1, r1⟩ := h.ri
 obtain ⟨n2, x2, l2, r2⟩ := h.rf
 exact ⟨⟨c, l, (hb.block gm (Array.getElem?_eq_some_iff.1 ho).1).trans ho⟩, ⟨n1, x1, l1, own_below r1 hb⟩, ⟨n2, x2, l2, own_below r2 hb⟩, h.ni, h.nf, h.apart, h.low, h.bel.trans (hb.mono h.bel.size)⟩
theorem Mk.lt {W : World} {gm : Nat} {nm : ByteArray} {vi vf : Value} {N : Nat} {w : World} (h : Mk W gm nm vi vf N w) : gm < w.heap.size := by
 obtain ⟨c, l, ho⟩ := h.obj
 exact (Array.getElem?_eq_some_iff.1 ho).1
theorem Mk.more {W : World} {gm : Nat} {nm : ByteArray} {vi vf : Value} {N N' : Nat} {w : World} (h : Mk W gm nm vi vf N w) (hN : N ≤ N') : Mk W gm nm vi vf N' w := by
 obtain ⟨n1, x1, l1, r1⟩ := h.ri
 obtain ⟨n2, x2, l2, r2⟩ := h.rf
 exact ⟨h.obj, ⟨n1, x1, Nat.le_trans l1 hN, r1⟩, ⟨n2, x2, Nat.le_trans l2 hN, r2⟩, h.ni, h.nf, h.apart, h.low, h.bel⟩
theorem MkAt.cells {w : World} {gm : Nat} {nm : ByteArray} {c l : Int} {vi vf : Value} (h : MkAt w gm nm c l vi vf) :
  w.cell? ⟨gm, 0, none⟩ = some (.string nm) ∧ w.cell? ⟨gm, 1, none⟩ = some (.int .i32 c) ∧ w.cell? ⟨gm, 2, none⟩ = some (.int .i32 l) ∧ w.cell? ⟨gm, 3, none⟩ = some vi ∧ w.cell? ⟨gm, 4, none⟩ = some vf ∧ w.cell? ⟨gm, 5, none⟩ = some (.bool false) ∧ ∀ i, w.frozen? ⟨gm, i, none⟩ = false := by
 unfold MkAt at h
 refine ⟨?_, ?_, ?_, ?_, ?_, ?_, fun i => ?_⟩ <;> simp [World.cell?, World.frozen?, h]
theorem MkAt.set1 {w : World} {gm : Nat} {nm : ByteArray} {c l : Int} {vi vf : Value} (h : MkAt w gm nm c l vi vf) (x : Int) : MkAt (w.setCell ⟨gm, 1, none⟩ (.int .i32 x)) gm nm x l vi vf := Joins.block_setCell h (i := 1) _
theorem MkAt.set2 {w : World} {gm : Nat} {nm : ByteArray} {c l : Int} {vi vf : Value} (h : MkAt w gm nm c l vi vf) (x : Int) : MkAt (w.setCell ⟨gm, 2, none⟩ (.int .i32 x)) gm nm c x vi vf := Joins.block_setCell h (i := 2) _
theorem MkAt.set3 {w : World} {gm : Nat} {nm : ByteArray} {c l : Int} {vi vf : Value} (h : MkAt w gm nm c l vi vf) (x : Value) : MkAt (w.setCell ⟨gm, 3, none⟩ x) gm nm c l x vf := Joins.block_setCell h (i := 3) _
theorem MkAt.set4 {w : World} {gm : Nat} {nm : ByteArray} {c l : Int} {vi vf : Value} (h : MkAt w gm nm c l vi vf) (x : Value) : MkAt (w.setCell ⟨gm, 4, none⟩ x) gm nm c l vi x := Joins.block_setCell h (i := 4) _
theorem MkAt.set5 {w : World} {gm : Nat} {nm : ByteArray} {c l : Int} {vi vf : Value} (h : MkAt w gm nm c l vi vf) : MkAt (w.setCell ⟨gm, 5, none⟩ (.bool false)) gm nm c l vi vf := Joins.block_setCell h (i := 5) _
theorem Stp.set {gm : Nat} {vi vf : Value} {w : World} (i : Nat) (u : Value) : Stp gm vi vf w vi vf (w.setCell ⟨gm, i, none⟩ u) :=
 ⟨fun k ⟨h1, h2, h3, h4⟩ => ⟨⟨by simpa [World.setCell] using h1, h2, h3, h4⟩, Below.heap_setCell w ⟨gm, i, none⟩ u k h2⟩, by simp [World.setCell]⟩
theorem own_at {w : World} {base : Nat} {e : TypeId} {size : Nat} {v : Value} {n : Nat} {xs : List Value} (h : w.ownsRow base e size v n xs) {a : Addr} (ha : v.ownBlock ≠ some a.block) (u : Value) : (w.setCell a u).ownsRow base e size v n xs := by
 refine ⟨h.1, ?_⟩
 rcases h.2 with h2 | ⟨g, cap, cur, rfl, q, r, t⟩
 ·exact .inl h2
 ·exact .inr ⟨g, cap, cur, rfl, q, by rw [Below.heap_setCell w a u g (fun e => ha (by rw [← e]; rfl))]; exact r, t⟩
theorem Row1.at {w : World} {base : Nat} {T : TypeId} {v : Value} {N : Nat} (h : Row1 w base T v N) {a : Addr} (ha : v.ownBlock ≠ some a.block) (u : Value) : Row1 (w.setCell a u) base T v N := by
 obtain ⟨n, xs, hn, hr⟩ := h
 exact ⟨n, xs, hn, own_at hr ha u⟩
theorem Mk.set {W : World} {gm : Nat} {nm : ByteArray} {vi vf : Value} {N : Nat} {w : World} (h : Mk W gm nm vi vf N w) (i : Nat) (u : Value) (ho : ∃ c l, MkAt (w.setCell ⟨gm, i, none⟩ u) gm nm c l vi vf) : Mk W gm nm vi vf N (w.setCell ⟨gm, i, none⟩ u) :=
 ⟨ho, h.ri.at (a := ⟨gm, i, none⟩) h.ni u, h.rf.at (a := ⟨gm, i, none⟩) h.nf u, h.ni, h.nf, h.apart, h.low, h.bel.setCell (show W.heap.size ≤ (⟨gm, i, none⟩ : Addr).block from h.low) u⟩
def New (b gm : Nat) (vi vf : Value) (w : World) (k : Nat) : Prop := b ≤ k ∧ Safe gm vi vf w k
theorem New.step {b b' gm : Nat} {vi vf vi' vf' : Value} {w w' : World} (h : Stp gm vi vf w vi' vf' w') (hb : b' ≤ b) (k : Nat) (hk : New b gm vi vf w k) : New b' gm vi' vf' w' k ∧ w'.heap[k]? = w.heap[k]? :=
 ⟨⟨Nat.le_trans hb hk.1, (h.keep k hk.2).1⟩, (h.keep k hk.2).2⟩
theorem Nd.step {b b' gm : Nat} {vi vf vi' vf' : Value} {w w' : World} {v : Value} {t : Tr} (hd : Nd (Sees w (New b gm vi vf w)) v t) (h : Stp gm vi vf w vi' vf' w') (hb : b' ≤ b) : Nd (Sees w' (New b' gm vi' vf' w')) v t :=
 hd.mono (Sees.mono (fun k hk => (New.step h hb k hk).1) fun k hk => (New.step h hb k hk).2)
theorem Nds.step {b b' gm : Nat} {vi vf vi' vf' : Value} {w w' : World} {T : TypeId} {a : Option Addr} {ts : List Tr} (hd : Nds (Sees w (New b gm vi vf w)) T a ts) (h : Stp gm vi vf w vi' vf' w') (hb : b' ≤ b) : Nds (Sees w' (New b' gm vi' vf' w')) T a ts :=
 hd.mono (Sees.mono (fun k hk => (New.step h hb k hk).1) fun k hk => (New.step h hb k hk).2)
def Made (W : World) (gm : Nat) (nm : ByteArray) (N : Nat) (vi vf : Value) (w : World) (Q : (Addr → Value → Prop) → Value → Prop) (e : Ending) (w' : World) : Prop :=
 ∃ v vi' vf', e = .returned v ∧ Mk W gm nm vi' vf' N w' ∧ Stp gm vi vf w vi' vf' w' ∧ Q (Sees w' (New w.heap.size gm vi' vf' w')) v
def RowQ (T : TypeId) (ts : List Tr) (R : Addr → Value → Prop) (v : Value) : Prop := ∃ a n c, v = .slice a n c ∧ n = ts.length ∧ n ≤ c ∧ c ≤ 9223372036854775807 ∧ Nds R T a ts
theorem RowQ.mono {T : TypeId} {ts : List Tr} {R R' : Addr → Value → Prop} {v : Value} (h : RowQ T ts R v) (hR : ∀ a v, R a v → R' a v) : RowQ T ts R' v := by
 obtain ⟨a, n, c, h1, h2, h3, h4, h5⟩ := h
 exact ⟨a, n, c, h1, h2, h3, h4, h5.mono hR⟩
def MakeE (W : World) (gm : Nat) (nm : ByteArray) (X : EV → Tr → Prop) : Prop := ∀ (e : EV) (t : Tr) (N : Nat) (vi vf : Value) (w : World), X e t → Mk W gm nm vi vf N w → N + t.size ≤ 1000000 →
 Calls Tryz.prog 43 #[.pointer (some ⟨gm, 0, none⟩), e.val] w (Made W gm nm (N + t.size) vi vf w fun R v => Nd R v t)
theorem Stp.cell {gm : Nat} {vi vf vi' vf' : Value} {w w' : World} (h : Stp gm vi vf w vi' vf' w') {a : Addr} (ha : Safe gm vi vf w a.block) : w'.cell? a = w.cell? a := World.cell?_of_block (w := w) (a := a) (h.keep _ ha).2
theorem Stp.frozen {gm : Nat} {vi vf vi' vf' : Value} {w w' : World} (h : Stp gm vi vf w vi' vf' w') {a : Addr} (ha : Safe gm vi vf w a.block) : w'.frozen? a = w.frozen? a := World.frozen?_of_block (w := w) (a := a) (h.keep _ ha).2
theorem row1_lt {w : World} {base : Nat} {T : TypeId} {v : Value} {N b : Nat} (h : Row1 w base T v N) (hb : v.ownBlock = some b) : base ≤ b ∧ b < w.heap.size := by
 obtain ⟨n, xs, _, hr⟩ := h
 exact hr.lt b hb
theorem Mk.safe_new {W : World} {gm : Nat} {nm : ByteArray} {vi vf : Value} {N : Nat} {w w' : World} {k : Nat} (h : Mk W gm nm vi vf N w) (h1 : w.heap.size ≤ k) (h2 : k < w'.heap.size) : Safe gm vi vf w' k :=
 ⟨h2, by have := h.lt; omega, fun e => by have := (row1_lt h.ri e).2; omega, fun e => by have := (row1_lt h.rf e).2; omega⟩
end Go.Proofs.YtabeokminikfdaaGreat
namespace Go.Proofs.YtabeokminikfdaaGreat
open Go.RowKit
theorem f39_any (p : Value) (a b : Int) (gm : Nat) (hp : p = .pointer (some ⟨gm, 0, none⟩)) (w : World) : Calls Tryz.prog 39 #[p, .int .i32 a, .int .i32 b] w fun e w' => e = .returned (.agg #[p, .int .i32 a, .int .i32 b]) ∧ Below w.heap.size w w' := by
 subst hp
 go_enter Tryz.func39, Tryz.ntmps39
 go_wp2
 refine bodyPost_ret (v := .agg #[.pointer (some ⟨gm, 0, none⟩), .int .i32 a, .int .i32 b]) (by simp [results, Tryz.results39, go_sem]) rfl ⟨rfl, ?_⟩
 exact (Below.refl _ _).alloc (Nat.le_refl _) _
def PosAt (gm : Nat) (w : World) (e : Ending) (w' : World) : Prop := ∃ l, e = .returned (.agg #[.pointer (some ⟨gm, 0, none⟩), .int .i32 l, .int .i32 1]) ∧ Below w.heap.size w w'
theorem f33_any (gm : Nat) (nm : ByteArray) (c l : Int) (vi vf : Value) (w : World) (h : MkAt w gm nm c l vi vf) : Calls Tryz.prog 33 #[.pointer (some ⟨gm, 0, none⟩)] w (PosAt gm w) := by
 obtain ⟨c0, c1, c2, c3, c4, c5, c6⟩ := h.cells
 have hlt : gm < w.heap.size := (Array.getElem?_eq_some_iff.1 h).1
 clear h c0 c1 c3 c4 c5
 go_enter Tryz.func33, Tryz.ntmps33
 go_wp2
 go_region_with ((go_at_call 39; refine (f39_any _ _ _ gm rfl _).mono ?_; rintro e w' ⟨rfl, hb⟩; obtain ⟨hc, hf⟩ := bcell hb))
 have hA : Below w.heap.size w (w.alloc (.cells #[.pointer none, .int .i32 0, .int .i32 0] 60)).drew := bel_same ((Below.refl _ w).alloc (Nat.le_refl _) (.cells #[.pointer none, .int .i32 0, .int .i32 0] 60)) ⟨rfl, rfl, rfl, rfl⟩
 have hB : Below w.heap.size w w' := hA.trans (hb.mono hA.size)
 have hz : w.heap.size < w'.heap.size := by have := hb.size; simp at this; omega
 have d0 : ∃ u, w'.cell? ⟨w.heap.size, 0, none⟩ = some u := ⟨_, (hc w.heap.size 0 (by simp)).trans (by simp [go_sem]; rfl)⟩
 have d1 : ∃ u, w'.cell? ⟨w.heap.size, 1, none⟩ = some u := ⟨_, (hc w.heap.size 1 (by simp)).trans (by simp [go_sem]; rfl)⟩
 have d2 : ∃ u, w'.cell? ⟨w.heap.size, 2, none⟩ = some u := ⟨_, (hc w.heap.size 2 (by simp)).trans (by simp [go_sem]; rfl)⟩
 obtain ⟨u0, d0⟩ := d0
 obtain ⟨u1, d1⟩ := d1
 obtain ⟨u2, d2⟩ := d2
 clear hc hf hb
 go_wp2
 refine bodyPost_ret (v := .agg #[.pointer (some ⟨gm, 0, none⟩), .int .i32 l, .int .i32 1]) (by simp [results, Tryz.results33, go_sem, d0, d1, d2]) rfl ⟨l, rfl, ?_⟩
 exact ((hB.setCell (Nat.le_refl _) _).setCell (Nat.le_refl _) _).setCell (Nat.le_refl _) _
theorem f34_yes (gm : Nat) (nm : ByteArray) (c l : Int) (vi vf : Value) (w : World) (h : MkAt w gm nm c l vi vf) : Calls Tryz.prog 34 #[.pointer (some ⟨gm, 0, none⟩), .bool true] w fun e w' => e = .returned (.bool true) ∧ w' = w.setCell ⟨gm, 5, none⟩ (.bool false) := by
 obtain ⟨c0, c1, c2, c3, c4, c5, c6⟩ := h.cells
 clear h c0 c1 c2 c3 c4
 go_enter Tryz.func34, Tryz.ntmps34
 go_wp2
 go_ret
 exact ⟨rfl, rfl⟩
def Goes (W : World) (gm : Nat) (nm : ByteArray) (vi vf : Value) (N : Nat) (w w' : World) : Prop := Mk W gm nm vi vf N w' ∧ Stp gm vi vf w vi vf w'
theorem f34_mk (W : World) (gm : Nat) (nm : ByteArray) (vi vf : Value) (N : Nat) (w : World) (h : Mk W gm nm vi vf N w) : Calls Tryz.prog 34 #[.pointer (some ⟨gm, 0, none⟩), .bool true] w fun e w' => e = .returned (.bool true) ∧ Goes W gm nm vi vf N w w' := by
 obtain ⟨c, l, ho⟩ := h.obj
 refine (f34_yes gm nm c l vi vf w ho).mono ?_
 rintro e w' ⟨rfl, rfl⟩
 exact ⟨rfl, h.set 5 _ ⟨c, l, ho.set5⟩, Stp.set 5 _⟩
def PosOf (gm : Nat) (w : World) (e : Ending) (w' : World) : Prop := ∃ l, e = .returned (.agg #[.pointer (some ⟨gm, 0, none⟩), .int .i32 l, .int .i32 1]) ∧ Below w.heap.size w w'
theorem f33_mk (W : World) (gm : Nat) (nm : ByteArray) (vi vf : Value) (N : Nat) (w : World) (h : Mk W gm nm vi vf N w) : Calls Tryz.prog 33 #[.pointer (some ⟨gm, 0, none⟩)] w (PosOf gm w) := by
 obtain ⟨c, l, ho⟩ := h.obj
 exact f33_any gm nm c l vi vf w ho
theorem Row1.more {w : World} {base : Nat} {T : TypeId} {v : Value} {N N' : Nat} (h : Row1 w base T v N) (hN : N ≤ N') : Row1 w base T v N' := by
 obtain ⟨n, xs, hn, hr⟩ := h
 exact ⟨n, xs, Nat.le_trans hn hN, hr⟩
theorem Mk.named {W : World} {gm : Nat} {nm : ByteArray} {vi vf vi' : Value} {N n : Nat} {ys : List Value} {w w2 : World} {c l : Int} (h : Mk W gm nm vi vf N w) (ho : MkAt w gm nm c l vi vf) (hn : n ≤ N) (hr : w2.ownsRow W.heap.size 53 1 vi' (n + 1) ys) (hg : w.grownBy w2 vi.ownBlock) (hb : BlockOf w vi vi') :
  Mk W gm nm vi' vf (N + 1) (w2.setCell ⟨gm, 3, none⟩ vi') ∧ Stp gm vi vf w vi' vf (w2.setCell ⟨gm, 3, none⟩ vi') := by
 have hlt := h.lt
 have hgm : w2.heap[gm]? = w.heap[gm]? := hg.block gm hlt (fun e => h.ni e.symm)
 have hi' : vi'.ownBlock ≠ some gm := by
  rcases hb with hb | ⟨g, hb, hs⟩
  ·rw [hb]; exact h.ni
  ·rw [hb]; intro e; cases e; omega
 have hap : ∀ b, vi'.ownBlock = some b → vf.ownBlock ≠ some b := fun b hb' e => by
  rcases hb with hb | ⟨g, hb, hs⟩
  ·exact h.apart b (hb ▸ hb') e
  ·have : b = g := by rw [hb] at hb'; cases hb'; rfl
   have := (row1_lt h.rf e).2
   omega
 have hf2 : Row1 w2 W.heap.size 52 vf N := by
  obtain ⟨n2, x2, l2, r2⟩ := h.rf
  refine ⟨n2, x2, l2, r2.1, ?_⟩
  rcases r2.2 with e | ⟨g, cap, cur, rfl, q, r, t⟩
  ·exact .inl e
  ·exact .inr ⟨g, cap, cur, rfl, q, by rw [hg.block g (Array.getElem?_eq_some_iff.1 r).1 (fun e => h.apart g e.symm rfl)]; exact r, t⟩
 have hB2 : Below W.heap.size W w2 := h.bel.grown hg h.bel.size fun b hb => (row1_lt h.ri hb).1
 refine ⟨⟨⟨c, l, ?_⟩, ?_, (hf2.more (Nat.le_succ N)).at (a := ⟨gm, 3, none⟩) h.nf _, hi', h.nf, hap, h.low, hB2.setCell (show W.heap.size ≤ (⟨gm, 3, none⟩ : Addr).block from h.low) _⟩, ?_, ?_⟩
 ·exact (show MkAt w2 gm nm c l vi vf from hgm.trans ho).set3 _
 ·exact ⟨n + 1, ys, by omega, own_at (a := ⟨gm, 3, none⟩) hr hi' _⟩
 ·rintro k ⟨k1, k2, k3, k4⟩
  refine ⟨⟨?_, k2, ?_, k4⟩, (Below.heap_setCell w2 ⟨gm, 3, none⟩ _ k k2).trans (hg.block k k1 (fun e => k3 e.symm))⟩
  ·have := hg.size
   simp [World.setCell]
   omega
  ·rcases hb with hb | ⟨g, hb, hs⟩
   ·rw [hb]; exact k3
   ·rw [hb]; intro e; cases e; omega
 ·have := hg.size
  simp [World.setCell]
  omega
end Go.Proofs.YtabeokminikfdaaGreat
namespace Go.Proofs.YtabeokminikfdaaGreat
open Go.RowKit
theorem sz1 (w : World) (o : Obj) : (w.alloc o).heap.size = w.heap.size + 1 := by simp
theorem lt1 (w : World) (o : Obj) : w.heap.size < (w.alloc o).heap.size := by rw [sz1]; omega
theorem lt2 (w : World) (a b : Obj) : w.heap.size < ((w.alloc a).alloc b).heap.size := by rw [sz1, sz1]; omega
theorem info53 : (Tryz.prog.info? 53).map (fun i => (i.zero, i.size, i.bytes)) = some (some (.pointer none), 1, 8) := by kernel_rfl
theorem info81 : (Tryz.prog.info? 81).map (fun i => (i.zero, i.size, i.bytes)) = some (some .nilIface, 1, 16) := by kernel_rfl
theorem info52 : (Tryz.prog.info? 52).map (fun i => (i.zero, i.size, i.bytes)) = some (some .nilIface, 1, 16) := by kernel_rfl
theorem info169 : (Tryz.prog.info? 169).map (fun i => (i.zero, i.size, i.bytes)) = some (some .nilIface, 1, 16) := by kernel_rfl
theorem f40_mk (W : World) (gm : Nat) (nm s : ByteArray) (vi vf : Value) (N : Nat) (w : World) (h : Mk W gm nm vi vf N w) (hN : N + 1 ≤ 1000000) :
  Calls Tryz.prog 40 #[.pointer (some ⟨gm, 0, none⟩), .string s] w (Made W gm nm (N + 1) vi vf w fun R v => ∃ g, v = .pointer (some ⟨g, 0, none⟩) ∧ Nd R (.iface 53 v) (idt s)) := by
 obtain ⟨i0, hi, hz0, hz1, hz2⟩ := info_parts info53
 have HM := Lib.hid h
 clear h
 go_enter Tryz.func40, Tryz.ntmps40
 go_wp2_with fail
 refine (f33_mk W gm nm vi vf N w HM.out).mono ?_
 rintro e w1 ⟨l0, rfl, hb1⟩
 have HM1 := Lib.hid (HM.out.after hb1)
 have HB1 := Lib.hid hb1
 obtain ⟨c, l, ho⟩ := HM1.out.obj
 obtain ⟨c0, c1, c2, c3, c4, c5, c6⟩ := ho.cells
 have HO := Lib.hid ho
 obtain ⟨ni, xi, hni, hri⟩ := HM1.out.ri
 obtain ⟨VA, VC, rfl⟩ := own_len hri
 have HR := Lib.hid hri
 have HNi := Lib.hid hni
 have hlt := HM1.out.lt
 clear hb1 ho hri hni c0 c1 c2 c4 c5
 have HX : Hid (Below w1.heap.size w1 ((w1.alloc (.cells #[.pointer none, .pointer (some ⟨gm, 0, none⟩), .int .i32 l0, .int .i32 1, .string s, .nilIface] 62)).alloc (.cells #[.pointer (some ⟨w1.heap.size, 0, none⟩)] 53))) := Lib.hid (bA.alloc (by simp) _)
 have HMX := Lib.hid (HM1.out.after HX.out)
 have HOX : Hid (MkAt ((w1.alloc (.cells #[.pointer none, .pointer (some ⟨gm, 0, none⟩), .int .i32 l0, .int .i32 1, .string s, .nilIface] 62)).alloc (.cells #[.pointer (some ⟨w1.heap.size, 0, none⟩)] 53)) gm nm c l (.slice VA ni VC) vf) := Lib.hid ((HX.out.block gm hlt).trans HO.out)
 have HL : Hid (ni + 1 ≤ maxLen ∧ (ni + 1) * 8 ≤ 140737488355328) := Lib.hid (by have := HNi.out; exact ⟨by unfold maxLen; omega, by omega⟩)
 have HRX := Lib.hid (own_below HR.out HX.out)
 have HN : Hid (SrcAt ((w1.alloc (.cells #[.pointer none, .pointer (some ⟨gm, 0, none⟩), .int .i32 l0, .int .i32 1, .string s, .nilIface] 62)).alloc (.cells #[.pointer (some ⟨w1.heap.size, 0, none⟩)] 53)) (.slice (some ⟨w1.heap.size + 1, 0, none⟩) 1 1) 1 [.pointer (some ⟨w1.heap.size, 0, none⟩)]) := Lib.hid (.inr ⟨_, _, rfl, World.news_of_block (by simpa using heap_alloc_new (w1.alloc (.cells #[.pointer none, .pointer (some ⟨gm, 0, none⟩), .int .i32 l0, .int .i32 1, .string s, .nilIface] 62)) (.cells #[.pointer (some ⟨w1.heap.size, 0, none⟩)] 53))⟩)
 have HBX := Lib.hid HMX.out.bel.size
 go_wp2_with (at_builtin; refine wpList_append_blk rfl (.tmp 15) (.tmp 17) 68 rfl W.heap.size 53 i0 (.pointer none) 1 8 Tryz.underlying68 hi hz0 hz1 hz2 rfl (by decide) (.slice VA ni VC) ni xi rfl HRX.out (.slice (some ⟨w1.heap.size + 1, 0, none⟩) 1 1) 1 [.pointer (some ⟨w1.heap.size, 0, none⟩)] rfl HN.out rfl (by intro y hy; obtain rfl := List.mem_singleton.1 hy; rfl) HL.out.1 HL.out.2 HBX.out ?_)
 intro v' w2 ho2 hg2 hv2
 obtain ⟨A2, C2, rfl⟩ := own_len ho2
 have HS := Lib.hid (HMX.out.named HOX.out HNi.out ho2 hg2 hv2)
 have y0 : w2.heap[gm]? = some _ := (hg2.block gm HMX.out.lt (fun e => HMX.out.ni e.symm)).trans HOX.out
 obtain ⟨-, -, -, y3, -, -, y6⟩ := MkAt.cells (w := w2) (gm := gm) y0
 have HG := Lib.hid (hg2.block w1.heap.size (lt2 _ _ _) (fun e => by have := (row1_lt HM1.out.ri e.symm).2; omega))
 clear ho2 hg2 hv2 y0 c3 c6
 go_wp2
 go_ret
 obtain ⟨m1, m2⟩ := HS.out
 have S := (Stp.of_below HB1.out).trans ((Stp.of_below HX.out).trans m2)
 have hsz : w1.heap.size + 2 ≤ w2.heap.size := by have := m2.size; simp [World.setCell] at this; omega
 have hI : (w2.setCell ⟨gm, 3, none⟩ (.slice A2 (ni + 1) C2)).heap[w1.heap.size]? = some (.cells #[.pointer none, .pointer (some ⟨gm, 0, none⟩), .int .i32 l0, .int .i32 1, .string s, .nilIface] 62) := by
  refine (Below.heap_setCell w2 ⟨gm, 3, none⟩ _ w1.heap.size (by show w1.heap.size ≠ gm; omega)).trans (HG.out.trans ?_)
  exact (Below.heap_alloc _ _ w1.heap.size (lt1 _ _)).trans (heap_alloc_new w1 _)
 refine ⟨_, _, vf, rfl, m1, S, w1.heap.size, rfl, .ident w1.heap.size s ⟨⟨HB1.out.size, ?_⟩, ?_⟩⟩
 ·exact (m2.keep w1.heap.size (HM1.out.safe_new (Nat.le_refl _) (lt2 _ _ _))).1
 ·simp [World.cell?, hI]
end Go.Proofs.YtabeokminikfdaaGreat
