import Derived.Test.YtabeokminikfdaaGreatQCe
import Derived.Deep.AppendLies
set_option linter.all false
namespace Go.Proofs.YtabeokminikfdaaGreat
open Go.RowKit
structure Outs (W : World) (gm : Nat) (nm : ByteArray) (N : Nat) (vi0 vf0 vi vf : Value) (w : World) (et : TypeId) (ts : List Tr) (xs : List Value) (vo : Value) (wr : World) : Prop where
 maker : Mk W gm nm vi vf N wr
 st : Stp gm vi0 vf0 w vi vf wr
 row : wr.ownsRow w.heap.size et 1 vo ts.length xs
 el : ∀ i (hi : i < ts.length), ∃ x, xs[i]? = some x ∧ Nd (Sees wr (fun k => New w.heap.size gm vi vf wr k ∧ vo.ownBlock ≠ some k)) x ts[i]
 safe : ∀ g, vo.ownBlock = some g → Safe gm vi vf wr g
theorem Outs.start {W : World} {gm : Nat} {nm : ByteArray} {N : Nat} {vi vf : Value} {w : World} {et : TypeId} (h : Mk W gm nm vi vf N w) : Outs W gm nm N vi vf vi vf w et [] [] (.slice none 0 0) w :=
 ⟨h, Stp.refl .., ⟨rfl, .inl ⟨rfl, rfl⟩⟩, fun i hi => absurd hi (Nat.not_lt_zero i), fun g hg => by cases hg⟩
theorem Mk.grown {W : World} {gm : Nat} {nm : ByteArray} {vi vf : Value} {N : Nat} {w w2 : World} {r : Option Nat} (h : Mk W gm nm vi vf N w) (hg : w.grownBy w2 r) (hr : ∀ g, r = some g → Safe gm vi vf w g ∧ W.heap.size ≤ g) : Mk W gm nm vi vf N w2 := by
 obtain ⟨c, l, ho⟩ := h.obj
 have hrow : ∀ (T : TypeId) (v : Value), Row1 w W.heap.size T v N → (∀ g, v.ownBlock = some g → r ≠ some g) → Row1 w2 W.heap.size T v N := by
  rintro T v ⟨n, xs, hn, hx⟩ hv
  refine ⟨n, xs, hn, hx.1, ?_⟩
  rcases hx.2 with e | ⟨g, cap, cur, rfl, q, rr, t⟩
  ·exact .inl e
  ·exact .inr ⟨g, cap, cur, rfl, q, (hg.block g (Array.getElem?_eq_some_iff.1 rr).1 (fun e => hv g rfl e.symm)).trans rr, t⟩
 exact ⟨⟨c, l, (hg.block gm h.lt (fun e => (hr gm e.symm).1.2.1 rfl)).trans ho⟩, hrow _ _ h.ri fun g hg e => (hr g e).1.2.2.1 hg, hrow _ _ h.rf fun g hg e => (hr g e).1.2.2.2 hg, h.ni, h.nf, h.apart, h.low, h.bel.grown hg h.bel.size fun g hg => (hr g hg).2⟩
theorem Outs.push {W : World} {gm : Nat} {nm : ByteArray} {N N1 : Nat} {vi0 vf0 vi vf vi1 vf1 : Value} {w X w1 w2 wr : World} {et : TypeId} {ts : List Tr} {xs : List Value} {vo vo' v : Value} {t : Tr} {o : Obj} (h : Outs W gm nm N vi0 vf0 vi vf w et ts xs vo wr) (hX : Below wr.heap.size wr X) (hM : Mk W gm nm vi1 vf1 N1 w1) (hS : Stp gm vi vf X vi1 vf1 w1)
  (hd : Nd (Sees w1 (New X.heap.size gm vi1 vf1 w1)) v t) (hr : w2.ownsRow w.heap.size et 1 vo' (ts.length + 1) (xs ++ [v])) (hg : (w1.alloc o).grownBy w2 vo.ownBlock) (hb : BlockOf (w1.alloc o) vo vo') (hW : W.heap.size ≤ w.heap.size) : Outs W gm nm N1 vi0 vf0 vi1 vf1 w et (ts ++ [t]) (xs ++ [v]) vo' w2 := by
 have hA : Below w1.heap.size w1 (w1.alloc o) := (Below.refl _ _).alloc (Nat.le_refl _) _
 have hMA := hM.after hA
 have hwr : Stp gm vi vf wr vi1 vf1 (w1.alloc o) := (Stp.of_below hX).trans (hS.trans (Stp.of_below hA))
 have hsafe : ∀ g, vo.ownBlock = some g → Safe gm vi1 vf1 (w1.alloc o) g ∧ W.heap.size ≤ g := fun g hg => ⟨(hwr.keep g (h.safe g hg)).1, Nat.le_trans hW (h.row.lt g hg).1⟩
 have hM2 : Mk W gm nm vi1 vf1 N1 w2 := hMA.grown hg hsafe
 have hne : ∀ k, k < (w1.alloc o).heap.size → vo.ownBlock ≠ some k → vo'.ownBlock ≠ some k := fun k hk hn e => by
  rcases hb with hb | ⟨g, hb, hs⟩
  ·exact hn (hb ▸ e)
  ·rw [hb] at e
   cases e
   omega
 have hsz : X.heap.size ≤ w1.heap.size := hS.size
 have hx1 : xs.length = ts.length := by simpa using h.row.1
 refine ⟨hM2, ?_, ?_, ?_, ?_⟩
 ·have h1 := h.st.trans hwr
  refine ⟨fun k hk => ?_, Nat.le_trans h1.size hg.size⟩
  obtain ⟨⟨a1, a2, a3, a4⟩, b⟩ := h1.keep k hk
  have hn : vo.ownBlock ≠ some k := fun e => by have := (h.row.lt k e).1; have := hk.1; omega
  exact ⟨⟨Nat.lt_of_lt_of_le a1 hg.size, a2, a3, a4⟩, (hg.block k a1 (fun e => hn e.symm)).trans b⟩
 ·simpa using hr
 ·intro i hi
  by_cases hit : i < ts.length
  ·obtain ⟨x, hx, hdx⟩ := h.el i hit
   refine ⟨x, by rw [List.getElem?_append_left (by omega)]; exact hx, ?_⟩
   rw [List.getElem_append_left hit]
   refine hdx.mono (Sees.mono ?_ ?_)
   ·rintro k ⟨⟨k1, k2⟩, k3⟩
    obtain ⟨⟨a1, a2, a3, a4⟩, b⟩ := hwr.keep k k2
    exact ⟨⟨k1, Nat.lt_of_lt_of_le a1 hg.size, a2, a3, a4⟩, hne k a1 k3⟩
   ·rintro k ⟨⟨k1, k2⟩, k3⟩
    obtain ⟨⟨a1, a2, a3, a4⟩, b⟩ := hwr.keep k k2
    exact (hg.block k a1 (fun e => k3 e.symm)).trans b
  ·obtain rfl : i = ts.length := by simp at hi; omega
   refine ⟨v, by rw [← hx1]; simp, ?_⟩
   rw [List.getElem_append_right (Nat.le_refl _)]
   simp only [Nat.sub_self, List.getElem_cons_zero]
   refine hd.mono (Sees.mono ?_ ?_)
   ·rintro k ⟨k1, k2, k3, k4, k5⟩
    have hk : k < (w1.alloc o).heap.size := Nat.lt_trans k2 (lt1 _ _)
    have hn : vo.ownBlock ≠ some k := fun e => by have := (h.safe k e).1; have := hX.size; omega
    exact ⟨⟨by have := h.st.size; have := hX.size; omega, Nat.lt_of_lt_of_le hk hg.size, k3, k4, k5⟩, hne k hk hn⟩
   ·rintro k ⟨k1, k2, k3, k4, k5⟩
    have hk : k < (w1.alloc o).heap.size := Nat.lt_trans k2 (lt1 _ _)
    have hn : vo.ownBlock ≠ some k := fun e => by have := (h.safe k e).1; have := hX.size; omega
    exact (hg.block k hk (fun e => hn e.symm)).trans (Below.heap_alloc w1 o k k2)
 ·intro g hgo
  have hlt : g < w2.heap.size := (hr.lt g hgo).2
  rcases hb with hb | ⟨g', hb, hs⟩
  ·obtain ⟨⟨_, a2, a3, a4⟩, _⟩ := hsafe g (hb ▸ hgo)
   exact ⟨hlt, a2, a3, a4⟩
  ·rw [hb] at hgo
   cases hgo
   exact hMA.safe_new hs hlt
theorem Outs.rowQ {W : World} {gm : Nat} {nm : ByteArray} {N : Nat} {vi0 vf0 vi vf : Value} {w wr : World} {et : TypeId} {ts : List Tr} {xs : List Value} {vo : Value} (h : Outs W gm nm N vi0 vf0 vi vf w et ts xs vo wr) : RowQ 0 ts (Sees wr (New w.heap.size gm vi vf wr)) vo := by
 have hx1 : xs.length = ts.length := by simpa using h.row.1
 have hel : ∀ i (hi : i < ts.length), ∃ x, xs[i]? = some x ∧ Nd (Sees wr (New w.heap.size gm vi vf wr)) x ts[i] := fun i hi => by
  obtain ⟨x, hx, hd⟩ := h.el i hi
  exact ⟨x, hx, hd.mono (Sees.mono (fun k hk => hk.1) fun _ _ => rfl)⟩
 rcases h.row.2 with ⟨rfl, h0⟩ | ⟨g, cap, cur, rfl, hg, hcur, hn, hm, hcs, htk⟩
 ·obtain rfl : ts = [] := List.eq_nil_of_length_eq_zero h0
  exact ⟨none, 0, 0, rfl, rfl, Nat.le_refl _, by decide, .nil ..⟩
 ·refine ⟨_, ts.length, cap, rfl, rfl, hn, by unfold maxLen at hm; omega, ?_⟩
  have hsafe := h.safe g rfl
  have hcell : ∀ i x, xs[i]? = some x → wr.cell? ⟨g, i, none⟩ = some x := fun i x hx => by
   have := World.ownsRow.cells h.row rfl i x hx
   by_cases h0 : i = 0
   ·subst h0
    simpa [Addr.add] using this
   ·simpa [Addr.add, h0] using this
  have key : ∀ (m i : Nat), m + i = ts.length → Nds (Sees wr (New w.heap.size gm vi vf wr)) 0 (some ⟨g, i, none⟩) (ts.drop i) := by
   intro m
   induction m with
   | zero =>
    intro i hi
    rw [List.drop_eq_nil_of_le (by omega)]
    exact .nil ..
   | succ m ih =>
    intro i hi
    have hi' : i < ts.length := by omega
    obtain ⟨x, hx, hd⟩ := hel i hi'
    rw [List.drop_eq_getElem_cons hi']
    exact .cons 0 g i x ts[i] _ ⟨⟨hg, hsafe⟩, hcell i x hx⟩ hd (ih (i + 1) (by omega))
  simpa using key ts.length 0 (by omega)
theorem Outs.rowAt {W : World} {gm : Nat} {nm : ByteArray} {N : Nat} {vi0 vf0 vi vf vi1 vf1 : Value} {w X w1 wr : World} {et : TypeId} {ts : List Tr} {xs : List Value} {vo : Value} (h : Outs W gm nm N vi0 vf0 vi vf w et ts xs vo wr) (hX : Below wr.heap.size wr X) (hS : Stp gm vi vf X vi1 vf1 w1) (o : Obj) : (w1.alloc o).ownsRow w.heap.size et 1 vo ts.length xs := by
 have hA : Below w1.heap.size w1 (w1.alloc o) := (Below.refl _ _).alloc (Nat.le_refl _) _
 have hwr : Stp gm vi vf wr vi1 vf1 (w1.alloc o) := (Stp.of_below hX).trans (hS.trans (Stp.of_below hA))
 refine ⟨h.row.1, ?_⟩
 rcases h.row.2 with e | ⟨g, cap, cur, rfl, q, rr, t⟩
 ·exact .inl e
 ·exact .inr ⟨g, cap, cur, rfl, q, (hwr.keep g (h.safe g rfl)).2.trans rr, t⟩
theorem Outs.more {W : World} {gm : Nat} {nm : ByteArray} {N N' : Nat} {vi0 vf0 vi vf : Value} {w wr : World} {et : TypeId} {ts : List Tr} {xs : List Value} {vo : Value} (h : Outs W gm nm N vi0 vf0 vi vf w et ts xs vo wr) (hN : N ≤ N') : Outs W gm nm N' vi0 vf0 vi vf w et ts xs vo wr := ⟨h.maker.more hN, h.st, h.row, h.el, h.safe⟩
theorem src_one (w : World) (v : Value) (T : TypeId) : SrcAt (w.alloc (.cells #[v] T)) (.slice (some ⟨w.heap.size, 0, none⟩) 1 1) 1 [v] := .inr ⟨_, _, rfl, World.news_of_block (heap_alloc_new w _)⟩
theorem RowOf.at {τ : Type} {W : World} {K : Nat} {Q : Nat → Array Value → τ → Prop} {a : Option Addr} {n c : Nat} {ts : List τ} (h : RowOf W K Q (.slice a n c) ts) (i : Nat) (hi : i < ts.length) : ∃ g off cs, a = some ⟨g, off, none⟩ ∧ El W K g off i cs ∧ Q i cs ts[i] := by
 obtain ⟨_, _, hv, _, _, h3⟩ := h
 cases hv
 obtain ⟨g, off, ha, hel⟩ := h3 (by omega)
 obtain ⟨cs, he, hq⟩ := hel i hi
 exact ⟨g, off, cs, ha, he, hq⟩
theorem sizes_take (ts : List Tr) (k : Nat) (hk : k < ts.length) : sizes (ts.take (k + 1)) = sizes (ts.take k) + ts[k].size := by
 rw [List.take_succ_eq_append_getElem hk, sizes_append]
 simp [sizes]
theorem sizes_take_le (ts : List Tr) (k : Nat) (hk : k < ts.length) : sizes (ts.take k) + ts[k].size ≤ sizes ts := sizes_at ts k hk
theorem grown_from {Y Z w : World} {r : Option Nat} (hY : Y.heap = Z.heap ∧ Y.os = Z.os ∧ Y.tape = Z.tape ∧ Y.output = Z.output) (h : Y.grownBy w r) : Z.grownBy w r :=
 ⟨h.os.trans hY.2.1, h.tape.trans hY.2.2.1, h.output.trans hY.2.2.2, by rw [← hY.1]; exact h.size, fun k hk hr => (h.block k (by rw [hY.1]; exact hk) hr).trans (by rw [hY.1])⟩
theorem Outs.push' {W : World} {gm : Nat} {nm : ByteArray} {N N1 : Nat} {vi0 vf0 vi vf vi1 vf1 : Value} {w X w5 Y w4 wr : World} {et : TypeId} {ts : List Tr} {xs : List Value} {vo vo' v : Value} {t : Tr} (o : Obj) (h : Outs W gm nm N vi0 vf0 vi vf w et ts xs vo wr) (hX : Below wr.heap.size wr X) (hM : Mk W gm nm vi1 vf1 N1 w5) (hS : Stp gm vi vf X vi1 vf1 w5)
  (hd : Nd (Sees w5 (New X.heap.size gm vi1 vf1 w5)) v t) (hY : Y.heap = (w5.alloc o).heap ∧ Y.os = w5.os ∧ Y.tape = w5.tape ∧ Y.output = w5.output) (hr : w4.ownsRow w.heap.size et 1 vo' (ts.length + 1) (xs ++ [v])) (hg : Y.grownBy w4 vo.ownBlock) (hb : BlockOf Y vo vo') (hW : W.heap.size ≤ w.heap.size) : Outs W gm nm N1 vi0 vf0 vi1 vf1 w et (ts ++ [t]) (xs ++ [v]) vo' w4 := by
 refine h.push (o := o) hX hM hS hd hr (grown_from ⟨hY.1, hY.2.1, hY.2.2.1, hY.2.2.2⟩ hg) ?_ hW
 rcases hb with hb | ⟨g, hb, hs⟩
 ·exact .inl hb
 ·exact .inr ⟨g, hb, by rw [← hY.1]; exact hs⟩
theorem far_cell {w5 Y w4 : World} {o : Obj} {r : Option Nat} {a : Addr} {v : Value} (hY : Y.heap = (w5.alloc o).heap) (hg : Y.grownBy w4 r) (h : w5.cell? a = some v) (hr : r ≠ some a.block) : w4.cell? a = some v := by
 have hlt := World.block_lt_of_cell? w5 _ h
 have h1 := hg.block a.block (by rw [hY, sz1]; omega) (fun e => hr e.symm)
 have h2 : w4.heap[a.block]? = w5.heap[a.block]? := h1.trans ((by rw [hY] : Y.heap[a.block]? = (w5.alloc o).heap[a.block]?).trans (Below.heap_alloc w5 o a.block hlt))
 exact (World.cell?_of_block (w := w5) (a := a) h2).trans h
theorem RowOf.len {τ : Type} {W : World} {K : Nat} {Q : Nat → Array Value → τ → Prop} {a : Option Addr} {n c : Nat} {ts : List τ} (h : RowOf W K Q (.slice a n c) ts) : n = ts.length := by
 obtain ⟨_, _, hv, _⟩ := h
 cases hv
 rfl
theorem nd_one {W : World} {gm : Nat} {nm : ByteArray} {vi vf : Value} {N b : Nat} {w2 : World} {v : Value} {t : Tr} (hM : Mk W gm nm vi vf N w2) (hd : Nd (Sees w2 (New b gm vi vf w2)) v t) (hb : b ≤ w2.heap.size) (TP i : Nat) (cs : Array Value) (ST : TypeId) (hf : fields TP = some [(i, .node)]) (hc : cs[i]? = some v) :
  Nd (Sees (w2.alloc (.cells cs ST)) (New b gm vi vf (w2.alloc (.cells cs ST)))) (.iface TP (.pointer (some ⟨w2.heap.size, 0, none⟩))) (.mk none [t]) := by
 have hS := Stp.of_below (gm := gm) (vi := vi) (vf := vf) ((Below.refl w2.heap.size w2).alloc (Nat.le_refl _) (.cells cs ST))
 exact .other TP _ _ _ hf (.node _ i _ _ _ _ (sees_at (heap_alloc_new w2 _) ⟨hb, hM.safe_new (Nat.le_refl _) (lt1 _ _)⟩ i v hc) (hd.step hS (Nat.le_refl b)) (.nil _))
theorem nd_two {W : World} {gm : Nat} {nm : ByteArray} {vi vf : Value} {N b : Nat} {w2 : World} {v v' : Value} {t t' : Tr} (hM : Mk W gm nm vi vf N w2) (hd : Nd (Sees w2 (New b gm vi vf w2)) v t) (hd' : Nd (Sees w2 (New b gm vi vf w2)) v' t') (hb : b ≤ w2.heap.size) (TP i i' : Nat) (cs : Array Value) (ST : TypeId) (hf : fields TP = some [(i, .node), (i', .node)]) (hc : cs[i]? = some v) (hc' : cs[i']? = some v') :
  Nd (Sees (w2.alloc (.cells cs ST)) (New b gm vi vf (w2.alloc (.cells cs ST)))) (.iface TP (.pointer (some ⟨w2.heap.size, 0, none⟩))) (.mk none [t, t']) := by
 have hS := Stp.of_below (gm := gm) (vi := vi) (vf := vf) ((Below.refl w2.heap.size w2).alloc (Nat.le_refl _) (.cells cs ST))
 have hn : New b gm vi vf (w2.alloc (.cells cs ST)) w2.heap.size := ⟨hb, hM.safe_new (Nat.le_refl _) (lt1 _ _)⟩
 exact .other TP _ _ _ hf (.node _ i _ _ _ _ (sees_at (heap_alloc_new w2 _) hn i v hc) (hd.step hS (Nat.le_refl b)) (.node _ i' _ _ _ _ (sees_at (heap_alloc_new w2 _) hn i' v' hc') (hd'.step hS (Nat.le_refl b)) (.nil _)))
end Go.Proofs.YtabeokminikfdaaGreat
namespace Go.Proofs.YtabeokminikfdaaGreat
open Go.RowKit
theorem Stp.setNew {gm : Nat} {vi vf vi1 vf1 : Value} {X w4 : World} (h : Stp gm vi vf X vi1 vf1 w4) {g : Nat} (hg : X.heap.size ≤ g) (i : Nat) (u : Value) : Stp gm vi vf X vi1 vf1 (w4.setCell ⟨g, i, none⟩ u) :=
 ⟨fun k hk => by
  obtain ⟨⟨a1, a2, a3, a4⟩, b⟩ := h.keep k hk
  exact ⟨⟨by simpa [World.setCell] using a1, a2, a3, a4⟩, (Below.heap_setCell w4 ⟨g, i, none⟩ u k (by show k ≠ g; have := hk.1; omega)).trans b⟩, by simpa [World.setCell] using h.size⟩
theorem Safe.set {gm : Nat} {vi vf : Value} {w : World} {k : Nat} (h : Safe gm vi vf w k) (a : Addr) (u : Value) : Safe gm vi vf (w.setCell a u) k := ⟨by simpa using h.1, h.2.1, h.2.2.1, h.2.2.2⟩
theorem Mk.setNew {W : World} {gm : Nat} {nm : ByteArray} {vi vf : Value} {N : Nat} {w : World} (h : Mk W gm nm vi vf N w) {g : Nat} (hg : Safe gm vi vf w g) (hW : W.heap.size ≤ g) (i : Nat) (u : Value) : Mk W gm nm vi vf N (w.setCell ⟨g, i, none⟩ u) := by
 obtain ⟨c, l, ho⟩ := h.obj
 exact ⟨⟨c, l, (Below.heap_setCell w ⟨g, i, none⟩ u gm (by show gm ≠ g; exact fun e => hg.2.1 e.symm)).trans ho⟩, h.ri.at (a := ⟨g, i, none⟩) hg.2.2.1 u, h.rf.at (a := ⟨g, i, none⟩) hg.2.2.2 u, h.ni, h.nf, h.apart, h.low, h.bel.setCell (show W.heap.size ≤ (⟨g, i, none⟩ : Addr).block from hW) u⟩
def NewB (b gm : Nat) (vi vf : Value) (w : World) (g k : Nat) : Prop := New b gm vi vf w k ∧ k ≠ g
theorem sees_but1 {b gm g : Nat} {vi vf vi' vf' : Value} {w w' : World} (h : Stp gm vi vf w vi' vf' w') (hg : w.heap.size ≤ g) (a : Addr) (x : Value) (hx : Sees w (New b gm vi vf w) a x) : Sees w' (NewB b gm vi' vf' w' g) a x :=
 Sees.mono (fun k hk => ⟨(New.step h (Nat.le_refl b) k hk).1, by have := hk.2.1; omega⟩) (fun k hk => (New.step h (Nat.le_refl b) k hk).2) a x hx
theorem sees_but2 {b b' gm g : Nat} {vi vf : Value} {w : World} (hg : g < b') (hb : b ≤ b') (a : Addr) (x : Value) (hx : Sees w (New b' gm vi vf w) a x) : Sees w (NewB b gm vi vf w g) a x :=
 Sees.mono (fun k hk => ⟨⟨Nat.le_trans hb hk.1, hk.2⟩, by have := hk.1; omega⟩) (fun _ _ => rfl) a x hx
theorem sees_butS {b gm g : Nat} {vi vf vi' vf' : Value} {w w' : World} (h : Stp gm vi vf w vi' vf' w') (a : Addr) (x : Value) (hx : Sees w (NewB b gm vi vf w g) a x) : Sees w' (NewB b gm vi' vf' w' g) a x :=
 Sees.mono (fun k hk => ⟨(New.step h (Nat.le_refl b) k hk.1).1, hk.2⟩) (fun k hk => (New.step h (Nat.le_refl b) k hk.1).2) a x hx
theorem sees_set {b gm g : Nat} {vi vf : Value} {w : World} (i : Nat) (u : Value) (a : Addr) (x : Value) (hx : Sees w (NewB b gm vi vf w g) a x) : Sees (w.setCell ⟨g, i, none⟩ u) (NewB b gm vi vf (w.setCell ⟨g, i, none⟩ u) g) a x :=
 Sees.mono (fun k hk => ⟨⟨hk.1.1, hk.1.2.set _ _⟩, hk.2⟩) (fun k hk => Below.heap_setCell w ⟨g, i, none⟩ u k hk.2) a x hx
theorem sees_drop {b gm g : Nat} {vi vf : Value} {w : World} (a : Addr) (x : Value) (hx : Sees w (NewB b gm vi vf w g) a x) : Sees w (New b gm vi vf w) a x :=
 Sees.mono (fun _ hk => hk.1) (fun _ _ => rfl) a x hx
theorem obj_set {w : World} {g : Nat} {cs : Array Value} {T : TypeId} (h : w.heap[g]? = some (.cells cs T (0, 0))) (i : Nat) (u : Value) : (w.setCell ⟨g, i, none⟩ u).heap[g]? = some (.cells (cs.setIfInBounds i u) T (0, 0)) := Joins.block_setCell h (i := i) u
theorem obj_cell {w : World} {g : Nat} {cs : Array Value} {T : TypeId} (h : w.heap[g]? = some (.cells cs T (0, 0))) (i : Nat) (u : Value) (hu : cs[i]? = some u) : w.cell? ⟨g, i, none⟩ = some u := by simp [World.cell?, h, hu]
theorem obj_free {w : World} {g : Nat} {cs : Array Value} {T : TypeId} (h : w.heap[g]? = some (.cells cs T (0, 0))) (i : Nat) : w.frozen? ⟨g, i, none⟩ = false := by simp [World.frozen?, h]
theorem nd_opt0 {W : World} {gm : Nat} {nm : ByteArray} {vi vf : Value} {N b : Nat} {w2 : World} (hM : Mk W gm nm vi vf N w2) (hb : b ≤ w2.heap.size) (TP i : Nat) (cs : Array Value) (ST : TypeId) (hf : fields TP = some [(i, .opt)]) (hc : cs[i]? = some .nilIface) :
  Nd (Sees (w2.alloc (.cells cs ST)) (New b gm vi vf (w2.alloc (.cells cs ST)))) (.iface TP (.pointer (some ⟨w2.heap.size, 0, none⟩))) (.mk none []) :=
 .other TP _ _ _ hf (.none _ i _ _ (sees_at (heap_alloc_new w2 _) ⟨hb, hM.safe_new (Nat.le_refl _) (lt1 _ _)⟩ i _ hc) (.nil _))
theorem nd_opt1 {W : World} {gm : Nat} {nm : ByteArray} {vi vf : Value} {N b : Nat} {w2 : World} {v : Value} {t : Tr} (hM : Mk W gm nm vi vf N w2) (hd : Nd (Sees w2 (New b gm vi vf w2)) v t) (hb : b ≤ w2.heap.size) (TP i : Nat) (cs : Array Value) (ST : TypeId) (hf : fields TP = some [(i, .opt)]) (hc : cs[i]? = some v) :
  Nd (Sees (w2.alloc (.cells cs ST)) (New b gm vi vf (w2.alloc (.cells cs ST)))) (.iface TP (.pointer (some ⟨w2.heap.size, 0, none⟩))) (.mk none [t]) := by
 have hS := Stp.of_below (gm := gm) (vi := vi) (vf := vf) ((Below.refl w2.heap.size w2).alloc (Nat.le_refl _) (.cells cs ST))
 exact .other TP _ _ _ hf (.opt _ i _ _ _ _ (sees_at (heap_alloc_new w2 _) ⟨hb, hM.safe_new (Nat.le_refl _) (lt1 _ _)⟩ i v hc) (hd.step hS (Nat.le_refl b)) (.nil _))
end Go.Proofs.YtabeokminikfdaaGreat
namespace Go.Proofs.YtabeokminikfdaaGreat
open Go.RowKit
structure OutsX (gx : Nat) (W : World) (gm : Nat) (nm : ByteArray) (N : Nat) (vi0 vf0 vi vf : Value) (w : World) (et : TypeId) (ts : List Tr) (xs : List Value) (vo : Value) (wr : World) : Prop where
 maker : Mk W gm nm vi vf N wr
 st : Stp gm vi0 vf0 w vi vf wr
 row : wr.ownsRow w.heap.size et 1 vo ts.length xs
 el : ∀ i (hi : i < ts.length), ∃ x, xs[i]? = some x ∧ Nd (Sees wr (fun k => New w.heap.size gm vi vf wr k ∧ vo.ownBlock ≠ some k ∧ k ≠ gx)) x ts[i]
 safe : ∀ g, vo.ownBlock = some g → Safe gm vi vf wr g
theorem OutsX.start {gx : Nat} {W : World} {gm : Nat} {nm : ByteArray} {N : Nat} {vi vf : Value} {w : World} {et : TypeId} (h : Mk W gm nm vi vf N w) : OutsX gx W gm nm N vi vf vi vf w et [] [] (.slice none 0 0) w :=
 ⟨h, Stp.refl .., ⟨rfl, .inl ⟨rfl, rfl⟩⟩, fun i hi => absurd hi (Nat.not_lt_zero i), fun g hg => by cases hg⟩
theorem OutsX.push {gx : Nat} {W : World} {gm : Nat} {nm : ByteArray} {N N1 : Nat} {vi0 vf0 vi vf vi1 vf1 : Value} {w X w1 w2 wr : World} {et : TypeId} {ts : List Tr} {xs : List Value} {vo vo' v : Value} {t : Tr} {o : Obj} (h : OutsX gx W gm nm N vi0 vf0 vi vf w et ts xs vo wr) (hX : Below wr.heap.size wr X) (hM : Mk W gm nm vi1 vf1 N1 w1) (hS : Stp gm vi vf X vi1 vf1 w1)
  (hd : Nd (Sees w1 (New X.heap.size gm vi1 vf1 w1)) v t) (hr : w2.ownsRow w.heap.size et 1 vo' (ts.length + 1) (xs ++ [v])) (hg : (w1.alloc o).grownBy w2 vo.ownBlock) (hb : BlockOf (w1.alloc o) vo vo') (hW : W.heap.size ≤ w.heap.size) (hgx : gx < X.heap.size) : OutsX gx W gm nm N1 vi0 vf0 vi1 vf1 w et (ts ++ [t]) (xs ++ [v]) vo' w2 := by
 have hA : Below w1.heap.size w1 (w1.alloc o) := (Below.refl _ _).alloc (Nat.le_refl _) _
 have hMA := hM.after hA
 have hwr : Stp gm vi vf wr vi1 vf1 (w1.alloc o) := (Stp.of_below hX).trans (hS.trans (Stp.of_below hA))
 have hsafe : ∀ g, vo.ownBlock = some g → Safe gm vi1 vf1 (w1.alloc o) g ∧ W.heap.size ≤ g := fun g hg => ⟨(hwr.keep g (h.safe g hg)).1, Nat.le_trans hW (h.row.lt g hg).1⟩
 have hM2 : Mk W gm nm vi1 vf1 N1 w2 := hMA.grown hg hsafe
 have hne : ∀ k, k < (w1.alloc o).heap.size → vo.ownBlock ≠ some k → vo'.ownBlock ≠ some k := fun k hk hn e => by
  rcases hb with hb | ⟨g, hb, hs⟩
  ·exact hn (hb ▸ e)
  ·rw [hb] at e
   cases e
   omega
 have hsz : X.heap.size ≤ w1.heap.size := hS.size
 have hx1 : xs.length = ts.length := by simpa using h.row.1
 refine ⟨hM2, ?_, ?_, ?_, ?_⟩
 ·have h1 := h.st.trans hwr
  refine ⟨fun k hk => ?_, Nat.le_trans h1.size hg.size⟩
  obtain ⟨⟨a1, a2, a3, a4⟩, b⟩ := h1.keep k hk
  have hn : vo.ownBlock ≠ some k := fun e => by have := (h.row.lt k e).1; have := hk.1; omega
  exact ⟨⟨Nat.lt_of_lt_of_le a1 hg.size, a2, a3, a4⟩, (hg.block k a1 (fun e => hn e.symm)).trans b⟩
 ·simpa using hr
 ·intro i hi
  by_cases hit : i < ts.length
  ·obtain ⟨x, hx, hdx⟩ := h.el i hit
   refine ⟨x, by rw [List.getElem?_append_left (by omega)]; exact hx, ?_⟩
   rw [List.getElem_append_left hit]
   refine hdx.mono (Sees.mono ?_ ?_)
   ·rintro k ⟨⟨k1, k2⟩, k3, k4⟩
    obtain ⟨⟨a1, a2, a3, a4⟩, b⟩ := hwr.keep k k2
    exact ⟨⟨k1, Nat.lt_of_lt_of_le a1 hg.size, a2, a3, a4⟩, hne k a1 k3, k4⟩
   ·rintro k ⟨⟨k1, k2⟩, k3, k4⟩
    obtain ⟨⟨a1, a2, a3, a4⟩, b⟩ := hwr.keep k k2
    exact (hg.block k a1 (fun e => k3 e.symm)).trans b
  ·obtain rfl : i = ts.length := by simp at hi; omega
   refine ⟨v, by rw [← hx1]; simp, ?_⟩
   rw [List.getElem_append_right (Nat.le_refl _)]
   simp only [Nat.sub_self, List.getElem_cons_zero]
   refine hd.mono (Sees.mono ?_ ?_)
   ·rintro k ⟨k1, k2, k3, k4, k5⟩
    have hk : k < (w1.alloc o).heap.size := Nat.lt_trans k2 (lt1 _ _)
    have hn : vo.ownBlock ≠ some k := fun e => by have := (h.safe k e).1; have := hX.size; omega
    exact ⟨⟨by have := h.st.size; have := hX.size; omega, Nat.lt_of_lt_of_le hk hg.size, k3, k4, k5⟩, hne k hk hn, by omega⟩
   ·rintro k ⟨k1, k2, k3, k4, k5⟩
    have hk : k < (w1.alloc o).heap.size := Nat.lt_trans k2 (lt1 _ _)
    have hn : vo.ownBlock ≠ some k := fun e => by have := (h.safe k e).1; have := hX.size; omega
    exact (hg.block k hk (fun e => hn e.symm)).trans (Below.heap_alloc w1 o k k2)
 ·intro g hgo
  have hlt : g < w2.heap.size := (hr.lt g hgo).2
  rcases hb with hb | ⟨g', hb, hs⟩
  ·obtain ⟨⟨_, a2, a3, a4⟩, _⟩ := hsafe g (hb ▸ hgo)
   exact ⟨hlt, a2, a3, a4⟩
  ·rw [hb] at hgo
   cases hgo
   exact hMA.safe_new hs hlt
theorem OutsX.rowQ {gx : Nat} {W : World} {gm : Nat} {nm : ByteArray} {N : Nat} {vi0 vf0 vi vf : Value} {w wr : World} {et : TypeId} {ts : List Tr} {xs : List Value} {vo : Value} (h : OutsX gx W gm nm N vi0 vf0 vi vf w et ts xs vo wr) : RowQ 0 ts (Sees wr (New w.heap.size gm vi vf wr)) vo := by
 have hx1 : xs.length = ts.length := by simpa using h.row.1
 have hel : ∀ i (hi : i < ts.length), ∃ x, xs[i]? = some x ∧ Nd (Sees wr (New w.heap.size gm vi vf wr)) x ts[i] := fun i hi => by
  obtain ⟨x, hx, hd⟩ := h.el i hi
  exact ⟨x, hx, hd.mono (Sees.mono (fun k hk => hk.1) fun _ _ => rfl)⟩
 rcases h.row.2 with ⟨rfl, h0⟩ | ⟨g, cap, cur, rfl, hg, hcur, hn, hm, hcs, htk⟩
 ·obtain rfl : ts = [] := List.eq_nil_of_length_eq_zero h0
  exact ⟨none, 0, 0, rfl, rfl, Nat.le_refl _, by decide, .nil ..⟩
 ·refine ⟨_, ts.length, cap, rfl, rfl, hn, by unfold maxLen at hm; omega, ?_⟩
  have hsafe := h.safe g rfl
  have hcell : ∀ i x, xs[i]? = some x → wr.cell? ⟨g, i, none⟩ = some x := fun i x hx => by
   have := World.ownsRow.cells h.row rfl i x hx
   by_cases h0 : i = 0
   ·subst h0
    simpa [Addr.add] using this
   ·simpa [Addr.add, h0] using this
  have key : ∀ (m i : Nat), m + i = ts.length → Nds (Sees wr (New w.heap.size gm vi vf wr)) 0 (some ⟨g, i, none⟩) (ts.drop i) := by
   intro m
   induction m with
   | zero =>
    intro i hi
    rw [List.drop_eq_nil_of_le (by omega)]
    exact .nil ..
   | succ m ih =>
    intro i hi
    have hi' : i < ts.length := by omega
    obtain ⟨x, hx, hd⟩ := hel i hi'
    rw [List.drop_eq_getElem_cons hi']
    exact .cons 0 g i x ts[i] _ ⟨⟨hg, hsafe⟩, hcell i x hx⟩ hd (ih (i + 1) (by omega))
  simpa using key ts.length 0 (by omega)
theorem OutsX.rowAt {gx : Nat} {W : World} {gm : Nat} {nm : ByteArray} {N : Nat} {vi0 vf0 vi vf vi1 vf1 : Value} {w X w1 wr : World} {et : TypeId} {ts : List Tr} {xs : List Value} {vo : Value} (h : OutsX gx W gm nm N vi0 vf0 vi vf w et ts xs vo wr) (hX : Below wr.heap.size wr X) (hS : Stp gm vi vf X vi1 vf1 w1) (o : Obj) : (w1.alloc o).ownsRow w.heap.size et 1 vo ts.length xs := by
 have hA : Below w1.heap.size w1 (w1.alloc o) := (Below.refl _ _).alloc (Nat.le_refl _) _
 have hwr : Stp gm vi vf wr vi1 vf1 (w1.alloc o) := (Stp.of_below hX).trans (hS.trans (Stp.of_below hA))
 refine ⟨h.row.1, ?_⟩
 rcases h.row.2 with e | ⟨g, cap, cur, rfl, q, rr, t⟩
 ·exact .inl e
 ·exact .inr ⟨g, cap, cur, rfl, q, (hwr.keep g (h.safe g rfl)).2.trans rr, t⟩
theorem OutsX.more {gx : Nat} {W : World} {gm : Nat} {nm : ByteArray} {N N' : Nat} {vi0 vf0 vi vf : Value} {w wr : World} {et : TypeId} {ts : List Tr} {xs : List Value} {vo : Value} (h : OutsX gx W gm nm N vi0 vf0 vi vf w et ts xs vo wr) (hN : N ≤ N') : OutsX gx W gm nm N' vi0 vf0 vi vf w et ts xs vo wr := ⟨h.maker.more hN, h.st, h.row, h.el, h.safe⟩
theorem OutsX.push' {gx : Nat} {W : World} {gm : Nat} {nm : ByteArray} {N N1 : Nat} {vi0 vf0 vi vf vi1 vf1 : Value} {w X w5 Y w4 wr : World} {et : TypeId} {ts : List Tr} {xs : List Value} {vo vo' v : Value} {t : Tr} (o : Obj) (h : OutsX gx W gm nm N vi0 vf0 vi vf w et ts xs vo wr) (hX : Below wr.heap.size wr X) (hM : Mk W gm nm vi1 vf1 N1 w5) (hS : Stp gm vi vf X vi1 vf1 w5)
  (hd : Nd (Sees w5 (New X.heap.size gm vi1 vf1 w5)) v t) (hY : Y.heap = (w5.alloc o).heap ∧ Y.os = w5.os ∧ Y.tape = w5.tape ∧ Y.output = w5.output) (hr : w4.ownsRow w.heap.size et 1 vo' (ts.length + 1) (xs ++ [v])) (hg : Y.grownBy w4 vo.ownBlock) (hb : BlockOf Y vo vo') (hW : W.heap.size ≤ w.heap.size) (hgx : gx < X.heap.size) : OutsX gx W gm nm N1 vi0 vf0 vi1 vf1 w et (ts ++ [t]) (xs ++ [v]) vo' w4 := by
 refine h.push (o := o) hX hM hS hd hr (grown_from ⟨hY.1, hY.2.1, hY.2.2.1, hY.2.2.2⟩ hg) ?_ hW hgx
 rcases hb with hb | ⟨g, hb, hs⟩
 ·exact .inl hb
 ·exact .inr ⟨g, hb, by rw [← hY.1]; exact hs⟩
theorem OutsX.setX {gx : Nat} {W : World} {gm : Nat} {nm : ByteArray} {N : Nat} {vi0 vf0 vi vf : Value} {w wr : World} {et : TypeId} {ts : List Tr} {xs : List Value} {vo : Value} (h : OutsX gx W gm nm N vi0 vf0 vi vf w et ts xs vo wr) (hx : w.heap.size ≤ gx) (hW : W.heap.size ≤ w.heap.size) (hs : Safe gm vi vf wr gx) (hv : vo.ownBlock ≠ some gx) (i : Nat) (u : Value) : OutsX gx W gm nm N vi0 vf0 vi vf w et ts xs vo (wr.setCell ⟨gx, i, none⟩ u) :=
 ⟨h.maker.setNew hs (Nat.le_trans hW hx) i u, h.st.setNew hx i u, own_at (a := ⟨gx, i, none⟩) h.row hv u, fun j hj => by
  obtain ⟨x, hxs, hd⟩ := h.el j hj
  exact ⟨x, hxs, hd.mono (Sees.mono (fun k hk => ⟨⟨hk.1.1, hk.1.2.set _ _⟩, hk.2⟩) fun k hk => Below.heap_setCell wr ⟨gx, i, none⟩ u k hk.2.2)⟩, fun g hg => (h.safe g hg).set _ _⟩
end Go.Proofs.YtabeokminikfdaaGreat
