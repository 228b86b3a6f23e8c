/- Helpers of the walks, of no program. (Written by mkgen.py out of this project's own texts.) -/
import Derived.WalkKit
import Derived.WalkSpells
import Derived.WalkLawsBesides
import Derived.Deep.QuietTactic
import Derived.BigQuiet
import Derived.Lib.Hide
import Derived.Lib.SmallJoins
import Derived.Deep.DeepCutAuto
import Derived.Deep.RegionWith
import Derived.Deep.RegionHeld3
import Derived.Laws.RangeString
import Derived.Test.YtllgogkjcbdpkaaGreatDoorAp
namespace Go.Proofs.YtllgogkjcbdpkaaGreatDoor
open Go.RowKit

theorem cell_below {w w' : World} {a : Addr} {v : Value} (h : w.cell? a = some v) (hb : Below w.heap.size w w') : w'.cell? a = some v :=
  (hb.cell (World.block_lt_of_cell? w _ h)).trans h
theorem below_drewN {B : Nat} {a w : World} (h : Below B a w) (n : Nat) : Below B a (w.drewN n) := ⟨h.os, h.tape, h.output, h.size, h.block⟩
theorem bcell {W w1 : World} (hb : Below W.heap.size W w1) : (∀ b o, b < W.heap.size → w1.cell? ⟨b, o, none⟩ = W.cell? ⟨b, o, none⟩) ∧ (∀ b o, b < W.heap.size → w1.frozen? ⟨b, o, none⟩ = W.frozen? ⟨b, o, none⟩) :=
  ⟨fun b o h => hb.cell (p := ⟨b, o, none⟩) h, fun b o h => hb.frozen (p := ⟨b, o, none⟩) h⟩
theorem own_len {w : World} {base : Nat} {e : TypeId} {size : Nat} {v : Value} {n : Nat} {xs : List Value} (h : w.ownsRow base e size v n xs) : ∃ A c, v = .slice A n c := by
  rcases h.2 with ⟨rfl, h0⟩ | ⟨g, cap, cur, rfl, _⟩
  · exact ⟨none, 0, by rw [h0]⟩
  · exact ⟨_, _, rfl⟩
theorem one_new (w : World) (u : Value) (t : TypeId) : ∀ (j : Nat) (x : Value), [u][j]? = some x → (w.alloc (.cells #[u] t)).cell? ((⟨w.heap.size, 0, none⟩ : Addr).add j) = some x := by
  intro j x hj
  match j, hj with
  | 0, hj => simp at hj; subst hj; simp [Addr.add, go_sem]
  | j + 1, hj => simp at hj
theorem one_cell (b : ByteArray) : ∀ u ∈ [Value.string b], u.oneCell' = true := by intro u hu; simp at hu; subst hu; rfl
theorem own_room (w : World) (z : Value) (c : Nat) (e : TypeId) (hc : c ≤ maxLen) : (w.alloc (.cells (madeCells #[z] c) e)).ownsRow w.heap.size e 1 (.slice (some ⟨w.heap.size, 0, none⟩) 0 c) 0 [] :=
  ⟨by simp, .inr ⟨w.heap.size, c, _, rfl, Nat.le_refl _, heap_alloc_new w _, Nat.zero_le _, hc, by simp [size_madeCells], by simp⟩⟩
theorem own_form {w : World} {base : Nat} {e : TypeId} {A : Option Addr} {n c : Nat} {xs : List Value} (h : w.ownsRow base e 1 (.slice A n c) n xs) (hn : 0 < n) : ∃ g, A = some ⟨g, 0, none⟩ := by
  rcases h.2 with ⟨_, h0⟩ | ⟨g, cap, cur, h1, _⟩
  · omega
  · injection h1 with h2
    exact ⟨g, h2⟩
theorem own_below {w w' : World} {base : Nat} {e : TypeId} {size : Nat} {v : Value} {n : Nat} {xs : List Value} (h : w.ownsRow base e size v n xs) (hb : Below w.heap.size w w') : w'.ownsRow base e size v n xs := by
  obtain ⟨h1, h2⟩ := h
  refine ⟨h1, ?_⟩
  rcases h2 with h2 | ⟨g, cap, cur, a, b, c, d⟩
  · exact .inl h2
  · exact .inr ⟨g, cap, cur, a, b, by rw [hb.block g (Array.getElem?_eq_some_iff.1 c).1]; exact c, d⟩
theorem own_cap {w : World} {base : Nat} {e : TypeId} {g n cap : Nat} {xs : List Value} (h : w.ownsRow base e 1 (.slice (some ⟨g, 0, none⟩) n cap) n xs) : n ≤ cap ∧ base ≤ g ∧ g < w.heap.size := by
  rcases h.2 with ⟨h2, _⟩ | ⟨g', cap', cur, a, b, c, d, _⟩
  · cases h2
  · cases a
    exact ⟨d, b, (Array.getElem?_eq_some_iff.1 c).1⟩
theorem own_formS {w : World} {base : Nat} {e : TypeId} {z : Nat} {A : Option Addr} {n c : Nat} {xs : List Value} (h : w.ownsRow base e z (.slice A n c) n xs) (hn : 0 < n) : ∃ g, A = some ⟨g, 0, none⟩ ∧ g < w.heap.size := by
  rcases h.2 with ⟨_, h0⟩ | ⟨g, cap, cur, h1, _, hg, _⟩
  · omega
  · injection h1 with h2
    exact ⟨g, h2, (Array.getElem?_eq_some_iff.1 hg).1⟩
theorem rel_app1 {wr w0 w1 : World} {B e k : Nat} {v v' : Value} {xs ys : List Value} {o1 : Obj} {n : Nat} (hown : wr.ownsRow B e 1 v k xs) (hb : Below B w0 wr) (hsz : B ≤ wr.heap.size)
    (hown' : w1.ownsRow B e 1 v' n ys) (hgrow : (wr.alloc o1).grownBy w1 v.ownBlock) : w1.ownsRow B e 1 v' n ys ∧ Below B w0 w1 :=
  ⟨hown', (hb.alloc hsz o1).grown hgrow (by simp; omega) fun k' hk => (hown.lt k' hk).1⟩
theorem rel_app0 {wr w0 w1 : World} {B e k : Nat} {v v' : Value} {xs ys : List Value} {n : Nat} (hown : wr.ownsRow B e 1 v k xs) (hb : Below B w0 wr) (hsz : B ≤ wr.heap.size)
    (hown' : w1.ownsRow B e 1 v' n ys) (hgrow : wr.grownBy w1 v.ownBlock) : w1.ownsRow B e 1 v' n ys ∧ Below B w0 w1 :=
  ⟨hown', hb.grown hgrow hsz fun k' hk => (hown.lt k' hk).1⟩
theorem int_ne (a b : Int) (h : ¬ a = b) : (a == b) = false := by simpa using h

theorem own_setOld {w : World} {base : Nat} {e : TypeId} {size : Nat} {v : Value} {n : Nat} {xs : List Value} (h : w.ownsRow base e size v n xs) {a : Addr} (ha : a.block < base) (u : Value) : (w.setCell a u).ownsRow base e size v n xs := by
  refine ⟨h.1, ?_⟩
  rcases h.2 with h2 | ⟨g, cap, cur, p, q, r, t⟩
  · exact .inl h2
  · exact .inr ⟨g, cap, cur, p, q, by rw [Below.heap_setCell w a u g (by omega)]; exact r, t⟩
theorem own_via {b c d : World} {B : Nat} {e : TypeId} {z : Nat} {v : Value} {n : Nat} {xs : List Value} (h : b.ownsRow B e z v n xs) (hb : Below c.heap.size c d) (s : c.heap = b.heap) : d.ownsRow B e z v n xs := by
  refine own_below (w := c) ⟨h.1, ?_⟩ hb
  rcases h.2 with h2 | ⟨g, cap, cur, p, q, r, t⟩
  · exact .inl h2
  · exact .inr ⟨g, cap, cur, p, q, by rw [s]; exact r, t⟩
theorem own_heap {b c : World} {B : Nat} {e : TypeId} {z : Nat} {v : Value} {n : Nat} {xs : List Value} (h : b.ownsRow B e z v n xs) (s : c.heap = b.heap) : c.ownsRow B e z v n xs := own_via h (Below.refl _ _) s
theorem bel_same {B : Nat} {a b c : World} (h : Below B a b) (s : c.heap = b.heap ∧ c.os = b.os ∧ c.tape = b.tape ∧ c.output = b.output) : Below B a c :=
  ⟨s.2.1.trans h.os, s.2.2.1.trans h.tape, s.2.2.2.trans h.output, by rw [s.1]; exact h.size, fun k hk => by rw [s.1]; exact h.block k hk⟩
theorem bel_from {B : Nat} {a b c : World} (h : Below B a b) (s : a.heap = c.heap ∧ a.os = c.os ∧ a.tape = c.tape ∧ a.output = c.output) : Below B c b :=
  ⟨h.os.trans s.2.1, h.tape.trans s.2.2.1, h.output.trans s.2.2.2, by have := h.size; rw [s.1] at this; exact this, fun k hk => by have := h.block k hk; rw [s.1] at this; exact this⟩
end Go.Proofs.YtllgogkjcbdpkaaGreatDoor
