/- A variable that holds one of the reference's integers: its block, and what stores leave of it. -/
import Derived.Test.YtllgogkjcbdpkaaGreatDoorRe
namespace Go.Proofs.YtllgogkjcbdpkaaGreatDoor.Z
open Go.RowKit

/-- The block p holds the reference's integer z, whose bytes lie elsewhere. -/
def Box (W : World) (p n : Nat) (z : Int) : Prop := ∃ (d : Bool) (a : Option Addr) (m c : Nat), W.heap[p]? = some (.cells #[.bool d, .slice a m c] 24 (0, 0)) ∧ SInt 0 n W (.agg #[.bool d, .slice a m c]) z ∧ ∀ x, a = some x → x.block ≠ p ∨ m = 0
theorem Box.lt {W : World} {p n : Nat} {z : Int} (h : Box W p n z) : p < W.heap.size := by
  obtain ⟨d, a, m, c, h1, _⟩ := h
  exact (Array.getElem?_eq_some_iff.1 h1).1
theorem Box.below {W W' : World} {p n : Nat} {z : Int} (h : Box W p n z) (hb : Below W.heap.size W W') : Box W' p n z := by
  have hl := h.lt
  obtain ⟨d, a, m, c, h1, h2, h3⟩ := h
  exact ⟨d, a, m, c, (hb.block p hl).trans h1, h2.below hb (Nat.le_refl _), h3⟩
theorem Box.drew {W : World} {p n : Nat} {z : Int} (h : Box W p n z) : Box W.drew p n z := h.below (Below.refl _ _).drew
theorem Box.le {W : World} {p n m : Nat} {z : Int} (h : Box W p n z) (hm : n ≤ m) : Box W p m z := by
  obtain ⟨d, a, m, c, h1, h2, h3⟩ := h
  exact ⟨d, a, m, c, h1, h2.le (Nat.le_refl _) hm, h3⟩
/-- What the walk wants of it. -/
theorem Box.open {W : World} {p n : Nat} {z : Int} (h : Box W p n z) : ∃ (d : Bool) (a : Option Addr) (m c : Nat), SInt 0 n W (.agg #[.bool d, .slice a m c]) z ∧ W.cell? ⟨p, 0, none⟩ = some (.bool d) ∧ W.cell? ⟨p, 1, none⟩ = some (.slice a m c) ∧ ∀ i, W.frozen? ⟨p, i, none⟩ = false := by
  obtain ⟨d, a, m, c, h1, h2, h3⟩ := h
  exact ⟨d, a, m, c, h2, by simp [World.cell?, h1], by simp [World.cell?, h1], fun i => by simp [World.frozen?, h1]⟩
/-- A new variable. -/
theorem Box.new {W : World} {B n : Nat} {d : Bool} {a : Option Addr} {m c : Nat} {z : Int} (h : SInt B n W (.agg #[.bool d, .slice a m c]) z) : Box (W.alloc (.cells #[.bool d, .slice a m c] 24)) W.heap.size n z := by
  refine ⟨d, a, m, c, heap_alloc_new W _, (h.below ((Below.refl W.heap.size W).alloc (Nat.le_refl _) _) (Nat.le_refl _)).le (Nat.zero_le _) (Nat.le_refl _), ?_⟩
  intro x hx
  subst hx
  obtain ⟨sl, l, h1, h2, h3, h4⟩ := h
  injection h1 with h1
  have e : Value.slice (some x) m c = sl := by have h1' := congrArg Array.toList h1; injection h1' with _ h1'; injection h1' 
  rcases h2 with ⟨_, rfl | ⟨b, c', rfl⟩⟩ | ⟨_, g, off, c', rfl, _, _, hg, _⟩
  · exact absurd e (by simp)
  · injection e with e1 e2; exact .inr e2
  · injection e with e1 e2
    injection e1 with e1
    subst e1
    exact .inl (Nat.ne_of_lt hg)
/-- Stored anew, from a value whose bytes lie in blocks from B on. -/
theorem Box.stored {W : World} {p B n : Nat} {d : Bool} {a : Option Addr} {m c : Nat} {z : Int} {x y : Value} (hp : W.heap[p]? = some (.cells #[x, y] 24 (0, 0))) (h : SInt B n W (.agg #[.bool d, .slice a m c]) z) (hB : p < B) : Box ((W.setCell ⟨p, 0, none⟩ (.bool d)).setCell ⟨p, 1, none⟩ (.slice a m c)) p n z := by
  refine ⟨d, a, m, c, ?_, (((h.setOld (a := ⟨p, 0, none⟩) hB _).setOld (a := ⟨p, 1, none⟩) hB _)).le (Nat.zero_le _) (Nat.le_refl _), ?_⟩
  · exact Joins.block_setCell (Joins.block_setCell hp (i := 0) _) (i := 1) _
  · intro q hq
    subst hq
    obtain ⟨sl, l, h1, h2, h3, h4⟩ := h
    injection h1 with h1
    have e : Value.slice (some q) m c = sl := by have h1' := congrArg Array.toList h1; injection h1' with _ h1'; injection h1' 
    rcases h2 with ⟨_, rfl | ⟨b, c', rfl⟩⟩ | ⟨_, g, off, c', rfl, _, hg, _, _⟩
    · exact absurd e (by simp)
    · injection e with e1 e2; exact .inr e2
    · injection e with e1 e2
      injection e1 with e1
      subst e1
      exact .inl (by show g ≠ p; omega)
theorem Box.blk {W : World} {p n : Nat} {z : Int} (h : Box W p n z) : ∃ x y, W.heap[p]? = some (.cells #[x, y] 24 (0, 0)) := by
  obtain ⟨d, a, m, c, h1, _⟩ := h
  exact ⟨_, _, h1⟩
end Go.Proofs.YtllgogkjcbdpkaaGreatDoor.Z
