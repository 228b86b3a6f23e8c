/- Written by wip/tools/port2.py out of the text Sp2 of seat Ytidkdjnfpepnfaa. -/
/- Walks of the reference's integers: whole. -/
import Derived.Test.YtllgogkjcbdpkaaGreatZSp1
namespace Go.Proofs.YtllgogkjcbdpkaaGreat.Z
open Go.RowKit

theorem set_other {w : World} {a : Addr} {v : Value} {p : Addr} {u : Value} (h : w.cell? a = some v) (hne : a.block ≠ p.block) : (w.setCell p u).cell? a = some v := (World.cell?_of_block (w := w) (Below.heap_setCell w p u a.block hne)).trans h

/-- The first so many numbers of a row. -/
theorem Row.take {B : Nat} {k : IntKind} {w : World} {g off n c : Nat} {l : List Nat} (m : Nat) (hm : m ≤ n) (h : Row B k w (.slice (some ⟨g, off, none⟩) n c) l) : Row B k w (.slice (some ⟨g, off, none⟩) m c) (l.take m) := by
  rcases h with ⟨rfl, h | ⟨a, c', h⟩⟩ | ⟨h0, g', off', c', h, hc, hB, hg, hcell⟩
  · cases h
  · simp only [Value.slice.injEq, Option.some.injEq] at h
    obtain ⟨rfl, rfl, rfl⟩ := h
    have : m = 0 := by omega
    subst this
    exact .inl ⟨by simp, .inr ⟨_, _, rfl⟩⟩
  · simp only [Value.slice.injEq, Option.some.injEq, Addr.mk.injEq, and_true] at h
    obtain ⟨⟨rfl, rfl⟩, rfl, rfl⟩ := h
    by_cases h0' : m = 0
    · subst h0'
      exact .inl ⟨by simp, .inr ⟨_, _, rfl⟩⟩
    · refine .inr ⟨by simp; omega, g, off, c, by simp; omega, by simp; omega, hB, hg, fun i hi => ?_⟩
      simp at hi
      rw [hcell i (by omega)]
      have h1 : i < m := by omega
      have h2 : i < l.length := by omega
      simp [h1, h2]

end Go.Proofs.YtllgogkjcbdpkaaGreat.Z
