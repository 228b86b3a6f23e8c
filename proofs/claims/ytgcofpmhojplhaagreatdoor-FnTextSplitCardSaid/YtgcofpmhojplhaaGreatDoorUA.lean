/- The thin package's TextSplit, whole. -/
import Derived.Test.YtgcofpmhojplhaaGreatDoorU9
namespace Go.Proofs.YtgcofpmhojplhaaGreatDoor
open Go.RowKit

theorem splitO_len (back : Bool) (s : List UInt8) (sep : Option (List UInt8)) (z : Int) (hs : s.length ≤ 100000) (hz : z ≤ 1000) (l : List (List UInt8)) (h : splitO back s sep z = some l) : l.length ≤ 1000000 := by
  cases sep with
  | none =>
    simp only [splitO, Option.some.injEq] at h
    subst h
    split
    · have := wd_len blankB s.length s; omega
    · split
      · have := wdB_len blankB z.toNat s; omega
      · have := wd_len blankB z.toNat s; omega
  | some p =>
    simp only [splitO] at h
    split at h
    · cases h
    · simp only [Option.some.injEq] at h
      subst h
      have h1 := pc_len p s.length s
      split
      · omega
      · split
        · unfold rs
          split
          · omega
          · rw [joined_len]; omega
        · have := pc_len p z.toNat s; omega
/-- What the bound's argument is: none, or one small integer. -/
def MaxArg (mv : Value) (z : Int) (w : World) : Prop := (mv = .slice none 0 0 ∧ z = -1) ∨ ∃ g c d a n cc, mv = .slice (some ⟨g, 0, none⟩) 1 c ∧ Z.smallB z = true ∧ VCells g w d (.slice a n cc) ∧ Z.VInt 0 4000 w (VAgg d (.slice a n cc)) z
theorem VCells.below {g : Nat} {w w' : World} {d : Bool} {sl : Value} (h : VCells g w d sl) (hb : Below w.heap.size w w') : VCells g w' d sl :=
  ⟨cell_below h.1 hb, cell_below h.2.1 hb, cell_below h.2.2.1 hb, cell_below h.2.2.2.1 hb, cell_below h.2.2.2.2.1 hb, cell_below h.2.2.2.2.2 hb⟩
theorem MaxArg.below {mv : Value} {z : Int} {w w' : World} (h : MaxArg mv z w) (hb : Below w.heap.size w w') : MaxArg mv z w' := by
  rcases h with h | ⟨g, c, d, a, n, cc, h1, h2, h3, h4⟩
  · exact .inl h
  · exact .inr ⟨g, c, d, a, n, cc, h1, h2, h3.below hb, h4.below hb (Nat.le_refl _)⟩
/-- The arguments that stand for the bound. -/
theorem MaxArg.scal {mv : Value} {z : Int} {w : World} (h : MaxArg mv z w) : ∃ xs : List Value, xs.length ≤ 1 ∧ (∀ u ∈ xs, u.oneCell' = true) ∧ (∀ w1, Below w.heap.size w w1 → Calls Tryz.prog 22 #[mv] w1 (ScalIs xs w1)) ∧
    (∀ (t : TypeId) (x : Value) (w1 : World) (ar : Value), w1.ownsRow w.heap.size 52 1 ar (1 + xs.length) ([.iface t x] ++ xs) → SplitArgs ar t x z w1) := by
  rcases h with ⟨rfl, rfl⟩ | ⟨g, c, d, a, n, cc, rfl, hz, hc, hv⟩
  · exact ⟨[], by simp, (fun u hu => by cases hu), fun w1 _ => f22_of _ _ w1 (f40_none w1), fun t x w1 ar h => args_one h⟩
  · exact ⟨[.iface 150 (.agg #[.int .i64 z, .pointer none])], by simp, fun u hu => by simp at hu; subst hu; rfl, fun w1 hb => f22_of _ _ w1 (f40_one g c d a n cc z hz w1 (hc.below hb) (hv.below hb (Nat.le_refl _))), fun t x w1 ar h => args_two h⟩
theorem im_words (back : Bool) (s : ByteArray) (ha : Asc s.data.toList) (hs : s.size ≤ 100000) (mv : Value) (z : Int) (hz : z ≤ 1000) (w : World) (hT : Lib.Utf8Tabs 1 2 w) (hm : MaxArg mv z w) :
    Calls Tryz.prog 12 #[.bool back, .string s, .slice none 0 0, mv] w (TripIs (splitO back s.data.toList none z) w) := by
  obtain ⟨xs, h1, h2, h3, h4⟩ := hm.scal
  obtain ⟨l, hl⟩ : ∃ l, splitO back s.data.toList none z = some l := ⟨_, rfl⟩
  have hln := splitO_len back s.data.toList none z (by rw [← size_list0]; exact hs) hz l hl
  have hd : ∀ w1 ar, Below w.heap.size w w1 → w1.ownsRow w.heap.size 52 1 ar (1 + xs.length) ([.iface 65 (.int .u8 0)] ++ xs) → SplitDoes (nmOf back) s ar (some l) w1 := fun w1 ar hb ho => by
    rw [← hl]
    exact split_words back s ha hs ar z hz w1 (tabs_below hT hb) (h4 _ _ w1 ar ho)
  rw [hl]
  cases back
  · exact f12_fore0_some s mv xs h1 h2 l hln w h3 hd
  · exact f12_back0_some s mv xs h1 h2 l hln w h3 hd
theorem im_seps (back : Bool) (s p : ByteArray) (ha : Asc s.data.toList) (hs : s.size ≤ 100000) (hp : p.size ≤ 100000) (mv : Value) (z : Int) (hz : z ≤ 1000) (g c : Nat) (w : World) (hT : Lib.Utf8Tabs 1 2 w) (hg : w.cell? ⟨g, 0, none⟩ = some (.string p)) (hm : MaxArg mv z w) :
    Calls Tryz.prog 12 #[.bool back, .string s, .slice (some ⟨g, 0, none⟩) 1 c, mv] w (TripIs (splitO back s.data.toList (some p.data.toList) z) w) := by
  obtain ⟨xs, h1, h2, h3, h4⟩ := hm.scal
  have hd : ∀ w1 ar, Below w.heap.size w w1 → w1.ownsRow w.heap.size 52 1 ar (1 + xs.length) ([.iface 72 (.string p)] ++ xs) → SplitDoes (nmOf back) s ar (splitO back s.data.toList (some p.data.toList) z) w1 := fun w1 ar hb ho =>
    split_seps back s p ha hs hp ar z hz w1 (tabs_below hT hb) (h4 _ _ w1 ar ho)
  cases hl : splitO back s.data.toList (some p.data.toList) z with
  | none =>
    rw [hl] at hd
    cases back
    · exact f12_fore1_none s mv xs h1 h2 w p g c hg h3 hd
    · exact f12_back1_none s mv xs h1 h2 w p g c hg h3 hd
  | some l =>
    have hln := splitO_len back s.data.toList _ z (by rw [← size_list0]; exact hs) hz l hl
    rw [hl] at hd
    cases back
    · exact f12_fore1_some s mv xs h1 h2 l hln w p g c hg h3 hd
    · exact f12_back1_some s mv xs h1 h2 l hln w p g c hg h3 hd
end Go.Proofs.YtgcofpmhojplhaaGreatDoor
