/- What the package's split does with its arguments, whole. -/
import Derived.Test.YtgcofpmhojplhaaGreatDoorU8
namespace Go.Proofs.YtgcofpmhojplhaaGreatDoor
open Go.RowKit

/-- From the end on, so many cuts at most. -/
def rs (p : List UInt8) (m : Nat) (s : List UInt8) : List (List UInt8) :=
  if (pc p s.length s).length ≤ m then pc p s.length s else joined p ((pc p s.length s).length - m) (pc p s.length s)
/-- What split answers: a bound below 0 is none. -/
def splitO (back : Bool) (s : List UInt8) (sep : Option (List UInt8)) (z : Int) : Option (List (List UInt8)) := match sep with
  | none => some (if z < 0 then wd blankB s.length s else if back then wdB blankB z.toNat s else wd blankB z.toNat s)
  | some p => if p = [] then none else some (if z < 0 then pc p s.length s else if back then rs p z.toNat s else pc p z.toNat s)
theorem join_le (p s : List UInt8) (e : Nat) (he : e ≤ (pc p s.length s).length) : (joinL p ((pc p s.length s).take e)).length ≤ s.length := by
  cases e with
  | zero => simp [joinL]
  | succ e =>
    have h0 := cut_pos p s s.length 0
    rw [List.drop_zero] at h0
    have hlen := cutAt_len s p.length (pos p s.length s 0) 0
    have hcj := cut_join p s e (pos p s.length s 0) 0 (by rw [← h0] at he; omega) (by have := pos_pair p s s.length 0; rwa [List.drop_zero] at this) (by have := pos_hits p s s.length 0; rwa [List.drop_zero] at this)
    rw [h0] at hcj
    cases hd : (pos p s.length s 0).drop e with
    | nil =>
      rw [hd] at hcj
      simp only [cutAt, List.cons.injEq] at hcj
      rw [← hcj.1]; simp
    | cons c cs =>
      rw [hd] at hcj
      simp only [cutAt, List.cons.injEq] at hcj
      rw [← hcj.1]; simp; omega
theorem args_one {t : TypeId} {x : Value} {v : Value} {w : World} {B : Nat} (h : w.ownsRow B 52 1 v 1 [.iface t x]) : SplitArgs v t x (-1) w := by
  obtain ⟨A, c, rfl⟩ := own_len h
  obtain ⟨g, rfl⟩ := own_form h (by omega)
  have hg := h.cellAt 0 (by omega)
  have hgl := (own_cap h).2.2
  intro w1 hb nm hh a b B' k0 _ k2 k3 k4 k5 hab _ _ hBa _ _
  exact f58_val nm t x g c hh a b B' _ w1 ((hb.cell (p := ⟨g, 0, none⟩) hgl).trans hg) k0 k2 k3 k4 hab hBa
theorem args_two {t : TypeId} {x : Value} {z : Int} {v : Value} {w : World} {B : Nat} (h : w.ownsRow B 52 1 v 2 [.iface t x, .iface 150 (.agg #[.int .i64 z, .pointer none])]) : SplitArgs v t x z w := by
  obtain ⟨A, c, rfl⟩ := own_len h
  obtain ⟨g, rfl⟩ := own_form h (by omega)
  have hg := h.cellAt 0 (by omega)
  have hg1 := h.cellAt 1 (by omega)
  have hgl := (own_cap h).2.2
  intro w1 hb nm hh a b B' k0 k1 k2 k3 k4 k5 hab ha _ hBa hBb hha
  exact f58_int nm t x z g c hh a b B' _ w1 ((hb.cell (p := ⟨g, 0, none⟩) hgl).trans hg) ((hb.cell (p := ⟨g, 1, none⟩) hgl).trans hg1) k0 k1 k2 k3 k4 k5 hab hBa hBb (by omega) hha
def nmOf (back : Bool) : ByteArray := if back then ⟨#[114, 115, 112, 108, 105, 116]⟩ else ⟨#[115, 112, 108, 105, 116]⟩
theorem split_words (back : Bool) (s : ByteArray) (ha : Asc s.data.toList) (hs : s.size ≤ 100000) (ar : Value) (z : Int) (hz : z ≤ 1000) (w : World) (hT : Lib.Utf8Tabs 1 2 w) (hun : SplitArgs ar 65 (.int .u8 0) z w) :
    SplitDoes (nmOf back) s ar (splitO back s.data.toList none z) w := by
  intro w1 hb1 b hbx
  have hT1 := tabs_below hT hb1
  have hun1 := hun.below hb1
  show Calls _ _ _ _ (SplitIs _ w1)
  by_cases h0 : z < 0
  · rw [if_pos h0, ← size_list0]
    exact f43_fields _ s ha hs b ar z h0 w1 hT1 hbx hun1
  · rw [if_neg h0]
    cases back
    · exact f43_space s ha hs b ar z z.toNat (by omega) (by omega) w1 hT1 hbx hun1
    · exact f43_rspace s ha hs b ar z z.toNat (by omega) (by omega) w1 hT1 hbx hun1
theorem split_seps (back : Bool) (s p : ByteArray) (ha : Asc s.data.toList) (hs : s.size ≤ 100000) (hp : p.size ≤ 100000) (ar : Value) (z : Int) (hz : z ≤ 1000) (w : World) (hT : Lib.Utf8Tabs 1 2 w) (hun : SplitArgs ar 72 (.string p) z w) :
    SplitDoes (nmOf back) s ar (splitO back s.data.toList (some p.data.toList) z) w := by
  intro w1 hb1 b hbx
  have hT1 := tabs_below hT hb1
  have hun1 := hun.below hb1
  unfold splitO
  by_cases hp0 : p.size = 0
  · have hp1 : p.data.toList = [] := List.length_eq_zero_iff.1 (by rw [← size_list0]; exact hp0)
    simp only [hp1, if_true]
    exact f43_void _ s ha hs b ar z p hp0 w1 hT1 hbx hun1
  · have hp1 : p.data.toList ≠ [] := fun h => hp0 (by rw [size_list0, h]; rfl)
    simp only [hp1, if_false]
    show Calls _ _ _ _ (SplitIs _ w1)
    by_cases h0 : z < 0
    · rw [if_pos h0, ← size_list0]
      exact f43_sep _ s ha hs b ar z h0 p hp (by omega) w1 hT1 hbx hun1
    · rw [if_neg h0]
      cases back
      · exact f43_sepN s ha hs b ar z z.toNat (by omega) (by omega) p hp (by omega) w1 hT1 hbx hun1
      · simp only [if_true]
        unfold rs
        rw [← size_list0]
        by_cases hle : (pc p.data.toList s.size s.data.toList).length ≤ z.toNat
        · rw [if_pos hle]
          exact f43_rsepA s ha hs b ar z z.toNat (by omega) (by omega) p hp (by omega) hle w1 hT1 hbx hun1
        · rw [if_neg hle]
          have hj := join_le p.data.toList s.data.toList ((pc p.data.toList s.size s.data.toList).length - z.toNat) (by rw [← size_list0]; omega)
          rw [← size_list0] at hj
          exact f43_rsepB s ha hs b ar z z.toNat (by omega) (by omega) p hp (by omega) ((pc p.data.toList s.size s.data.toList).length - z.toNat) (by omega) (by omega) (by omega) w1 hT1 hbx hun1
end Go.Proofs.YtgcofpmhojplhaaGreatDoor
