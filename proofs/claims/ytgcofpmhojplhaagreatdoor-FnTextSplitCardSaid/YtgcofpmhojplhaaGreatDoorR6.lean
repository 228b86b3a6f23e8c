/- Walks of the package's strip. (Printed by mkr6.py.) -/
import Derived.Test.YtgcofpmhojplhaaGreatDoorR4
import Derived.Test.YtgcofpmhojplhaaGreatDoorR5
import Derived.StillTailTactics
namespace Go.Proofs.YtgcofpmhojplhaaGreatDoor
open Go.RowKit

/-- Block b is a bound builtin. -/
def BoxAt (b : Nat) (nm s : ByteArray) (w : World) : Prop := w.cell? ⟨b, 0, none⟩ = some (.string nm) ∧ w.cell? ⟨b, 2, none⟩ = some (.iface 72 (.string s))
theorem BoxAt.below {b : Nat} {nm s : ByteArray} {w w' : World} (h : BoxAt b nm s w) (hb : Below w.heap.size w w') : BoxAt b nm s w' := ⟨cell_below h.1 hb, cell_below h.2 hb⟩
def Boxed (nm s : ByteArray) (w : World) (e : Ending) (w' : World) : Prop := e = .returned (.pointer (some ⟨w.heap.size, 0, none⟩)) ∧ BoxAt w.heap.size nm s w' ∧ Below w.heap.size w w'
set_option maxRecDepth 100000 in
theorem f57_any (nm s : ByteArray) (b : Nat) (w : World) (h0 : w.cell? ⟨b, 0, none⟩ = some (.string nm)) (h1 : w.cell? ⟨b, 1, none⟩ = some (.func (.func 35) #[] #[])) :
    Calls Tryz.prog 57 #[.pointer (some ⟨b, 0, none⟩), .iface 72 (.string s)] w (Boxed nm s w) := by
  go_enter Tryz.func57, Tryz.ntmps57
  go_wp2
  go_still_tail 10, (by kernel_rfl)
  go_wp2
  go_ret
  exact ⟨rfl, ⟨by simp, by simp⟩, ((Below.refl w.heap.size w).drew).alloc (Nat.le_refl _) _⟩
/-- A text, and no error. -/
def TextIs (l : List UInt8) (w : World) (e : Ending) (w' : World) : Prop := ∃ t : ByteArray, t.data.toList = l ∧ e = .returned (.tuple #[.iface 72 (.string t), .nilIface]) ∧ Below w.heap.size w w'
theorem tr_mem (p : UInt8 → Bool) : ∀ l, ∀ b ∈ tr p l, b ∈ l
  | [], _, h => h
  | a :: t, b, h => by
    simp only [tr] at h
    split at h
    · split at h
      · cases h
      · simp at h; simp [h]
    · rcases List.mem_cons.1 h with h | h
      · simp [h]
      · exact List.mem_cons_of_mem _ (tr_mem p t b h)
theorem tr_asc {l : List UInt8} (h : Asc l) (p : UInt8 → Bool) : Asc (tr p l) := fun b hb => h b (tr_mem p l b hb)
theorem tr_len (p : UInt8 → Bool) : ∀ l, (tr p l).length ≤ l.length
  | [] => Nat.le_refl _
  | a :: t => by
    have ih := tr_len p t
    simp only [tr]
    split
    · split <;> simp
    · simp; exact ih
set_option maxRecDepth 100000 in
set_option maxHeartbeats 2000000 in
theorem f35_lstrip_none (s : ByteArray) (ha : Asc s.data.toList) (_hs : s.size ≤ 100000) (b : Nat) (w : World) (hb : BoxAt b ⟨#[108, 115, 116, 114, 105, 112]⟩ s w) (hT : Lib.Utf8Tabs 1 2 w) (ar : Value) (har : ar = .slice none 0 0 ∨ ∃ a c, ar = .slice (some a) 0 c) :
    Calls Tryz.prog 35 #[.pointer none, .pointer (some ⟨b, 0, none⟩), ar, .slice none 0 0] w (TextIs (tl blankB s.data.toList) w) := by
  have a72 : ∀ w, (Instr.typeAssert (.iface 72 (.string s)) 52 72 false).run Tryz.prog w = .ok (.string s) w := fun _ => by kernel_rfl
  have HA : Hid (Below w.heap.size w (w.alloc (.cells #[.string ⟨#[]⟩] 9))) := (Below.refl _ _).alloc (Nat.le_refl _) _
  have HA2 : Hid (Below w.heap.size w ((w.alloc (.cells #[.string ⟨#[]⟩] 9)).alloc (.cells #[.iface 105 (.pointer (some ⟨w.heap.size, 0, none⟩))] 20))) := HA.out.alloc (by simp) _
  have HB0 := Lib.hid (hb.below HA.out)
  have HAS := Lib.hid ha
  have HTT := Lib.hid hT
  have HBB := Lib.hid hb
  have HAR := Lib.hid har
  clear har
  clear hb ha hT
  go_enter Tryz.func35, Tryz.ntmps35
  go_wp2_with fail
  go_at_call 59
  refine (f59_any ⟨#[108, 115, 116, 114, 105, 112]⟩ b _ HB0.out.1).mono ?_
  rintro e w1 ⟨rfl, rfl⟩
  go_wp2_with fail
  go_at_call 58
  refine (f58_none ⟨#[108, 115, 116, 114, 105, 112]⟩ ar HAR.out _ _).mono ?_
  rintro e w2 ⟨rfl, hw2⟩
  have HW : Hid (Below w.heap.size w w2) := hw2 ▸ HA2.out
  have hp : w2.cell? ⟨w.heap.size, 0, none⟩ = some (.string ⟨#[]⟩) := by rw [← hw2]; simp
  have HBX := Lib.hid (HBB.out.below HW.out)
  clear hw2
  have he : (⟨#[]⟩ : ByteArray).toList.isEmpty = true := by rw [empty_iff]; exact decide_eq_true rfl
  go_wp2_with (first
    | (go_at_call 60; refine (f60_any s b _ HBX.out.2).mono ?_; rintro e w3 ⟨rfl, rfl⟩)
    | (go_at_call 59; refine (f59_any ⟨#[108, 115, 116, 114, 105, 112]⟩ b _ HBX.out.1).mono ?_; rintro e w3 ⟨rfl, rfl⟩)
    | (go_at_call 64; refine (f64_asc s HAS.out _).mono ?_; rintro e w4 ⟨t, ht, rfl, hb4⟩; have HT4 := Lib.hid ht; have HB4 := Lib.hid (HW.out.trans (hb4.mono HW.out.size)); clear ht hb4))
  go_ret2
  exact ⟨t, HT4.out, rfl, HB4.out⟩
set_option maxRecDepth 100000 in
set_option maxHeartbeats 2000000 in
theorem f35_rstrip_none (s : ByteArray) (ha : Asc s.data.toList) (hs : s.size ≤ 100000) (b : Nat) (w : World) (hb : BoxAt b ⟨#[114, 115, 116, 114, 105, 112]⟩ s w) (hT : Lib.Utf8Tabs 1 2 w) (ar : Value) (har : ar = .slice none 0 0 ∨ ∃ a c, ar = .slice (some a) 0 c) :
    Calls Tryz.prog 35 #[.pointer none, .pointer (some ⟨b, 0, none⟩), ar, .slice none 0 0] w (TextIs (tr blankB s.data.toList) w) := by
  have a72 : ∀ w, (Instr.typeAssert (.iface 72 (.string s)) 52 72 false).run Tryz.prog w = .ok (.string s) w := fun _ => by kernel_rfl
  have HA : Hid (Below w.heap.size w (w.alloc (.cells #[.string ⟨#[]⟩] 9))) := (Below.refl _ _).alloc (Nat.le_refl _) _
  have HA2 : Hid (Below w.heap.size w ((w.alloc (.cells #[.string ⟨#[]⟩] 9)).alloc (.cells #[.iface 105 (.pointer (some ⟨w.heap.size, 0, none⟩))] 20))) := HA.out.alloc (by simp) _
  have HB0 := Lib.hid (hb.below HA.out)
  have HAS := Lib.hid ha
  have HTT := Lib.hid hT
  have HBB := Lib.hid hb
  have HAR := Lib.hid har
  clear har
  clear hb ha hT
  go_enter Tryz.func35, Tryz.ntmps35
  go_wp2_with fail
  go_at_call 59
  refine (f59_any ⟨#[114, 115, 116, 114, 105, 112]⟩ b _ HB0.out.1).mono ?_
  rintro e w1 ⟨rfl, rfl⟩
  go_wp2_with fail
  go_at_call 58
  refine (f58_none ⟨#[114, 115, 116, 114, 105, 112]⟩ ar HAR.out _ _).mono ?_
  rintro e w2 ⟨rfl, hw2⟩
  have HW : Hid (Below w.heap.size w w2) := hw2 ▸ HA2.out
  have hp : w2.cell? ⟨w.heap.size, 0, none⟩ = some (.string ⟨#[]⟩) := by rw [← hw2]; simp
  have HBX := Lib.hid (HBB.out.below HW.out)
  clear hw2
  have he : (⟨#[]⟩ : ByteArray).toList.isEmpty = true := by rw [empty_iff]; exact decide_eq_true rfl
  go_wp2_with (first
    | (go_at_call 60; refine (f60_any s b _ HBX.out.2).mono ?_; rintro e w3 ⟨rfl, rfl⟩)
    | (go_at_call 59; refine (f59_any ⟨#[114, 115, 116, 114, 105, 112]⟩ b _ HBX.out.1).mono ?_; rintro e w3 ⟨rfl, rfl⟩)
    | (go_at_call 66; refine (f66_asc s HAS.out hs _ (tabs_below HTT.out HW.out)).mono ?_; rintro e w4 ⟨t, ht, rfl, hb4⟩; have HT4 := Lib.hid ht; have HB4 := Lib.hid (HW.out.trans (hb4.mono HW.out.size)); clear ht hb4))
  go_ret2
  exact ⟨t, HT4.out, rfl, HB4.out⟩
set_option maxRecDepth 100000 in
set_option maxHeartbeats 2000000 in
theorem f35_strip_none (s : ByteArray) (ha : Asc s.data.toList) (hs : s.size ≤ 100000) (b : Nat) (w : World) (hb : BoxAt b ⟨#[115, 116, 114, 105, 112]⟩ s w) (hT : Lib.Utf8Tabs 1 2 w) (ar : Value) (har : ar = .slice none 0 0 ∨ ∃ a c, ar = .slice (some a) 0 c) :
    Calls Tryz.prog 35 #[.pointer none, .pointer (some ⟨b, 0, none⟩), ar, .slice none 0 0] w (TextIs (tr blankB (tl blankB s.data.toList)) w) := by
  have a72 : ∀ w, (Instr.typeAssert (.iface 72 (.string s)) 52 72 false).run Tryz.prog w = .ok (.string s) w := fun _ => by kernel_rfl
  have HA : Hid (Below w.heap.size w (w.alloc (.cells #[.string ⟨#[]⟩] 9))) := (Below.refl _ _).alloc (Nat.le_refl _) _
  have HA2 : Hid (Below w.heap.size w ((w.alloc (.cells #[.string ⟨#[]⟩] 9)).alloc (.cells #[.iface 105 (.pointer (some ⟨w.heap.size, 0, none⟩))] 20))) := HA.out.alloc (by simp) _
  have HB0 := Lib.hid (hb.below HA.out)
  have HAS := Lib.hid ha
  have HTT := Lib.hid hT
  have HBB := Lib.hid hb
  have HAR := Lib.hid har
  clear har
  clear hb ha hT
  go_enter Tryz.func35, Tryz.ntmps35
  go_wp2_with fail
  go_at_call 59
  refine (f59_any ⟨#[115, 116, 114, 105, 112]⟩ b _ HB0.out.1).mono ?_
  rintro e w1 ⟨rfl, rfl⟩
  go_wp2_with fail
  go_at_call 58
  refine (f58_none ⟨#[115, 116, 114, 105, 112]⟩ ar HAR.out _ _).mono ?_
  rintro e w2 ⟨rfl, hw2⟩
  have HW : Hid (Below w.heap.size w w2) := hw2 ▸ HA2.out
  have hp : w2.cell? ⟨w.heap.size, 0, none⟩ = some (.string ⟨#[]⟩) := by rw [← hw2]; simp
  have HBX := Lib.hid (HBB.out.below HW.out)
  clear hw2
  have he : (⟨#[]⟩ : ByteArray).toList.isEmpty = true := by rw [empty_iff]; exact decide_eq_true rfl
  go_wp2_with (first
    | (go_at_call 60; refine (f60_any s b _ HBX.out.2).mono ?_; rintro e w3 ⟨rfl, rfl⟩)
    | (go_at_call 59; refine (f59_any ⟨#[115, 116, 114, 105, 112]⟩ b _ HBX.out.1).mono ?_; rintro e w3 ⟨rfl, rfl⟩)
    | (go_at_call 63; refine (f63_asc s HAS.out hs _ (tabs_below HTT.out HW.out)).mono ?_; rintro e w4 ⟨t, ht, rfl, hb4⟩; have HT4 := Lib.hid ht; have HB4 := Lib.hid (HW.out.trans (hb4.mono HW.out.size)); clear ht hb4))
  go_ret2
  exact ⟨t, HT4.out, rfl, HB4.out⟩
set_option maxRecDepth 100000 in
set_option maxHeartbeats 2000000 in
theorem f35_lstrip_void (s : ByteArray) (ha : Asc s.data.toList) (_hs : s.size ≤ 100000) (b : Nat) (w : World) (hb : BoxAt b ⟨#[108, 115, 116, 114, 105, 112]⟩ s w) (hT : Lib.Utf8Tabs 1 2 w) (g c : Nat) (hg : w.cell? ⟨g, 0, none⟩ = some (.iface 72 (.string ⟨#[]⟩))) :
    Calls Tryz.prog 35 #[.pointer none, .pointer (some ⟨b, 0, none⟩), (.slice (some ⟨g, 0, none⟩) 1 c), .slice none 0 0] w (TextIs (tl blankB s.data.toList) w) := by
  have a72 : ∀ w, (Instr.typeAssert (.iface 72 (.string s)) 52 72 false).run Tryz.prog w = .ok (.string s) w := fun _ => by kernel_rfl
  have HA : Hid (Below w.heap.size w (w.alloc (.cells #[.string ⟨#[]⟩] 9))) := (Below.refl _ _).alloc (Nat.le_refl _) _
  have HA2 : Hid (Below w.heap.size w ((w.alloc (.cells #[.string ⟨#[]⟩] 9)).alloc (.cells #[.iface 105 (.pointer (some ⟨w.heap.size, 0, none⟩))] 20))) := HA.out.alloc (by simp) _
  have HB0 := Lib.hid (hb.below HA.out)
  have HAS := Lib.hid ha
  have HTT := Lib.hid hT
  have HBB := Lib.hid hb
  have HG := Lib.hid (cell_below hg HA2.out)
  clear hg
  clear hb ha hT
  go_enter Tryz.func35, Tryz.ntmps35
  go_wp2_with fail
  go_at_call 59
  refine (f59_any ⟨#[108, 115, 116, 114, 105, 112]⟩ b _ HB0.out.1).mono ?_
  rintro e w1 ⟨rfl, rfl⟩
  go_wp2_with fail
  go_at_call 58
  refine (f58_one ⟨#[108, 115, 116, 114, 105, 112]⟩ ⟨#[]⟩ g c (w.heap.size + 1) w.heap.size _ HG.out (by simp) (by simp) (by simp)).mono ?_
  rintro e w2 ⟨rfl, hw2⟩
  have HW : Hid (Below w.heap.size w w2) := hw2 ▸ HA2.out.setCell (Nat.le_refl _) _
  have hp : w2.cell? ⟨w.heap.size, 0, none⟩ = some (.string ⟨#[]⟩) := by rw [← hw2]; exact World.cell?_setCell_same' _ _ _ (by simp)
  have HBX := Lib.hid (HBB.out.below HW.out)
  clear hw2
  have he : (⟨#[]⟩ : ByteArray).toList.isEmpty = true := by rw [empty_iff]; exact decide_eq_true rfl
  go_wp2_with (first
    | (go_at_call 60; refine (f60_any s b _ HBX.out.2).mono ?_; rintro e w3 ⟨rfl, rfl⟩)
    | (go_at_call 59; refine (f59_any ⟨#[108, 115, 116, 114, 105, 112]⟩ b _ HBX.out.1).mono ?_; rintro e w3 ⟨rfl, rfl⟩)
    | (go_at_call 64; refine (f64_asc s HAS.out _).mono ?_; rintro e w4 ⟨t, ht, rfl, hb4⟩; have HT4 := Lib.hid ht; have HB4 := Lib.hid (HW.out.trans (hb4.mono HW.out.size)); clear ht hb4))
  go_ret2
  exact ⟨t, HT4.out, rfl, HB4.out⟩
set_option maxRecDepth 100000 in
set_option maxHeartbeats 2000000 in
theorem f35_rstrip_void (s : ByteArray) (ha : Asc s.data.toList) (hs : s.size ≤ 100000) (b : Nat) (w : World) (hb : BoxAt b ⟨#[114, 115, 116, 114, 105, 112]⟩ s w) (hT : Lib.Utf8Tabs 1 2 w) (g c : Nat) (hg : w.cell? ⟨g, 0, none⟩ = some (.iface 72 (.string ⟨#[]⟩))) :
    Calls Tryz.prog 35 #[.pointer none, .pointer (some ⟨b, 0, none⟩), (.slice (some ⟨g, 0, none⟩) 1 c), .slice none 0 0] w (TextIs (tr blankB s.data.toList) w) := by
  have a72 : ∀ w, (Instr.typeAssert (.iface 72 (.string s)) 52 72 false).run Tryz.prog w = .ok (.string s) w := fun _ => by kernel_rfl
  have HA : Hid (Below w.heap.size w (w.alloc (.cells #[.string ⟨#[]⟩] 9))) := (Below.refl _ _).alloc (Nat.le_refl _) _
  have HA2 : Hid (Below w.heap.size w ((w.alloc (.cells #[.string ⟨#[]⟩] 9)).alloc (.cells #[.iface 105 (.pointer (some ⟨w.heap.size, 0, none⟩))] 20))) := HA.out.alloc (by simp) _
  have HB0 := Lib.hid (hb.below HA.out)
  have HAS := Lib.hid ha
  have HTT := Lib.hid hT
  have HBB := Lib.hid hb
  have HG := Lib.hid (cell_below hg HA2.out)
  clear hg
  clear hb ha hT
  go_enter Tryz.func35, Tryz.ntmps35
  go_wp2_with fail
  go_at_call 59
  refine (f59_any ⟨#[114, 115, 116, 114, 105, 112]⟩ b _ HB0.out.1).mono ?_
  rintro e w1 ⟨rfl, rfl⟩
  go_wp2_with fail
  go_at_call 58
  refine (f58_one ⟨#[114, 115, 116, 114, 105, 112]⟩ ⟨#[]⟩ g c (w.heap.size + 1) w.heap.size _ HG.out (by simp) (by simp) (by simp)).mono ?_
  rintro e w2 ⟨rfl, hw2⟩
  have HW : Hid (Below w.heap.size w w2) := hw2 ▸ HA2.out.setCell (Nat.le_refl _) _
  have hp : w2.cell? ⟨w.heap.size, 0, none⟩ = some (.string ⟨#[]⟩) := by rw [← hw2]; exact World.cell?_setCell_same' _ _ _ (by simp)
  have HBX := Lib.hid (HBB.out.below HW.out)
  clear hw2
  have he : (⟨#[]⟩ : ByteArray).toList.isEmpty = true := by rw [empty_iff]; exact decide_eq_true rfl
  go_wp2_with (first
    | (go_at_call 60; refine (f60_any s b _ HBX.out.2).mono ?_; rintro e w3 ⟨rfl, rfl⟩)
    | (go_at_call 59; refine (f59_any ⟨#[114, 115, 116, 114, 105, 112]⟩ b _ HBX.out.1).mono ?_; rintro e w3 ⟨rfl, rfl⟩)
    | (go_at_call 66; refine (f66_asc s HAS.out hs _ (tabs_below HTT.out HW.out)).mono ?_; rintro e w4 ⟨t, ht, rfl, hb4⟩; have HT4 := Lib.hid ht; have HB4 := Lib.hid (HW.out.trans (hb4.mono HW.out.size)); clear ht hb4))
  go_ret2
  exact ⟨t, HT4.out, rfl, HB4.out⟩
set_option maxRecDepth 100000 in
set_option maxHeartbeats 2000000 in
theorem f35_strip_void (s : ByteArray) (ha : Asc s.data.toList) (hs : s.size ≤ 100000) (b : Nat) (w : World) (hb : BoxAt b ⟨#[115, 116, 114, 105, 112]⟩ s w) (hT : Lib.Utf8Tabs 1 2 w) (g c : Nat) (hg : w.cell? ⟨g, 0, none⟩ = some (.iface 72 (.string ⟨#[]⟩))) :
    Calls Tryz.prog 35 #[.pointer none, .pointer (some ⟨b, 0, none⟩), (.slice (some ⟨g, 0, none⟩) 1 c), .slice none 0 0] w (TextIs (tr blankB (tl blankB s.data.toList)) w) := by
  have a72 : ∀ w, (Instr.typeAssert (.iface 72 (.string s)) 52 72 false).run Tryz.prog w = .ok (.string s) w := fun _ => by kernel_rfl
  have HA : Hid (Below w.heap.size w (w.alloc (.cells #[.string ⟨#[]⟩] 9))) := (Below.refl _ _).alloc (Nat.le_refl _) _
  have HA2 : Hid (Below w.heap.size w ((w.alloc (.cells #[.string ⟨#[]⟩] 9)).alloc (.cells #[.iface 105 (.pointer (some ⟨w.heap.size, 0, none⟩))] 20))) := HA.out.alloc (by simp) _
  have HB0 := Lib.hid (hb.below HA.out)
  have HAS := Lib.hid ha
  have HTT := Lib.hid hT
  have HBB := Lib.hid hb
  have HG := Lib.hid (cell_below hg HA2.out)
  clear hg
  clear hb ha hT
  go_enter Tryz.func35, Tryz.ntmps35
  go_wp2_with fail
  go_at_call 59
  refine (f59_any ⟨#[115, 116, 114, 105, 112]⟩ b _ HB0.out.1).mono ?_
  rintro e w1 ⟨rfl, rfl⟩
  go_wp2_with fail
  go_at_call 58
  refine (f58_one ⟨#[115, 116, 114, 105, 112]⟩ ⟨#[]⟩ g c (w.heap.size + 1) w.heap.size _ HG.out (by simp) (by simp) (by simp)).mono ?_
  rintro e w2 ⟨rfl, hw2⟩
  have HW : Hid (Below w.heap.size w w2) := hw2 ▸ HA2.out.setCell (Nat.le_refl _) _
  have hp : w2.cell? ⟨w.heap.size, 0, none⟩ = some (.string ⟨#[]⟩) := by rw [← hw2]; exact World.cell?_setCell_same' _ _ _ (by simp)
  have HBX := Lib.hid (HBB.out.below HW.out)
  clear hw2
  have he : (⟨#[]⟩ : ByteArray).toList.isEmpty = true := by rw [empty_iff]; exact decide_eq_true rfl
  go_wp2_with (first
    | (go_at_call 60; refine (f60_any s b _ HBX.out.2).mono ?_; rintro e w3 ⟨rfl, rfl⟩)
    | (go_at_call 59; refine (f59_any ⟨#[115, 116, 114, 105, 112]⟩ b _ HBX.out.1).mono ?_; rintro e w3 ⟨rfl, rfl⟩)
    | (go_at_call 63; refine (f63_asc s HAS.out hs _ (tabs_below HTT.out HW.out)).mono ?_; rintro e w4 ⟨t, ht, rfl, hb4⟩; have HT4 := Lib.hid ht; have HB4 := Lib.hid (HW.out.trans (hb4.mono HW.out.size)); clear ht hb4))
  go_ret2
  exact ⟨t, HT4.out, rfl, HB4.out⟩
set_option maxRecDepth 100000 in
set_option maxHeartbeats 2000000 in
theorem f35_lstrip_full (s : ByteArray) (ha : Asc s.data.toList) (hs : s.size ≤ 100000) (b : Nat) (w : World) (hb : BoxAt b ⟨#[108, 115, 116, 114, 105, 112]⟩ s w) (hT : Lib.Utf8Tabs 1 2 w) (cs : ByteArray) (hca : Asc cs.data.toList) (hcs : cs.size ≤ 100000) (hc0 : cs.size ≠ 0) (g c : Nat) (hg : w.cell? ⟨g, 0, none⟩ = some (.iface 72 (.string cs))) :
    Calls Tryz.prog 35 #[.pointer none, .pointer (some ⟨b, 0, none⟩), (.slice (some ⟨g, 0, none⟩) 1 c), .slice none 0 0] w (TextIs (tl (fun b => cs.data.toList.contains b) s.data.toList) w) := by
  have a72 : ∀ w, (Instr.typeAssert (.iface 72 (.string s)) 52 72 false).run Tryz.prog w = .ok (.string s) w := fun _ => by kernel_rfl
  have HA : Hid (Below w.heap.size w (w.alloc (.cells #[.string ⟨#[]⟩] 9))) := (Below.refl _ _).alloc (Nat.le_refl _) _
  have HA2 : Hid (Below w.heap.size w ((w.alloc (.cells #[.string ⟨#[]⟩] 9)).alloc (.cells #[.iface 105 (.pointer (some ⟨w.heap.size, 0, none⟩))] 20))) := HA.out.alloc (by simp) _
  have HB0 := Lib.hid (hb.below HA.out)
  have HAS := Lib.hid ha
  have HTT := Lib.hid hT
  have HBB := Lib.hid hb
  have HG := Lib.hid (cell_below hg HA2.out)
  clear hg
  have HACS := Lib.hid hca
  clear hca
  clear hb ha hT
  go_enter Tryz.func35, Tryz.ntmps35
  go_wp2_with fail
  go_at_call 59
  refine (f59_any ⟨#[108, 115, 116, 114, 105, 112]⟩ b _ HB0.out.1).mono ?_
  rintro e w1 ⟨rfl, rfl⟩
  go_wp2_with fail
  go_at_call 58
  refine (f58_one ⟨#[108, 115, 116, 114, 105, 112]⟩ cs g c (w.heap.size + 1) w.heap.size _ HG.out (by simp) (by simp) (by simp)).mono ?_
  rintro e w2 ⟨rfl, hw2⟩
  have HW : Hid (Below w.heap.size w w2) := hw2 ▸ HA2.out.setCell (Nat.le_refl _) _
  have hp : w2.cell? ⟨w.heap.size, 0, none⟩ = some (.string cs) := by rw [← hw2]; exact World.cell?_setCell_same' _ _ _ (by simp)
  have HBX := Lib.hid (HBB.out.below HW.out)
  clear hw2
  have he : (cs : ByteArray).toList.isEmpty = false := by rw [empty_iff]; exact decide_eq_false hc0
  go_wp2_with (first
    | (go_at_call 60; refine (f60_any s b _ HBX.out.2).mono ?_; rintro e w3 ⟨rfl, rfl⟩)
    | (go_at_call 59; refine (f59_any ⟨#[108, 115, 116, 114, 105, 112]⟩ b _ HBX.out.1).mono ?_; rintro e w3 ⟨rfl, rfl⟩)
    | (go_at_call 61; refine (f61_asc s cs HAS.out HACS.out hs hcs _).mono ?_; rintro e w4 ⟨t, ht, rfl, hb4⟩; have HT4 := Lib.hid ht; have HB4 := Lib.hid (HW.out.trans (hb4.mono HW.out.size)); clear ht hb4))
  go_ret2
  exact ⟨t, HT4.out, rfl, HB4.out⟩
set_option maxRecDepth 100000 in
set_option maxHeartbeats 2000000 in
theorem f35_rstrip_full (s : ByteArray) (ha : Asc s.data.toList) (hs : s.size ≤ 100000) (b : Nat) (w : World) (hb : BoxAt b ⟨#[114, 115, 116, 114, 105, 112]⟩ s w) (hT : Lib.Utf8Tabs 1 2 w) (cs : ByteArray) (hca : Asc cs.data.toList) (hcs : cs.size ≤ 100000) (hc0 : cs.size ≠ 0) (g c : Nat) (hg : w.cell? ⟨g, 0, none⟩ = some (.iface 72 (.string cs))) :
    Calls Tryz.prog 35 #[.pointer none, .pointer (some ⟨b, 0, none⟩), (.slice (some ⟨g, 0, none⟩) 1 c), .slice none 0 0] w (TextIs (tr (fun b => cs.data.toList.contains b) s.data.toList) w) := by
  have a72 : ∀ w, (Instr.typeAssert (.iface 72 (.string s)) 52 72 false).run Tryz.prog w = .ok (.string s) w := fun _ => by kernel_rfl
  have HA : Hid (Below w.heap.size w (w.alloc (.cells #[.string ⟨#[]⟩] 9))) := (Below.refl _ _).alloc (Nat.le_refl _) _
  have HA2 : Hid (Below w.heap.size w ((w.alloc (.cells #[.string ⟨#[]⟩] 9)).alloc (.cells #[.iface 105 (.pointer (some ⟨w.heap.size, 0, none⟩))] 20))) := HA.out.alloc (by simp) _
  have HB0 := Lib.hid (hb.below HA.out)
  have HAS := Lib.hid ha
  have HTT := Lib.hid hT
  have HBB := Lib.hid hb
  have HG := Lib.hid (cell_below hg HA2.out)
  clear hg
  have HACS := Lib.hid hca
  clear hca
  clear hb ha hT
  go_enter Tryz.func35, Tryz.ntmps35
  go_wp2_with fail
  go_at_call 59
  refine (f59_any ⟨#[114, 115, 116, 114, 105, 112]⟩ b _ HB0.out.1).mono ?_
  rintro e w1 ⟨rfl, rfl⟩
  go_wp2_with fail
  go_at_call 58
  refine (f58_one ⟨#[114, 115, 116, 114, 105, 112]⟩ cs g c (w.heap.size + 1) w.heap.size _ HG.out (by simp) (by simp) (by simp)).mono ?_
  rintro e w2 ⟨rfl, hw2⟩
  have HW : Hid (Below w.heap.size w w2) := hw2 ▸ HA2.out.setCell (Nat.le_refl _) _
  have hp : w2.cell? ⟨w.heap.size, 0, none⟩ = some (.string cs) := by rw [← hw2]; exact World.cell?_setCell_same' _ _ _ (by simp)
  have HBX := Lib.hid (HBB.out.below HW.out)
  clear hw2
  have he : (cs : ByteArray).toList.isEmpty = false := by rw [empty_iff]; exact decide_eq_false hc0
  go_wp2_with (first
    | (go_at_call 60; refine (f60_any s b _ HBX.out.2).mono ?_; rintro e w3 ⟨rfl, rfl⟩)
    | (go_at_call 59; refine (f59_any ⟨#[114, 115, 116, 114, 105, 112]⟩ b _ HBX.out.1).mono ?_; rintro e w3 ⟨rfl, rfl⟩)
    | (go_at_call 62; refine (f62_asc s cs HAS.out HACS.out hs hcs _ (tabs_below HTT.out HW.out)).mono ?_; rintro e w4 ⟨t, ht, rfl, hb4⟩; have HT4 := Lib.hid ht; have HB4 := Lib.hid (HW.out.trans (hb4.mono HW.out.size)); clear ht hb4))
  go_ret2
  exact ⟨t, HT4.out, rfl, HB4.out⟩
set_option maxRecDepth 100000 in
set_option maxHeartbeats 2000000 in
theorem f35_strip_full (s : ByteArray) (ha : Asc s.data.toList) (hs : s.size ≤ 100000) (b : Nat) (w : World) (hb : BoxAt b ⟨#[115, 116, 114, 105, 112]⟩ s w) (hT : Lib.Utf8Tabs 1 2 w) (cs : ByteArray) (hca : Asc cs.data.toList) (hcs : cs.size ≤ 100000) (hc0 : cs.size ≠ 0) (g c : Nat) (hg : w.cell? ⟨g, 0, none⟩ = some (.iface 72 (.string cs))) :
    Calls Tryz.prog 35 #[.pointer none, .pointer (some ⟨b, 0, none⟩), (.slice (some ⟨g, 0, none⟩) 1 c), .slice none 0 0] w (TextIs (tl (fun b => cs.data.toList.contains b) (tr (fun b => cs.data.toList.contains b) s.data.toList)) w) := by
  have a72 : ∀ w, (Instr.typeAssert (.iface 72 (.string s)) 52 72 false).run Tryz.prog w = .ok (.string s) w := fun _ => by kernel_rfl
  have HA : Hid (Below w.heap.size w (w.alloc (.cells #[.string ⟨#[]⟩] 9))) := (Below.refl _ _).alloc (Nat.le_refl _) _
  have HA2 : Hid (Below w.heap.size w ((w.alloc (.cells #[.string ⟨#[]⟩] 9)).alloc (.cells #[.iface 105 (.pointer (some ⟨w.heap.size, 0, none⟩))] 20))) := HA.out.alloc (by simp) _
  have HB0 := Lib.hid (hb.below HA.out)
  have HAS := Lib.hid ha
  have HTT := Lib.hid hT
  have HBB := Lib.hid hb
  have HG := Lib.hid (cell_below hg HA2.out)
  clear hg
  have HACS := Lib.hid hca
  clear hca
  clear hb ha hT
  go_enter Tryz.func35, Tryz.ntmps35
  go_wp2_with fail
  go_at_call 59
  refine (f59_any ⟨#[115, 116, 114, 105, 112]⟩ b _ HB0.out.1).mono ?_
  rintro e w1 ⟨rfl, rfl⟩
  go_wp2_with fail
  go_at_call 58
  refine (f58_one ⟨#[115, 116, 114, 105, 112]⟩ cs g c (w.heap.size + 1) w.heap.size _ HG.out (by simp) (by simp) (by simp)).mono ?_
  rintro e w2 ⟨rfl, hw2⟩
  have HW : Hid (Below w.heap.size w w2) := hw2 ▸ HA2.out.setCell (Nat.le_refl _) _
  have hp : w2.cell? ⟨w.heap.size, 0, none⟩ = some (.string cs) := by rw [← hw2]; exact World.cell?_setCell_same' _ _ _ (by simp)
  have HBX := Lib.hid (HBB.out.below HW.out)
  clear hw2
  have he : (cs : ByteArray).toList.isEmpty = false := by rw [empty_iff]; exact decide_eq_false hc0
  go_wp2_with (first
    | (go_at_call 60; refine (f60_any s b _ HBX.out.2).mono ?_; rintro e w3 ⟨rfl, rfl⟩)
    | (go_at_call 59; refine (f59_any ⟨#[115, 116, 114, 105, 112]⟩ b _ HBX.out.1).mono ?_; rintro e w3 ⟨rfl, rfl⟩)
    | fail)
  have HWD := Lib.hid HW.out.drew
  have hpd : w2.drew.cell? ⟨w.heap.size, 0, none⟩ = some (.string cs) := hp
  go_region_held3 (fun w' => w'.cell? ⟨w.heap.size, 0, none⟩ = some (.string cs))
    (first | with_reducible exact hp4 | with_reducible exact hp3 | with_reducible exact hpd | with_reducible exact hp | go_keep)
    (first
      | (go_at_call 62; refine (f62_asc s cs HAS.out HACS.out hs hcs _ (by exact tabs_below HTT.out HWD.out)).mono ?_; rintro e w3 ⟨t3, ht3, rfl, hb3⟩; have HT3 := Lib.hid ht3; have HB3 := Lib.hid (HWD.out.trans (hb3.mono HWD.out.size)); have hp3 : w3.cell? ⟨w.heap.size, 0, none⟩ = some (.string cs) := cell_below hpd hb3; clear ht3 hb3)
      | (go_at_call 61; refine (f61_asc t3 cs (by rw [HT3.out]; exact tr_asc HAS.out _) HACS.out (by rw [size_list0, HT3.out]; exact Nat.le_trans (tr_len _ _) (by rw [← size_list0]; exact hs)) hcs _).mono ?_; rintro e w4 ⟨t, ht, rfl, hb4⟩; have HT4 := Lib.hid (by rw [HT3.out] at ht; exact ht); have HB4 := Lib.hid (HB3.out.trans (hb4.mono HB3.out.size)); have hp4 : w4.cell? ⟨w.heap.size, 0, none⟩ = some (.string cs) := cell_below hp3 hb4; clear ht hb4))
  go_wp2
  go_ret2
  exact ⟨t, HT4.out, rfl, HB4.out⟩
end Go.Proofs.YtgcofpmhojplhaaGreatDoor
