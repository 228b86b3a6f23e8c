/- Walks of the thin package's TextStrip. (Printed by mkr9.py.) -/
import Derived.Test.YtgcofpmhojplhaaGreatDoorR8
namespace Go.Proofs.YtgcofpmhojplhaaGreatDoor
open Go.RowKit

/-- The text, and that it is there. -/
def StripIs (l : List UInt8) (w : World) (e : Ending) (w' : World) : Prop := ∃ t : ByteArray, t.data.toList = l ∧ e = .returned (.tuple #[.string t, .bool true, .bool true]) ∧ Below w.heap.size w w'
set_option maxRecDepth 100000 in
set_option maxHeartbeats 2000000 in
theorem f8_0none (s : ByteArray) (l : List UInt8) (w : World) (h : ∀ w1, Below w.heap.size w w1 → StripDoes ⟨#[115, 116, 114, 105, 112]⟩ s (.slice none 0 0) l w1) :
    Calls Tryz.prog 8 #[.int .i64 0, .string s, .slice none 0 0] w (StripIs l w) := by
  have HD := Lib.hid h
  clear h
  have HA : Hid (Below w.heap.size w (w.alloc (.cells #[.string ⟨#[115, 116, 114, 105, 112]⟩, .string ⟨#[108, 115, 116, 114, 105, 112]⟩, .string ⟨#[114, 115, 116, 114, 105, 112]⟩] 48))) := (Below.refl _ _).alloc (Nat.le_refl _) _
  have HAD := Lib.hid HA.out.drew
  have c0 : (w.alloc (.cells #[.string ⟨#[115, 116, 114, 105, 112]⟩, .string ⟨#[108, 115, 116, 114, 105, 112]⟩, .string ⟨#[114, 115, 116, 114, 105, 112]⟩] 48)).cell? ⟨w.heap.size, 0, none⟩ = some (.string ⟨#[115, 116, 114, 105, 112]⟩) := by simp
  have cd : (w.alloc (.cells #[.string ⟨#[115, 116, 114, 105, 112]⟩, .string ⟨#[108, 115, 116, 114, 105, 112]⟩, .string ⟨#[114, 115, 116, 114, 105, 112]⟩] 48)).drew.cell? ⟨w.heap.size, 0, none⟩ = some (.string ⟨#[115, 116, 114, 105, 112]⟩) := by simp
  go_enter Tryz.func8, Tryz.ntmps8
  go_wp2
  go_region_held3 (fun w' => w'.cell? ⟨w.heap.size, 0, none⟩ = some (.string ⟨#[115, 116, 114, 105, 112]⟩))
    (first | with_reducible exact c4 | with_reducible exact c3' | with_reducible exact cd | with_reducible exact c0 | go_keep)
    (first
      | (go_at_call 17; refine (f17_none _).mono ?_; rintro e w3 ⟨rfl, rfl⟩)
      | (go_at_call 16; refine (f16_of ⟨#[115, 116, 114, 105, 112]⟩ s (.slice none 0 0) l _ (HD.out _ (by exact HAD.out))).mono ?_; rintro e w4 ⟨t, ht, rfl, hb4⟩; have HT4 := Lib.hid ht; have HB4 := Lib.hid (HAD.out.trans (hb4.mono HAD.out.size)); have c4 : w4.cell? ⟨w.heap.size, 0, none⟩ = some (.string ⟨#[115, 116, 114, 105, 112]⟩) := cell_below cd hb4; clear ht hb4)
      | (go_at_call 15; refine (f15_str _ _).mono ?_; rintro e w5 ⟨rfl, rfl⟩))
  all_goals
    go_wp2
    go_ret3
    exact ⟨t, HT4.out, rfl, HB4.out⟩
set_option maxRecDepth 100000 in
set_option maxHeartbeats 2000000 in
theorem f8_0one (s : ByteArray) (l : List UInt8) (w : World) (cs : ByteArray) (g c : Nat) (hg : w.cell? ⟨g, 0, none⟩ = some (.string cs)) (h : ∀ w1, Below w.heap.size w w1 → ∀ g1 c1, w1.cell? ⟨g1, 0, none⟩ = some (.iface 72 (.string cs)) → StripDoes ⟨#[115, 116, 114, 105, 112]⟩ s (.slice (some ⟨g1, 0, none⟩) 1 c1) l w1) :
    Calls Tryz.prog 8 #[.int .i64 0, .string s, .slice (some ⟨g, 0, none⟩) 1 c] w (StripIs l w) := by
  have HD := Lib.hid h
  clear h
  have HA : Hid (Below w.heap.size w (w.alloc (.cells #[.string ⟨#[115, 116, 114, 105, 112]⟩, .string ⟨#[108, 115, 116, 114, 105, 112]⟩, .string ⟨#[114, 115, 116, 114, 105, 112]⟩] 48))) := (Below.refl _ _).alloc (Nat.le_refl _) _
  have HAD := Lib.hid HA.out.drew
  have HG : Hid ((w.alloc (.cells #[.string ⟨#[115, 116, 114, 105, 112]⟩, .string ⟨#[108, 115, 116, 114, 105, 112]⟩, .string ⟨#[114, 115, 116, 114, 105, 112]⟩] 48)).cell? ⟨g, 0, none⟩ = some (.string cs)) := cell_below hg HA.out
  clear hg
  have c0 : (w.alloc (.cells #[.string ⟨#[115, 116, 114, 105, 112]⟩, .string ⟨#[108, 115, 116, 114, 105, 112]⟩, .string ⟨#[114, 115, 116, 114, 105, 112]⟩] 48)).cell? ⟨w.heap.size, 0, none⟩ = some (.string ⟨#[115, 116, 114, 105, 112]⟩) := by simp
  have cd : (w.alloc (.cells #[.string ⟨#[115, 116, 114, 105, 112]⟩, .string ⟨#[108, 115, 116, 114, 105, 112]⟩, .string ⟨#[114, 115, 116, 114, 105, 112]⟩] 48)).drew.cell? ⟨w.heap.size, 0, none⟩ = some (.string ⟨#[115, 116, 114, 105, 112]⟩) := by simp
  go_enter Tryz.func8, Tryz.ntmps8
  go_wp2
  go_region_held3 (fun w' => w'.cell? ⟨w.heap.size, 0, none⟩ = some (.string ⟨#[115, 116, 114, 105, 112]⟩))
    (first | with_reducible exact c4 | with_reducible exact c3' | with_reducible exact cd | with_reducible exact c0 | go_keep)
    (first
      | (go_at_call 17; refine (f17_one cs g c _ (by exact HG.out)).mono ?_; rintro e w3 ⟨g3, c3, rfl, hc3, hb3⟩; have HC3 := Lib.hid hc3; have HB3 := Lib.hid (HAD.out.trans (hb3.mono HAD.out.size)); have c3' : w3.cell? ⟨w.heap.size, 0, none⟩ = some (.string ⟨#[115, 116, 114, 105, 112]⟩) := cell_below cd hb3; clear hc3 hb3)
      | (go_at_call 16; refine (f16_of ⟨#[115, 116, 114, 105, 112]⟩ s _ l _ (HD.out _ HB3.out _ _ HC3.out)).mono ?_; rintro e w4 ⟨t, ht, rfl, hb4⟩; have HT4 := Lib.hid ht; have HB4 := Lib.hid (HB3.out.trans (hb4.mono HB3.out.size)); have c4 : w4.cell? ⟨w.heap.size, 0, none⟩ = some (.string ⟨#[115, 116, 114, 105, 112]⟩) := cell_below c3' hb4; clear ht hb4)
      | (go_at_call 15; refine (f15_str _ _).mono ?_; rintro e w5 ⟨rfl, rfl⟩))
  all_goals
    go_wp2
    go_ret3
    exact ⟨t, HT4.out, rfl, HB4.out⟩
set_option maxRecDepth 100000 in
set_option maxHeartbeats 2000000 in
theorem f8_1none (s : ByteArray) (l : List UInt8) (w : World) (h : ∀ w1, Below w.heap.size w w1 → StripDoes ⟨#[108, 115, 116, 114, 105, 112]⟩ s (.slice none 0 0) l w1) :
    Calls Tryz.prog 8 #[.int .i64 1, .string s, .slice none 0 0] w (StripIs l w) := by
  have HD := Lib.hid h
  clear h
  have HA : Hid (Below w.heap.size w (w.alloc (.cells #[.string ⟨#[115, 116, 114, 105, 112]⟩, .string ⟨#[108, 115, 116, 114, 105, 112]⟩, .string ⟨#[114, 115, 116, 114, 105, 112]⟩] 48))) := (Below.refl _ _).alloc (Nat.le_refl _) _
  have HAD := Lib.hid HA.out.drew
  have c0 : (w.alloc (.cells #[.string ⟨#[115, 116, 114, 105, 112]⟩, .string ⟨#[108, 115, 116, 114, 105, 112]⟩, .string ⟨#[114, 115, 116, 114, 105, 112]⟩] 48)).cell? ⟨w.heap.size, 1, none⟩ = some (.string ⟨#[108, 115, 116, 114, 105, 112]⟩) := by simp
  have cd : (w.alloc (.cells #[.string ⟨#[115, 116, 114, 105, 112]⟩, .string ⟨#[108, 115, 116, 114, 105, 112]⟩, .string ⟨#[114, 115, 116, 114, 105, 112]⟩] 48)).drew.cell? ⟨w.heap.size, 1, none⟩ = some (.string ⟨#[108, 115, 116, 114, 105, 112]⟩) := by simp
  go_enter Tryz.func8, Tryz.ntmps8
  go_wp2
  go_region_held3 (fun w' => w'.cell? ⟨w.heap.size, 1, none⟩ = some (.string ⟨#[108, 115, 116, 114, 105, 112]⟩))
    (first | with_reducible exact c4 | with_reducible exact c3' | with_reducible exact cd | with_reducible exact c0 | go_keep)
    (first
      | (go_at_call 17; refine (f17_none _).mono ?_; rintro e w3 ⟨rfl, rfl⟩)
      | (go_at_call 16; refine (f16_of ⟨#[108, 115, 116, 114, 105, 112]⟩ s (.slice none 0 0) l _ (HD.out _ (by exact HAD.out))).mono ?_; rintro e w4 ⟨t, ht, rfl, hb4⟩; have HT4 := Lib.hid ht; have HB4 := Lib.hid (HAD.out.trans (hb4.mono HAD.out.size)); have c4 : w4.cell? ⟨w.heap.size, 1, none⟩ = some (.string ⟨#[108, 115, 116, 114, 105, 112]⟩) := cell_below cd hb4; clear ht hb4)
      | (go_at_call 15; refine (f15_str _ _).mono ?_; rintro e w5 ⟨rfl, rfl⟩))
  all_goals
    go_wp2
    go_ret3
    exact ⟨t, HT4.out, rfl, HB4.out⟩
set_option maxRecDepth 100000 in
set_option maxHeartbeats 2000000 in
theorem f8_1one (s : ByteArray) (l : List UInt8) (w : World) (cs : ByteArray) (g c : Nat) (hg : w.cell? ⟨g, 0, none⟩ = some (.string cs)) (h : ∀ w1, Below w.heap.size w w1 → ∀ g1 c1, w1.cell? ⟨g1, 0, none⟩ = some (.iface 72 (.string cs)) → StripDoes ⟨#[108, 115, 116, 114, 105, 112]⟩ s (.slice (some ⟨g1, 0, none⟩) 1 c1) l w1) :
    Calls Tryz.prog 8 #[.int .i64 1, .string s, .slice (some ⟨g, 0, none⟩) 1 c] w (StripIs l w) := by
  have HD := Lib.hid h
  clear h
  have HA : Hid (Below w.heap.size w (w.alloc (.cells #[.string ⟨#[115, 116, 114, 105, 112]⟩, .string ⟨#[108, 115, 116, 114, 105, 112]⟩, .string ⟨#[114, 115, 116, 114, 105, 112]⟩] 48))) := (Below.refl _ _).alloc (Nat.le_refl _) _
  have HAD := Lib.hid HA.out.drew
  have HG : Hid ((w.alloc (.cells #[.string ⟨#[115, 116, 114, 105, 112]⟩, .string ⟨#[108, 115, 116, 114, 105, 112]⟩, .string ⟨#[114, 115, 116, 114, 105, 112]⟩] 48)).cell? ⟨g, 0, none⟩ = some (.string cs)) := cell_below hg HA.out
  clear hg
  have c0 : (w.alloc (.cells #[.string ⟨#[115, 116, 114, 105, 112]⟩, .string ⟨#[108, 115, 116, 114, 105, 112]⟩, .string ⟨#[114, 115, 116, 114, 105, 112]⟩] 48)).cell? ⟨w.heap.size, 1, none⟩ = some (.string ⟨#[108, 115, 116, 114, 105, 112]⟩) := by simp
  have cd : (w.alloc (.cells #[.string ⟨#[115, 116, 114, 105, 112]⟩, .string ⟨#[108, 115, 116, 114, 105, 112]⟩, .string ⟨#[114, 115, 116, 114, 105, 112]⟩] 48)).drew.cell? ⟨w.heap.size, 1, none⟩ = some (.string ⟨#[108, 115, 116, 114, 105, 112]⟩) := by simp
  go_enter Tryz.func8, Tryz.ntmps8
  go_wp2
  go_region_held3 (fun w' => w'.cell? ⟨w.heap.size, 1, none⟩ = some (.string ⟨#[108, 115, 116, 114, 105, 112]⟩))
    (first | with_reducible exact c4 | with_reducible exact c3' | with_reducible exact cd | with_reducible exact c0 | go_keep)
    (first
      | (go_at_call 17; refine (f17_one cs g c _ (by exact HG.out)).mono ?_; rintro e w3 ⟨g3, c3, rfl, hc3, hb3⟩; have HC3 := Lib.hid hc3; have HB3 := Lib.hid (HAD.out.trans (hb3.mono HAD.out.size)); have c3' : w3.cell? ⟨w.heap.size, 1, none⟩ = some (.string ⟨#[108, 115, 116, 114, 105, 112]⟩) := cell_below cd hb3; clear hc3 hb3)
      | (go_at_call 16; refine (f16_of ⟨#[108, 115, 116, 114, 105, 112]⟩ s _ l _ (HD.out _ HB3.out _ _ HC3.out)).mono ?_; rintro e w4 ⟨t, ht, rfl, hb4⟩; have HT4 := Lib.hid ht; have HB4 := Lib.hid (HB3.out.trans (hb4.mono HB3.out.size)); have c4 : w4.cell? ⟨w.heap.size, 1, none⟩ = some (.string ⟨#[108, 115, 116, 114, 105, 112]⟩) := cell_below c3' hb4; clear ht hb4)
      | (go_at_call 15; refine (f15_str _ _).mono ?_; rintro e w5 ⟨rfl, rfl⟩))
  all_goals
    go_wp2
    go_ret3
    exact ⟨t, HT4.out, rfl, HB4.out⟩
set_option maxRecDepth 100000 in
set_option maxHeartbeats 2000000 in
theorem f8_2none (s : ByteArray) (l : List UInt8) (w : World) (h : ∀ w1, Below w.heap.size w w1 → StripDoes ⟨#[114, 115, 116, 114, 105, 112]⟩ s (.slice none 0 0) l w1) :
    Calls Tryz.prog 8 #[.int .i64 2, .string s, .slice none 0 0] w (StripIs l w) := by
  have HD := Lib.hid h
  clear h
  have HA : Hid (Below w.heap.size w (w.alloc (.cells #[.string ⟨#[115, 116, 114, 105, 112]⟩, .string ⟨#[108, 115, 116, 114, 105, 112]⟩, .string ⟨#[114, 115, 116, 114, 105, 112]⟩] 48))) := (Below.refl _ _).alloc (Nat.le_refl _) _
  have HAD := Lib.hid HA.out.drew
  have c0 : (w.alloc (.cells #[.string ⟨#[115, 116, 114, 105, 112]⟩, .string ⟨#[108, 115, 116, 114, 105, 112]⟩, .string ⟨#[114, 115, 116, 114, 105, 112]⟩] 48)).cell? ⟨w.heap.size, 2, none⟩ = some (.string ⟨#[114, 115, 116, 114, 105, 112]⟩) := by simp
  have cd : (w.alloc (.cells #[.string ⟨#[115, 116, 114, 105, 112]⟩, .string ⟨#[108, 115, 116, 114, 105, 112]⟩, .string ⟨#[114, 115, 116, 114, 105, 112]⟩] 48)).drew.cell? ⟨w.heap.size, 2, none⟩ = some (.string ⟨#[114, 115, 116, 114, 105, 112]⟩) := by simp
  go_enter Tryz.func8, Tryz.ntmps8
  go_wp2
  go_region_held3 (fun w' => w'.cell? ⟨w.heap.size, 2, none⟩ = some (.string ⟨#[114, 115, 116, 114, 105, 112]⟩))
    (first | with_reducible exact c4 | with_reducible exact c3' | with_reducible exact cd | with_reducible exact c0 | go_keep)
    (first
      | (go_at_call 17; refine (f17_none _).mono ?_; rintro e w3 ⟨rfl, rfl⟩)
      | (go_at_call 16; refine (f16_of ⟨#[114, 115, 116, 114, 105, 112]⟩ s (.slice none 0 0) l _ (HD.out _ (by exact HAD.out))).mono ?_; rintro e w4 ⟨t, ht, rfl, hb4⟩; have HT4 := Lib.hid ht; have HB4 := Lib.hid (HAD.out.trans (hb4.mono HAD.out.size)); have c4 : w4.cell? ⟨w.heap.size, 2, none⟩ = some (.string ⟨#[114, 115, 116, 114, 105, 112]⟩) := cell_below cd hb4; clear ht hb4)
      | (go_at_call 15; refine (f15_str _ _).mono ?_; rintro e w5 ⟨rfl, rfl⟩))
  all_goals
    go_wp2
    go_ret3
    exact ⟨t, HT4.out, rfl, HB4.out⟩
set_option maxRecDepth 100000 in
set_option maxHeartbeats 2000000 in
theorem f8_2one (s : ByteArray) (l : List UInt8) (w : World) (cs : ByteArray) (g c : Nat) (hg : w.cell? ⟨g, 0, none⟩ = some (.string cs)) (h : ∀ w1, Below w.heap.size w w1 → ∀ g1 c1, w1.cell? ⟨g1, 0, none⟩ = some (.iface 72 (.string cs)) → StripDoes ⟨#[114, 115, 116, 114, 105, 112]⟩ s (.slice (some ⟨g1, 0, none⟩) 1 c1) l w1) :
    Calls Tryz.prog 8 #[.int .i64 2, .string s, .slice (some ⟨g, 0, none⟩) 1 c] w (StripIs l w) := by
  have HD := Lib.hid h
  clear h
  have HA : Hid (Below w.heap.size w (w.alloc (.cells #[.string ⟨#[115, 116, 114, 105, 112]⟩, .string ⟨#[108, 115, 116, 114, 105, 112]⟩, .string ⟨#[114, 115, 116, 114, 105, 112]⟩] 48))) := (Below.refl _ _).alloc (Nat.le_refl _) _
  have HAD := Lib.hid HA.out.drew
  have HG : Hid ((w.alloc (.cells #[.string ⟨#[115, 116, 114, 105, 112]⟩, .string ⟨#[108, 115, 116, 114, 105, 112]⟩, .string ⟨#[114, 115, 116, 114, 105, 112]⟩] 48)).cell? ⟨g, 0, none⟩ = some (.string cs)) := cell_below hg HA.out
  clear hg
  have c0 : (w.alloc (.cells #[.string ⟨#[115, 116, 114, 105, 112]⟩, .string ⟨#[108, 115, 116, 114, 105, 112]⟩, .string ⟨#[114, 115, 116, 114, 105, 112]⟩] 48)).cell? ⟨w.heap.size, 2, none⟩ = some (.string ⟨#[114, 115, 116, 114, 105, 112]⟩) := by simp
  have cd : (w.alloc (.cells #[.string ⟨#[115, 116, 114, 105, 112]⟩, .string ⟨#[108, 115, 116, 114, 105, 112]⟩, .string ⟨#[114, 115, 116, 114, 105, 112]⟩] 48)).drew.cell? ⟨w.heap.size, 2, none⟩ = some (.string ⟨#[114, 115, 116, 114, 105, 112]⟩) := by simp
  go_enter Tryz.func8, Tryz.ntmps8
  go_wp2
  go_region_held3 (fun w' => w'.cell? ⟨w.heap.size, 2, none⟩ = some (.string ⟨#[114, 115, 116, 114, 105, 112]⟩))
    (first | with_reducible exact c4 | with_reducible exact c3' | with_reducible exact cd | with_reducible exact c0 | go_keep)
    (first
      | (go_at_call 17; refine (f17_one cs g c _ (by exact HG.out)).mono ?_; rintro e w3 ⟨g3, c3, rfl, hc3, hb3⟩; have HC3 := Lib.hid hc3; have HB3 := Lib.hid (HAD.out.trans (hb3.mono HAD.out.size)); have c3' : w3.cell? ⟨w.heap.size, 2, none⟩ = some (.string ⟨#[114, 115, 116, 114, 105, 112]⟩) := cell_below cd hb3; clear hc3 hb3)
      | (go_at_call 16; refine (f16_of ⟨#[114, 115, 116, 114, 105, 112]⟩ s _ l _ (HD.out _ HB3.out _ _ HC3.out)).mono ?_; rintro e w4 ⟨t, ht, rfl, hb4⟩; have HT4 := Lib.hid ht; have HB4 := Lib.hid (HB3.out.trans (hb4.mono HB3.out.size)); have c4 : w4.cell? ⟨w.heap.size, 2, none⟩ = some (.string ⟨#[114, 115, 116, 114, 105, 112]⟩) := cell_below c3' hb4; clear ht hb4)
      | (go_at_call 15; refine (f15_str _ _).mono ?_; rintro e w5 ⟨rfl, rfl⟩))
  all_goals
    go_wp2
    go_ret3
    exact ⟨t, HT4.out, rfl, HB4.out⟩
end Go.Proofs.YtgcofpmhojplhaaGreatDoor
