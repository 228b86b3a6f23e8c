/- Walks of the reference's TextMethod and Asked, at strip. (Printed by mks7.py.) -/
import Derived.Test.YtgcofpmhojplhaaGreatDoorS6
namespace Go.Proofs.YtgcofpmhojplhaaGreatDoor
open Go.RowKit

def RefDoes (nm s : ByteArray) (ar : Value) (l : List UInt8) (w : World) : Prop := Calls Tryz.prog 26 #[.string s, .string nm, ar] w (ValIs l w)
def ValIs3 (l : List UInt8) (w : World) (e : Ending) (w' : World) : Prop := ∃ t : ByteArray, t.data.toList = l ∧ e = .returned (.tuple #[.agg #[.int .i64 4, .bool false, .slice none 0 0, .int .u64 0, .string t, .slice none 0 0], .slice none 0 0, .bool true]) ∧ Below w.heap.size w w'
set_option maxRecDepth 100000 in
set_option maxHeartbeats 2000000 in
theorem f14_strip (nm s : ByteArray) (hn : nm.toList = [115, 116, 114, 105, 112]) (ar : Value) (l : List UInt8) (w : World) (h : ∀ w1, Below w.heap.size w w1 → RefDoes nm s ar l w1) :
    Calls Tryz.prog 14 #[.string s, .string nm, ar] w (ValIs l w) := by
  have HD := Lib.hid h
  clear h
  have HW0 : Hid (Below w.heap.size w (w.alloc (.cells #[.int .i64 0, .bool false, .slice none 0 0, .int .u64 0, .string ⟨#[]⟩, .slice none 0 0] 28))) := (Below.refl _ _).alloc (Nat.le_refl _) _
  have HZ : Hid (w.heap.size < (w.alloc (.cells #[.int .i64 0, .bool false, .slice none 0 0, .int .u64 0, .string ⟨#[]⟩, .slice none 0 0] 28)).heap.size) := by show _ < _; simp
  have HV0 : Hid ((w.alloc (.cells #[.int .i64 0, .bool false, .slice none 0 0, .int .u64 0, .string ⟨#[]⟩, .slice none 0 0] 28)).cell? ⟨w.heap.size, 0, none⟩ = some (.int .i64 0)) := by show _ = _; simp
  have HV1 : Hid ((w.alloc (.cells #[.int .i64 0, .bool false, .slice none 0 0, .int .u64 0, .string ⟨#[]⟩, .slice none 0 0] 28)).cell? ⟨w.heap.size, 1, none⟩ = some (.bool false)) := by show _ = _; simp
  have HV2 : Hid ((w.alloc (.cells #[.int .i64 0, .bool false, .slice none 0 0, .int .u64 0, .string ⟨#[]⟩, .slice none 0 0] 28)).cell? ⟨w.heap.size, 2, none⟩ = some (.slice none 0 0)) := by show _ = _; simp
  have HV3 : Hid ((w.alloc (.cells #[.int .i64 0, .bool false, .slice none 0 0, .int .u64 0, .string ⟨#[]⟩, .slice none 0 0] 28)).cell? ⟨w.heap.size, 3, none⟩ = some (.int .u64 0)) := by show _ = _; simp
  have HV4 : Hid ((w.alloc (.cells #[.int .i64 0, .bool false, .slice none 0 0, .int .u64 0, .string ⟨#[]⟩, .slice none 0 0] 28)).cell? ⟨w.heap.size, 4, none⟩ = some (.string ⟨#[]⟩)) := by show _ = _; simp
  have HV5 : Hid ((w.alloc (.cells #[.int .i64 0, .bool false, .slice none 0 0, .int .u64 0, .string ⟨#[]⟩, .slice none 0 0] 28)).cell? ⟨w.heap.size, 5, none⟩ = some (.slice none 0 0)) := by show _ = _; simp
  have HF0 : Hid ((w.alloc (.cells #[.int .i64 0, .bool false, .slice none 0 0, .int .u64 0, .string ⟨#[]⟩, .slice none 0 0] 28)).frozen? ⟨w.heap.size, 0, none⟩ = false) := by show _ = _; simp
  have HF1 : Hid ((w.alloc (.cells #[.int .i64 0, .bool false, .slice none 0 0, .int .u64 0, .string ⟨#[]⟩, .slice none 0 0] 28)).frozen? ⟨w.heap.size, 1, none⟩ = false) := by show _ = _; simp
  have HF2 : Hid ((w.alloc (.cells #[.int .i64 0, .bool false, .slice none 0 0, .int .u64 0, .string ⟨#[]⟩, .slice none 0 0] 28)).frozen? ⟨w.heap.size, 2, none⟩ = false) := by show _ = _; simp
  have HF3 : Hid ((w.alloc (.cells #[.int .i64 0, .bool false, .slice none 0 0, .int .u64 0, .string ⟨#[]⟩, .slice none 0 0] 28)).frozen? ⟨w.heap.size, 3, none⟩ = false) := by show _ = _; simp
  have HF4 : Hid ((w.alloc (.cells #[.int .i64 0, .bool false, .slice none 0 0, .int .u64 0, .string ⟨#[]⟩, .slice none 0 0] 28)).frozen? ⟨w.heap.size, 4, none⟩ = false) := by show _ = _; simp
  have HF5 : Hid ((w.alloc (.cells #[.int .i64 0, .bool false, .slice none 0 0, .int .u64 0, .string ⟨#[]⟩, .slice none 0 0] 28)).frozen? ⟨w.heap.size, 5, none⟩ = false) := by show _ = _; simp
  go_enter Tryz.func14, Tryz.ntmps14
  go_wp2_with fail
  generalize hw0 : w.alloc (.cells #[.int .i64 0, .bool false, .slice none 0 0, .int .u64 0, .string ⟨#[]⟩, .slice none 0 0] 28) = w0 at *
  clear hw0
  go_at_call 26
  refine (HD.out _ HW0.out).mono ?_
  rintro e w2 ⟨t, ht, rfl, hb⟩
  have HB := Lib.hid (HW0.out.trans (hb.mono HW0.out.size))
  have HT := Lib.hid ht
  have hc0 : ∀ o, w2.cell? ⟨w.heap.size, o, none⟩ = w0.cell? ⟨w.heap.size, o, none⟩ := fun o => hb.cell (p := ⟨w.heap.size, o, none⟩) HZ.out
  have hf0 : ∀ o, w2.frozen? ⟨w.heap.size, o, none⟩ = w0.frozen? ⟨w.heap.size, o, none⟩ := fun o => hb.frozen (p := ⟨w.heap.size, o, none⟩) HZ.out
  have k0 := HV0.out
  have q0 := HF0.out
  have k1 := HV1.out
  have q1 := HF1.out
  have k2 := HV2.out
  have q2 := HF2.out
  have k3 := HV3.out
  have q3 := HF3.out
  have k4 := HV4.out
  have q4 := HF4.out
  have k5 := HV5.out
  have q5 := HF5.out
  clear hb ht
  go_wp2
  refine bodyPost_ret (v := .tuple #[.agg #[.int .i64 4, .bool false, .slice none 0 0, .int .u64 0, .string t, .slice none 0 0], .bool true]) (by simp [results, Tryz.results14, go_sem, hc0, k0, k1, k2, k3, k4, k5]) rfl ⟨t, HT.out, rfl, ?_⟩
  iterate 6 (refine Below.setCell ?_ (show w.heap.size ≤ w.heap.size from Nat.le_refl _) _)
  exact HB.out
set_option maxRecDepth 100000 in
set_option maxHeartbeats 2000000 in
theorem f14_lstrip (nm s : ByteArray) (hn : nm.toList = [108, 115, 116, 114, 105, 112]) (ar : Value) (l : List UInt8) (w : World) (h : ∀ w1, Below w.heap.size w w1 → RefDoes nm s ar l w1) :
    Calls Tryz.prog 14 #[.string s, .string nm, ar] w (ValIs l w) := by
  have HD := Lib.hid h
  clear h
  have HW0 : Hid (Below w.heap.size w (w.alloc (.cells #[.int .i64 0, .bool false, .slice none 0 0, .int .u64 0, .string ⟨#[]⟩, .slice none 0 0] 28))) := (Below.refl _ _).alloc (Nat.le_refl _) _
  have HZ : Hid (w.heap.size < (w.alloc (.cells #[.int .i64 0, .bool false, .slice none 0 0, .int .u64 0, .string ⟨#[]⟩, .slice none 0 0] 28)).heap.size) := by show _ < _; simp
  have HV0 : Hid ((w.alloc (.cells #[.int .i64 0, .bool false, .slice none 0 0, .int .u64 0, .string ⟨#[]⟩, .slice none 0 0] 28)).cell? ⟨w.heap.size, 0, none⟩ = some (.int .i64 0)) := by show _ = _; simp
  have HV1 : Hid ((w.alloc (.cells #[.int .i64 0, .bool false, .slice none 0 0, .int .u64 0, .string ⟨#[]⟩, .slice none 0 0] 28)).cell? ⟨w.heap.size, 1, none⟩ = some (.bool false)) := by show _ = _; simp
  have HV2 : Hid ((w.alloc (.cells #[.int .i64 0, .bool false, .slice none 0 0, .int .u64 0, .string ⟨#[]⟩, .slice none 0 0] 28)).cell? ⟨w.heap.size, 2, none⟩ = some (.slice none 0 0)) := by show _ = _; simp
  have HV3 : Hid ((w.alloc (.cells #[.int .i64 0, .bool false, .slice none 0 0, .int .u64 0, .string ⟨#[]⟩, .slice none 0 0] 28)).cell? ⟨w.heap.size, 3, none⟩ = some (.int .u64 0)) := by show _ = _; simp
  have HV4 : Hid ((w.alloc (.cells #[.int .i64 0, .bool false, .slice none 0 0, .int .u64 0, .string ⟨#[]⟩, .slice none 0 0] 28)).cell? ⟨w.heap.size, 4, none⟩ = some (.string ⟨#[]⟩)) := by show _ = _; simp
  have HV5 : Hid ((w.alloc (.cells #[.int .i64 0, .bool false, .slice none 0 0, .int .u64 0, .string ⟨#[]⟩, .slice none 0 0] 28)).cell? ⟨w.heap.size, 5, none⟩ = some (.slice none 0 0)) := by show _ = _; simp
  have HF0 : Hid ((w.alloc (.cells #[.int .i64 0, .bool false, .slice none 0 0, .int .u64 0, .string ⟨#[]⟩, .slice none 0 0] 28)).frozen? ⟨w.heap.size, 0, none⟩ = false) := by show _ = _; simp
  have HF1 : Hid ((w.alloc (.cells #[.int .i64 0, .bool false, .slice none 0 0, .int .u64 0, .string ⟨#[]⟩, .slice none 0 0] 28)).frozen? ⟨w.heap.size, 1, none⟩ = false) := by show _ = _; simp
  have HF2 : Hid ((w.alloc (.cells #[.int .i64 0, .bool false, .slice none 0 0, .int .u64 0, .string ⟨#[]⟩, .slice none 0 0] 28)).frozen? ⟨w.heap.size, 2, none⟩ = false) := by show _ = _; simp
  have HF3 : Hid ((w.alloc (.cells #[.int .i64 0, .bool false, .slice none 0 0, .int .u64 0, .string ⟨#[]⟩, .slice none 0 0] 28)).frozen? ⟨w.heap.size, 3, none⟩ = false) := by show _ = _; simp
  have HF4 : Hid ((w.alloc (.cells #[.int .i64 0, .bool false, .slice none 0 0, .int .u64 0, .string ⟨#[]⟩, .slice none 0 0] 28)).frozen? ⟨w.heap.size, 4, none⟩ = false) := by show _ = _; simp
  have HF5 : Hid ((w.alloc (.cells #[.int .i64 0, .bool false, .slice none 0 0, .int .u64 0, .string ⟨#[]⟩, .slice none 0 0] 28)).frozen? ⟨w.heap.size, 5, none⟩ = false) := by show _ = _; simp
  go_enter Tryz.func14, Tryz.ntmps14
  go_wp2_with fail
  generalize hw0 : w.alloc (.cells #[.int .i64 0, .bool false, .slice none 0 0, .int .u64 0, .string ⟨#[]⟩, .slice none 0 0] 28) = w0 at *
  clear hw0
  go_at_call 26
  refine (HD.out _ HW0.out).mono ?_
  rintro e w2 ⟨t, ht, rfl, hb⟩
  have HB := Lib.hid (HW0.out.trans (hb.mono HW0.out.size))
  have HT := Lib.hid ht
  have hc0 : ∀ o, w2.cell? ⟨w.heap.size, o, none⟩ = w0.cell? ⟨w.heap.size, o, none⟩ := fun o => hb.cell (p := ⟨w.heap.size, o, none⟩) HZ.out
  have hf0 : ∀ o, w2.frozen? ⟨w.heap.size, o, none⟩ = w0.frozen? ⟨w.heap.size, o, none⟩ := fun o => hb.frozen (p := ⟨w.heap.size, o, none⟩) HZ.out
  have k0 := HV0.out
  have q0 := HF0.out
  have k1 := HV1.out
  have q1 := HF1.out
  have k2 := HV2.out
  have q2 := HF2.out
  have k3 := HV3.out
  have q3 := HF3.out
  have k4 := HV4.out
  have q4 := HF4.out
  have k5 := HV5.out
  have q5 := HF5.out
  clear hb ht
  go_wp2
  refine bodyPost_ret (v := .tuple #[.agg #[.int .i64 4, .bool false, .slice none 0 0, .int .u64 0, .string t, .slice none 0 0], .bool true]) (by simp [results, Tryz.results14, go_sem, hc0, k0, k1, k2, k3, k4, k5]) rfl ⟨t, HT.out, rfl, ?_⟩
  iterate 6 (refine Below.setCell ?_ (show w.heap.size ≤ w.heap.size from Nat.le_refl _) _)
  exact HB.out
set_option maxRecDepth 100000 in
set_option maxHeartbeats 2000000 in
theorem f14_rstrip (nm s : ByteArray) (hn : nm.toList = [114, 115, 116, 114, 105, 112]) (ar : Value) (l : List UInt8) (w : World) (h : ∀ w1, Below w.heap.size w w1 → RefDoes nm s ar l w1) :
    Calls Tryz.prog 14 #[.string s, .string nm, ar] w (ValIs l w) := by
  have HD := Lib.hid h
  clear h
  have HW0 : Hid (Below w.heap.size w (w.alloc (.cells #[.int .i64 0, .bool false, .slice none 0 0, .int .u64 0, .string ⟨#[]⟩, .slice none 0 0] 28))) := (Below.refl _ _).alloc (Nat.le_refl _) _
  have HZ : Hid (w.heap.size < (w.alloc (.cells #[.int .i64 0, .bool false, .slice none 0 0, .int .u64 0, .string ⟨#[]⟩, .slice none 0 0] 28)).heap.size) := by show _ < _; simp
  have HV0 : Hid ((w.alloc (.cells #[.int .i64 0, .bool false, .slice none 0 0, .int .u64 0, .string ⟨#[]⟩, .slice none 0 0] 28)).cell? ⟨w.heap.size, 0, none⟩ = some (.int .i64 0)) := by show _ = _; simp
  have HV1 : Hid ((w.alloc (.cells #[.int .i64 0, .bool false, .slice none 0 0, .int .u64 0, .string ⟨#[]⟩, .slice none 0 0] 28)).cell? ⟨w.heap.size, 1, none⟩ = some (.bool false)) := by show _ = _; simp
  have HV2 : Hid ((w.alloc (.cells #[.int .i64 0, .bool false, .slice none 0 0, .int .u64 0, .string ⟨#[]⟩, .slice none 0 0] 28)).cell? ⟨w.heap.size, 2, none⟩ = some (.slice none 0 0)) := by show _ = _; simp
  have HV3 : Hid ((w.alloc (.cells #[.int .i64 0, .bool false, .slice none 0 0, .int .u64 0, .string ⟨#[]⟩, .slice none 0 0] 28)).cell? ⟨w.heap.size, 3, none⟩ = some (.int .u64 0)) := by show _ = _; simp
  have HV4 : Hid ((w.alloc (.cells #[.int .i64 0, .bool false, .slice none 0 0, .int .u64 0, .string ⟨#[]⟩, .slice none 0 0] 28)).cell? ⟨w.heap.size, 4, none⟩ = some (.string ⟨#[]⟩)) := by show _ = _; simp
  have HV5 : Hid ((w.alloc (.cells #[.int .i64 0, .bool false, .slice none 0 0, .int .u64 0, .string ⟨#[]⟩, .slice none 0 0] 28)).cell? ⟨w.heap.size, 5, none⟩ = some (.slice none 0 0)) := by show _ = _; simp
  have HF0 : Hid ((w.alloc (.cells #[.int .i64 0, .bool false, .slice none 0 0, .int .u64 0, .string ⟨#[]⟩, .slice none 0 0] 28)).frozen? ⟨w.heap.size, 0, none⟩ = false) := by show _ = _; simp
  have HF1 : Hid ((w.alloc (.cells #[.int .i64 0, .bool false, .slice none 0 0, .int .u64 0, .string ⟨#[]⟩, .slice none 0 0] 28)).frozen? ⟨w.heap.size, 1, none⟩ = false) := by show _ = _; simp
  have HF2 : Hid ((w.alloc (.cells #[.int .i64 0, .bool false, .slice none 0 0, .int .u64 0, .string ⟨#[]⟩, .slice none 0 0] 28)).frozen? ⟨w.heap.size, 2, none⟩ = false) := by show _ = _; simp
  have HF3 : Hid ((w.alloc (.cells #[.int .i64 0, .bool false, .slice none 0 0, .int .u64 0, .string ⟨#[]⟩, .slice none 0 0] 28)).frozen? ⟨w.heap.size, 3, none⟩ = false) := by show _ = _; simp
  have HF4 : Hid ((w.alloc (.cells #[.int .i64 0, .bool false, .slice none 0 0, .int .u64 0, .string ⟨#[]⟩, .slice none 0 0] 28)).frozen? ⟨w.heap.size, 4, none⟩ = false) := by show _ = _; simp
  have HF5 : Hid ((w.alloc (.cells #[.int .i64 0, .bool false, .slice none 0 0, .int .u64 0, .string ⟨#[]⟩, .slice none 0 0] 28)).frozen? ⟨w.heap.size, 5, none⟩ = false) := by show _ = _; simp
  go_enter Tryz.func14, Tryz.ntmps14
  go_wp2_with fail
  generalize hw0 : w.alloc (.cells #[.int .i64 0, .bool false, .slice none 0 0, .int .u64 0, .string ⟨#[]⟩, .slice none 0 0] 28) = w0 at *
  clear hw0
  go_at_call 26
  refine (HD.out _ HW0.out).mono ?_
  rintro e w2 ⟨t, ht, rfl, hb⟩
  have HB := Lib.hid (HW0.out.trans (hb.mono HW0.out.size))
  have HT := Lib.hid ht
  have hc0 : ∀ o, w2.cell? ⟨w.heap.size, o, none⟩ = w0.cell? ⟨w.heap.size, o, none⟩ := fun o => hb.cell (p := ⟨w.heap.size, o, none⟩) HZ.out
  have hf0 : ∀ o, w2.frozen? ⟨w.heap.size, o, none⟩ = w0.frozen? ⟨w.heap.size, o, none⟩ := fun o => hb.frozen (p := ⟨w.heap.size, o, none⟩) HZ.out
  have k0 := HV0.out
  have q0 := HF0.out
  have k1 := HV1.out
  have q1 := HF1.out
  have k2 := HV2.out
  have q2 := HF2.out
  have k3 := HV3.out
  have q3 := HF3.out
  have k4 := HV4.out
  have q4 := HF4.out
  have k5 := HV5.out
  have q5 := HF5.out
  clear hb ht
  go_wp2
  refine bodyPost_ret (v := .tuple #[.agg #[.int .i64 4, .bool false, .slice none 0 0, .int .u64 0, .string t, .slice none 0 0], .bool true]) (by simp [results, Tryz.results14, go_sem, hc0, k0, k1, k2, k3, k4, k5]) rfl ⟨t, HT.out, rfl, ?_⟩
  iterate 6 (refine Below.setCell ?_ (show w.heap.size ≤ w.heap.size from Nat.le_refl _) _)
  exact HB.out
set_option maxRecDepth 100000 in
set_option maxHeartbeats 2000000 in
theorem f7_any (nm s : ByteArray) (ar : Value) (l : List UInt8) (w : World) (h : ∀ w1, Below w.heap.size w w1 → Calls Tryz.prog 14 #[.string s, .string nm, ar] w1 (ValIs l w1)) :
    Calls Tryz.prog 7 #[.string s, .string nm, ar] w (ValIs3 l w) := by
  have HD := Lib.hid h
  clear h
  have HW0 : Hid (Below w.heap.size w (w.alloc (.cells #[.int .i64 0, .bool false, .slice none 0 0, .int .u64 0, .string ⟨#[]⟩, .slice none 0 0] 28))) := (Below.refl _ _).alloc (Nat.le_refl _) _
  have HZ : Hid (w.heap.size < (w.alloc (.cells #[.int .i64 0, .bool false, .slice none 0 0, .int .u64 0, .string ⟨#[]⟩, .slice none 0 0] 28)).heap.size) := by show _ < _; simp
  have HV0 : Hid ((w.alloc (.cells #[.int .i64 0, .bool false, .slice none 0 0, .int .u64 0, .string ⟨#[]⟩, .slice none 0 0] 28)).cell? ⟨w.heap.size, 0, none⟩ = some (.int .i64 0)) := by show _ = _; simp
  have HV1 : Hid ((w.alloc (.cells #[.int .i64 0, .bool false, .slice none 0 0, .int .u64 0, .string ⟨#[]⟩, .slice none 0 0] 28)).cell? ⟨w.heap.size, 1, none⟩ = some (.bool false)) := by show _ = _; simp
  have HV2 : Hid ((w.alloc (.cells #[.int .i64 0, .bool false, .slice none 0 0, .int .u64 0, .string ⟨#[]⟩, .slice none 0 0] 28)).cell? ⟨w.heap.size, 2, none⟩ = some (.slice none 0 0)) := by show _ = _; simp
  have HV3 : Hid ((w.alloc (.cells #[.int .i64 0, .bool false, .slice none 0 0, .int .u64 0, .string ⟨#[]⟩, .slice none 0 0] 28)).cell? ⟨w.heap.size, 3, none⟩ = some (.int .u64 0)) := by show _ = _; simp
  have HV4 : Hid ((w.alloc (.cells #[.int .i64 0, .bool false, .slice none 0 0, .int .u64 0, .string ⟨#[]⟩, .slice none 0 0] 28)).cell? ⟨w.heap.size, 4, none⟩ = some (.string ⟨#[]⟩)) := by show _ = _; simp
  have HV5 : Hid ((w.alloc (.cells #[.int .i64 0, .bool false, .slice none 0 0, .int .u64 0, .string ⟨#[]⟩, .slice none 0 0] 28)).cell? ⟨w.heap.size, 5, none⟩ = some (.slice none 0 0)) := by show _ = _; simp
  have HF0 : Hid ((w.alloc (.cells #[.int .i64 0, .bool false, .slice none 0 0, .int .u64 0, .string ⟨#[]⟩, .slice none 0 0] 28)).frozen? ⟨w.heap.size, 0, none⟩ = false) := by show _ = _; simp
  have HF1 : Hid ((w.alloc (.cells #[.int .i64 0, .bool false, .slice none 0 0, .int .u64 0, .string ⟨#[]⟩, .slice none 0 0] 28)).frozen? ⟨w.heap.size, 1, none⟩ = false) := by show _ = _; simp
  have HF2 : Hid ((w.alloc (.cells #[.int .i64 0, .bool false, .slice none 0 0, .int .u64 0, .string ⟨#[]⟩, .slice none 0 0] 28)).frozen? ⟨w.heap.size, 2, none⟩ = false) := by show _ = _; simp
  have HF3 : Hid ((w.alloc (.cells #[.int .i64 0, .bool false, .slice none 0 0, .int .u64 0, .string ⟨#[]⟩, .slice none 0 0] 28)).frozen? ⟨w.heap.size, 3, none⟩ = false) := by show _ = _; simp
  have HF4 : Hid ((w.alloc (.cells #[.int .i64 0, .bool false, .slice none 0 0, .int .u64 0, .string ⟨#[]⟩, .slice none 0 0] 28)).frozen? ⟨w.heap.size, 4, none⟩ = false) := by show _ = _; simp
  have HF5 : Hid ((w.alloc (.cells #[.int .i64 0, .bool false, .slice none 0 0, .int .u64 0, .string ⟨#[]⟩, .slice none 0 0] 28)).frozen? ⟨w.heap.size, 5, none⟩ = false) := by show _ = _; simp
  go_enter Tryz.func7, Tryz.ntmps7
  go_wp2_with fail
  generalize hw0 : w.alloc (.cells #[.int .i64 0, .bool false, .slice none 0 0, .int .u64 0, .string ⟨#[]⟩, .slice none 0 0] 28) = w0 at *
  clear hw0
  go_at_call 14
  refine (HD.out _ HW0.out).mono ?_
  rintro e w2 ⟨t, ht, rfl, hb⟩
  have HB := Lib.hid (HW0.out.trans (hb.mono HW0.out.size))
  have HT := Lib.hid ht
  have hc0 : ∀ o, w2.cell? ⟨w.heap.size, o, none⟩ = w0.cell? ⟨w.heap.size, o, none⟩ := fun o => hb.cell (p := ⟨w.heap.size, o, none⟩) HZ.out
  have hf0 : ∀ o, w2.frozen? ⟨w.heap.size, o, none⟩ = w0.frozen? ⟨w.heap.size, o, none⟩ := fun o => hb.frozen (p := ⟨w.heap.size, o, none⟩) HZ.out
  have k0 := HV0.out
  have q0 := HF0.out
  have k1 := HV1.out
  have q1 := HF1.out
  have k2 := HV2.out
  have q2 := HF2.out
  have k3 := HV3.out
  have q3 := HF3.out
  have k4 := HV4.out
  have q4 := HF4.out
  have k5 := HV5.out
  have q5 := HF5.out
  clear hb ht
  go_wp2
  generalize hw3 : ((((((w2.setCell ⟨w.heap.size, 0, none⟩ _).setCell ⟨w.heap.size, 1, none⟩ _).setCell ⟨w.heap.size, 2, none⟩ _).setCell ⟨w.heap.size, 3, none⟩ _).setCell ⟨w.heap.size, 4, none⟩ _).setCell ⟨w.heap.size, 5, none⟩ _) = w3
  have HB3 : Hid (Below w.heap.size w w3) := by
    subst hw3
    show Below _ _ _
    iterate 6 (refine Below.setCell ?_ (show w.heap.size ≤ w.heap.size from Nat.le_refl _) _)
    exact HB.out
  have m0 : w3.cell? ⟨w.heap.size, 0, none⟩ = some (.int .i64 4) := by subst hw3; simp [go_sem, hc0, k0]
  have n0 : w3.frozen? ⟨w.heap.size, 0, none⟩ = false := by subst hw3; simp [hf0, q0]
  have m1 : w3.cell? ⟨w.heap.size, 1, none⟩ = some (.bool false) := by subst hw3; simp [go_sem, hc0, k1]
  have n1 : w3.frozen? ⟨w.heap.size, 1, none⟩ = false := by subst hw3; simp [hf0, q1]
  have m2 : w3.cell? ⟨w.heap.size, 2, none⟩ = some (.slice none 0 0) := by subst hw3; simp [go_sem, hc0, k2]
  have n2 : w3.frozen? ⟨w.heap.size, 2, none⟩ = false := by subst hw3; simp [hf0, q2]
  have m3 : w3.cell? ⟨w.heap.size, 3, none⟩ = some (.int .u64 0) := by subst hw3; simp [go_sem, hc0, k3]
  have n3 : w3.frozen? ⟨w.heap.size, 3, none⟩ = false := by subst hw3; simp [hf0, q3]
  have m4 : w3.cell? ⟨w.heap.size, 4, none⟩ = some (.string t) := by subst hw3; simp [go_sem, hc0, k4]
  have n4 : w3.frozen? ⟨w.heap.size, 4, none⟩ = false := by subst hw3; simp [hf0, q4]
  have m5 : w3.cell? ⟨w.heap.size, 5, none⟩ = some (.slice none 0 0) := by subst hw3; simp [go_sem, hc0, k5]
  have n5 : w3.frozen? ⟨w.heap.size, 5, none⟩ = false := by subst hw3; simp [hf0, q5]
  clear hw3 hc0 hf0 k0 q0 k1 q1 k2 q2 k3 q3 k4 q4 k5 q5
  go_loop [7, 21] (fun a b => a = .slice none 0 0 ∧ b = .int .i64 0) (fun _ _ => 0)
  case atStart => exact ⟨rfl, rfl⟩
  case round =>
    obtain ⟨rfl, rfl⟩ := hrel
    go_wp2
    refine bodyPost_ret (v := .tuple #[.agg #[.int .i64 4, .bool false, .slice none 0 0, .int .u64 0, .string t, .slice none 0 0], .slice none 0 0, .bool true]) (by simp [results, Tryz.results7, go_sem, m0, m1, m2, m3, m4, m5]) rfl ⟨t, HT.out, rfl, ?_⟩
    iterate 6 (refine Below.setCell ?_ (show w.heap.size ≤ w.heap.size from Nat.le_refl _) _)
    exact HB3.out
end Go.Proofs.YtgcofpmhojplhaaGreatDoor
