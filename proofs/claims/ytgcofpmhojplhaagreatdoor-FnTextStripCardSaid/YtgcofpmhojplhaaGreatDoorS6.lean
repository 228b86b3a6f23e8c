/- Walks of the reference's strip. (Printed by mks6.py.) -/
import Derived.Test.YtgcofpmhojplhaaGreatDoorS5
namespace Go.Proofs.YtgcofpmhojplhaaGreatDoor
open Go.RowKit

def PlaceIn (w : World) (e : Ending) (w' : World) : Prop := ∃ z : Int, 0 ≤ z ∧ e = .returned (.int .i64 z) ∧ w = w'
def PlaceOut (w : World) (e : Ending) (w' : World) : Prop := ∃ z : Int, z < 0 ∧ e = .returned (.int .i64 z) ∧ w = w'
theorem f48_in (s p : ByteArray) (b : UInt8) (hp : p = ⟨#[b]⟩) (hs : s.size ≤ 100000) (hc : s.data.toList.contains b = true) (w : World) : Calls Tryz.prog 48 #[.string s, .string p] w (PlaceIn w) := by
  subst hp
  refine (f48_one s b hs w).mono ?_
  rintro e w' ⟨z, hz, he, hw⟩
  rw [hc] at hz
  exact ⟨z, of_decide_eq_true hz, he, hw⟩
theorem f48_out (s p : ByteArray) (b : UInt8) (hp : p = ⟨#[b]⟩) (hs : s.size ≤ 100000) (hc : s.data.toList.contains b = false) (w : World) : Calls Tryz.prog 48 #[.string s, .string p] w (PlaceOut w) := by
  subst hp
  refine (f48_one s b hs w).mono ?_
  rintro e w' ⟨z, hz, he, hw⟩
  rw [hc] at hz
  exact ⟨z, by have := of_decide_eq_false hz; omega, he, hw⟩
def inB (cs : ByteArray) (b : UInt8) : Bool := cs.data.toList.contains b
def ws6 : ByteArray := ⟨#[32, 9, 10, 11, 12, 13]⟩
/-- The second loop's work. -/
def backL (cs : ByteArray) (b2 : Bool) (l : List UInt8) : List UInt8 := if b2 then l else tr (inB cs) l
/-- What strip leaves of a text: at the front unless b1, at the end unless b2. -/
def left2 (cs : ByteArray) (b1 b2 : Bool) (l : List UInt8) : List UInt8 := backL cs b2 (if b1 then l else tl (inB cs) l)
theorem snoc_of (l : List UInt8) (h : l ≠ []) : ∃ r b, l = r ++ [b] := by
  rcases List.eq_nil_or_concat l with h' | ⟨r, b, h'⟩
  · exact absurd h' h
  · exact ⟨r, b, by rw [h', List.concat_eq_append]⟩
theorem cons_of (l : List UInt8) (h : l ≠ []) : ∃ b r, l = b :: r := by cases l with | nil => exact absurd rfl h | cons b r => exact ⟨b, r, rfl⟩
theorem list_ne (t : ByteArray) (h : 0 < t.size) : t.data.toList ≠ [] := fun e => by rw [size_list0, e] at h; simp at h
theorem tail_one (t : ByteArray) (b : UInt8) (r : List UInt8) (h : t.data.toList = b :: r) : (t.extract 1 t.size).data.toList = r := by
  have hs : t.size = r.length + 1 := by rw [size_list0, h]; simp
  rw [ByteArray.data_extract, Array.toList_extract, List.extract_eq_take_drop, h, hs]
  simp
theorem init_one (t : ByteArray) (b : UInt8) (r : List UInt8) (h : t.data.toList = r ++ [b]) : (t.extract 0 (t.size - 1)).data.toList = r := by
  have hs : t.size = r.length + 1 := by rw [size_list0, h]; simp
  rw [ByteArray.data_extract, Array.toList_extract, List.extract_eq_take_drop, h, hs]
  simp
theorem nil_of (t : ByteArray) (h : t.size = 0) : t.data.toList = [] := List.length_eq_zero_iff.1 (by rw [← size_list0]; exact h)
theorem tl_step (cs : ByteArray) (b : UInt8) (r : List UInt8) (h : inB cs b = true) : tl (inB cs) (b :: r) = tl (inB cs) r := by simp [tl, h]
theorem tl_stay (cs : ByteArray) (b : UInt8) (r : List UInt8) (h : inB cs b = false) : tl (inB cs) (b :: r) = b :: r := by simp [tl, h]
theorem tr_step (cs : ByteArray) (b : UInt8) (r : List UInt8) (h : inB cs b = true) : tr (inB cs) (r ++ [b]) = tr (inB cs) r := by simp [tr_snoc, h]
theorem tr_stay (cs : ByteArray) (b : UInt8) (r : List UInt8) (h : inB cs b = false) : tr (inB cs) (r ++ [b]) = r ++ [b] := by simp [tr_snoc, h]
set_option maxRecDepth 100000 in
set_option maxHeartbeats 4000000 in
theorem f26_none_ft (s nm : ByteArray) (hs : s.size ≤ 100000) (_h1 : ¬ nm.toList = [114, 115, 116, 114, 105, 112]) (h2 :  nm.toList = [108, 115, 116, 114, 105, 112]) (w : World)  :
    Calls Tryz.prog 26 #[.string s, .string nm, .slice none 0 0] w (ValIs (left2 ws6 false true s.data.toList) w) := by
  have HW0 : Hid (Below w.heap.size w (w.alloc (.cells #[.int .i64 0, .bool false, .slice none 0 0, .int .u64 0, .string ⟨#[]⟩, .slice none 0 0] 28))) := (Below.refl _ _).alloc (Nat.le_refl _) _
  have HZ : Hid (w.heap.size < (w.alloc (.cells #[.int .i64 0, .bool false, .slice none 0 0, .int .u64 0, .string ⟨#[]⟩, .slice none 0 0] 28)).heap.size) := by show _ < _; simp
  have HV0 : Hid ((w.alloc (.cells #[.int .i64 0, .bool false, .slice none 0 0, .int .u64 0, .string ⟨#[]⟩, .slice none 0 0] 28)).cell? ⟨w.heap.size, 0, none⟩ = some (.int .i64 0)) := by show _ = _; simp
  have HV1 : Hid ((w.alloc (.cells #[.int .i64 0, .bool false, .slice none 0 0, .int .u64 0, .string ⟨#[]⟩, .slice none 0 0] 28)).cell? ⟨w.heap.size, 1, none⟩ = some (.bool false)) := by show _ = _; simp
  have HV2 : Hid ((w.alloc (.cells #[.int .i64 0, .bool false, .slice none 0 0, .int .u64 0, .string ⟨#[]⟩, .slice none 0 0] 28)).cell? ⟨w.heap.size, 2, none⟩ = some (.slice none 0 0)) := by show _ = _; simp
  have HV3 : Hid ((w.alloc (.cells #[.int .i64 0, .bool false, .slice none 0 0, .int .u64 0, .string ⟨#[]⟩, .slice none 0 0] 28)).cell? ⟨w.heap.size, 3, none⟩ = some (.int .u64 0)) := by show _ = _; simp
  have HV4 : Hid ((w.alloc (.cells #[.int .i64 0, .bool false, .slice none 0 0, .int .u64 0, .string ⟨#[]⟩, .slice none 0 0] 28)).cell? ⟨w.heap.size, 4, none⟩ = some (.string ⟨#[]⟩)) := by show _ = _; simp
  have HV5 : Hid ((w.alloc (.cells #[.int .i64 0, .bool false, .slice none 0 0, .int .u64 0, .string ⟨#[]⟩, .slice none 0 0] 28)).cell? ⟨w.heap.size, 5, none⟩ = some (.slice none 0 0)) := by show _ = _; simp
  have HF0 : Hid ((w.alloc (.cells #[.int .i64 0, .bool false, .slice none 0 0, .int .u64 0, .string ⟨#[]⟩, .slice none 0 0] 28)).frozen? ⟨w.heap.size, 0, none⟩ = false) := by show _ = _; simp
  have HF1 : Hid ((w.alloc (.cells #[.int .i64 0, .bool false, .slice none 0 0, .int .u64 0, .string ⟨#[]⟩, .slice none 0 0] 28)).frozen? ⟨w.heap.size, 1, none⟩ = false) := by show _ = _; simp
  have HF2 : Hid ((w.alloc (.cells #[.int .i64 0, .bool false, .slice none 0 0, .int .u64 0, .string ⟨#[]⟩, .slice none 0 0] 28)).frozen? ⟨w.heap.size, 2, none⟩ = false) := by show _ = _; simp
  have HF3 : Hid ((w.alloc (.cells #[.int .i64 0, .bool false, .slice none 0 0, .int .u64 0, .string ⟨#[]⟩, .slice none 0 0] 28)).frozen? ⟨w.heap.size, 3, none⟩ = false) := by show _ = _; simp
  have HF4 : Hid ((w.alloc (.cells #[.int .i64 0, .bool false, .slice none 0 0, .int .u64 0, .string ⟨#[]⟩, .slice none 0 0] 28)).frozen? ⟨w.heap.size, 4, none⟩ = false) := by show _ = _; simp
  have HF5 : Hid ((w.alloc (.cells #[.int .i64 0, .bool false, .slice none 0 0, .int .u64 0, .string ⟨#[]⟩, .slice none 0 0] 28)).frozen? ⟨w.heap.size, 5, none⟩ = false) := by show _ = _; simp
  have HCS : Hid (ws6.size ≤ 100000) := by show _ ≤ _; decide
  go_enter Tryz.func26, Tryz.ntmps26
  go_wp2
  generalize hw0 : w.alloc (.cells #[.int .i64 0, .bool false, .slice none 0 0, .int .u64 0, .string ⟨#[]⟩, .slice none 0 0] 28) = w0 at *
  clear hw0
  rw [show (⟨#[32, 9, 10, 11, 12, 13]⟩ : ByteArray) = ws6 from rfl]
  go_loop [0] (fun v => ∃ t : ByteArray, v = .string t ∧ t.size ≤ 100000 ∧ Hid (tl (inB ws6) t.data.toList = tl (inB ws6) s.data.toList)) (fun v => strSize v)
  case atStart => exact ⟨s, rfl, hs, rfl⟩
  case round =>
    obtain ⟨t, rfl, hts, HTL⟩ := hrel
    by_cases htz : t.size = 0
    · have HL : Hid (backL ws6 true t.data.toList = left2 ws6 false true s.data.toList) := by
        show _ = backL _ _ (tl _ _)
        rw [← HTL.out, nil_of t htz]; rfl
      have htz1 : ¬ 0 < t.size := by omega
      clear htz
      go_wp2
      go_loop [0] (fun v => ∃ u : ByteArray, v = .string u ∧ u.size ≤ 100000 ∧ Hid (backL ws6 true u.data.toList = left2 ws6 false true s.data.toList)) (fun v => strSize v)
      case atStart => exact ⟨t, rfl, by omega, HL.out⟩
      case round =>
        obtain ⟨u, rfl, hus, HU⟩ := hrel
        have HE : Hid (u.data.toList = left2 ws6 false true s.data.toList) := HU.out
        go_wp2_with fail
        go_at_call 6
        refine (f6_any _ _).mono ?_
        rintro e w2 ⟨rfl, hb⟩
        have HB := Lib.hid (HW0.out.trans (hb.mono HW0.out.size))
        have hc0 : ∀ o, w2.cell? ⟨w.heap.size, o, none⟩ = w0.cell? ⟨w.heap.size, o, none⟩ := fun o => hb.cell (p := ⟨w.heap.size, o, none⟩) HZ.out
        have hf0 : ∀ o, w2.frozen? ⟨w.heap.size, o, none⟩ = w0.frozen? ⟨w.heap.size, o, none⟩ := fun o => hb.frozen (p := ⟨w.heap.size, o, none⟩) HZ.out
        have k0 := HV0.out
        have k1 := HV1.out
        have k2 := HV2.out
        have k3 := HV3.out
        have k4 := HV4.out
        have k5 := HV5.out
        have q0 := HF0.out
        have q1 := HF1.out
        have q2 := HF2.out
        have q3 := HF3.out
        have q4 := HF4.out
        have q5 := HF5.out
        clear hb
        go_wp2
        refine bodyPost_ret (v := .tuple #[.agg #[.int .i64 4, .bool false, .slice none 0 0, .int .u64 0, .string u, .slice none 0 0], .bool true]) (by simp [results, Tryz.results26, go_sem, hc0, k0, k1, k2, k3, k4, k5]) rfl ⟨u, HE.out, rfl, ?_⟩
        iterate 6 (refine Below.setCell ?_ (show w.heap.size ≤ w.heap.size from Nat.le_refl _) _)
        exact HB.out
    · have htz1 : 0 < t.size := by omega
      obtain ⟨b, r, HR⟩ := cons_of _ (list_ne t htz1)
      have HH := Lib.hid (head_one t b r HR)
      have HT := Lib.hid (tail_one t b r HR)
      have HR := Lib.hid HR
      by_cases hb : inB ws6 b = true
      · have HB1 := Lib.hid hb
        have HTL2 : Hid (tl (inB ws6) (t.extract 1 t.size).data.toList = tl (inB ws6) s.data.toList) := by
          show _ = _
          rw [HT.out, ← HTL.out, HR.out]
          exact (tl_step _ b r HB1.out).symm
        clear hb
        go_wp2_with fail
        go_at_call 48
        refine (f48_in ws6 _ b (by exact HH.out) HCS.out HB1.out _).mono ?_
        rintro e w' ⟨z, hz, rfl, rfl⟩
        go_wp2
        go_round
        case rel => exact ⟨_, rfl, by rw [ByteArray.size_extract]; omega, HTL2.out⟩
        case measure => simp [strSize]; omega
      · have HB1 := Lib.hid (show inB ws6 b = false by simpa using hb)
        have HL : Hid (backL ws6 true t.data.toList = left2 ws6 false true s.data.toList) := by
          show _ = backL _ _ (tl _ _)
          rw [← HTL.out, HR.out, tl_stay _ b r HB1.out]
        clear hb
        go_wp2_with fail
        go_at_call 48
        refine (f48_out ws6 _ b (by exact HH.out) HCS.out HB1.out _).mono ?_
        rintro e w' ⟨z, hz, rfl, rfl⟩
        go_wp2
        go_loop [0] (fun v => ∃ u : ByteArray, v = .string u ∧ u.size ≤ 100000 ∧ Hid (backL ws6 true u.data.toList = left2 ws6 false true s.data.toList)) (fun v => strSize v)
        case atStart => exact ⟨t, rfl, by omega, HL.out⟩
        case round =>
          obtain ⟨u, rfl, hus, HU⟩ := hrel
          have HE : Hid (u.data.toList = left2 ws6 false true s.data.toList) := HU.out
          go_wp2_with fail
          go_at_call 6
          refine (f6_any _ _).mono ?_
          rintro e w2 ⟨rfl, hb⟩
          have HB := Lib.hid (HW0.out.trans (hb.mono HW0.out.size))
          have hc0 : ∀ o, w2.cell? ⟨w.heap.size, o, none⟩ = w0.cell? ⟨w.heap.size, o, none⟩ := fun o => hb.cell (p := ⟨w.heap.size, o, none⟩) HZ.out
          have hf0 : ∀ o, w2.frozen? ⟨w.heap.size, o, none⟩ = w0.frozen? ⟨w.heap.size, o, none⟩ := fun o => hb.frozen (p := ⟨w.heap.size, o, none⟩) HZ.out
          have k0 := HV0.out
          have k1 := HV1.out
          have k2 := HV2.out
          have k3 := HV3.out
          have k4 := HV4.out
          have k5 := HV5.out
          have q0 := HF0.out
          have q1 := HF1.out
          have q2 := HF2.out
          have q3 := HF3.out
          have q4 := HF4.out
          have q5 := HF5.out
          clear hb
          go_wp2
          refine bodyPost_ret (v := .tuple #[.agg #[.int .i64 4, .bool false, .slice none 0 0, .int .u64 0, .string u, .slice none 0 0], .bool true]) (by simp [results, Tryz.results26, go_sem, hc0, k0, k1, k2, k3, k4, k5]) rfl ⟨u, HE.out, rfl, ?_⟩
          iterate 6 (refine Below.setCell ?_ (show w.heap.size ≤ w.heap.size from Nat.le_refl _) _)
          exact HB.out
set_option maxRecDepth 100000 in
set_option maxHeartbeats 4000000 in
theorem f26_none_tf (s nm : ByteArray) (hs : s.size ≤ 100000) (h1 :  nm.toList = [114, 115, 116, 114, 105, 112]) (_h2 : ¬ nm.toList = [108, 115, 116, 114, 105, 112]) (w : World)  :
    Calls Tryz.prog 26 #[.string s, .string nm, .slice none 0 0] w (ValIs (left2 ws6 true false s.data.toList) w) := by
  have HW0 : Hid (Below w.heap.size w (w.alloc (.cells #[.int .i64 0, .bool false, .slice none 0 0, .int .u64 0, .string ⟨#[]⟩, .slice none 0 0] 28))) := (Below.refl _ _).alloc (Nat.le_refl _) _
  have HZ : Hid (w.heap.size < (w.alloc (.cells #[.int .i64 0, .bool false, .slice none 0 0, .int .u64 0, .string ⟨#[]⟩, .slice none 0 0] 28)).heap.size) := by show _ < _; simp
  have HV0 : Hid ((w.alloc (.cells #[.int .i64 0, .bool false, .slice none 0 0, .int .u64 0, .string ⟨#[]⟩, .slice none 0 0] 28)).cell? ⟨w.heap.size, 0, none⟩ = some (.int .i64 0)) := by show _ = _; simp
  have HV1 : Hid ((w.alloc (.cells #[.int .i64 0, .bool false, .slice none 0 0, .int .u64 0, .string ⟨#[]⟩, .slice none 0 0] 28)).cell? ⟨w.heap.size, 1, none⟩ = some (.bool false)) := by show _ = _; simp
  have HV2 : Hid ((w.alloc (.cells #[.int .i64 0, .bool false, .slice none 0 0, .int .u64 0, .string ⟨#[]⟩, .slice none 0 0] 28)).cell? ⟨w.heap.size, 2, none⟩ = some (.slice none 0 0)) := by show _ = _; simp
  have HV3 : Hid ((w.alloc (.cells #[.int .i64 0, .bool false, .slice none 0 0, .int .u64 0, .string ⟨#[]⟩, .slice none 0 0] 28)).cell? ⟨w.heap.size, 3, none⟩ = some (.int .u64 0)) := by show _ = _; simp
  have HV4 : Hid ((w.alloc (.cells #[.int .i64 0, .bool false, .slice none 0 0, .int .u64 0, .string ⟨#[]⟩, .slice none 0 0] 28)).cell? ⟨w.heap.size, 4, none⟩ = some (.string ⟨#[]⟩)) := by show _ = _; simp
  have HV5 : Hid ((w.alloc (.cells #[.int .i64 0, .bool false, .slice none 0 0, .int .u64 0, .string ⟨#[]⟩, .slice none 0 0] 28)).cell? ⟨w.heap.size, 5, none⟩ = some (.slice none 0 0)) := by show _ = _; simp
  have HF0 : Hid ((w.alloc (.cells #[.int .i64 0, .bool false, .slice none 0 0, .int .u64 0, .string ⟨#[]⟩, .slice none 0 0] 28)).frozen? ⟨w.heap.size, 0, none⟩ = false) := by show _ = _; simp
  have HF1 : Hid ((w.alloc (.cells #[.int .i64 0, .bool false, .slice none 0 0, .int .u64 0, .string ⟨#[]⟩, .slice none 0 0] 28)).frozen? ⟨w.heap.size, 1, none⟩ = false) := by show _ = _; simp
  have HF2 : Hid ((w.alloc (.cells #[.int .i64 0, .bool false, .slice none 0 0, .int .u64 0, .string ⟨#[]⟩, .slice none 0 0] 28)).frozen? ⟨w.heap.size, 2, none⟩ = false) := by show _ = _; simp
  have HF3 : Hid ((w.alloc (.cells #[.int .i64 0, .bool false, .slice none 0 0, .int .u64 0, .string ⟨#[]⟩, .slice none 0 0] 28)).frozen? ⟨w.heap.size, 3, none⟩ = false) := by show _ = _; simp
  have HF4 : Hid ((w.alloc (.cells #[.int .i64 0, .bool false, .slice none 0 0, .int .u64 0, .string ⟨#[]⟩, .slice none 0 0] 28)).frozen? ⟨w.heap.size, 4, none⟩ = false) := by show _ = _; simp
  have HF5 : Hid ((w.alloc (.cells #[.int .i64 0, .bool false, .slice none 0 0, .int .u64 0, .string ⟨#[]⟩, .slice none 0 0] 28)).frozen? ⟨w.heap.size, 5, none⟩ = false) := by show _ = _; simp
  have HCS : Hid (ws6.size ≤ 100000) := by show _ ≤ _; decide
  go_enter Tryz.func26, Tryz.ntmps26
  go_wp2
  generalize hw0 : w.alloc (.cells #[.int .i64 0, .bool false, .slice none 0 0, .int .u64 0, .string ⟨#[]⟩, .slice none 0 0] 28) = w0 at *
  clear hw0
  rw [show (⟨#[32, 9, 10, 11, 12, 13]⟩ : ByteArray) = ws6 from rfl]
  go_loop [0] (fun v => v = .string s) (fun _ => 0)
  case atStart => rfl
  case round =>
    obtain rfl := hrel
    have HL : Hid (backL ws6 false s.data.toList = left2 ws6 true false s.data.toList) := by show _ = _; rfl
    go_wp2
    go_loop [0] (fun v => ∃ u : ByteArray, v = .string u ∧ u.size ≤ 100000 ∧ Hid (backL ws6 false u.data.toList = left2 ws6 true false s.data.toList)) (fun v => strSize v)
    case atStart => exact ⟨s, rfl, by omega, HL.out⟩
    case round =>
      obtain ⟨u, rfl, hus, HU⟩ := hrel
      by_cases huz : u.size = 0
      · have HE : Hid (u.data.toList = left2 ws6 true false s.data.toList) := by show _ = _; rw [← HU.out, nil_of u huz]; rfl
        have huz1 : ¬ 0 < u.size := by omega
        have HUZ := Lib.hid huz
        clear huz
        go_wp2_with fail
        go_at_call 6
        refine (f6_any _ _).mono ?_
        rintro e w2 ⟨rfl, hb⟩
        have HB := Lib.hid (HW0.out.trans (hb.mono HW0.out.size))
        have hc0 : ∀ o, w2.cell? ⟨w.heap.size, o, none⟩ = w0.cell? ⟨w.heap.size, o, none⟩ := fun o => hb.cell (p := ⟨w.heap.size, o, none⟩) HZ.out
        have hf0 : ∀ o, w2.frozen? ⟨w.heap.size, o, none⟩ = w0.frozen? ⟨w.heap.size, o, none⟩ := fun o => hb.frozen (p := ⟨w.heap.size, o, none⟩) HZ.out
        have k0 := HV0.out
        have k1 := HV1.out
        have k2 := HV2.out
        have k3 := HV3.out
        have k4 := HV4.out
        have k5 := HV5.out
        have q0 := HF0.out
        have q1 := HF1.out
        have q2 := HF2.out
        have q3 := HF3.out
        have q4 := HF4.out
        have q5 := HF5.out
        clear hb
        go_wp2
        refine bodyPost_ret (v := .tuple #[.agg #[.int .i64 4, .bool false, .slice none 0 0, .int .u64 0, .string u, .slice none 0 0], .bool true]) (by simp [results, Tryz.results26, go_sem, hc0, k0, k1, k2, k3, k4, k5]) rfl ⟨u, HE.out, rfl, ?_⟩
        iterate 6 (refine Below.setCell ?_ (show w.heap.size ≤ w.heap.size from Nat.le_refl _) _)
        exact HB.out
      · have huz1 : 0 < u.size := by omega
        obtain ⟨r, b, HR⟩ := snoc_of _ (list_ne u huz1)
        have HH := Lib.hid (last_one u b r HR)
        have HT := Lib.hid (init_one u b r HR)
        have HR := Lib.hid HR
        by_cases hb : inB ws6 b = true
        · have HB1 := Lib.hid hb
          have HU2 : Hid (backL ws6 false (u.extract 0 (u.size - 1)).data.toList = left2 ws6 true false s.data.toList) := by
            show _ = _
            rw [HT.out, ← HU.out, HR.out]
            exact (tr_step _ b r HB1.out).symm
          clear hb
          go_wp2_with fail
          go_at_call 48
          refine (f48_in ws6 _ b (by exact HH.out) HCS.out HB1.out _).mono ?_
          rintro e w' ⟨z, hz, rfl, rfl⟩
          go_wp2
          go_round
          case rel => exact ⟨_, rfl, by rw [ByteArray.size_extract]; omega, HU2.out⟩
          case measure => simp [strSize]; omega
        · have HB1 := Lib.hid (show inB ws6 b = false by simpa using hb)
          have HE : Hid (u.data.toList = left2 ws6 true false s.data.toList) := by
            show _ = _
            rw [← HU.out, HR.out]
            exact (tr_stay _ b r HB1.out).symm
          clear hb
          go_wp2_with fail
          go_at_call 48
          refine (f48_out ws6 _ b (by exact HH.out) HCS.out HB1.out _).mono ?_
          rintro e w' ⟨z, hz, rfl, rfl⟩
          go_wp2_with fail
          go_at_call 6
          refine (f6_any _ _).mono ?_
          rintro e w2 ⟨rfl, hb⟩
          have HB := Lib.hid (HW0.out.trans (hb.mono HW0.out.size))
          have hc0 : ∀ o, w2.cell? ⟨w.heap.size, o, none⟩ = w0.cell? ⟨w.heap.size, o, none⟩ := fun o => hb.cell (p := ⟨w.heap.size, o, none⟩) HZ.out
          have hf0 : ∀ o, w2.frozen? ⟨w.heap.size, o, none⟩ = w0.frozen? ⟨w.heap.size, o, none⟩ := fun o => hb.frozen (p := ⟨w.heap.size, o, none⟩) HZ.out
          have k0 := HV0.out
          have k1 := HV1.out
          have k2 := HV2.out
          have k3 := HV3.out
          have k4 := HV4.out
          have k5 := HV5.out
          have q0 := HF0.out
          have q1 := HF1.out
          have q2 := HF2.out
          have q3 := HF3.out
          have q4 := HF4.out
          have q5 := HF5.out
          clear hb
          go_wp2
          refine bodyPost_ret (v := .tuple #[.agg #[.int .i64 4, .bool false, .slice none 0 0, .int .u64 0, .string u, .slice none 0 0], .bool true]) (by simp [results, Tryz.results26, go_sem, hc0, k0, k1, k2, k3, k4, k5]) rfl ⟨u, HE.out, rfl, ?_⟩
          iterate 6 (refine Below.setCell ?_ (show w.heap.size ≤ w.heap.size from Nat.le_refl _) _)
          exact HB.out
set_option maxRecDepth 100000 in
set_option maxHeartbeats 4000000 in
theorem f26_none_ff (s nm : ByteArray) (hs : s.size ≤ 100000) (h1 : ¬ nm.toList = [114, 115, 116, 114, 105, 112]) (h2 : ¬ nm.toList = [108, 115, 116, 114, 105, 112]) (w : World)  :
    Calls Tryz.prog 26 #[.string s, .string nm, .slice none 0 0] w (ValIs (left2 ws6 false false s.data.toList) w) := by
  have HW0 : Hid (Below w.heap.size w (w.alloc (.cells #[.int .i64 0, .bool false, .slice none 0 0, .int .u64 0, .string ⟨#[]⟩, .slice none 0 0] 28))) := (Below.refl _ _).alloc (Nat.le_refl _) _
  have HZ : Hid (w.heap.size < (w.alloc (.cells #[.int .i64 0, .bool false, .slice none 0 0, .int .u64 0, .string ⟨#[]⟩, .slice none 0 0] 28)).heap.size) := by show _ < _; simp
  have HV0 : Hid ((w.alloc (.cells #[.int .i64 0, .bool false, .slice none 0 0, .int .u64 0, .string ⟨#[]⟩, .slice none 0 0] 28)).cell? ⟨w.heap.size, 0, none⟩ = some (.int .i64 0)) := by show _ = _; simp
  have HV1 : Hid ((w.alloc (.cells #[.int .i64 0, .bool false, .slice none 0 0, .int .u64 0, .string ⟨#[]⟩, .slice none 0 0] 28)).cell? ⟨w.heap.size, 1, none⟩ = some (.bool false)) := by show _ = _; simp
  have HV2 : Hid ((w.alloc (.cells #[.int .i64 0, .bool false, .slice none 0 0, .int .u64 0, .string ⟨#[]⟩, .slice none 0 0] 28)).cell? ⟨w.heap.size, 2, none⟩ = some (.slice none 0 0)) := by show _ = _; simp
  have HV3 : Hid ((w.alloc (.cells #[.int .i64 0, .bool false, .slice none 0 0, .int .u64 0, .string ⟨#[]⟩, .slice none 0 0] 28)).cell? ⟨w.heap.size, 3, none⟩ = some (.int .u64 0)) := by show _ = _; simp
  have HV4 : Hid ((w.alloc (.cells #[.int .i64 0, .bool false, .slice none 0 0, .int .u64 0, .string ⟨#[]⟩, .slice none 0 0] 28)).cell? ⟨w.heap.size, 4, none⟩ = some (.string ⟨#[]⟩)) := by show _ = _; simp
  have HV5 : Hid ((w.alloc (.cells #[.int .i64 0, .bool false, .slice none 0 0, .int .u64 0, .string ⟨#[]⟩, .slice none 0 0] 28)).cell? ⟨w.heap.size, 5, none⟩ = some (.slice none 0 0)) := by show _ = _; simp
  have HF0 : Hid ((w.alloc (.cells #[.int .i64 0, .bool false, .slice none 0 0, .int .u64 0, .string ⟨#[]⟩, .slice none 0 0] 28)).frozen? ⟨w.heap.size, 0, none⟩ = false) := by show _ = _; simp
  have HF1 : Hid ((w.alloc (.cells #[.int .i64 0, .bool false, .slice none 0 0, .int .u64 0, .string ⟨#[]⟩, .slice none 0 0] 28)).frozen? ⟨w.heap.size, 1, none⟩ = false) := by show _ = _; simp
  have HF2 : Hid ((w.alloc (.cells #[.int .i64 0, .bool false, .slice none 0 0, .int .u64 0, .string ⟨#[]⟩, .slice none 0 0] 28)).frozen? ⟨w.heap.size, 2, none⟩ = false) := by show _ = _; simp
  have HF3 : Hid ((w.alloc (.cells #[.int .i64 0, .bool false, .slice none 0 0, .int .u64 0, .string ⟨#[]⟩, .slice none 0 0] 28)).frozen? ⟨w.heap.size, 3, none⟩ = false) := by show _ = _; simp
  have HF4 : Hid ((w.alloc (.cells #[.int .i64 0, .bool false, .slice none 0 0, .int .u64 0, .string ⟨#[]⟩, .slice none 0 0] 28)).frozen? ⟨w.heap.size, 4, none⟩ = false) := by show _ = _; simp
  have HF5 : Hid ((w.alloc (.cells #[.int .i64 0, .bool false, .slice none 0 0, .int .u64 0, .string ⟨#[]⟩, .slice none 0 0] 28)).frozen? ⟨w.heap.size, 5, none⟩ = false) := by show _ = _; simp
  have g1 : (nm.toList == [114, 115, 116, 114, 105, 112]) = false := by simpa using h1
  have g2 : (nm.toList == [108, 115, 116, 114, 105, 112]) = false := by simpa using h2
  have HCS : Hid (ws6.size ≤ 100000) := by show _ ≤ _; decide
  go_enter Tryz.func26, Tryz.ntmps26
  go_wp2
  generalize hw0 : w.alloc (.cells #[.int .i64 0, .bool false, .slice none 0 0, .int .u64 0, .string ⟨#[]⟩, .slice none 0 0] 28) = w0 at *
  clear hw0
  rw [show (⟨#[32, 9, 10, 11, 12, 13]⟩ : ByteArray) = ws6 from rfl]
  go_loop [0] (fun v => ∃ t : ByteArray, v = .string t ∧ t.size ≤ 100000 ∧ Hid (tl (inB ws6) t.data.toList = tl (inB ws6) s.data.toList)) (fun v => strSize v)
  case atStart => exact ⟨s, rfl, hs, rfl⟩
  case round =>
    obtain ⟨t, rfl, hts, HTL⟩ := hrel
    by_cases htz : t.size = 0
    · have HL : Hid (backL ws6 false t.data.toList = left2 ws6 false false s.data.toList) := by
        show _ = backL _ _ (tl _ _)
        rw [← HTL.out, nil_of t htz]; rfl
      have htz1 : ¬ 0 < t.size := by omega
      clear htz
      go_wp2
      go_loop [0] (fun v => ∃ u : ByteArray, v = .string u ∧ u.size ≤ 100000 ∧ Hid (backL ws6 false u.data.toList = left2 ws6 false false s.data.toList)) (fun v => strSize v)
      case atStart => exact ⟨t, rfl, by omega, HL.out⟩
      case round =>
        obtain ⟨u, rfl, hus, HU⟩ := hrel
        by_cases huz : u.size = 0
        · have HE : Hid (u.data.toList = left2 ws6 false false s.data.toList) := by show _ = _; rw [← HU.out, nil_of u huz]; rfl
          have huz1 : ¬ 0 < u.size := by omega
          have HUZ := Lib.hid huz
          clear huz
          go_wp2_with fail
          go_at_call 6
          refine (f6_any _ _).mono ?_
          rintro e w2 ⟨rfl, hb⟩
          have HB := Lib.hid (HW0.out.trans (hb.mono HW0.out.size))
          have hc0 : ∀ o, w2.cell? ⟨w.heap.size, o, none⟩ = w0.cell? ⟨w.heap.size, o, none⟩ := fun o => hb.cell (p := ⟨w.heap.size, o, none⟩) HZ.out
          have hf0 : ∀ o, w2.frozen? ⟨w.heap.size, o, none⟩ = w0.frozen? ⟨w.heap.size, o, none⟩ := fun o => hb.frozen (p := ⟨w.heap.size, o, none⟩) HZ.out
          have k0 := HV0.out
          have k1 := HV1.out
          have k2 := HV2.out
          have k3 := HV3.out
          have k4 := HV4.out
          have k5 := HV5.out
          have q0 := HF0.out
          have q1 := HF1.out
          have q2 := HF2.out
          have q3 := HF3.out
          have q4 := HF4.out
          have q5 := HF5.out
          clear hb
          go_wp2
          refine bodyPost_ret (v := .tuple #[.agg #[.int .i64 4, .bool false, .slice none 0 0, .int .u64 0, .string u, .slice none 0 0], .bool true]) (by simp [results, Tryz.results26, go_sem, hc0, k0, k1, k2, k3, k4, k5]) rfl ⟨u, HE.out, rfl, ?_⟩
          iterate 6 (refine Below.setCell ?_ (show w.heap.size ≤ w.heap.size from Nat.le_refl _) _)
          exact HB.out
        · have huz1 : 0 < u.size := by omega
          obtain ⟨r, b, HR⟩ := snoc_of _ (list_ne u huz1)
          have HH := Lib.hid (last_one u b r HR)
          have HT := Lib.hid (init_one u b r HR)
          have HR := Lib.hid HR
          by_cases hb : inB ws6 b = true
          · have HB1 := Lib.hid hb
            have HU2 : Hid (backL ws6 false (u.extract 0 (u.size - 1)).data.toList = left2 ws6 false false s.data.toList) := by
              show _ = _
              rw [HT.out, ← HU.out, HR.out]
              exact (tr_step _ b r HB1.out).symm
            clear hb
            go_wp2_with fail
            go_at_call 48
            refine (f48_in ws6 _ b (by exact HH.out) HCS.out HB1.out _).mono ?_
            rintro e w' ⟨z, hz, rfl, rfl⟩
            go_wp2
            go_round
            case rel => exact ⟨_, rfl, by rw [ByteArray.size_extract]; omega, HU2.out⟩
            case measure => simp [strSize]; omega
          · have HB1 := Lib.hid (show inB ws6 b = false by simpa using hb)
            have HE : Hid (u.data.toList = left2 ws6 false false s.data.toList) := by
              show _ = _
              rw [← HU.out, HR.out]
              exact (tr_stay _ b r HB1.out).symm
            clear hb
            go_wp2_with fail
            go_at_call 48
            refine (f48_out ws6 _ b (by exact HH.out) HCS.out HB1.out _).mono ?_
            rintro e w' ⟨z, hz, rfl, rfl⟩
            go_wp2_with fail
            go_at_call 6
            refine (f6_any _ _).mono ?_
            rintro e w2 ⟨rfl, hb⟩
            have HB := Lib.hid (HW0.out.trans (hb.mono HW0.out.size))
            have hc0 : ∀ o, w2.cell? ⟨w.heap.size, o, none⟩ = w0.cell? ⟨w.heap.size, o, none⟩ := fun o => hb.cell (p := ⟨w.heap.size, o, none⟩) HZ.out
            have hf0 : ∀ o, w2.frozen? ⟨w.heap.size, o, none⟩ = w0.frozen? ⟨w.heap.size, o, none⟩ := fun o => hb.frozen (p := ⟨w.heap.size, o, none⟩) HZ.out
            have k0 := HV0.out
            have k1 := HV1.out
            have k2 := HV2.out
            have k3 := HV3.out
            have k4 := HV4.out
            have k5 := HV5.out
            have q0 := HF0.out
            have q1 := HF1.out
            have q2 := HF2.out
            have q3 := HF3.out
            have q4 := HF4.out
            have q5 := HF5.out
            clear hb
            go_wp2
            refine bodyPost_ret (v := .tuple #[.agg #[.int .i64 4, .bool false, .slice none 0 0, .int .u64 0, .string u, .slice none 0 0], .bool true]) (by simp [results, Tryz.results26, go_sem, hc0, k0, k1, k2, k3, k4, k5]) rfl ⟨u, HE.out, rfl, ?_⟩
            iterate 6 (refine Below.setCell ?_ (show w.heap.size ≤ w.heap.size from Nat.le_refl _) _)
            exact HB.out
    · have htz1 : 0 < t.size := by omega
      obtain ⟨b, r, HR⟩ := cons_of _ (list_ne t htz1)
      have HH := Lib.hid (head_one t b r HR)
      have HT := Lib.hid (tail_one t b r HR)
      have HR := Lib.hid HR
      by_cases hb : inB ws6 b = true
      · have HB1 := Lib.hid hb
        have HTL2 : Hid (tl (inB ws6) (t.extract 1 t.size).data.toList = tl (inB ws6) s.data.toList) := by
          show _ = _
          rw [HT.out, ← HTL.out, HR.out]
          exact (tl_step _ b r HB1.out).symm
        clear hb
        go_wp2_with fail
        go_at_call 48
        refine (f48_in ws6 _ b (by exact HH.out) HCS.out HB1.out _).mono ?_
        rintro e w' ⟨z, hz, rfl, rfl⟩
        go_wp2
        go_round
        case rel => exact ⟨_, rfl, by rw [ByteArray.size_extract]; omega, HTL2.out⟩
        case measure => simp [strSize]; omega
      · have HB1 := Lib.hid (show inB ws6 b = false by simpa using hb)
        have HL : Hid (backL ws6 false t.data.toList = left2 ws6 false false s.data.toList) := by
          show _ = backL _ _ (tl _ _)
          rw [← HTL.out, HR.out, tl_stay _ b r HB1.out]
        clear hb
        go_wp2_with fail
        go_at_call 48
        refine (f48_out ws6 _ b (by exact HH.out) HCS.out HB1.out _).mono ?_
        rintro e w' ⟨z, hz, rfl, rfl⟩
        go_wp2
        go_loop [0] (fun v => ∃ u : ByteArray, v = .string u ∧ u.size ≤ 100000 ∧ Hid (backL ws6 false u.data.toList = left2 ws6 false false s.data.toList)) (fun v => strSize v)
        case atStart => exact ⟨t, rfl, by omega, HL.out⟩
        case round =>
          obtain ⟨u, rfl, hus, HU⟩ := hrel
          by_cases huz : u.size = 0
          · have HE : Hid (u.data.toList = left2 ws6 false false s.data.toList) := by show _ = _; rw [← HU.out, nil_of u huz]; rfl
            have huz1 : ¬ 0 < u.size := by omega
            have HUZ := Lib.hid huz
            clear huz
            go_wp2_with fail
            go_at_call 6
            refine (f6_any _ _).mono ?_
            rintro e w2 ⟨rfl, hb⟩
            have HB := Lib.hid (HW0.out.trans (hb.mono HW0.out.size))
            have hc0 : ∀ o, w2.cell? ⟨w.heap.size, o, none⟩ = w0.cell? ⟨w.heap.size, o, none⟩ := fun o => hb.cell (p := ⟨w.heap.size, o, none⟩) HZ.out
            have hf0 : ∀ o, w2.frozen? ⟨w.heap.size, o, none⟩ = w0.frozen? ⟨w.heap.size, o, none⟩ := fun o => hb.frozen (p := ⟨w.heap.size, o, none⟩) HZ.out
            have k0 := HV0.out
            have k1 := HV1.out
            have k2 := HV2.out
            have k3 := HV3.out
            have k4 := HV4.out
            have k5 := HV5.out
            have q0 := HF0.out
            have q1 := HF1.out
            have q2 := HF2.out
            have q3 := HF3.out
            have q4 := HF4.out
            have q5 := HF5.out
            clear hb
            go_wp2
            refine bodyPost_ret (v := .tuple #[.agg #[.int .i64 4, .bool false, .slice none 0 0, .int .u64 0, .string u, .slice none 0 0], .bool true]) (by simp [results, Tryz.results26, go_sem, hc0, k0, k1, k2, k3, k4, k5]) rfl ⟨u, HE.out, rfl, ?_⟩
            iterate 6 (refine Below.setCell ?_ (show w.heap.size ≤ w.heap.size from Nat.le_refl _) _)
            exact HB.out
          · have huz1 : 0 < u.size := by omega
            obtain ⟨r, b, HR⟩ := snoc_of _ (list_ne u huz1)
            have HH := Lib.hid (last_one u b r HR)
            have HT := Lib.hid (init_one u b r HR)
            have HR := Lib.hid HR
            by_cases hb : inB ws6 b = true
            · have HB1 := Lib.hid hb
              have HU2 : Hid (backL ws6 false (u.extract 0 (u.size - 1)).data.toList = left2 ws6 false false s.data.toList) := by
                show _ = _
                rw [HT.out, ← HU.out, HR.out]
                exact (tr_step _ b r HB1.out).symm
              clear hb
              go_wp2_with fail
              go_at_call 48
              refine (f48_in ws6 _ b (by exact HH.out) HCS.out HB1.out _).mono ?_
              rintro e w' ⟨z, hz, rfl, rfl⟩
              go_wp2
              go_round
              case rel => exact ⟨_, rfl, by rw [ByteArray.size_extract]; omega, HU2.out⟩
              case measure => simp [strSize]; omega
            · have HB1 := Lib.hid (show inB ws6 b = false by simpa using hb)
              have HE : Hid (u.data.toList = left2 ws6 false false s.data.toList) := by
                show _ = _
                rw [← HU.out, HR.out]
                exact (tr_stay _ b r HB1.out).symm
              clear hb
              go_wp2_with fail
              go_at_call 48
              refine (f48_out ws6 _ b (by exact HH.out) HCS.out HB1.out _).mono ?_
              rintro e w' ⟨z, hz, rfl, rfl⟩
              go_wp2_with fail
              go_at_call 6
              refine (f6_any _ _).mono ?_
              rintro e w2 ⟨rfl, hb⟩
              have HB := Lib.hid (HW0.out.trans (hb.mono HW0.out.size))
              have hc0 : ∀ o, w2.cell? ⟨w.heap.size, o, none⟩ = w0.cell? ⟨w.heap.size, o, none⟩ := fun o => hb.cell (p := ⟨w.heap.size, o, none⟩) HZ.out
              have hf0 : ∀ o, w2.frozen? ⟨w.heap.size, o, none⟩ = w0.frozen? ⟨w.heap.size, o, none⟩ := fun o => hb.frozen (p := ⟨w.heap.size, o, none⟩) HZ.out
              have k0 := HV0.out
              have k1 := HV1.out
              have k2 := HV2.out
              have k3 := HV3.out
              have k4 := HV4.out
              have k5 := HV5.out
              have q0 := HF0.out
              have q1 := HF1.out
              have q2 := HF2.out
              have q3 := HF3.out
              have q4 := HF4.out
              have q5 := HF5.out
              clear hb
              go_wp2
              refine bodyPost_ret (v := .tuple #[.agg #[.int .i64 4, .bool false, .slice none 0 0, .int .u64 0, .string u, .slice none 0 0], .bool true]) (by simp [results, Tryz.results26, go_sem, hc0, k0, k1, k2, k3, k4, k5]) rfl ⟨u, HE.out, rfl, ?_⟩
              iterate 6 (refine Below.setCell ?_ (show w.heap.size ≤ w.heap.size from Nat.le_refl _) _)
              exact HB.out
set_option maxRecDepth 100000 in
set_option maxHeartbeats 4000000 in
theorem f26_void_ft (s nm : ByteArray) (hs : s.size ≤ 100000) (_h1 : ¬ nm.toList = [114, 115, 116, 114, 105, 112]) (h2 :  nm.toList = [108, 115, 116, 114, 105, 112]) (w : World) (g c : Nat) (hk : w.cell? ⟨g, 0, none⟩ = some (.int .i64 4)) (hg : w.cell? ⟨g, 4, none⟩ = some (.string ⟨#[]⟩)) :
    Calls Tryz.prog 26 #[.string s, .string nm, .slice (some ⟨g, 0, none⟩) 1 c] w (ValIs (left2 ws6 false true s.data.toList) w) := by
  have HW0 : Hid (Below w.heap.size w (w.alloc (.cells #[.int .i64 0, .bool false, .slice none 0 0, .int .u64 0, .string ⟨#[]⟩, .slice none 0 0] 28))) := (Below.refl _ _).alloc (Nat.le_refl _) _
  have HZ : Hid (w.heap.size < (w.alloc (.cells #[.int .i64 0, .bool false, .slice none 0 0, .int .u64 0, .string ⟨#[]⟩, .slice none 0 0] 28)).heap.size) := by show _ < _; simp
  have HV0 : Hid ((w.alloc (.cells #[.int .i64 0, .bool false, .slice none 0 0, .int .u64 0, .string ⟨#[]⟩, .slice none 0 0] 28)).cell? ⟨w.heap.size, 0, none⟩ = some (.int .i64 0)) := by show _ = _; simp
  have HV1 : Hid ((w.alloc (.cells #[.int .i64 0, .bool false, .slice none 0 0, .int .u64 0, .string ⟨#[]⟩, .slice none 0 0] 28)).cell? ⟨w.heap.size, 1, none⟩ = some (.bool false)) := by show _ = _; simp
  have HV2 : Hid ((w.alloc (.cells #[.int .i64 0, .bool false, .slice none 0 0, .int .u64 0, .string ⟨#[]⟩, .slice none 0 0] 28)).cell? ⟨w.heap.size, 2, none⟩ = some (.slice none 0 0)) := by show _ = _; simp
  have HV3 : Hid ((w.alloc (.cells #[.int .i64 0, .bool false, .slice none 0 0, .int .u64 0, .string ⟨#[]⟩, .slice none 0 0] 28)).cell? ⟨w.heap.size, 3, none⟩ = some (.int .u64 0)) := by show _ = _; simp
  have HV4 : Hid ((w.alloc (.cells #[.int .i64 0, .bool false, .slice none 0 0, .int .u64 0, .string ⟨#[]⟩, .slice none 0 0] 28)).cell? ⟨w.heap.size, 4, none⟩ = some (.string ⟨#[]⟩)) := by show _ = _; simp
  have HV5 : Hid ((w.alloc (.cells #[.int .i64 0, .bool false, .slice none 0 0, .int .u64 0, .string ⟨#[]⟩, .slice none 0 0] 28)).cell? ⟨w.heap.size, 5, none⟩ = some (.slice none 0 0)) := by show _ = _; simp
  have HF0 : Hid ((w.alloc (.cells #[.int .i64 0, .bool false, .slice none 0 0, .int .u64 0, .string ⟨#[]⟩, .slice none 0 0] 28)).frozen? ⟨w.heap.size, 0, none⟩ = false) := by show _ = _; simp
  have HF1 : Hid ((w.alloc (.cells #[.int .i64 0, .bool false, .slice none 0 0, .int .u64 0, .string ⟨#[]⟩, .slice none 0 0] 28)).frozen? ⟨w.heap.size, 1, none⟩ = false) := by show _ = _; simp
  have HF2 : Hid ((w.alloc (.cells #[.int .i64 0, .bool false, .slice none 0 0, .int .u64 0, .string ⟨#[]⟩, .slice none 0 0] 28)).frozen? ⟨w.heap.size, 2, none⟩ = false) := by show _ = _; simp
  have HF3 : Hid ((w.alloc (.cells #[.int .i64 0, .bool false, .slice none 0 0, .int .u64 0, .string ⟨#[]⟩, .slice none 0 0] 28)).frozen? ⟨w.heap.size, 3, none⟩ = false) := by show _ = _; simp
  have HF4 : Hid ((w.alloc (.cells #[.int .i64 0, .bool false, .slice none 0 0, .int .u64 0, .string ⟨#[]⟩, .slice none 0 0] 28)).frozen? ⟨w.heap.size, 4, none⟩ = false) := by show _ = _; simp
  have HF5 : Hid ((w.alloc (.cells #[.int .i64 0, .bool false, .slice none 0 0, .int .u64 0, .string ⟨#[]⟩, .slice none 0 0] 28)).frozen? ⟨w.heap.size, 5, none⟩ = false) := by show _ = _; simp
  have hk' : (w.alloc (.cells #[.int .i64 0, .bool false, .slice none 0 0, .int .u64 0, .string ⟨#[]⟩, .slice none 0 0] 28)).cell? ⟨g, 0, none⟩ = some (.int .i64 4) := cell_below hk HW0.out
  have hg' : (w.alloc (.cells #[.int .i64 0, .bool false, .slice none 0 0, .int .u64 0, .string ⟨#[]⟩, .slice none 0 0] 28)).cell? ⟨g, 4, none⟩ = some (.string ⟨#[]⟩) := cell_below hg HW0.out
  clear hk hg
  have HCS : Hid (ws6.size ≤ 100000) := by show _ ≤ _; decide
  go_enter Tryz.func26, Tryz.ntmps26
  go_wp2
  generalize hw0 : w.alloc (.cells #[.int .i64 0, .bool false, .slice none 0 0, .int .u64 0, .string ⟨#[]⟩, .slice none 0 0] 28) = w0 at *
  clear hw0
  rw [show (⟨#[32, 9, 10, 11, 12, 13]⟩ : ByteArray) = ws6 from rfl]
  go_loop [0] (fun v => ∃ t : ByteArray, v = .string t ∧ t.size ≤ 100000 ∧ Hid (tl (inB ws6) t.data.toList = tl (inB ws6) s.data.toList)) (fun v => strSize v)
  case atStart => exact ⟨s, rfl, hs, rfl⟩
  case round =>
    obtain ⟨t, rfl, hts, HTL⟩ := hrel
    by_cases htz : t.size = 0
    · have HL : Hid (backL ws6 true t.data.toList = left2 ws6 false true s.data.toList) := by
        show _ = backL _ _ (tl _ _)
        rw [← HTL.out, nil_of t htz]; rfl
      have htz1 : ¬ 0 < t.size := by omega
      clear htz
      go_wp2
      go_loop [0] (fun v => ∃ u : ByteArray, v = .string u ∧ u.size ≤ 100000 ∧ Hid (backL ws6 true u.data.toList = left2 ws6 false true s.data.toList)) (fun v => strSize v)
      case atStart => exact ⟨t, rfl, by omega, HL.out⟩
      case round =>
        obtain ⟨u, rfl, hus, HU⟩ := hrel
        have HE : Hid (u.data.toList = left2 ws6 false true s.data.toList) := HU.out
        go_wp2_with fail
        go_at_call 6
        refine (f6_any _ _).mono ?_
        rintro e w2 ⟨rfl, hb⟩
        have HB := Lib.hid (HW0.out.trans (hb.mono HW0.out.size))
        have hc0 : ∀ o, w2.cell? ⟨w.heap.size, o, none⟩ = w0.cell? ⟨w.heap.size, o, none⟩ := fun o => hb.cell (p := ⟨w.heap.size, o, none⟩) HZ.out
        have hf0 : ∀ o, w2.frozen? ⟨w.heap.size, o, none⟩ = w0.frozen? ⟨w.heap.size, o, none⟩ := fun o => hb.frozen (p := ⟨w.heap.size, o, none⟩) HZ.out
        have k0 := HV0.out
        have k1 := HV1.out
        have k2 := HV2.out
        have k3 := HV3.out
        have k4 := HV4.out
        have k5 := HV5.out
        have q0 := HF0.out
        have q1 := HF1.out
        have q2 := HF2.out
        have q3 := HF3.out
        have q4 := HF4.out
        have q5 := HF5.out
        clear hb
        go_wp2
        refine bodyPost_ret (v := .tuple #[.agg #[.int .i64 4, .bool false, .slice none 0 0, .int .u64 0, .string u, .slice none 0 0], .bool true]) (by simp [results, Tryz.results26, go_sem, hc0, k0, k1, k2, k3, k4, k5]) rfl ⟨u, HE.out, rfl, ?_⟩
        iterate 6 (refine Below.setCell ?_ (show w.heap.size ≤ w.heap.size from Nat.le_refl _) _)
        exact HB.out
    · have htz1 : 0 < t.size := by omega
      obtain ⟨b, r, HR⟩ := cons_of _ (list_ne t htz1)
      have HH := Lib.hid (head_one t b r HR)
      have HT := Lib.hid (tail_one t b r HR)
      have HR := Lib.hid HR
      by_cases hb : inB ws6 b = true
      · have HB1 := Lib.hid hb
        have HTL2 : Hid (tl (inB ws6) (t.extract 1 t.size).data.toList = tl (inB ws6) s.data.toList) := by
          show _ = _
          rw [HT.out, ← HTL.out, HR.out]
          exact (tl_step _ b r HB1.out).symm
        clear hb
        go_wp2_with fail
        go_at_call 48
        refine (f48_in ws6 _ b (by exact HH.out) HCS.out HB1.out _).mono ?_
        rintro e w' ⟨z, hz, rfl, rfl⟩
        go_wp2
        go_round
        case rel => exact ⟨_, rfl, by rw [ByteArray.size_extract]; omega, HTL2.out⟩
        case measure => simp [strSize]; omega
      · have HB1 := Lib.hid (show inB ws6 b = false by simpa using hb)
        have HL : Hid (backL ws6 true t.data.toList = left2 ws6 false true s.data.toList) := by
          show _ = backL _ _ (tl _ _)
          rw [← HTL.out, HR.out, tl_stay _ b r HB1.out]
        clear hb
        go_wp2_with fail
        go_at_call 48
        refine (f48_out ws6 _ b (by exact HH.out) HCS.out HB1.out _).mono ?_
        rintro e w' ⟨z, hz, rfl, rfl⟩
        go_wp2
        go_loop [0] (fun v => ∃ u : ByteArray, v = .string u ∧ u.size ≤ 100000 ∧ Hid (backL ws6 true u.data.toList = left2 ws6 false true s.data.toList)) (fun v => strSize v)
        case atStart => exact ⟨t, rfl, by omega, HL.out⟩
        case round =>
          obtain ⟨u, rfl, hus, HU⟩ := hrel
          have HE : Hid (u.data.toList = left2 ws6 false true s.data.toList) := HU.out
          go_wp2_with fail
          go_at_call 6
          refine (f6_any _ _).mono ?_
          rintro e w2 ⟨rfl, hb⟩
          have HB := Lib.hid (HW0.out.trans (hb.mono HW0.out.size))
          have hc0 : ∀ o, w2.cell? ⟨w.heap.size, o, none⟩ = w0.cell? ⟨w.heap.size, o, none⟩ := fun o => hb.cell (p := ⟨w.heap.size, o, none⟩) HZ.out
          have hf0 : ∀ o, w2.frozen? ⟨w.heap.size, o, none⟩ = w0.frozen? ⟨w.heap.size, o, none⟩ := fun o => hb.frozen (p := ⟨w.heap.size, o, none⟩) HZ.out
          have k0 := HV0.out
          have k1 := HV1.out
          have k2 := HV2.out
          have k3 := HV3.out
          have k4 := HV4.out
          have k5 := HV5.out
          have q0 := HF0.out
          have q1 := HF1.out
          have q2 := HF2.out
          have q3 := HF3.out
          have q4 := HF4.out
          have q5 := HF5.out
          clear hb
          go_wp2
          refine bodyPost_ret (v := .tuple #[.agg #[.int .i64 4, .bool false, .slice none 0 0, .int .u64 0, .string u, .slice none 0 0], .bool true]) (by simp [results, Tryz.results26, go_sem, hc0, k0, k1, k2, k3, k4, k5]) rfl ⟨u, HE.out, rfl, ?_⟩
          iterate 6 (refine Below.setCell ?_ (show w.heap.size ≤ w.heap.size from Nat.le_refl _) _)
          exact HB.out
set_option maxRecDepth 100000 in
set_option maxHeartbeats 4000000 in
theorem f26_void_tf (s nm : ByteArray) (hs : s.size ≤ 100000) (h1 :  nm.toList = [114, 115, 116, 114, 105, 112]) (_h2 : ¬ nm.toList = [108, 115, 116, 114, 105, 112]) (w : World) (g c : Nat) (hk : w.cell? ⟨g, 0, none⟩ = some (.int .i64 4)) (hg : w.cell? ⟨g, 4, none⟩ = some (.string ⟨#[]⟩)) :
    Calls Tryz.prog 26 #[.string s, .string nm, .slice (some ⟨g, 0, none⟩) 1 c] w (ValIs (left2 ws6 true false s.data.toList) w) := by
  have HW0 : Hid (Below w.heap.size w (w.alloc (.cells #[.int .i64 0, .bool false, .slice none 0 0, .int .u64 0, .string ⟨#[]⟩, .slice none 0 0] 28))) := (Below.refl _ _).alloc (Nat.le_refl _) _
  have HZ : Hid (w.heap.size < (w.alloc (.cells #[.int .i64 0, .bool false, .slice none 0 0, .int .u64 0, .string ⟨#[]⟩, .slice none 0 0] 28)).heap.size) := by show _ < _; simp
  have HV0 : Hid ((w.alloc (.cells #[.int .i64 0, .bool false, .slice none 0 0, .int .u64 0, .string ⟨#[]⟩, .slice none 0 0] 28)).cell? ⟨w.heap.size, 0, none⟩ = some (.int .i64 0)) := by show _ = _; simp
  have HV1 : Hid ((w.alloc (.cells #[.int .i64 0, .bool false, .slice none 0 0, .int .u64 0, .string ⟨#[]⟩, .slice none 0 0] 28)).cell? ⟨w.heap.size, 1, none⟩ = some (.bool false)) := by show _ = _; simp
  have HV2 : Hid ((w.alloc (.cells #[.int .i64 0, .bool false, .slice none 0 0, .int .u64 0, .string ⟨#[]⟩, .slice none 0 0] 28)).cell? ⟨w.heap.size, 2, none⟩ = some (.slice none 0 0)) := by show _ = _; simp
  have HV3 : Hid ((w.alloc (.cells #[.int .i64 0, .bool false, .slice none 0 0, .int .u64 0, .string ⟨#[]⟩, .slice none 0 0] 28)).cell? ⟨w.heap.size, 3, none⟩ = some (.int .u64 0)) := by show _ = _; simp
  have HV4 : Hid ((w.alloc (.cells #[.int .i64 0, .bool false, .slice none 0 0, .int .u64 0, .string ⟨#[]⟩, .slice none 0 0] 28)).cell? ⟨w.heap.size, 4, none⟩ = some (.string ⟨#[]⟩)) := by show _ = _; simp
  have HV5 : Hid ((w.alloc (.cells #[.int .i64 0, .bool false, .slice none 0 0, .int .u64 0, .string ⟨#[]⟩, .slice none 0 0] 28)).cell? ⟨w.heap.size, 5, none⟩ = some (.slice none 0 0)) := by show _ = _; simp
  have HF0 : Hid ((w.alloc (.cells #[.int .i64 0, .bool false, .slice none 0 0, .int .u64 0, .string ⟨#[]⟩, .slice none 0 0] 28)).frozen? ⟨w.heap.size, 0, none⟩ = false) := by show _ = _; simp
  have HF1 : Hid ((w.alloc (.cells #[.int .i64 0, .bool false, .slice none 0 0, .int .u64 0, .string ⟨#[]⟩, .slice none 0 0] 28)).frozen? ⟨w.heap.size, 1, none⟩ = false) := by show _ = _; simp
  have HF2 : Hid ((w.alloc (.cells #[.int .i64 0, .bool false, .slice none 0 0, .int .u64 0, .string ⟨#[]⟩, .slice none 0 0] 28)).frozen? ⟨w.heap.size, 2, none⟩ = false) := by show _ = _; simp
  have HF3 : Hid ((w.alloc (.cells #[.int .i64 0, .bool false, .slice none 0 0, .int .u64 0, .string ⟨#[]⟩, .slice none 0 0] 28)).frozen? ⟨w.heap.size, 3, none⟩ = false) := by show _ = _; simp
  have HF4 : Hid ((w.alloc (.cells #[.int .i64 0, .bool false, .slice none 0 0, .int .u64 0, .string ⟨#[]⟩, .slice none 0 0] 28)).frozen? ⟨w.heap.size, 4, none⟩ = false) := by show _ = _; simp
  have HF5 : Hid ((w.alloc (.cells #[.int .i64 0, .bool false, .slice none 0 0, .int .u64 0, .string ⟨#[]⟩, .slice none 0 0] 28)).frozen? ⟨w.heap.size, 5, none⟩ = false) := by show _ = _; simp
  have hk' : (w.alloc (.cells #[.int .i64 0, .bool false, .slice none 0 0, .int .u64 0, .string ⟨#[]⟩, .slice none 0 0] 28)).cell? ⟨g, 0, none⟩ = some (.int .i64 4) := cell_below hk HW0.out
  have hg' : (w.alloc (.cells #[.int .i64 0, .bool false, .slice none 0 0, .int .u64 0, .string ⟨#[]⟩, .slice none 0 0] 28)).cell? ⟨g, 4, none⟩ = some (.string ⟨#[]⟩) := cell_below hg HW0.out
  clear hk hg
  have HCS : Hid (ws6.size ≤ 100000) := by show _ ≤ _; decide
  go_enter Tryz.func26, Tryz.ntmps26
  go_wp2
  generalize hw0 : w.alloc (.cells #[.int .i64 0, .bool false, .slice none 0 0, .int .u64 0, .string ⟨#[]⟩, .slice none 0 0] 28) = w0 at *
  clear hw0
  rw [show (⟨#[32, 9, 10, 11, 12, 13]⟩ : ByteArray) = ws6 from rfl]
  go_loop [0] (fun v => v = .string s) (fun _ => 0)
  case atStart => rfl
  case round =>
    obtain rfl := hrel
    have HL : Hid (backL ws6 false s.data.toList = left2 ws6 true false s.data.toList) := by show _ = _; rfl
    go_wp2
    go_loop [0] (fun v => ∃ u : ByteArray, v = .string u ∧ u.size ≤ 100000 ∧ Hid (backL ws6 false u.data.toList = left2 ws6 true false s.data.toList)) (fun v => strSize v)
    case atStart => exact ⟨s, rfl, by omega, HL.out⟩
    case round =>
      obtain ⟨u, rfl, hus, HU⟩ := hrel
      by_cases huz : u.size = 0
      · have HE : Hid (u.data.toList = left2 ws6 true false s.data.toList) := by show _ = _; rw [← HU.out, nil_of u huz]; rfl
        have huz1 : ¬ 0 < u.size := by omega
        have HUZ := Lib.hid huz
        clear huz
        go_wp2_with fail
        go_at_call 6
        refine (f6_any _ _).mono ?_
        rintro e w2 ⟨rfl, hb⟩
        have HB := Lib.hid (HW0.out.trans (hb.mono HW0.out.size))
        have hc0 : ∀ o, w2.cell? ⟨w.heap.size, o, none⟩ = w0.cell? ⟨w.heap.size, o, none⟩ := fun o => hb.cell (p := ⟨w.heap.size, o, none⟩) HZ.out
        have hf0 : ∀ o, w2.frozen? ⟨w.heap.size, o, none⟩ = w0.frozen? ⟨w.heap.size, o, none⟩ := fun o => hb.frozen (p := ⟨w.heap.size, o, none⟩) HZ.out
        have k0 := HV0.out
        have k1 := HV1.out
        have k2 := HV2.out
        have k3 := HV3.out
        have k4 := HV4.out
        have k5 := HV5.out
        have q0 := HF0.out
        have q1 := HF1.out
        have q2 := HF2.out
        have q3 := HF3.out
        have q4 := HF4.out
        have q5 := HF5.out
        clear hb
        go_wp2
        refine bodyPost_ret (v := .tuple #[.agg #[.int .i64 4, .bool false, .slice none 0 0, .int .u64 0, .string u, .slice none 0 0], .bool true]) (by simp [results, Tryz.results26, go_sem, hc0, k0, k1, k2, k3, k4, k5]) rfl ⟨u, HE.out, rfl, ?_⟩
        iterate 6 (refine Below.setCell ?_ (show w.heap.size ≤ w.heap.size from Nat.le_refl _) _)
        exact HB.out
      · have huz1 : 0 < u.size := by omega
        obtain ⟨r, b, HR⟩ := snoc_of _ (list_ne u huz1)
        have HH := Lib.hid (last_one u b r HR)
        have HT := Lib.hid (init_one u b r HR)
        have HR := Lib.hid HR
        by_cases hb : inB ws6 b = true
        · have HB1 := Lib.hid hb
          have HU2 : Hid (backL ws6 false (u.extract 0 (u.size - 1)).data.toList = left2 ws6 true false s.data.toList) := by
            show _ = _
            rw [HT.out, ← HU.out, HR.out]
            exact (tr_step _ b r HB1.out).symm
          clear hb
          go_wp2_with fail
          go_at_call 48
          refine (f48_in ws6 _ b (by exact HH.out) HCS.out HB1.out _).mono ?_
          rintro e w' ⟨z, hz, rfl, rfl⟩
          go_wp2
          go_round
          case rel => exact ⟨_, rfl, by rw [ByteArray.size_extract]; omega, HU2.out⟩
          case measure => simp [strSize]; omega
        · have HB1 := Lib.hid (show inB ws6 b = false by simpa using hb)
          have HE : Hid (u.data.toList = left2 ws6 true false s.data.toList) := by
            show _ = _
            rw [← HU.out, HR.out]
            exact (tr_stay _ b r HB1.out).symm
          clear hb
          go_wp2_with fail
          go_at_call 48
          refine (f48_out ws6 _ b (by exact HH.out) HCS.out HB1.out _).mono ?_
          rintro e w' ⟨z, hz, rfl, rfl⟩
          go_wp2_with fail
          go_at_call 6
          refine (f6_any _ _).mono ?_
          rintro e w2 ⟨rfl, hb⟩
          have HB := Lib.hid (HW0.out.trans (hb.mono HW0.out.size))
          have hc0 : ∀ o, w2.cell? ⟨w.heap.size, o, none⟩ = w0.cell? ⟨w.heap.size, o, none⟩ := fun o => hb.cell (p := ⟨w.heap.size, o, none⟩) HZ.out
          have hf0 : ∀ o, w2.frozen? ⟨w.heap.size, o, none⟩ = w0.frozen? ⟨w.heap.size, o, none⟩ := fun o => hb.frozen (p := ⟨w.heap.size, o, none⟩) HZ.out
          have k0 := HV0.out
          have k1 := HV1.out
          have k2 := HV2.out
          have k3 := HV3.out
          have k4 := HV4.out
          have k5 := HV5.out
          have q0 := HF0.out
          have q1 := HF1.out
          have q2 := HF2.out
          have q3 := HF3.out
          have q4 := HF4.out
          have q5 := HF5.out
          clear hb
          go_wp2
          refine bodyPost_ret (v := .tuple #[.agg #[.int .i64 4, .bool false, .slice none 0 0, .int .u64 0, .string u, .slice none 0 0], .bool true]) (by simp [results, Tryz.results26, go_sem, hc0, k0, k1, k2, k3, k4, k5]) rfl ⟨u, HE.out, rfl, ?_⟩
          iterate 6 (refine Below.setCell ?_ (show w.heap.size ≤ w.heap.size from Nat.le_refl _) _)
          exact HB.out
set_option maxRecDepth 100000 in
set_option maxHeartbeats 4000000 in
theorem f26_void_ff (s nm : ByteArray) (hs : s.size ≤ 100000) (h1 : ¬ nm.toList = [114, 115, 116, 114, 105, 112]) (h2 : ¬ nm.toList = [108, 115, 116, 114, 105, 112]) (w : World) (g c : Nat) (hk : w.cell? ⟨g, 0, none⟩ = some (.int .i64 4)) (hg : w.cell? ⟨g, 4, none⟩ = some (.string ⟨#[]⟩)) :
    Calls Tryz.prog 26 #[.string s, .string nm, .slice (some ⟨g, 0, none⟩) 1 c] w (ValIs (left2 ws6 false false s.data.toList) w) := by
  have HW0 : Hid (Below w.heap.size w (w.alloc (.cells #[.int .i64 0, .bool false, .slice none 0 0, .int .u64 0, .string ⟨#[]⟩, .slice none 0 0] 28))) := (Below.refl _ _).alloc (Nat.le_refl _) _
  have HZ : Hid (w.heap.size < (w.alloc (.cells #[.int .i64 0, .bool false, .slice none 0 0, .int .u64 0, .string ⟨#[]⟩, .slice none 0 0] 28)).heap.size) := by show _ < _; simp
  have HV0 : Hid ((w.alloc (.cells #[.int .i64 0, .bool false, .slice none 0 0, .int .u64 0, .string ⟨#[]⟩, .slice none 0 0] 28)).cell? ⟨w.heap.size, 0, none⟩ = some (.int .i64 0)) := by show _ = _; simp
  have HV1 : Hid ((w.alloc (.cells #[.int .i64 0, .bool false, .slice none 0 0, .int .u64 0, .string ⟨#[]⟩, .slice none 0 0] 28)).cell? ⟨w.heap.size, 1, none⟩ = some (.bool false)) := by show _ = _; simp
  have HV2 : Hid ((w.alloc (.cells #[.int .i64 0, .bool false, .slice none 0 0, .int .u64 0, .string ⟨#[]⟩, .slice none 0 0] 28)).cell? ⟨w.heap.size, 2, none⟩ = some (.slice none 0 0)) := by show _ = _; simp
  have HV3 : Hid ((w.alloc (.cells #[.int .i64 0, .bool false, .slice none 0 0, .int .u64 0, .string ⟨#[]⟩, .slice none 0 0] 28)).cell? ⟨w.heap.size, 3, none⟩ = some (.int .u64 0)) := by show _ = _; simp
  have HV4 : Hid ((w.alloc (.cells #[.int .i64 0, .bool false, .slice none 0 0, .int .u64 0, .string ⟨#[]⟩, .slice none 0 0] 28)).cell? ⟨w.heap.size, 4, none⟩ = some (.string ⟨#[]⟩)) := by show _ = _; simp
  have HV5 : Hid ((w.alloc (.cells #[.int .i64 0, .bool false, .slice none 0 0, .int .u64 0, .string ⟨#[]⟩, .slice none 0 0] 28)).cell? ⟨w.heap.size, 5, none⟩ = some (.slice none 0 0)) := by show _ = _; simp
  have HF0 : Hid ((w.alloc (.cells #[.int .i64 0, .bool false, .slice none 0 0, .int .u64 0, .string ⟨#[]⟩, .slice none 0 0] 28)).frozen? ⟨w.heap.size, 0, none⟩ = false) := by show _ = _; simp
  have HF1 : Hid ((w.alloc (.cells #[.int .i64 0, .bool false, .slice none 0 0, .int .u64 0, .string ⟨#[]⟩, .slice none 0 0] 28)).frozen? ⟨w.heap.size, 1, none⟩ = false) := by show _ = _; simp
  have HF2 : Hid ((w.alloc (.cells #[.int .i64 0, .bool false, .slice none 0 0, .int .u64 0, .string ⟨#[]⟩, .slice none 0 0] 28)).frozen? ⟨w.heap.size, 2, none⟩ = false) := by show _ = _; simp
  have HF3 : Hid ((w.alloc (.cells #[.int .i64 0, .bool false, .slice none 0 0, .int .u64 0, .string ⟨#[]⟩, .slice none 0 0] 28)).frozen? ⟨w.heap.size, 3, none⟩ = false) := by show _ = _; simp
  have HF4 : Hid ((w.alloc (.cells #[.int .i64 0, .bool false, .slice none 0 0, .int .u64 0, .string ⟨#[]⟩, .slice none 0 0] 28)).frozen? ⟨w.heap.size, 4, none⟩ = false) := by show _ = _; simp
  have HF5 : Hid ((w.alloc (.cells #[.int .i64 0, .bool false, .slice none 0 0, .int .u64 0, .string ⟨#[]⟩, .slice none 0 0] 28)).frozen? ⟨w.heap.size, 5, none⟩ = false) := by show _ = _; simp
  have g1 : (nm.toList == [114, 115, 116, 114, 105, 112]) = false := by simpa using h1
  have g2 : (nm.toList == [108, 115, 116, 114, 105, 112]) = false := by simpa using h2
  have hk' : (w.alloc (.cells #[.int .i64 0, .bool false, .slice none 0 0, .int .u64 0, .string ⟨#[]⟩, .slice none 0 0] 28)).cell? ⟨g, 0, none⟩ = some (.int .i64 4) := cell_below hk HW0.out
  have hg' : (w.alloc (.cells #[.int .i64 0, .bool false, .slice none 0 0, .int .u64 0, .string ⟨#[]⟩, .slice none 0 0] 28)).cell? ⟨g, 4, none⟩ = some (.string ⟨#[]⟩) := cell_below hg HW0.out
  clear hk hg
  have HCS : Hid (ws6.size ≤ 100000) := by show _ ≤ _; decide
  go_enter Tryz.func26, Tryz.ntmps26
  go_wp2
  generalize hw0 : w.alloc (.cells #[.int .i64 0, .bool false, .slice none 0 0, .int .u64 0, .string ⟨#[]⟩, .slice none 0 0] 28) = w0 at *
  clear hw0
  rw [show (⟨#[32, 9, 10, 11, 12, 13]⟩ : ByteArray) = ws6 from rfl]
  go_loop [0] (fun v => ∃ t : ByteArray, v = .string t ∧ t.size ≤ 100000 ∧ Hid (tl (inB ws6) t.data.toList = tl (inB ws6) s.data.toList)) (fun v => strSize v)
  case atStart => exact ⟨s, rfl, hs, rfl⟩
  case round =>
    obtain ⟨t, rfl, hts, HTL⟩ := hrel
    by_cases htz : t.size = 0
    · have HL : Hid (backL ws6 false t.data.toList = left2 ws6 false false s.data.toList) := by
        show _ = backL _ _ (tl _ _)
        rw [← HTL.out, nil_of t htz]; rfl
      have htz1 : ¬ 0 < t.size := by omega
      clear htz
      go_wp2
      go_loop [0] (fun v => ∃ u : ByteArray, v = .string u ∧ u.size ≤ 100000 ∧ Hid (backL ws6 false u.data.toList = left2 ws6 false false s.data.toList)) (fun v => strSize v)
      case atStart => exact ⟨t, rfl, by omega, HL.out⟩
      case round =>
        obtain ⟨u, rfl, hus, HU⟩ := hrel
        by_cases huz : u.size = 0
        · have HE : Hid (u.data.toList = left2 ws6 false false s.data.toList) := by show _ = _; rw [← HU.out, nil_of u huz]; rfl
          have huz1 : ¬ 0 < u.size := by omega
          have HUZ := Lib.hid huz
          clear huz
          go_wp2_with fail
          go_at_call 6
          refine (f6_any _ _).mono ?_
          rintro e w2 ⟨rfl, hb⟩
          have HB := Lib.hid (HW0.out.trans (hb.mono HW0.out.size))
          have hc0 : ∀ o, w2.cell? ⟨w.heap.size, o, none⟩ = w0.cell? ⟨w.heap.size, o, none⟩ := fun o => hb.cell (p := ⟨w.heap.size, o, none⟩) HZ.out
          have hf0 : ∀ o, w2.frozen? ⟨w.heap.size, o, none⟩ = w0.frozen? ⟨w.heap.size, o, none⟩ := fun o => hb.frozen (p := ⟨w.heap.size, o, none⟩) HZ.out
          have k0 := HV0.out
          have k1 := HV1.out
          have k2 := HV2.out
          have k3 := HV3.out
          have k4 := HV4.out
          have k5 := HV5.out
          have q0 := HF0.out
          have q1 := HF1.out
          have q2 := HF2.out
          have q3 := HF3.out
          have q4 := HF4.out
          have q5 := HF5.out
          clear hb
          go_wp2
          refine bodyPost_ret (v := .tuple #[.agg #[.int .i64 4, .bool false, .slice none 0 0, .int .u64 0, .string u, .slice none 0 0], .bool true]) (by simp [results, Tryz.results26, go_sem, hc0, k0, k1, k2, k3, k4, k5]) rfl ⟨u, HE.out, rfl, ?_⟩
          iterate 6 (refine Below.setCell ?_ (show w.heap.size ≤ w.heap.size from Nat.le_refl _) _)
          exact HB.out
        · have huz1 : 0 < u.size := by omega
          obtain ⟨r, b, HR⟩ := snoc_of _ (list_ne u huz1)
          have HH := Lib.hid (last_one u b r HR)
          have HT := Lib.hid (init_one u b r HR)
          have HR := Lib.hid HR
          by_cases hb : inB ws6 b = true
          · have HB1 := Lib.hid hb
            have HU2 : Hid (backL ws6 false (u.extract 0 (u.size - 1)).data.toList = left2 ws6 false false s.data.toList) := by
              show _ = _
              rw [HT.out, ← HU.out, HR.out]
              exact (tr_step _ b r HB1.out).symm
            clear hb
            go_wp2_with fail
            go_at_call 48
            refine (f48_in ws6 _ b (by exact HH.out) HCS.out HB1.out _).mono ?_
            rintro e w' ⟨z, hz, rfl, rfl⟩
            go_wp2
            go_round
            case rel => exact ⟨_, rfl, by rw [ByteArray.size_extract]; omega, HU2.out⟩
            case measure => simp [strSize]; omega
          · have HB1 := Lib.hid (show inB ws6 b = false by simpa using hb)
            have HE : Hid (u.data.toList = left2 ws6 false false s.data.toList) := by
              show _ = _
              rw [← HU.out, HR.out]
              exact (tr_stay _ b r HB1.out).symm
            clear hb
            go_wp2_with fail
            go_at_call 48
            refine (f48_out ws6 _ b (by exact HH.out) HCS.out HB1.out _).mono ?_
            rintro e w' ⟨z, hz, rfl, rfl⟩
            go_wp2_with fail
            go_at_call 6
            refine (f6_any _ _).mono ?_
            rintro e w2 ⟨rfl, hb⟩
            have HB := Lib.hid (HW0.out.trans (hb.mono HW0.out.size))
            have hc0 : ∀ o, w2.cell? ⟨w.heap.size, o, none⟩ = w0.cell? ⟨w.heap.size, o, none⟩ := fun o => hb.cell (p := ⟨w.heap.size, o, none⟩) HZ.out
            have hf0 : ∀ o, w2.frozen? ⟨w.heap.size, o, none⟩ = w0.frozen? ⟨w.heap.size, o, none⟩ := fun o => hb.frozen (p := ⟨w.heap.size, o, none⟩) HZ.out
            have k0 := HV0.out
            have k1 := HV1.out
            have k2 := HV2.out
            have k3 := HV3.out
            have k4 := HV4.out
            have k5 := HV5.out
            have q0 := HF0.out
            have q1 := HF1.out
            have q2 := HF2.out
            have q3 := HF3.out
            have q4 := HF4.out
            have q5 := HF5.out
            clear hb
            go_wp2
            refine bodyPost_ret (v := .tuple #[.agg #[.int .i64 4, .bool false, .slice none 0 0, .int .u64 0, .string u, .slice none 0 0], .bool true]) (by simp [results, Tryz.results26, go_sem, hc0, k0, k1, k2, k3, k4, k5]) rfl ⟨u, HE.out, rfl, ?_⟩
            iterate 6 (refine Below.setCell ?_ (show w.heap.size ≤ w.heap.size from Nat.le_refl _) _)
            exact HB.out
    · have htz1 : 0 < t.size := by omega
      obtain ⟨b, r, HR⟩ := cons_of _ (list_ne t htz1)
      have HH := Lib.hid (head_one t b r HR)
      have HT := Lib.hid (tail_one t b r HR)
      have HR := Lib.hid HR
      by_cases hb : inB ws6 b = true
      · have HB1 := Lib.hid hb
        have HTL2 : Hid (tl (inB ws6) (t.extract 1 t.size).data.toList = tl (inB ws6) s.data.toList) := by
          show _ = _
          rw [HT.out, ← HTL.out, HR.out]
          exact (tl_step _ b r HB1.out).symm
        clear hb
        go_wp2_with fail
        go_at_call 48
        refine (f48_in ws6 _ b (by exact HH.out) HCS.out HB1.out _).mono ?_
        rintro e w' ⟨z, hz, rfl, rfl⟩
        go_wp2
        go_round
        case rel => exact ⟨_, rfl, by rw [ByteArray.size_extract]; omega, HTL2.out⟩
        case measure => simp [strSize]; omega
      · have HB1 := Lib.hid (show inB ws6 b = false by simpa using hb)
        have HL : Hid (backL ws6 false t.data.toList = left2 ws6 false false s.data.toList) := by
          show _ = backL _ _ (tl _ _)
          rw [← HTL.out, HR.out, tl_stay _ b r HB1.out]
        clear hb
        go_wp2_with fail
        go_at_call 48
        refine (f48_out ws6 _ b (by exact HH.out) HCS.out HB1.out _).mono ?_
        rintro e w' ⟨z, hz, rfl, rfl⟩
        go_wp2
        go_loop [0] (fun v => ∃ u : ByteArray, v = .string u ∧ u.size ≤ 100000 ∧ Hid (backL ws6 false u.data.toList = left2 ws6 false false s.data.toList)) (fun v => strSize v)
        case atStart => exact ⟨t, rfl, by omega, HL.out⟩
        case round =>
          obtain ⟨u, rfl, hus, HU⟩ := hrel
          by_cases huz : u.size = 0
          · have HE : Hid (u.data.toList = left2 ws6 false false s.data.toList) := by show _ = _; rw [← HU.out, nil_of u huz]; rfl
            have huz1 : ¬ 0 < u.size := by omega
            have HUZ := Lib.hid huz
            clear huz
            go_wp2_with fail
            go_at_call 6
            refine (f6_any _ _).mono ?_
            rintro e w2 ⟨rfl, hb⟩
            have HB := Lib.hid (HW0.out.trans (hb.mono HW0.out.size))
            have hc0 : ∀ o, w2.cell? ⟨w.heap.size, o, none⟩ = w0.cell? ⟨w.heap.size, o, none⟩ := fun o => hb.cell (p := ⟨w.heap.size, o, none⟩) HZ.out
            have hf0 : ∀ o, w2.frozen? ⟨w.heap.size, o, none⟩ = w0.frozen? ⟨w.heap.size, o, none⟩ := fun o => hb.frozen (p := ⟨w.heap.size, o, none⟩) HZ.out
            have k0 := HV0.out
            have k1 := HV1.out
            have k2 := HV2.out
            have k3 := HV3.out
            have k4 := HV4.out
            have k5 := HV5.out
            have q0 := HF0.out
            have q1 := HF1.out
            have q2 := HF2.out
            have q3 := HF3.out
            have q4 := HF4.out
            have q5 := HF5.out
            clear hb
            go_wp2
            refine bodyPost_ret (v := .tuple #[.agg #[.int .i64 4, .bool false, .slice none 0 0, .int .u64 0, .string u, .slice none 0 0], .bool true]) (by simp [results, Tryz.results26, go_sem, hc0, k0, k1, k2, k3, k4, k5]) rfl ⟨u, HE.out, rfl, ?_⟩
            iterate 6 (refine Below.setCell ?_ (show w.heap.size ≤ w.heap.size from Nat.le_refl _) _)
            exact HB.out
          · have huz1 : 0 < u.size := by omega
            obtain ⟨r, b, HR⟩ := snoc_of _ (list_ne u huz1)
            have HH := Lib.hid (last_one u b r HR)
            have HT := Lib.hid (init_one u b r HR)
            have HR := Lib.hid HR
            by_cases hb : inB ws6 b = true
            · have HB1 := Lib.hid hb
              have HU2 : Hid (backL ws6 false (u.extract 0 (u.size - 1)).data.toList = left2 ws6 false false s.data.toList) := by
                show _ = _
                rw [HT.out, ← HU.out, HR.out]
                exact (tr_step _ b r HB1.out).symm
              clear hb
              go_wp2_with fail
              go_at_call 48
              refine (f48_in ws6 _ b (by exact HH.out) HCS.out HB1.out _).mono ?_
              rintro e w' ⟨z, hz, rfl, rfl⟩
              go_wp2
              go_round
              case rel => exact ⟨_, rfl, by rw [ByteArray.size_extract]; omega, HU2.out⟩
              case measure => simp [strSize]; omega
            · have HB1 := Lib.hid (show inB ws6 b = false by simpa using hb)
              have HE : Hid (u.data.toList = left2 ws6 false false s.data.toList) := by
                show _ = _
                rw [← HU.out, HR.out]
                exact (tr_stay _ b r HB1.out).symm
              clear hb
              go_wp2_with fail
              go_at_call 48
              refine (f48_out ws6 _ b (by exact HH.out) HCS.out HB1.out _).mono ?_
              rintro e w' ⟨z, hz, rfl, rfl⟩
              go_wp2_with fail
              go_at_call 6
              refine (f6_any _ _).mono ?_
              rintro e w2 ⟨rfl, hb⟩
              have HB := Lib.hid (HW0.out.trans (hb.mono HW0.out.size))
              have hc0 : ∀ o, w2.cell? ⟨w.heap.size, o, none⟩ = w0.cell? ⟨w.heap.size, o, none⟩ := fun o => hb.cell (p := ⟨w.heap.size, o, none⟩) HZ.out
              have hf0 : ∀ o, w2.frozen? ⟨w.heap.size, o, none⟩ = w0.frozen? ⟨w.heap.size, o, none⟩ := fun o => hb.frozen (p := ⟨w.heap.size, o, none⟩) HZ.out
              have k0 := HV0.out
              have k1 := HV1.out
              have k2 := HV2.out
              have k3 := HV3.out
              have k4 := HV4.out
              have k5 := HV5.out
              have q0 := HF0.out
              have q1 := HF1.out
              have q2 := HF2.out
              have q3 := HF3.out
              have q4 := HF4.out
              have q5 := HF5.out
              clear hb
              go_wp2
              refine bodyPost_ret (v := .tuple #[.agg #[.int .i64 4, .bool false, .slice none 0 0, .int .u64 0, .string u, .slice none 0 0], .bool true]) (by simp [results, Tryz.results26, go_sem, hc0, k0, k1, k2, k3, k4, k5]) rfl ⟨u, HE.out, rfl, ?_⟩
              iterate 6 (refine Below.setCell ?_ (show w.heap.size ≤ w.heap.size from Nat.le_refl _) _)
              exact HB.out
set_option maxRecDepth 100000 in
set_option maxHeartbeats 4000000 in
theorem f26_one_ft (s nm : ByteArray) (hs : s.size ≤ 100000) (_h1 : ¬ nm.toList = [114, 115, 116, 114, 105, 112]) (h2 :  nm.toList = [108, 115, 116, 114, 105, 112]) (w : World) (cs : ByteArray) (hcs : cs.size ≤ 100000) (hc0 : cs.toList.isEmpty = false) (g c : Nat) (hk : w.cell? ⟨g, 0, none⟩ = some (.int .i64 4)) (hg : w.cell? ⟨g, 4, none⟩ = some (.string cs)) :
    Calls Tryz.prog 26 #[.string s, .string nm, .slice (some ⟨g, 0, none⟩) 1 c] w (ValIs (left2 cs false true s.data.toList) w) := by
  have HW0 : Hid (Below w.heap.size w (w.alloc (.cells #[.int .i64 0, .bool false, .slice none 0 0, .int .u64 0, .string ⟨#[]⟩, .slice none 0 0] 28))) := (Below.refl _ _).alloc (Nat.le_refl _) _
  have HZ : Hid (w.heap.size < (w.alloc (.cells #[.int .i64 0, .bool false, .slice none 0 0, .int .u64 0, .string ⟨#[]⟩, .slice none 0 0] 28)).heap.size) := by show _ < _; simp
  have HV0 : Hid ((w.alloc (.cells #[.int .i64 0, .bool false, .slice none 0 0, .int .u64 0, .string ⟨#[]⟩, .slice none 0 0] 28)).cell? ⟨w.heap.size, 0, none⟩ = some (.int .i64 0)) := by show _ = _; simp
  have HV1 : Hid ((w.alloc (.cells #[.int .i64 0, .bool false, .slice none 0 0, .int .u64 0, .string ⟨#[]⟩, .slice none 0 0] 28)).cell? ⟨w.heap.size, 1, none⟩ = some (.bool false)) := by show _ = _; simp
  have HV2 : Hid ((w.alloc (.cells #[.int .i64 0, .bool false, .slice none 0 0, .int .u64 0, .string ⟨#[]⟩, .slice none 0 0] 28)).cell? ⟨w.heap.size, 2, none⟩ = some (.slice none 0 0)) := by show _ = _; simp
  have HV3 : Hid ((w.alloc (.cells #[.int .i64 0, .bool false, .slice none 0 0, .int .u64 0, .string ⟨#[]⟩, .slice none 0 0] 28)).cell? ⟨w.heap.size, 3, none⟩ = some (.int .u64 0)) := by show _ = _; simp
  have HV4 : Hid ((w.alloc (.cells #[.int .i64 0, .bool false, .slice none 0 0, .int .u64 0, .string ⟨#[]⟩, .slice none 0 0] 28)).cell? ⟨w.heap.size, 4, none⟩ = some (.string ⟨#[]⟩)) := by show _ = _; simp
  have HV5 : Hid ((w.alloc (.cells #[.int .i64 0, .bool false, .slice none 0 0, .int .u64 0, .string ⟨#[]⟩, .slice none 0 0] 28)).cell? ⟨w.heap.size, 5, none⟩ = some (.slice none 0 0)) := by show _ = _; simp
  have HF0 : Hid ((w.alloc (.cells #[.int .i64 0, .bool false, .slice none 0 0, .int .u64 0, .string ⟨#[]⟩, .slice none 0 0] 28)).frozen? ⟨w.heap.size, 0, none⟩ = false) := by show _ = _; simp
  have HF1 : Hid ((w.alloc (.cells #[.int .i64 0, .bool false, .slice none 0 0, .int .u64 0, .string ⟨#[]⟩, .slice none 0 0] 28)).frozen? ⟨w.heap.size, 1, none⟩ = false) := by show _ = _; simp
  have HF2 : Hid ((w.alloc (.cells #[.int .i64 0, .bool false, .slice none 0 0, .int .u64 0, .string ⟨#[]⟩, .slice none 0 0] 28)).frozen? ⟨w.heap.size, 2, none⟩ = false) := by show _ = _; simp
  have HF3 : Hid ((w.alloc (.cells #[.int .i64 0, .bool false, .slice none 0 0, .int .u64 0, .string ⟨#[]⟩, .slice none 0 0] 28)).frozen? ⟨w.heap.size, 3, none⟩ = false) := by show _ = _; simp
  have HF4 : Hid ((w.alloc (.cells #[.int .i64 0, .bool false, .slice none 0 0, .int .u64 0, .string ⟨#[]⟩, .slice none 0 0] 28)).frozen? ⟨w.heap.size, 4, none⟩ = false) := by show _ = _; simp
  have HF5 : Hid ((w.alloc (.cells #[.int .i64 0, .bool false, .slice none 0 0, .int .u64 0, .string ⟨#[]⟩, .slice none 0 0] 28)).frozen? ⟨w.heap.size, 5, none⟩ = false) := by show _ = _; simp
  have hk' : (w.alloc (.cells #[.int .i64 0, .bool false, .slice none 0 0, .int .u64 0, .string ⟨#[]⟩, .slice none 0 0] 28)).cell? ⟨g, 0, none⟩ = some (.int .i64 4) := cell_below hk HW0.out
  have hg' : (w.alloc (.cells #[.int .i64 0, .bool false, .slice none 0 0, .int .u64 0, .string ⟨#[]⟩, .slice none 0 0] 28)).cell? ⟨g, 4, none⟩ = some (.string cs) := cell_below hg HW0.out
  clear hk hg
  have HCS := Lib.hid hcs
  go_enter Tryz.func26, Tryz.ntmps26
  go_wp2
  generalize hw0 : w.alloc (.cells #[.int .i64 0, .bool false, .slice none 0 0, .int .u64 0, .string ⟨#[]⟩, .slice none 0 0] 28) = w0 at *
  clear hw0
  go_loop [0] (fun v => ∃ t : ByteArray, v = .string t ∧ t.size ≤ 100000 ∧ Hid (tl (inB cs) t.data.toList = tl (inB cs) s.data.toList)) (fun v => strSize v)
  case atStart => exact ⟨s, rfl, hs, rfl⟩
  case round =>
    obtain ⟨t, rfl, hts, HTL⟩ := hrel
    by_cases htz : t.size = 0
    · have HL : Hid (backL cs true t.data.toList = left2 cs false true s.data.toList) := by
        show _ = backL _ _ (tl _ _)
        rw [← HTL.out, nil_of t htz]; rfl
      have htz1 : ¬ 0 < t.size := by omega
      clear htz
      go_wp2
      go_loop [0] (fun v => ∃ u : ByteArray, v = .string u ∧ u.size ≤ 100000 ∧ Hid (backL cs true u.data.toList = left2 cs false true s.data.toList)) (fun v => strSize v)
      case atStart => exact ⟨t, rfl, by omega, HL.out⟩
      case round =>
        obtain ⟨u, rfl, hus, HU⟩ := hrel
        have HE : Hid (u.data.toList = left2 cs false true s.data.toList) := HU.out
        go_wp2_with fail
        go_at_call 6
        refine (f6_any _ _).mono ?_
        rintro e w2 ⟨rfl, hb⟩
        have HB := Lib.hid (HW0.out.trans (hb.mono HW0.out.size))
        have hc0 : ∀ o, w2.cell? ⟨w.heap.size, o, none⟩ = w0.cell? ⟨w.heap.size, o, none⟩ := fun o => hb.cell (p := ⟨w.heap.size, o, none⟩) HZ.out
        have hf0 : ∀ o, w2.frozen? ⟨w.heap.size, o, none⟩ = w0.frozen? ⟨w.heap.size, o, none⟩ := fun o => hb.frozen (p := ⟨w.heap.size, o, none⟩) HZ.out
        have k0 := HV0.out
        have k1 := HV1.out
        have k2 := HV2.out
        have k3 := HV3.out
        have k4 := HV4.out
        have k5 := HV5.out
        have q0 := HF0.out
        have q1 := HF1.out
        have q2 := HF2.out
        have q3 := HF3.out
        have q4 := HF4.out
        have q5 := HF5.out
        clear hb
        go_wp2
        refine bodyPost_ret (v := .tuple #[.agg #[.int .i64 4, .bool false, .slice none 0 0, .int .u64 0, .string u, .slice none 0 0], .bool true]) (by simp [results, Tryz.results26, go_sem, hc0, k0, k1, k2, k3, k4, k5]) rfl ⟨u, HE.out, rfl, ?_⟩
        iterate 6 (refine Below.setCell ?_ (show w.heap.size ≤ w.heap.size from Nat.le_refl _) _)
        exact HB.out
    · have htz1 : 0 < t.size := by omega
      obtain ⟨b, r, HR⟩ := cons_of _ (list_ne t htz1)
      have HH := Lib.hid (head_one t b r HR)
      have HT := Lib.hid (tail_one t b r HR)
      have HR := Lib.hid HR
      by_cases hb : inB cs b = true
      · have HB1 := Lib.hid hb
        have HTL2 : Hid (tl (inB cs) (t.extract 1 t.size).data.toList = tl (inB cs) s.data.toList) := by
          show _ = _
          rw [HT.out, ← HTL.out, HR.out]
          exact (tl_step _ b r HB1.out).symm
        clear hb
        go_wp2_with fail
        go_at_call 48
        refine (f48_in cs _ b (by exact HH.out) HCS.out HB1.out _).mono ?_
        rintro e w' ⟨z, hz, rfl, rfl⟩
        go_wp2
        go_round
        case rel => exact ⟨_, rfl, by rw [ByteArray.size_extract]; omega, HTL2.out⟩
        case measure => simp [strSize]; omega
      · have HB1 := Lib.hid (show inB cs b = false by simpa using hb)
        have HL : Hid (backL cs true t.data.toList = left2 cs false true s.data.toList) := by
          show _ = backL _ _ (tl _ _)
          rw [← HTL.out, HR.out, tl_stay _ b r HB1.out]
        clear hb
        go_wp2_with fail
        go_at_call 48
        refine (f48_out cs _ b (by exact HH.out) HCS.out HB1.out _).mono ?_
        rintro e w' ⟨z, hz, rfl, rfl⟩
        go_wp2
        go_loop [0] (fun v => ∃ u : ByteArray, v = .string u ∧ u.size ≤ 100000 ∧ Hid (backL cs true u.data.toList = left2 cs false true s.data.toList)) (fun v => strSize v)
        case atStart => exact ⟨t, rfl, by omega, HL.out⟩
        case round =>
          obtain ⟨u, rfl, hus, HU⟩ := hrel
          have HE : Hid (u.data.toList = left2 cs false true s.data.toList) := HU.out
          go_wp2_with fail
          go_at_call 6
          refine (f6_any _ _).mono ?_
          rintro e w2 ⟨rfl, hb⟩
          have HB := Lib.hid (HW0.out.trans (hb.mono HW0.out.size))
          have hc0 : ∀ o, w2.cell? ⟨w.heap.size, o, none⟩ = w0.cell? ⟨w.heap.size, o, none⟩ := fun o => hb.cell (p := ⟨w.heap.size, o, none⟩) HZ.out
          have hf0 : ∀ o, w2.frozen? ⟨w.heap.size, o, none⟩ = w0.frozen? ⟨w.heap.size, o, none⟩ := fun o => hb.frozen (p := ⟨w.heap.size, o, none⟩) HZ.out
          have k0 := HV0.out
          have k1 := HV1.out
          have k2 := HV2.out
          have k3 := HV3.out
          have k4 := HV4.out
          have k5 := HV5.out
          have q0 := HF0.out
          have q1 := HF1.out
          have q2 := HF2.out
          have q3 := HF3.out
          have q4 := HF4.out
          have q5 := HF5.out
          clear hb
          go_wp2
          refine bodyPost_ret (v := .tuple #[.agg #[.int .i64 4, .bool false, .slice none 0 0, .int .u64 0, .string u, .slice none 0 0], .bool true]) (by simp [results, Tryz.results26, go_sem, hc0, k0, k1, k2, k3, k4, k5]) rfl ⟨u, HE.out, rfl, ?_⟩
          iterate 6 (refine Below.setCell ?_ (show w.heap.size ≤ w.heap.size from Nat.le_refl _) _)
          exact HB.out
set_option maxRecDepth 100000 in
set_option maxHeartbeats 4000000 in
theorem f26_one_tf (s nm : ByteArray) (hs : s.size ≤ 100000) (h1 :  nm.toList = [114, 115, 116, 114, 105, 112]) (_h2 : ¬ nm.toList = [108, 115, 116, 114, 105, 112]) (w : World) (cs : ByteArray) (hcs : cs.size ≤ 100000) (hc0 : cs.toList.isEmpty = false) (g c : Nat) (hk : w.cell? ⟨g, 0, none⟩ = some (.int .i64 4)) (hg : w.cell? ⟨g, 4, none⟩ = some (.string cs)) :
    Calls Tryz.prog 26 #[.string s, .string nm, .slice (some ⟨g, 0, none⟩) 1 c] w (ValIs (left2 cs true false s.data.toList) w) := by
  have HW0 : Hid (Below w.heap.size w (w.alloc (.cells #[.int .i64 0, .bool false, .slice none 0 0, .int .u64 0, .string ⟨#[]⟩, .slice none 0 0] 28))) := (Below.refl _ _).alloc (Nat.le_refl _) _
  have HZ : Hid (w.heap.size < (w.alloc (.cells #[.int .i64 0, .bool false, .slice none 0 0, .int .u64 0, .string ⟨#[]⟩, .slice none 0 0] 28)).heap.size) := by show _ < _; simp
  have HV0 : Hid ((w.alloc (.cells #[.int .i64 0, .bool false, .slice none 0 0, .int .u64 0, .string ⟨#[]⟩, .slice none 0 0] 28)).cell? ⟨w.heap.size, 0, none⟩ = some (.int .i64 0)) := by show _ = _; simp
  have HV1 : Hid ((w.alloc (.cells #[.int .i64 0, .bool false, .slice none 0 0, .int .u64 0, .string ⟨#[]⟩, .slice none 0 0] 28)).cell? ⟨w.heap.size, 1, none⟩ = some (.bool false)) := by show _ = _; simp
  have HV2 : Hid ((w.alloc (.cells #[.int .i64 0, .bool false, .slice none 0 0, .int .u64 0, .string ⟨#[]⟩, .slice none 0 0] 28)).cell? ⟨w.heap.size, 2, none⟩ = some (.slice none 0 0)) := by show _ = _; simp
  have HV3 : Hid ((w.alloc (.cells #[.int .i64 0, .bool false, .slice none 0 0, .int .u64 0, .string ⟨#[]⟩, .slice none 0 0] 28)).cell? ⟨w.heap.size, 3, none⟩ = some (.int .u64 0)) := by show _ = _; simp
  have HV4 : Hid ((w.alloc (.cells #[.int .i64 0, .bool false, .slice none 0 0, .int .u64 0, .string ⟨#[]⟩, .slice none 0 0] 28)).cell? ⟨w.heap.size, 4, none⟩ = some (.string ⟨#[]⟩)) := by show _ = _; simp
  have HV5 : Hid ((w.alloc (.cells #[.int .i64 0, .bool false, .slice none 0 0, .int .u64 0, .string ⟨#[]⟩, .slice none 0 0] 28)).cell? ⟨w.heap.size, 5, none⟩ = some (.slice none 0 0)) := by show _ = _; simp
  have HF0 : Hid ((w.alloc (.cells #[.int .i64 0, .bool false, .slice none 0 0, .int .u64 0, .string ⟨#[]⟩, .slice none 0 0] 28)).frozen? ⟨w.heap.size, 0, none⟩ = false) := by show _ = _; simp
  have HF1 : Hid ((w.alloc (.cells #[.int .i64 0, .bool false, .slice none 0 0, .int .u64 0, .string ⟨#[]⟩, .slice none 0 0] 28)).frozen? ⟨w.heap.size, 1, none⟩ = false) := by show _ = _; simp
  have HF2 : Hid ((w.alloc (.cells #[.int .i64 0, .bool false, .slice none 0 0, .int .u64 0, .string ⟨#[]⟩, .slice none 0 0] 28)).frozen? ⟨w.heap.size, 2, none⟩ = false) := by show _ = _; simp
  have HF3 : Hid ((w.alloc (.cells #[.int .i64 0, .bool false, .slice none 0 0, .int .u64 0, .string ⟨#[]⟩, .slice none 0 0] 28)).frozen? ⟨w.heap.size, 3, none⟩ = false) := by show _ = _; simp
  have HF4 : Hid ((w.alloc (.cells #[.int .i64 0, .bool false, .slice none 0 0, .int .u64 0, .string ⟨#[]⟩, .slice none 0 0] 28)).frozen? ⟨w.heap.size, 4, none⟩ = false) := by show _ = _; simp
  have HF5 : Hid ((w.alloc (.cells #[.int .i64 0, .bool false, .slice none 0 0, .int .u64 0, .string ⟨#[]⟩, .slice none 0 0] 28)).frozen? ⟨w.heap.size, 5, none⟩ = false) := by show _ = _; simp
  have hk' : (w.alloc (.cells #[.int .i64 0, .bool false, .slice none 0 0, .int .u64 0, .string ⟨#[]⟩, .slice none 0 0] 28)).cell? ⟨g, 0, none⟩ = some (.int .i64 4) := cell_below hk HW0.out
  have hg' : (w.alloc (.cells #[.int .i64 0, .bool false, .slice none 0 0, .int .u64 0, .string ⟨#[]⟩, .slice none 0 0] 28)).cell? ⟨g, 4, none⟩ = some (.string cs) := cell_below hg HW0.out
  clear hk hg
  have HCS := Lib.hid hcs
  go_enter Tryz.func26, Tryz.ntmps26
  go_wp2
  generalize hw0 : w.alloc (.cells #[.int .i64 0, .bool false, .slice none 0 0, .int .u64 0, .string ⟨#[]⟩, .slice none 0 0] 28) = w0 at *
  clear hw0
  go_loop [0] (fun v => v = .string s) (fun _ => 0)
  case atStart => rfl
  case round =>
    obtain rfl := hrel
    have HL : Hid (backL cs false s.data.toList = left2 cs true false s.data.toList) := by show _ = _; rfl
    go_wp2
    go_loop [0] (fun v => ∃ u : ByteArray, v = .string u ∧ u.size ≤ 100000 ∧ Hid (backL cs false u.data.toList = left2 cs true false s.data.toList)) (fun v => strSize v)
    case atStart => exact ⟨s, rfl, by omega, HL.out⟩
    case round =>
      obtain ⟨u, rfl, hus, HU⟩ := hrel
      by_cases huz : u.size = 0
      · have HE : Hid (u.data.toList = left2 cs true false s.data.toList) := by show _ = _; rw [← HU.out, nil_of u huz]; rfl
        have huz1 : ¬ 0 < u.size := by omega
        have HUZ := Lib.hid huz
        clear huz
        go_wp2_with fail
        go_at_call 6
        refine (f6_any _ _).mono ?_
        rintro e w2 ⟨rfl, hb⟩
        have HB := Lib.hid (HW0.out.trans (hb.mono HW0.out.size))
        have hc0 : ∀ o, w2.cell? ⟨w.heap.size, o, none⟩ = w0.cell? ⟨w.heap.size, o, none⟩ := fun o => hb.cell (p := ⟨w.heap.size, o, none⟩) HZ.out
        have hf0 : ∀ o, w2.frozen? ⟨w.heap.size, o, none⟩ = w0.frozen? ⟨w.heap.size, o, none⟩ := fun o => hb.frozen (p := ⟨w.heap.size, o, none⟩) HZ.out
        have k0 := HV0.out
        have k1 := HV1.out
        have k2 := HV2.out
        have k3 := HV3.out
        have k4 := HV4.out
        have k5 := HV5.out
        have q0 := HF0.out
        have q1 := HF1.out
        have q2 := HF2.out
        have q3 := HF3.out
        have q4 := HF4.out
        have q5 := HF5.out
        clear hb
        go_wp2
        refine bodyPost_ret (v := .tuple #[.agg #[.int .i64 4, .bool false, .slice none 0 0, .int .u64 0, .string u, .slice none 0 0], .bool true]) (by simp [results, Tryz.results26, go_sem, hc0, k0, k1, k2, k3, k4, k5]) rfl ⟨u, HE.out, rfl, ?_⟩
        iterate 6 (refine Below.setCell ?_ (show w.heap.size ≤ w.heap.size from Nat.le_refl _) _)
        exact HB.out
      · have huz1 : 0 < u.size := by omega
        obtain ⟨r, b, HR⟩ := snoc_of _ (list_ne u huz1)
        have HH := Lib.hid (last_one u b r HR)
        have HT := Lib.hid (init_one u b r HR)
        have HR := Lib.hid HR
        by_cases hb : inB cs b = true
        · have HB1 := Lib.hid hb
          have HU2 : Hid (backL cs false (u.extract 0 (u.size - 1)).data.toList = left2 cs true false s.data.toList) := by
            show _ = _
            rw [HT.out, ← HU.out, HR.out]
            exact (tr_step _ b r HB1.out).symm
          clear hb
          go_wp2_with fail
          go_at_call 48
          refine (f48_in cs _ b (by exact HH.out) HCS.out HB1.out _).mono ?_
          rintro e w' ⟨z, hz, rfl, rfl⟩
          go_wp2
          go_round
          case rel => exact ⟨_, rfl, by rw [ByteArray.size_extract]; omega, HU2.out⟩
          case measure => simp [strSize]; omega
        · have HB1 := Lib.hid (show inB cs b = false by simpa using hb)
          have HE : Hid (u.data.toList = left2 cs true false s.data.toList) := by
            show _ = _
            rw [← HU.out, HR.out]
            exact (tr_stay _ b r HB1.out).symm
          clear hb
          go_wp2_with fail
          go_at_call 48
          refine (f48_out cs _ b (by exact HH.out) HCS.out HB1.out _).mono ?_
          rintro e w' ⟨z, hz, rfl, rfl⟩
          go_wp2_with fail
          go_at_call 6
          refine (f6_any _ _).mono ?_
          rintro e w2 ⟨rfl, hb⟩
          have HB := Lib.hid (HW0.out.trans (hb.mono HW0.out.size))
          have hc0 : ∀ o, w2.cell? ⟨w.heap.size, o, none⟩ = w0.cell? ⟨w.heap.size, o, none⟩ := fun o => hb.cell (p := ⟨w.heap.size, o, none⟩) HZ.out
          have hf0 : ∀ o, w2.frozen? ⟨w.heap.size, o, none⟩ = w0.frozen? ⟨w.heap.size, o, none⟩ := fun o => hb.frozen (p := ⟨w.heap.size, o, none⟩) HZ.out
          have k0 := HV0.out
          have k1 := HV1.out
          have k2 := HV2.out
          have k3 := HV3.out
          have k4 := HV4.out
          have k5 := HV5.out
          have q0 := HF0.out
          have q1 := HF1.out
          have q2 := HF2.out
          have q3 := HF3.out
          have q4 := HF4.out
          have q5 := HF5.out
          clear hb
          go_wp2
          refine bodyPost_ret (v := .tuple #[.agg #[.int .i64 4, .bool false, .slice none 0 0, .int .u64 0, .string u, .slice none 0 0], .bool true]) (by simp [results, Tryz.results26, go_sem, hc0, k0, k1, k2, k3, k4, k5]) rfl ⟨u, HE.out, rfl, ?_⟩
          iterate 6 (refine Below.setCell ?_ (show w.heap.size ≤ w.heap.size from Nat.le_refl _) _)
          exact HB.out
set_option maxRecDepth 100000 in
set_option maxHeartbeats 4000000 in
theorem f26_one_ff (s nm : ByteArray) (hs : s.size ≤ 100000) (h1 : ¬ nm.toList = [114, 115, 116, 114, 105, 112]) (h2 : ¬ nm.toList = [108, 115, 116, 114, 105, 112]) (w : World) (cs : ByteArray) (hcs : cs.size ≤ 100000) (hc0 : cs.toList.isEmpty = false) (g c : Nat) (hk : w.cell? ⟨g, 0, none⟩ = some (.int .i64 4)) (hg : w.cell? ⟨g, 4, none⟩ = some (.string cs)) :
    Calls Tryz.prog 26 #[.string s, .string nm, .slice (some ⟨g, 0, none⟩) 1 c] w (ValIs (left2 cs false false s.data.toList) w) := by
  have HW0 : Hid (Below w.heap.size w (w.alloc (.cells #[.int .i64 0, .bool false, .slice none 0 0, .int .u64 0, .string ⟨#[]⟩, .slice none 0 0] 28))) := (Below.refl _ _).alloc (Nat.le_refl _) _
  have HZ : Hid (w.heap.size < (w.alloc (.cells #[.int .i64 0, .bool false, .slice none 0 0, .int .u64 0, .string ⟨#[]⟩, .slice none 0 0] 28)).heap.size) := by show _ < _; simp
  have HV0 : Hid ((w.alloc (.cells #[.int .i64 0, .bool false, .slice none 0 0, .int .u64 0, .string ⟨#[]⟩, .slice none 0 0] 28)).cell? ⟨w.heap.size, 0, none⟩ = some (.int .i64 0)) := by show _ = _; simp
  have HV1 : Hid ((w.alloc (.cells #[.int .i64 0, .bool false, .slice none 0 0, .int .u64 0, .string ⟨#[]⟩, .slice none 0 0] 28)).cell? ⟨w.heap.size, 1, none⟩ = some (.bool false)) := by show _ = _; simp
  have HV2 : Hid ((w.alloc (.cells #[.int .i64 0, .bool false, .slice none 0 0, .int .u64 0, .string ⟨#[]⟩, .slice none 0 0] 28)).cell? ⟨w.heap.size, 2, none⟩ = some (.slice none 0 0)) := by show _ = _; simp
  have HV3 : Hid ((w.alloc (.cells #[.int .i64 0, .bool false, .slice none 0 0, .int .u64 0, .string ⟨#[]⟩, .slice none 0 0] 28)).cell? ⟨w.heap.size, 3, none⟩ = some (.int .u64 0)) := by show _ = _; simp
  have HV4 : Hid ((w.alloc (.cells #[.int .i64 0, .bool false, .slice none 0 0, .int .u64 0, .string ⟨#[]⟩, .slice none 0 0] 28)).cell? ⟨w.heap.size, 4, none⟩ = some (.string ⟨#[]⟩)) := by show _ = _; simp
  have HV5 : Hid ((w.alloc (.cells #[.int .i64 0, .bool false, .slice none 0 0, .int .u64 0, .string ⟨#[]⟩, .slice none 0 0] 28)).cell? ⟨w.heap.size, 5, none⟩ = some (.slice none 0 0)) := by show _ = _; simp
  have HF0 : Hid ((w.alloc (.cells #[.int .i64 0, .bool false, .slice none 0 0, .int .u64 0, .string ⟨#[]⟩, .slice none 0 0] 28)).frozen? ⟨w.heap.size, 0, none⟩ = false) := by show _ = _; simp
  have HF1 : Hid ((w.alloc (.cells #[.int .i64 0, .bool false, .slice none 0 0, .int .u64 0, .string ⟨#[]⟩, .slice none 0 0] 28)).frozen? ⟨w.heap.size, 1, none⟩ = false) := by show _ = _; simp
  have HF2 : Hid ((w.alloc (.cells #[.int .i64 0, .bool false, .slice none 0 0, .int .u64 0, .string ⟨#[]⟩, .slice none 0 0] 28)).frozen? ⟨w.heap.size, 2, none⟩ = false) := by show _ = _; simp
  have HF3 : Hid ((w.alloc (.cells #[.int .i64 0, .bool false, .slice none 0 0, .int .u64 0, .string ⟨#[]⟩, .slice none 0 0] 28)).frozen? ⟨w.heap.size, 3, none⟩ = false) := by show _ = _; simp
  have HF4 : Hid ((w.alloc (.cells #[.int .i64 0, .bool false, .slice none 0 0, .int .u64 0, .string ⟨#[]⟩, .slice none 0 0] 28)).frozen? ⟨w.heap.size, 4, none⟩ = false) := by show _ = _; simp
  have HF5 : Hid ((w.alloc (.cells #[.int .i64 0, .bool false, .slice none 0 0, .int .u64 0, .string ⟨#[]⟩, .slice none 0 0] 28)).frozen? ⟨w.heap.size, 5, none⟩ = false) := by show _ = _; simp
  have g1 : (nm.toList == [114, 115, 116, 114, 105, 112]) = false := by simpa using h1
  have g2 : (nm.toList == [108, 115, 116, 114, 105, 112]) = false := by simpa using h2
  have hk' : (w.alloc (.cells #[.int .i64 0, .bool false, .slice none 0 0, .int .u64 0, .string ⟨#[]⟩, .slice none 0 0] 28)).cell? ⟨g, 0, none⟩ = some (.int .i64 4) := cell_below hk HW0.out
  have hg' : (w.alloc (.cells #[.int .i64 0, .bool false, .slice none 0 0, .int .u64 0, .string ⟨#[]⟩, .slice none 0 0] 28)).cell? ⟨g, 4, none⟩ = some (.string cs) := cell_below hg HW0.out
  clear hk hg
  have HCS := Lib.hid hcs
  go_enter Tryz.func26, Tryz.ntmps26
  go_wp2
  generalize hw0 : w.alloc (.cells #[.int .i64 0, .bool false, .slice none 0 0, .int .u64 0, .string ⟨#[]⟩, .slice none 0 0] 28) = w0 at *
  clear hw0
  go_loop [0] (fun v => ∃ t : ByteArray, v = .string t ∧ t.size ≤ 100000 ∧ Hid (tl (inB cs) t.data.toList = tl (inB cs) s.data.toList)) (fun v => strSize v)
  case atStart => exact ⟨s, rfl, hs, rfl⟩
  case round =>
    obtain ⟨t, rfl, hts, HTL⟩ := hrel
    by_cases htz : t.size = 0
    · have HL : Hid (backL cs false t.data.toList = left2 cs false false s.data.toList) := by
        show _ = backL _ _ (tl _ _)
        rw [← HTL.out, nil_of t htz]; rfl
      have htz1 : ¬ 0 < t.size := by omega
      clear htz
      go_wp2
      go_loop [0] (fun v => ∃ u : ByteArray, v = .string u ∧ u.size ≤ 100000 ∧ Hid (backL cs false u.data.toList = left2 cs false false s.data.toList)) (fun v => strSize v)
      case atStart => exact ⟨t, rfl, by omega, HL.out⟩
      case round =>
        obtain ⟨u, rfl, hus, HU⟩ := hrel
        by_cases huz : u.size = 0
        · have HE : Hid (u.data.toList = left2 cs false false s.data.toList) := by show _ = _; rw [← HU.out, nil_of u huz]; rfl
          have huz1 : ¬ 0 < u.size := by omega
          have HUZ := Lib.hid huz
          clear huz
          go_wp2_with fail
          go_at_call 6
          refine (f6_any _ _).mono ?_
          rintro e w2 ⟨rfl, hb⟩
          have HB := Lib.hid (HW0.out.trans (hb.mono HW0.out.size))
          have hc0 : ∀ o, w2.cell? ⟨w.heap.size, o, none⟩ = w0.cell? ⟨w.heap.size, o, none⟩ := fun o => hb.cell (p := ⟨w.heap.size, o, none⟩) HZ.out
          have hf0 : ∀ o, w2.frozen? ⟨w.heap.size, o, none⟩ = w0.frozen? ⟨w.heap.size, o, none⟩ := fun o => hb.frozen (p := ⟨w.heap.size, o, none⟩) HZ.out
          have k0 := HV0.out
          have k1 := HV1.out
          have k2 := HV2.out
          have k3 := HV3.out
          have k4 := HV4.out
          have k5 := HV5.out
          have q0 := HF0.out
          have q1 := HF1.out
          have q2 := HF2.out
          have q3 := HF3.out
          have q4 := HF4.out
          have q5 := HF5.out
          clear hb
          go_wp2
          refine bodyPost_ret (v := .tuple #[.agg #[.int .i64 4, .bool false, .slice none 0 0, .int .u64 0, .string u, .slice none 0 0], .bool true]) (by simp [results, Tryz.results26, go_sem, hc0, k0, k1, k2, k3, k4, k5]) rfl ⟨u, HE.out, rfl, ?_⟩
          iterate 6 (refine Below.setCell ?_ (show w.heap.size ≤ w.heap.size from Nat.le_refl _) _)
          exact HB.out
        · have huz1 : 0 < u.size := by omega
          obtain ⟨r, b, HR⟩ := snoc_of _ (list_ne u huz1)
          have HH := Lib.hid (last_one u b r HR)
          have HT := Lib.hid (init_one u b r HR)
          have HR := Lib.hid HR
          by_cases hb : inB cs b = true
          · have HB1 := Lib.hid hb
            have HU2 : Hid (backL cs false (u.extract 0 (u.size - 1)).data.toList = left2 cs false false s.data.toList) := by
              show _ = _
              rw [HT.out, ← HU.out, HR.out]
              exact (tr_step _ b r HB1.out).symm
            clear hb
            go_wp2_with fail
            go_at_call 48
            refine (f48_in cs _ b (by exact HH.out) HCS.out HB1.out _).mono ?_
            rintro e w' ⟨z, hz, rfl, rfl⟩
            go_wp2
            go_round
            case rel => exact ⟨_, rfl, by rw [ByteArray.size_extract]; omega, HU2.out⟩
            case measure => simp [strSize]; omega
          · have HB1 := Lib.hid (show inB cs b = false by simpa using hb)
            have HE : Hid (u.data.toList = left2 cs false false s.data.toList) := by
              show _ = _
              rw [← HU.out, HR.out]
              exact (tr_stay _ b r HB1.out).symm
            clear hb
            go_wp2_with fail
            go_at_call 48
            refine (f48_out cs _ b (by exact HH.out) HCS.out HB1.out _).mono ?_
            rintro e w' ⟨z, hz, rfl, rfl⟩
            go_wp2_with fail
            go_at_call 6
            refine (f6_any _ _).mono ?_
            rintro e w2 ⟨rfl, hb⟩
            have HB := Lib.hid (HW0.out.trans (hb.mono HW0.out.size))
            have hc0 : ∀ o, w2.cell? ⟨w.heap.size, o, none⟩ = w0.cell? ⟨w.heap.size, o, none⟩ := fun o => hb.cell (p := ⟨w.heap.size, o, none⟩) HZ.out
            have hf0 : ∀ o, w2.frozen? ⟨w.heap.size, o, none⟩ = w0.frozen? ⟨w.heap.size, o, none⟩ := fun o => hb.frozen (p := ⟨w.heap.size, o, none⟩) HZ.out
            have k0 := HV0.out
            have k1 := HV1.out
            have k2 := HV2.out
            have k3 := HV3.out
            have k4 := HV4.out
            have k5 := HV5.out
            have q0 := HF0.out
            have q1 := HF1.out
            have q2 := HF2.out
            have q3 := HF3.out
            have q4 := HF4.out
            have q5 := HF5.out
            clear hb
            go_wp2
            refine bodyPost_ret (v := .tuple #[.agg #[.int .i64 4, .bool false, .slice none 0 0, .int .u64 0, .string u, .slice none 0 0], .bool true]) (by simp [results, Tryz.results26, go_sem, hc0, k0, k1, k2, k3, k4, k5]) rfl ⟨u, HE.out, rfl, ?_⟩
            iterate 6 (refine Below.setCell ?_ (show w.heap.size ≤ w.heap.size from Nat.le_refl _) _)
            exact HB.out
    · have htz1 : 0 < t.size := by omega
      obtain ⟨b, r, HR⟩ := cons_of _ (list_ne t htz1)
      have HH := Lib.hid (head_one t b r HR)
      have HT := Lib.hid (tail_one t b r HR)
      have HR := Lib.hid HR
      by_cases hb : inB cs b = true
      · have HB1 := Lib.hid hb
        have HTL2 : Hid (tl (inB cs) (t.extract 1 t.size).data.toList = tl (inB cs) s.data.toList) := by
          show _ = _
          rw [HT.out, ← HTL.out, HR.out]
          exact (tl_step _ b r HB1.out).symm
        clear hb
        go_wp2_with fail
        go_at_call 48
        refine (f48_in cs _ b (by exact HH.out) HCS.out HB1.out _).mono ?_
        rintro e w' ⟨z, hz, rfl, rfl⟩
        go_wp2
        go_round
        case rel => exact ⟨_, rfl, by rw [ByteArray.size_extract]; omega, HTL2.out⟩
        case measure => simp [strSize]; omega
      · have HB1 := Lib.hid (show inB cs b = false by simpa using hb)
        have HL : Hid (backL cs false t.data.toList = left2 cs false false s.data.toList) := by
          show _ = backL _ _ (tl _ _)
          rw [← HTL.out, HR.out, tl_stay _ b r HB1.out]
        clear hb
        go_wp2_with fail
        go_at_call 48
        refine (f48_out cs _ b (by exact HH.out) HCS.out HB1.out _).mono ?_
        rintro e w' ⟨z, hz, rfl, rfl⟩
        go_wp2
        go_loop [0] (fun v => ∃ u : ByteArray, v = .string u ∧ u.size ≤ 100000 ∧ Hid (backL cs false u.data.toList = left2 cs false false s.data.toList)) (fun v => strSize v)
        case atStart => exact ⟨t, rfl, by omega, HL.out⟩
        case round =>
          obtain ⟨u, rfl, hus, HU⟩ := hrel
          by_cases huz : u.size = 0
          · have HE : Hid (u.data.toList = left2 cs false false s.data.toList) := by show _ = _; rw [← HU.out, nil_of u huz]; rfl
            have huz1 : ¬ 0 < u.size := by omega
            have HUZ := Lib.hid huz
            clear huz
            go_wp2_with fail
            go_at_call 6
            refine (f6_any _ _).mono ?_
            rintro e w2 ⟨rfl, hb⟩
            have HB := Lib.hid (HW0.out.trans (hb.mono HW0.out.size))
            have hc0 : ∀ o, w2.cell? ⟨w.heap.size, o, none⟩ = w0.cell? ⟨w.heap.size, o, none⟩ := fun o => hb.cell (p := ⟨w.heap.size, o, none⟩) HZ.out
            have hf0 : ∀ o, w2.frozen? ⟨w.heap.size, o, none⟩ = w0.frozen? ⟨w.heap.size, o, none⟩ := fun o => hb.frozen (p := ⟨w.heap.size, o, none⟩) HZ.out
            have k0 := HV0.out
            have k1 := HV1.out
            have k2 := HV2.out
            have k3 := HV3.out
            have k4 := HV4.out
            have k5 := HV5.out
            have q0 := HF0.out
            have q1 := HF1.out
            have q2 := HF2.out
            have q3 := HF3.out
            have q4 := HF4.out
            have q5 := HF5.out
            clear hb
            go_wp2
            refine bodyPost_ret (v := .tuple #[.agg #[.int .i64 4, .bool false, .slice none 0 0, .int .u64 0, .string u, .slice none 0 0], .bool true]) (by simp [results, Tryz.results26, go_sem, hc0, k0, k1, k2, k3, k4, k5]) rfl ⟨u, HE.out, rfl, ?_⟩
            iterate 6 (refine Below.setCell ?_ (show w.heap.size ≤ w.heap.size from Nat.le_refl _) _)
            exact HB.out
          · have huz1 : 0 < u.size := by omega
            obtain ⟨r, b, HR⟩ := snoc_of _ (list_ne u huz1)
            have HH := Lib.hid (last_one u b r HR)
            have HT := Lib.hid (init_one u b r HR)
            have HR := Lib.hid HR
            by_cases hb : inB cs b = true
            · have HB1 := Lib.hid hb
              have HU2 : Hid (backL cs false (u.extract 0 (u.size - 1)).data.toList = left2 cs false false s.data.toList) := by
                show _ = _
                rw [HT.out, ← HU.out, HR.out]
                exact (tr_step _ b r HB1.out).symm
              clear hb
              go_wp2_with fail
              go_at_call 48
              refine (f48_in cs _ b (by exact HH.out) HCS.out HB1.out _).mono ?_
              rintro e w' ⟨z, hz, rfl, rfl⟩
              go_wp2
              go_round
              case rel => exact ⟨_, rfl, by rw [ByteArray.size_extract]; omega, HU2.out⟩
              case measure => simp [strSize]; omega
            · have HB1 := Lib.hid (show inB cs b = false by simpa using hb)
              have HE : Hid (u.data.toList = left2 cs false false s.data.toList) := by
                show _ = _
                rw [← HU.out, HR.out]
                exact (tr_stay _ b r HB1.out).symm
              clear hb
              go_wp2_with fail
              go_at_call 48
              refine (f48_out cs _ b (by exact HH.out) HCS.out HB1.out _).mono ?_
              rintro e w' ⟨z, hz, rfl, rfl⟩
              go_wp2_with fail
              go_at_call 6
              refine (f6_any _ _).mono ?_
              rintro e w2 ⟨rfl, hb⟩
              have HB := Lib.hid (HW0.out.trans (hb.mono HW0.out.size))
              have hc0 : ∀ o, w2.cell? ⟨w.heap.size, o, none⟩ = w0.cell? ⟨w.heap.size, o, none⟩ := fun o => hb.cell (p := ⟨w.heap.size, o, none⟩) HZ.out
              have hf0 : ∀ o, w2.frozen? ⟨w.heap.size, o, none⟩ = w0.frozen? ⟨w.heap.size, o, none⟩ := fun o => hb.frozen (p := ⟨w.heap.size, o, none⟩) HZ.out
              have k0 := HV0.out
              have k1 := HV1.out
              have k2 := HV2.out
              have k3 := HV3.out
              have k4 := HV4.out
              have k5 := HV5.out
              have q0 := HF0.out
              have q1 := HF1.out
              have q2 := HF2.out
              have q3 := HF3.out
              have q4 := HF4.out
              have q5 := HF5.out
              clear hb
              go_wp2
              refine bodyPost_ret (v := .tuple #[.agg #[.int .i64 4, .bool false, .slice none 0 0, .int .u64 0, .string u, .slice none 0 0], .bool true]) (by simp [results, Tryz.results26, go_sem, hc0, k0, k1, k2, k3, k4, k5]) rfl ⟨u, HE.out, rfl, ?_⟩
              iterate 6 (refine Below.setCell ?_ (show w.heap.size ≤ w.heap.size from Nat.le_refl _) _)
              exact HB.out
end Go.Proofs.YtgcofpmhojplhaaGreatDoor
