/- Walks of the package's cuts of signs: a text has a rune; the ends trimmed. -/
import Derived.Test.YtgcofpmhojplhaaGreatDoorR0
import Derived.Laws.RangeAny
namespace Go.Proofs.YtgcofpmhojplhaaGreatDoor
open Go.RowKit

theorem iter_below (w : World) (s : ByteArray) (pos : Nat) : Below w.heap.size w (w.iter s pos) := (Below.refl _ _).alloc (Nat.le_refl _) _
theorem asc_at {s : ByteArray} (h : Asc s.data.toList) (i : Nat) (hi : i < s.size) : (s[i]'hi).toNat < 128 := by
  have hl : i < s.data.toList.length := by rw [← size_list0]; exact hi
  have := h _ (List.getElem_mem hl)
  exact this
set_option maxRecDepth 100000 in
theorem f85_asc (s : ByteArray) (ha : Asc s.data.toList) (hs : s.size ≤ 100000) (b : UInt8) (w : World) : Calls Tryz.prog 85 #[.string s, .int .i32 (b.toNat : Int)] w fun e w' => e = .returned (.bool (s.data.toList.contains b)) ∧ Below w.heap.size w w' := by
  have HA := Lib.hid ha
  clear ha
  have HB : Hid (∀ c : UInt8, ((c.toNat : Int) == (b.toNat : Int)) = (c == b)) := fun c => byte_eq c b
  have HS := Lib.hid hs
  generalize hx : (b.toNat : Int) = x at *
  clear hx
  go_enter Tryz.func85, Tryz.ntmps85
  go_wp2
  go_loopw [6] (fun _ wr => ∃ pos : Nat, wr = w.iter s pos ∧ pos ≤ s.size ∧ Hid ((s.data.toList.take pos).contains b = false)) (fun _ wr => s.size - wr.iterPos w.heap.size)
  case atStart => exact ⟨0, rfl, Nat.zero_le _, by show _ = _; simp⟩
  case round =>
    obtain ⟨pos, rfl, hp, HN⟩ := hrel
    by_cases hps : pos < s.size
    · have hkl : pos < s.data.toList.length := by rw [← size_list0]; exact hps
      have hnx : ∀ ty, (Instr.next (.pointer (some ⟨w.heap.size, 0, none⟩)) true ty).run Tryz.prog (w.iter s pos) = _ := fun ty => run_next_ascii w s pos ty hps (asc_at HA.out pos hps)
      have e1 := HB.out (s[pos]'hps)
      have e2 : s[pos]'hps = s.data.toList.getD pos 0 := at_list s pos hps _ rfl
      have HNX := Lib.hid e2
      by_cases hc : s.data.toList.getD pos 0 = b
      · have ht : (((s[pos]'hps).toNat : Int) == x) = true := by rw [e1, e2]; simpa using hc
        have HC : Hid (s.data.toList.contains b = true) := by
          show _ = _
          rw [List.contains_iff_mem, ← hc, List.getD_eq_getElem?_getD, List.getElem?_eq_getElem hkl]
          exact List.getElem_mem hkl
        clear e1 e2 hc hkl
        go_wp2
        go_ret
        exact ⟨by rw [HC.out]; rfl, iter_below _ _ _⟩
      · have ht : (((s[pos]'hps).toNat : Int) == x) = false := by rw [e1, e2]; simpa using hc
        have HN2 : Hid ((s.data.toList.take (pos + 1)).contains b = false) := by
          show _ = _
          have h1 := HN.out
          rw [take_step _ pos hkl]
          simp only [List.contains_eq_mem, List.mem_append, List.mem_singleton, decide_eq_false_iff_not, not_or] at h1 ⊢
          exact ⟨h1, fun h => hc h.symm⟩
        clear e1 e2 hc hkl
        go_wp2
        go_roundw
        case rel => exact ⟨pos + 1, rfl, by omega, HN2.out⟩
        case measure => simp; omega
    · have hnx : ∀ ty, (Instr.next (.pointer (some ⟨w.heap.size, 0, none⟩)) true ty).run Tryz.prog (w.iter s pos) = _ := fun ty => run_next_end w s pos ty hps
      have HC : Hid (s.data.toList.contains b = false) := by
        show _ = _
        have h1 := HN.out
        rw [List.take_of_length_le (by rw [← size_list0]; omega)] at h1
        exact h1
      go_wp2
      go_ret
      exact ⟨by rw [HC.out]; rfl, iter_below _ _ _⟩
end Go.Proofs.YtgcofpmhojplhaaGreatDoor
