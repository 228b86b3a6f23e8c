/- Walks of the thin package's texts of an answer. -/
import Derived.Test.YtgcofpmhojplhaaGreatDoorU5
namespace Go.Proofs.YtgcofpmhojplhaaGreatDoor
open Go.RowKit

def PairIs (o : Option (List (List UInt8))) (w : World) (e : Ending) (w' : World) : Prop := match o with
  | some l => ∃ v, e = .returned (.tuple #[v, .bool true]) ∧ w'.ownsRow w.heap.size 9 1 v l.length (strs l) ∧ Below w.heap.size w w'
  | none => e = .returned (.tuple #[.slice none 0 0, .bool false]) ∧ Below w.heap.size w w'
set_option maxRecDepth 100000 in
theorem f23_no (t : TypeId) (x : Value) (w : World) : Calls Tryz.prog 23 #[.nilIface, .iface t x] w (PairIs none w) := by
  go_enter Tryz.func23, Tryz.ntmps23
  go_wp2
  go_ret2
  exact ⟨rfl, Below.refl _ _⟩
set_option maxRecDepth 100000 in
set_option maxHeartbeats 2000000 in
theorem f23_list (L : Nat) (l : List (List UInt8)) (hn : l.length ≤ 1000000) (w : World) (h : ListAt L l w) : Calls Tryz.prog 23 #[.iface 82 (.pointer (some ⟨L, 0, none⟩)), .nilIface] w (PairIs (some l) w) := by
  obtain ⟨i0, hi, hz0, hz1, hz2⟩ := info_parts infoStr
  obtain ⟨v, hv, ho⟩ := h
  obtain ⟨A, c, rfl⟩ := own_len ho
  have a82 : ∀ w, (Instr.typeAssert (.iface 82 (.pointer (some ⟨L, 0, none⟩))) 52 82 true).run Tryz.prog w = .ok (.tuple #[.pointer (some ⟨L, 0, none⟩), .bool true]) w := fun _ => by kernel_rfl
  have a72 : ∀ t w, (Instr.typeAssert (.iface 72 (.string t)) 52 72 true).run Tryz.prog w = .ok (.tuple #[.string t, .bool true]) w := fun _ _ => by kernel_rfl
  have HV := Lib.hid hv
  have HO := Lib.hid ho
  clear hv ho
  go_enter Tryz.func23, Tryz.ntmps23
  go_wp2_with fail
  go_at_call 41
  refine (f41_any L A l.length c _ HV.out).mono ?_
  rintro e w1 ⟨rfl, rfl⟩
  go_wp2_with fail
  go_loopw [4, 23] (fun o i wr => ∃ k : Nat, i = .int .i64 k ∧ k ≤ l.length ∧ Hid (wr.ownsRow w.heap.size 9 1 o k (strs (l.take k))) ∧ Hid (Below w.heap.size w wr)) (fun _ i _ => l.length - (RowKit.intOf i).toNat)
  case atStart => exact ⟨0, rfl, Nat.zero_le _, World.ownsRow_nil _ _ _ _, Below.refl _ _⟩
  case round =>
    obtain ⟨k, rfl, hk, HO2, HB2⟩ := hrel
    by_cases hlt : k < l.length
    · obtain ⟨g, rfl⟩ := own_form HO.out (by omega)
      have K3 : Hid (k + 1 ≤ maxLen) := by show _ ≤ _; unfold maxLen; omega
      have K4 : Hid ((k + 1) * 16 ≤ 140737488355328) := by show _ ≤ _; omega
      have K5 : ∀ u, Hid (w.heap.size ≤ (wr.alloc (.cells #[.string u] 9)).heap.size) := fun u => by show _ ≤ _; have := HB2.out.size; simp; omega
      have K5 := Lib.hid K5
      have hgl := (own_cap HO.out).2.2
      have c1 : wr.cell? ⟨g, k, none⟩ = some (.iface 72 (.string (txt l[k]))) := by
        rw [HB2.out.cell (p := ⟨g, k, none⟩) hgl]
        exact (HO.out.cellAt k (by omega)).trans (by simp [ifs, hlt])
      have c0 : wr.cell? ⟨L, 0, none⟩ = some (.slice (some ⟨g, 0, none⟩) l.length c) := cell_below HV.out HB2.out
      have H42 := Lib.hid (f42_any L g l.length c k hlt _ wr c0 c1)
      have HT : Hid (strs (l.take (k + 1)) = strs (l.take k) ++ [.string (txt l[k])]) := by
        show _ = _
        rw [List.take_succ_eq_append_getElem hlt, strs_snoc]
      generalize l[k] = x at *
      clear c1 c0 hgl
      go_wp2_with fail
      go_at_call 42
      refine H42.out.mono ?_
      rintro e w1 ⟨rfl, rfl⟩
      go_wp2_with (at_builtin; refine wpList_append_own _ rfl (.tmp 33) (.tmp 35) 23 rfl w.heap.size 9 i0 (.string ByteArray.empty) 1 16 Tryz.underlying23 hi hz0 hz1 hz2 rfl (by decide) _ k _ rfl (HO2.out.alloc _) ⟨wr.heap.size, 0, none⟩ 1 1 [.string (txt x)] rfl rfl (one_new _ _ _) (one_cell _) K3.out K4.out (K5.out _).out ?_)
      intro v' w1 hown' hgrow _
      have R := rel_app1 HO2.out HB2.out HB2.out.size hown' hgrow
      have HR := Lib.hid R
      clear hown' hgrow R
      go_wp2
      go_roundw
      case rel => exact ⟨k + 1, by go_num, by omega, by show World.ownsRow _ _ _ _ _ _ _; rw [HT.out]; exact HR.out.1, HR.out.2⟩
      case measure => simp [RowKit.intOf]; omega
    · obtain rfl : k = l.length := by omega
      go_wp2
      go_ret2
      exact ⟨_, rfl, by have := HO2.out; rwa [List.take_length] at this, HB2.out⟩
end Go.Proofs.YtgcofpmhojplhaaGreatDoor
