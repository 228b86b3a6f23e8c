/- Walks of the reference: what an escape's number is coded as; the short escapes. -/
import Derived.Test.YtbimbpplkhdeiaaDoorW1
namespace Go.Proofs.YtbimbpplkhdeiaaDoor
open Go.RowKit Go.Lib

theorem heap_new (w : World) (o : Obj) : (w.alloc o).heap[w.heap.size]? = some o := by
  show (w.heap.push o)[w.heap.size]? = some o
  simp
theorem size_list (s : ByteArray) : s.size = s.data.toList.length := by rw [Array.length_toList]; rfl
theorem at_list (s : ByteArray) (i : Nat) (h : i < s.size) (l : List UInt8) (hl : s.data.toList = l) : s[i] = l.getD i 0 := by
  subst hl
  rw [List.getD_eq_getElem?_getD, List.getElem?_eq_getElem (by rw [← size_list]; exact h)]
  rfl
theorem OB.one (w : World) (b : UInt8) (c : Int) (hc : c = (b.toNat : Int)) : OB w.heap.size w (w.alloc (.cells #[.int .u8 c] 5)) (.slice (some ⟨w.heap.size, 0, none⟩) 1 1) [b] := by
  subst hc
  refine ⟨⟨rfl, .inr ⟨w.heap.size, 1, #[.int .u8 (b.toNat : Int)], rfl, Nat.le_refl _, heap_new w _, Nat.le_refl _, by decide, rfl, rfl⟩⟩, (Below.refl _ _).alloc (Nat.le_refl _) _, by simp⟩
theorem OB.drawn {B q : Nat} {W0 w : World} {v : Value} {l : List UInt8} (h : OB B (W0.drewN q) w v l) : OB B W0 w v l := ⟨h.1, ⟨h.2.1.os, h.2.1.tape, h.2.1.output, h.2.1.size, h.2.1.block⟩, h.2.2⟩
/-- What makes a slice of bytes and tells a number. -/
def MakesB (l : List UInt8) (n : Nat) (w : World) (e : Ending) (w' : World) : Prop := ∃ v, e = .returned (.tuple #[v, .int .i64 n]) ∧ OB w.heap.size w w' v l

set_option maxRecDepth 100000 in
theorem f17_one (n s : Nat) (hn : n < 128) (w : World) : Calls Tryd.prog 17 #[.int .i64 n, .bool true, .bool false, .int .i64 s] w (MakesB [n.toUInt8] s w) := by
  have h1 : decide ((n : Int) > 255) = false := decide_eq_false (by omega)
  have h2 : decide ((n : Int) > 127) = false := decide_eq_false (by omega)
  have h3 : IntKind.u8.wrap (n : Int) = n := by
    have e : (n : Int) % 256 = n := Int.emod_eq_of_lt (by omega) (by omega)
    simp [IntKind.wrap, IntKind.bits, IntKind.signed, e]
  go_enter Tryd.func17, Tryd.ntmps17
  go_wp2
  go_ret2
  exact ⟨_, rfl, OB.one w n.toUInt8 _ (by rw [UInt8.toNat_ofNat']; omega)⟩

def names' : ByteArray := ⟨#[110, 114, 116, 97, 98, 102, 118, 34, 39, 92]⟩
theorem names_at : ∀ j (_ : j < 10), names'.data.toList.getD j 0 = names.getD j 0 := by decide
theorem names_lit (j : Nat) (h : j < 10) : (⟨#[110, 114, 116, 97, 98, 102, 118, 34, 39, 92]⟩ : ByteArray)[j] = names.getD j 0 := at_list ⟨#[110, 114, 116, 97, 98, 102, 118, 34, 39, 92]⟩ j h names rfl
theorem says_lit (j : Nat) (h : j < 10) : (⟨#[10, 13, 9, 7, 8, 12, 11, 34, 39, 92]⟩ : ByteArray)[j] = says.getD j 0 := at_list ⟨#[10, 13, 9, 7, 8, 12, 11, 34, 39, 92]⟩ j h says rfl
theorem byte_eq (a b : UInt8) : ((a.toNat : Int) == (b.toNat : Int)) = (a == b) := by
  rw [Bool.eq_iff_iff, beq_iff_eq, beq_iff_eq]
  exact ⟨fun h => UInt8.toNat_inj.1 (by omega), fun h => by rw [h]⟩
theorem names_ne : ∀ k < 10, ∀ j < 10, (names.getD k 0 == names.getD j 0) = decide (k = j) := by decide
set_option maxRecDepth 100000 in
theorem f10_named (s : ByteArray) (k : Nat) (hk : k < 10) (t : List UInt8) (hs : s.data.toList = 92 :: names.getD k 0 :: t) (hlen : s.size ≤ 9223372036854775807) (w : World) :
    Calls Tryd.prog 10 #[.string s, .bool false] w (MakesB [says.getD k 0] 2 w) := by
  have hsz : 2 ≤ s.size := by
    rw [size_list, hs, List.length_cons, List.length_cons]; omega
  have hn := at_list s 1 (by omega) _ hs
  have HN := Lib.hid hn
  clear hn hs
  go_enter Tryd.func10, Tryd.ntmps10
  go_wp2
  go_loopw [6] (fun i wr => ∃ j : Nat, j ≤ k ∧ i = .int .i64 j ∧ ∃ q, wr = w.drewN q) (fun i _ => 10 - (intOf i).toNat)
  case atStart => exact ⟨0, Nat.zero_le _, rfl, 0, rfl⟩
  case round =>
    obtain ⟨j, hj, rfl, q, rfl⟩ := hrel
    have i1 : (1 : Int) < (s.size : Int) := by omega
    have i2 : 1 < s.size := by omega
    have i3 : (j : Int) < 10 := by omega
    have i4 : j < 10 := by omega
    have ht : ((s[1].toNat : Int) == ((⟨#[110, 114, 116, 97, 98, 102, 118, 34, 39, 92]⟩ : ByteArray)[j].toNat : Int)) = decide (k = j) := by
      rw [byte_eq, names_lit j i4, HN.out, ← names_ne k hk j i4]; rfl
    by_cases hkj : k = j
    · subst hkj
      rw [decide_eq_true rfl] at ht
      have hy := Lib.hid (says_lit k i4)
      go_wp2
      go_quiet (fail)
      go_wp2
      go_ret2
      exact ⟨_, rfl, by rw [← hy.out]; exact (OB.one _ _ _ rfl).drawn⟩
    · rw [decide_eq_false hkj] at ht
      go_wp2
      go_quiet (fail)
      go_wp2
      go_roundw
      case rel => exact ⟨j + 1, by omega, by go_num, _, rfl⟩
      case measure => simp [intOf]; omega
end Go.Proofs.YtbimbpplkhdeiaaDoor
