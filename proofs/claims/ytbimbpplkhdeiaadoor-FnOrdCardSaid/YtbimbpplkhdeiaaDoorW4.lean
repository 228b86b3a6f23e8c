/- The walk of the reference's Unquote at a text that reads as another. -/
import Derived.Test.YtbimbpplkhdeiaaDoorW3
namespace Go.Proofs.YtbimbpplkhdeiaaDoor
open Go.RowKit

theorem Esc.short {e p : List UInt8} (h : Esc e p) : p.length ≤ e.length := by
  cases h with
  | named k h => simp
  | two v h => simp [hexBs_len]
  | four v h hv => have := Lib.encodeRuneZ_length (v : Int); simp [hexBs_len, encodeRune_len]; omega
  | eight v h hv => have := Lib.encodeRuneZ_length (v : Int); simp [hexBs_len, encodeRune_len]; omega
theorem byte_ne (a b : UInt8) (h : a ≠ b) : ((a.toNat : Int) == (b.toNat : Int)) = false := by
  rw [byte_eq]; simpa using h
set_option maxRecDepth 100000 in
set_option maxHeartbeats 1000000 in
theorem f6_any (s : ByteArray) (body out : List UInt8) (hs : s.data.toList = 34 :: (body ++ [34])) (hu : Unq body out) (hlen : s.size ≤ 140737488355000) (w : World) :
    Calls Tryd.prog 6 #[.string s, .bool false] w fun e w' => e = .returned (.tuple #[.string ⟨out.toArray⟩, .bool true]) ∧ Below w.heap.size w w' := by
  have hsz : s.size = body.length + 2 := by rw [size_list, hs]; simp
  have h0 : s[0] = 34 := at_list s 0 (by omega) _ hs
  have h1 : s[body.length + 1] = 34 := (at_list s (body.length + 1) (by omega) _ hs).trans (by simp)
  have HB : Hid ((s.extract 1 (body.length + 2 - 1)).data.toList = body) := by
    show (s.extract 1 (body.length + 2 - 1)).data.toList = body
    simp [ByteArray.data_extract, Array.toList_extract, List.extract_eq_take_drop, hs]
  have HU := Lib.hid hu
  clear hs hu
  have e1 : ¬ ((s.size : Int) < 2) := by omega
  go_enter Tryd.func6, Tryd.ntmps6
  go_wp2
  generalize s.extract 1 (body.length + 2 - 1) = b at *
  have HBS : Hid (b.size = body.length) := by show b.size = body.length; rw [size_list, HB.out]
  clear h0 h1 e1
  have hbl : body.length ≤ 140737488355000 := by omega
  go_loopw [6, 7] (fun v i wr => ∃ (done rest r acc : List UInt8), body = done ++ rest ∧ out = acc ++ r ∧ Unq rest r ∧ i = .int .i64 done.length ∧ Hid (OB w.heap.size w wr v acc) ∧ acc.length ≤ done.length) (fun _ i _ => body.length - (RowKit.intOf i).toNat)
  case atStart => exact ⟨[], body, out, [], rfl, rfl, HU.out, rfl, OB.nil w, Nat.le_refl _⟩
  case round =>
    obtain ⟨done, rest, r, acc, hbd, hod, hun, rfl, HO, hal⟩ := hrel
    have HBD := Lib.hid hbd
    have HOD := Lib.hid hod
    have HL : Hid (body.length = done.length + rest.length) := by show _ = _; rw [HBD.out, List.length_append]
    have hbm : b.size ≤ 140737488355000 := by rw [HBS.out]; exact hbl
    have HG : Hid (∀ x t, rest = x :: t → ∀ hx : done.length < b.size, b[done.length] = x) := fun x t he hx => by
      rw [at_list b done.length hx _ HB.out, HBD.out, he]; simp
    have HX : Hid ((b.extract done.length b.size).data.toList = rest) := by
      show (b.extract done.length b.size).data.toList = rest
      rw [ByteArray.data_extract, Array.toList_extract, List.extract_eq_take_drop, HB.out, HBS.out, HBD.out]
      simp
    have HLA : Hid (acc.length ≤ done.length) := hal
    clear hbd hod hal
    cases hun with
    | nil =>
      have hx : ¬ done.length < b.size := by rw [HBS.out, HL.out]; simp
      have hst := ob_string HO.out
      go_wp2
      go_ret2
      exact ⟨by rw [HOD.out]; simp, HO.out.to⟩
    | plain x t r' n1 n2 n3 n4 hun' =>
      have HU' := Lib.hid hun'
      clear hun'
      have hx : done.length < b.size := by rw [HBS.out, HL.out]; simp
      have e0 := HG.out x t rfl hx
      have e1 : ((b[done.length].toNat : Int) == 34) = false := by rw [e0]; exact byte_ne x 34 n1
      have e2 : ((b[done.length].toNat : Int) == 10) = false := by rw [e0]; exact byte_ne x 10 n2
      have e3 : ((b[done.length].toNat : Int) == 13) = false := by rw [e0]; exact byte_ne x 13 n3
      have e4 : ((b[done.length].toNat : Int) != 92) = true := by rw [e0]; simpa [bne] using byte_ne x 92 n4
      have HE0 : Hid ((b[done.length].toNat : Int) = (x.toNat : Int)) := by show _ = _; rw [e0]
      have HL1 : Hid (acc.length + 1 ≤ 140737488355328) := by have := HLA.out; show _ ≤ _; omega
      clear e0
      go_wp2_with (at_builtin; refine ob_byte rfl _ _ rfl w.heap.size w _ _ acc rfl HO.out x _ HE0.out rfl HL1.out ?_; intro v' w' hO'; have HO' := Lib.hid hO'; clear hO')
      go_roundw
      case rel => exact ⟨done ++ [x], t, r', acc ++ [x], by rw [HBD.out]; simp, by rw [HOD.out]; simp, HU'.out, by rw [List.length_append]; go_num, HO'.out, by have := HLA.out; simp; omega⟩
      case measure => have := HL.out; simp at this; simp [RowKit.intOf]; omega
    | esc e p t r' he hun' =>
      have HU' := Lib.hid hun'
      clear hun'
      have hel := he.len
      obtain ⟨e', he'⟩ := he.head
      have HEE := Lib.hid hel
      have HES := Lib.hid he.short
      have hx : done.length < b.size := by rw [HBS.out, HL.out, List.length_append]; omega
      have e0 := HG.out 92 (e' ++ t) (by rw [he']; rfl) hx
      have e1 : ((b[done.length].toNat : Int) == 34) = false := by rw [e0]; rfl
      have e2 : ((b[done.length].toNat : Int) == 10) = false := by rw [e0]; rfl
      have e3 : ((b[done.length].toNat : Int) == 13) = false := by rw [e0]; rfl
      have e4 : ((b[done.length].toNat : Int) != 92) = false := by rw [e0]; rfl
      have e5 : ((e.length : Int) == 0) = false := by
        have h : ¬ (e.length : Int) = 0 := by omega
        simpa using h
      have HC := Lib.hid (fun w => f10_any (b.extract done.length b.size) e p t he HX.out (by rw [ByteArray.size_extract]; omega) w)
      have HL1 : Hid (acc.length + p.length ≤ 140737488355328) := by have := HLA.out; show _ ≤ _; omega
      have hel' : (e.length : Int) ≤ 10 := by omega
      clear e0 hel he' he
      go_wp2_with (first
        | (go_at_call 10; refine (HC.out _).mono ?_; rintro ex w2 ⟨v2, rfl, ho2⟩; have HR := Lib.hid ho2.row; have HO2 := Lib.hid (HO.out.below ho2.to); clear ho2)
        | (at_builtin; refine ob_row rfl _ _ rfl w.heap.size w _ acc rfl HO2.out _ p rfl 0 (HR.out.le (Nat.zero_le _)) HL1.out ?_; intro v' w' hO'; have HO' := Lib.hid hO'; clear hO'))
      go_roundw
      case rel => exact ⟨done ++ e, t, r', acc ++ p, by rw [HBD.out]; simp, by rw [HOD.out]; simp, HU'.out, by rw [List.length_append]; go_num, HO'.out, by have := HLA.out; have := HES.out; simp; omega⟩
      case measure => have := HL.out; have := HEE.out; simp at *; simp [RowKit.intOf]; omega
end Go.Proofs.YtbimbpplkhdeiaaDoor
