/-
  laws.FnWalkTo returns true at any file and any number below 256, and leaves its arguments as they were. No condition.
  (The frame follows the kit's proof-skeleton.mjs; printed by mkwt.py.)
-/
import Derived.Test.YtabeokminikfdaaGreatRows
import Derived.Test.YtabeokminikfdaaGreatQEm
import Derived.WalkKit
import Derived.ProofKit
import Derived.OpenShut
import Derived.ShutString
import Derived.ChangeOld
import Derived.Below
import Derived.Lib.SmallJoins
import Derived.Laws.IdiomArrays
namespace Go.Proofs.YtabeokminikfdaaGreat.fnWalkTo
open Go.ChangeShapes Go.WideShapes Go.ChangeAt Go.RowKit
set_option linter.unusedVariables false
theorem own : ownKnob Tryz.prog.godebug = none := by kernel_rfl
theorem laidOut : laidOutB Tryz.prog = true := by kernel_rfl
set_option maxRecDepth 100000 in
set_option maxHeartbeats 2000000 in
theorem lifted (os : Os) (started : os.Started) (H : Type) (enc : TypeId × Value → H) :
    ReturnsInHanded {} Tryz.checked os 3 .any (Rows.fnWalkToSpec.pre6 enc Tryz.prog Tryz.f3 Rows.fnWalkToRow.domain false) (Rows.fnWalkToSpec.post enc Tryz.prog Tryz.f3 false true false false) := by
  refine returnsInHanded_of_change (C := Tryz.checked) own started (by kernel_rfl) Tryz.func3
    (ChangeSpec.witness6 (enc := enc) (C := Tryz.checked) false ⟨#[], #[.agg #[.string ByteArray.empty, .slice none 0 0, .bool false, .bool false, .bool false, .bool false, .bool false, .bool false], .int .u8 0], []⟩ 8 (by kernel_rfl) (by kernel_rfl) (by kernel_rfl) (by kernel_rfl)) ?_
  intro W base args ds gs before hval0 hW hcnd _
  have hval : ∀ (j : Nat) t v, Tryz.f3.params[j]? = some t → args[j]? = some v → Value.okWide Tryz.prog W .any base t v := hval0
  have hW' := hW
  obtain ⟨p, q, hA0, hV, rfl, hfz, hnd⟩ := hW
  have hA : DataW.TrodAll enc Tryz.prog W 0 (fun _ => true) true Tryz.f3.params.toList args.toList ds p := hA0
  rw [Tryz.params3] at hA hval
  obtain ⟨v0, vs0, d0, ds0, p0, q0, hargs, rfl, rfl, h0, r0⟩ := trodAll_cons hA
  obtain ⟨v1, vs1, d1, ds1, p1, q1, rfl, rfl, rfl, h1, r1⟩ := trodAll_cons r0
  obtain ⟨rfl, rfl, rfl⟩ := trodAll_nil r1
  obtain rfl : args = #[v0, v1] := by cases args; simp_all
  obtain ⟨rfl, rfl⟩ := trodVars_none hV
  have k0 := h0
  have lt0 : ∀ x ∈ p0, x.block < W.heap.size := by obtain ⟨m, hm⟩ := k0; exact DataW.trod_lt m _ _ _ hm
  have k1 := h1
  have lt1 : ∀ x ∈ p1, x.block < W.heap.size := by obtain ⟨m, hm⟩ := k1; exact DataW.trod_lt m _ _ _ hm
  obtain ⟨cs0, rfl, hsz0⟩ := okWide_struct Tryz.underlying26 (hval 0 26 v0 rfl rfl)
  obtain ⟨a1, rfl, _, _, w1⟩ := open_int Tryz.underlying5 (hval 1 5 v1 rfl rfl) h1
  obtain ⟨u1, u2⟩ := u8_wf w1
  obtain ⟨d, nm, x1, n1, m1, b0, b1, b2, b3, b4, b5, hcs, g1, g2, g3⟩ : ∃ (d : Nat) (nm : ByteArray) (x1 : Option Addr) (n1 m1 : Nat) (b0 b1 b2 b3 b4 b5 : Bool), cs0.toList = [.string nm, .slice x1 n1 m1, .bool b0, .bool b1, .bool b2, .bool b3, .bool b4, .bool b5] ∧ nm.size ≤ maxLen ∧ n1 ≤ maxLen ∧ SSs d W (.slice x1 n1 m1) n1 := by
    obtain ⟨fuel, hf⟩ := h0
    exact file_open hf
  obtain rfl : cs0 = #[.string nm, .slice x1 n1 m1, .bool b0, .bool b1, .bool b2, .bool b3, .bool b4, .bool b5] := by rw [← Array.toList_inj, hcs]
  obtain ⟨k, rfl⟩ : ∃ k : Nat, a1 = (k : Int) := ⟨a1.toNat, by omega⟩
  clear hA0 hval0
  refine (f3_any W d nm x1 n1 m1 b0 b1 b2 b3 b4 b5 k (by omega) g1 g2 g3).mono fun e W' ⟨he, bel⟩ => ?_
  subst he
  exact ⟨_, rfl, _, _, _, [], _, [], hW', trodAll_mk1 (shut_bool Tryz.underlying4 _), (trodAll_cons_mk (Below.trod laidOut (by kernel_rfl) (of_decide_eq_true (by kernel_rfl)) k0 bel lt0) (trodAll_cons_mk (Below.trod laidOut (by kernel_rfl) (of_decide_eq_true (by kernel_rfl)) k1 bel lt1) trodAll_mk0)), rfl, bel.frame _, fun h => by cases h⟩
theorem over : Rows.fnWalkToRow.holds Tryz.pinned (OpenSpec.ofChange Rows.fnWalkToSpec) :=
  OpenClaim.holds_of_wide 3 Tryz.f3 rfl rfl rfl rfl rfl rfl rfl ⟨rfl, rfl, rfl, rfl, rfl⟩ rfl rfl rfl rfl rfl (by kernel_rfl) Tryz.func3 (by kernel_rfl)
    (of_decide_eq_true (by kernel_rfl)) (by unfold Func.isWrapper; first | (rw [if_pos (by decide +kernel)]; kernel_rfl) | (rw [if_neg (by decide +kernel)]; exact ⟨rfl, rfl⟩))
    (fun os started H enc _ => lifted os started H enc)
/-- The statement. -/
theorem proved : Rows.FnWalkToSaid := over
#print axioms proved
end Go.Proofs.YtabeokminikfdaaGreat.fnWalkTo
