/-
  laws.FnRangeEqual returns true at any two triples of numbers, and leaves its arguments as they were. No condition.
  (The frame follows the kit's proof-skeleton.mjs; printed by mkproof.py.)
-/
import Derived.Test.YthmflamghjgeeaaRows
import Derived.Test.YthmflamghjgeeaaReWalk
import Derived.WalkKit
import Derived.ProofKit
import Derived.OpenShut
import Derived.ShutString
import Derived.ChangeOld
import Derived.Below
import Derived.Lib.SmallJoins
import Derived.Laws.IdiomArrays
namespace Go.Proofs.Ythmflamghjgeeaa.fnRangeEqual
open Go.ChangeShapes Go.WideShapes Go.ChangeAt Go.RowKit
open Go.ChangeMaps (open_string shut_string)
set_option linter.unusedVariables false

theorem own : ownKnob Try.prog.godebug = none := by kernel_rfl
theorem laidOut : laidOutB Try.prog = true := by kernel_rfl

theorem okWide_array {P : Program} {w : World} {r : Reach} {base : Nat} {t n e : Nat} {v : Value} (ht : P.underlying t = some (.array n e)) (h : Value.okWide P w r base t v) : ∃ cs, v = .agg cs ∧ cs.size = P.cellsOf t := by
  simp only [Value.okWide, ht] at h
  obtain ⟨cs, h1, h2, _⟩ := h
  exact ⟨cs, h1, h2⟩

set_option maxRecDepth 100000 in
theorem lifted (os : Os) (started : os.Started) (H : Type) (enc : TypeId × Value → H) :
    ReturnsInHanded {} Try.checked os 4 .any (Rows.fnRangeEqualSpec.pre6 enc Try.prog Try.f4 Rows.fnRangeEqualRow.domain false) (Rows.fnRangeEqualSpec.post enc Try.prog Try.f4 false true false false) := by
  refine returnsInHanded_of_change (C := Try.checked) own started (by kernel_rfl) Try.func4
    (ChangeSpec.witness6 (enc := enc) (C := Try.checked) false ⟨#[], #[.agg #[.int .i64 0, .int .i64 0, .int .i64 0], .agg #[.int .i64 0, .int .i64 0, .int .i64 0]], []⟩ 8 (by kernel_rfl) (by kernel_rfl) (by kernel_rfl) (by kernel_rfl)) ?_
  intro W base args ds gs before hval0 hW hcnd _
  have hval : ∀ (j : Nat) t v, Try.f4.params[j]? = some t → args[j]? = some v → Value.okWide Try.prog W .any base t v := hval0
  have hW' := hW
  obtain ⟨p, q, hA0, hV, rfl, hfz, hnd⟩ := hW
  have hA : DataW.TrodAll enc Try.prog W 0 (fun _ => true) true Try.f4.params.toList args.toList ds p := hA0
  rw [Try.params4] at hA hval
  obtain ⟨v0, vs0, d0, ds0, p0, q0, hargs, rfl, rfl, h0, r0⟩ := trodAll_cons hA
  obtain ⟨v1, vs1, d1, ds1, p1, q1, rfl, rfl, rfl, h1, r1⟩ := trodAll_cons r0
  obtain ⟨rfl, rfl, rfl⟩ := trodAll_nil r1
  obtain rfl : args = #[v0, v1] := by cases args; simp_all
  obtain ⟨rfl, rfl⟩ := trodVars_none hV
  have k0 := h0
  have lt0 : ∀ x ∈ p0, x.block < W.heap.size := by obtain ⟨m, hm⟩ := k0; exact DataW.trod_lt m _ _ _ hm
  obtain ⟨cs0, rfl, hsz0⟩ := okWide_array Try.underlying24 (hval 0 24 v0 rfl rfl)
  obtain ⟨b00, b01, b02, rfl⟩ := Joins.array3 (hsz0.trans (by kernel_rfl))
  obtain ⟨a0x, a0y, a0z, rfl, rfl, rfl⟩ : ∃ x y z : Int, b00 = .int .i64 x ∧ b01 = .int .i64 y ∧ b02 = .int .i64 z := by
    obtain ⟨fuel, hf⟩ := h0
    obtain ⟨_, _, _, _, _, e0, e1, e2⟩ := trod_array3 Try.underlying24 (by kernel_rfl) (by simpa [Value.cells] using hf)
    obtain ⟨x, hx, _⟩ := DataW.trod_int Try.underlying3 e0
    obtain ⟨y, hy, _⟩ := DataW.trod_int Try.underlying3 e1
    obtain ⟨z, hz, _⟩ := DataW.trod_int Try.underlying3 e2
    simp only [List.cons.injEq, and_true] at hx hy hz
    exact ⟨x, y, z, hx, hy, hz⟩
  have k1 := h1
  have lt1 : ∀ x ∈ p1, x.block < W.heap.size := by obtain ⟨m, hm⟩ := k1; exact DataW.trod_lt m _ _ _ hm
  obtain ⟨cs1, rfl, hsz1⟩ := okWide_array Try.underlying24 (hval 1 24 v1 rfl rfl)
  obtain ⟨b10, b11, b12, rfl⟩ := Joins.array3 (hsz1.trans (by kernel_rfl))
  obtain ⟨a1x, a1y, a1z, rfl, rfl, rfl⟩ : ∃ x y z : Int, b10 = .int .i64 x ∧ b11 = .int .i64 y ∧ b12 = .int .i64 z := by
    obtain ⟨fuel, hf⟩ := h1
    obtain ⟨_, _, _, _, _, e0, e1, e2⟩ := trod_array3 Try.underlying24 (by kernel_rfl) (by simpa [Value.cells] using hf)
    obtain ⟨x, hx, _⟩ := DataW.trod_int Try.underlying3 e0
    obtain ⟨y, hy, _⟩ := DataW.trod_int Try.underlying3 e1
    obtain ⟨z, hz, _⟩ := DataW.trod_int Try.underlying3 e2
    simp only [List.cons.injEq, and_true] at hx hy hz
    exact ⟨x, y, z, hx, hy, hz⟩
  clear hA0 hval0
  refine (Re.f4_any a0x a0y a0z a1x a1y a1z W).mono fun e W' ⟨he, bel⟩ => ?_
  subst he
  exact ⟨_, rfl, _, _, _, [], _, [], hW', trodAll_mk1 (shut_bool Try.underlying4 _), (trodAll_cons_mk (Below.trod laidOut (by kernel_rfl) (of_decide_eq_true (by kernel_rfl)) k0 bel lt0) (trodAll_cons_mk (Below.trod laidOut (by kernel_rfl) (of_decide_eq_true (by kernel_rfl)) k1 bel lt1) trodAll_mk0)), rfl, bel.frame _, fun h => by cases h⟩

theorem over : Rows.fnRangeEqualRow.holds Try.pinned (OpenSpec.ofChange Rows.fnRangeEqualSpec) :=
  OpenClaim.holds_of_wide 4 Try.f4 rfl rfl rfl rfl rfl rfl rfl ⟨rfl, rfl, rfl, rfl, rfl⟩ rfl rfl rfl rfl rfl (by kernel_rfl) Try.func4 (by kernel_rfl)
    (of_decide_eq_true (by kernel_rfl)) (by unfold Func.isWrapper; first | (rw [if_pos (by decide +kernel)]; kernel_rfl) | (rw [if_neg (by decide +kernel)]; exact ⟨rfl, rfl⟩))
    (fun os started H enc _ => lifted os started H enc)

/-- The statement. -/
theorem proved : Rows.FnRangeEqualSaid := over
#print axioms proved
end Go.Proofs.Ythmflamghjgeeaa.fnRangeEqual
