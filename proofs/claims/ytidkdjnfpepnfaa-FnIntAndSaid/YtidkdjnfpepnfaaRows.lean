/-
  No cell of these rows narrows 'for every input' (looked for: loops, veiled, ifaces, maps, wideKeys, modest, calm, conditions, laid).
  DERIVED. THE GIVEN ROWS OF THIS SEAT. 5 by the template 'for every input the law returns true; each argument reads behind the call as it read before'; 0 by the template 'total and deterministic' (their statements: YtidkdjnfpepnfaaTotals.lean).
  GIVEN WITH THE SEED: the statements are not yours to turn. If you find one false, say at which input.
  Laid BY PROGRAM, IN A SANDBOX (cutbox-rows.mjs): the forced cells as the released guide's own fill.sh prints them over the translation b86d743aa0b43616… (all of the seat's roots in one cut). By AI agents, Wed Nov 11 2026. No macro, syntax, notation, axiom, sorry.
-/
import Derived.Test.YtidkdjnfpepnfaaChecked
import GoSem.Claim
import GoSem.ClaimJoined
import GoSem.ClaimMapViews
import Derived.JoinedTies
import Derived.KernelRfl
namespace Go.Proofs.Ytidkdjnfpepnfaa
/- THE CELL 'sum', in the pinned program and in every row, IS THE sha256 OF THE DUMP (.gsa) THAT YtidkdjnfpepnfaaProg.lean LOADS. Nothing in Lean hashes anything: it is a label: what it is worth is what the hold of that sum in a sandbox is worth. -/
noncomputable def Try.pinned : Pinned := { name := "ytidkdjnfpepnfaa", sum := "b86d743aa0b4361638a5026933e47e7b2ed2b861f586b1e171799f0477772162", checked := Try.checked }
namespace Rows
def none {H : Type} : Left H := { results := [], args := [] }

/-- 'laws.FnIntOfU64': WHATEVER THE INPUT: true; the input reads as it did. -/
def fnIntOfU64Spec : ChangeSpec := { name := "fnIntOfU64", fn := fun _ => fun
  | [d] => { results := [.lit (.bool true)], args := [d] }
  | _ => none }
def fnIntOfU64Row : OpenClaim := { program := "ytidkdjnfpepnfaa", sum := "b86d743aa0b4361638a5026933e47e7b2ed2b861f586b1e171799f0477772162", func := "given.example/pub-larkspur/laws.FnIntOfU64", spec := "fnIntOfU64", apart := false }
def FnIntOfU64Said : Prop := fnIntOfU64Row.holds Try.pinned (OpenSpec.ofChange fnIntOfU64Spec)

/-- ITS FALSE NEIGHBOUR: 'it returns false'. Refute it at one input. -/
def fnIntOfU64Wrong : ChangeSpec := { name := "fnIntOfU64", fn := fun _ => fun
  | [d] => { results := [.lit (.bool false)], args := [d] }
  | _ => none }
def FnIntOfU64WrongFalsely : Prop := fnIntOfU64Row.holds Try.pinned (OpenSpec.ofChange fnIntOfU64Wrong)

/-- 'laws.FnIntBack': WHATEVER THE INPUT: true; the input reads as it did. -/
def fnIntBackSpec : ChangeSpec := { name := "fnIntBack", fn := fun _ => fun
  | [d1, d2] => { results := [.lit (.bool true)], args := [d1, d2] }
  | _ => none }
def fnIntBackRow : OpenClaim := { program := "ytidkdjnfpepnfaa", sum := "b86d743aa0b4361638a5026933e47e7b2ed2b861f586b1e171799f0477772162", func := "given.example/pub-larkspur/laws.FnIntBack", spec := "fnIntBack", apart := false }
def FnIntBackSaid : Prop := fnIntBackRow.holds Try.pinned (OpenSpec.ofChange fnIntBackSpec)

/-- ITS FALSE NEIGHBOUR: 'it returns false'. Refute it at one input. -/
def fnIntBackWrong : ChangeSpec := { name := "fnIntBack", fn := fun _ => fun
  | [d1, d2] => { results := [.lit (.bool false)], args := [d1, d2] }
  | _ => none }
def FnIntBackWrongFalsely : Prop := fnIntBackRow.holds Try.pinned (OpenSpec.ofChange fnIntBackWrong)

/-- 'laws.FnIntLsh': WHATEVER THE INPUT: true; the input reads as it did. -/
def fnIntLshSpec : ChangeSpec := { name := "fnIntLsh", fn := fun _ => fun
  | [d1, d2, d3] => { results := [.lit (.bool true)], args := [d1, d2, d3] }
  | _ => none }
def fnIntLshRow : OpenClaim := { program := "ytidkdjnfpepnfaa", sum := "b86d743aa0b4361638a5026933e47e7b2ed2b861f586b1e171799f0477772162", func := "given.example/pub-larkspur/laws.FnIntLsh", spec := "fnIntLsh", apart := false }
def FnIntLshSaid : Prop := fnIntLshRow.holds Try.pinned (OpenSpec.ofChange fnIntLshSpec)

/-- ITS FALSE NEIGHBOUR: 'it returns false'. Refute it at one input. -/
def fnIntLshWrong : ChangeSpec := { name := "fnIntLsh", fn := fun _ => fun
  | [d1, d2, d3] => { results := [.lit (.bool false)], args := [d1, d2, d3] }
  | _ => none }
def FnIntLshWrongFalsely : Prop := fnIntLshRow.holds Try.pinned (OpenSpec.ofChange fnIntLshWrong)

/-- 'laws.FnIntSub': WHATEVER THE INPUT: true; the input reads as it did. -/
def fnIntSubSpec : ChangeSpec := { name := "fnIntSub", fn := fun _ => fun
  | [d1, d2, d3, d4] => { results := [.lit (.bool true)], args := [d1, d2, d3, d4] }
  | _ => none }
def fnIntSubRow : OpenClaim := { program := "ytidkdjnfpepnfaa", sum := "b86d743aa0b4361638a5026933e47e7b2ed2b861f586b1e171799f0477772162", func := "given.example/pub-larkspur/laws.FnIntSub", spec := "fnIntSub", inPlace := ["math/bits.Add64", "math/bits.Sub64"], recurses := true, apart := false }
def FnIntSubSaid : Prop := fnIntSubRow.holds Try.pinned (OpenSpec.ofChange fnIntSubSpec)

/-- ITS FALSE NEIGHBOUR: 'it returns false'. Refute it at one input. -/
def fnIntSubWrong : ChangeSpec := { name := "fnIntSub", fn := fun _ => fun
  | [d1, d2, d3, d4] => { results := [.lit (.bool false)], args := [d1, d2, d3, d4] }
  | _ => none }
def FnIntSubWrongFalsely : Prop := fnIntSubRow.holds Try.pinned (OpenSpec.ofChange fnIntSubWrong)

/-- 'laws.FnIntAnd': WHATEVER THE INPUT: true; the input reads as it did. -/
def fnIntAndSpec : ChangeSpec := { name := "fnIntAnd", fn := fun _ => fun
  | [d1, d2, d3, d4] => { results := [.lit (.bool true)], args := [d1, d2, d3, d4] }
  | _ => none }
def fnIntAndRow : OpenClaim := { program := "ytidkdjnfpepnfaa", sum := "b86d743aa0b4361638a5026933e47e7b2ed2b861f586b1e171799f0477772162", func := "given.example/pub-larkspur/laws.FnIntAnd", spec := "fnIntAnd", inPlace := ["math/bits.Sub64", "math/bits.Add64"], recurses := true, apart := false }
def FnIntAndSaid : Prop := fnIntAndRow.holds Try.pinned (OpenSpec.ofChange fnIntAndSpec)

/-- ITS FALSE NEIGHBOUR: 'it returns false'. Refute it at one input. -/
def fnIntAndWrong : ChangeSpec := { name := "fnIntAnd", fn := fun _ => fun
  | [d1, d2, d3, d4] => { results := [.lit (.bool false)], args := [d1, d2, d3, d4] }
  | _ => none }
def FnIntAndWrongFalsely : Prop := fnIntAndRow.holds Try.pinned (OpenSpec.ofChange fnIntAndWrong)

/- THE SECOND FORM. 'bulk': how many values and letters a reading holds, each counted each time it is reached (what is shared counts as often as it is met; a slice's spare places count too). A statement '..UptoSaid' is the law's where the arguments, and the package variables that the reading takes, are together of bulk at most 1048576: NARROWER than '..Said'. Prove '..Said' where nothing that the law and all that it calls make is longer than what came in: it says more and counts as full. Else prove '..UptoSaid'. A law counts once. -/
mutual
def uptoBulk {H : Type} : DataW H → Nat
  | .lit (.string bytes) => bytes.length + 1
  | .lit _ => 1
  | .nil => 1
  | .ptr d => uptoBulk d + 1
  | .slice elems spare => uptoBulkAll elems + uptoBulkAll spare + 1
  | .agg parts => uptoBulkAll parts + 1
  | .iface _ d => uptoBulk d + 1
  | .map entries => uptoBulkEntries entries + 1
  | .held _ => 1
def uptoBulkAll {H : Type} : List (DataW H) → Nat
  | [] => 0
  | d :: r => uptoBulk d + uptoBulkAll r
def uptoBulkEntries {H : Type} : List (Lit × DataW H) → Nat
  | [] => 0
  | x :: r => uptoBulkEntry x + uptoBulkEntries r
def uptoBulkEntry {H : Type} : Lit × DataW H → Nat
  | (.string bytes, d) => bytes.length + uptoBulk d + 1
  | (_, d) => uptoBulk d + 1
 end
def uptoSmall : (H : Type) → List (DataW H) → Bool := fun _ ds => decide (uptoBulkAll ds ≤ 1048576)
def OpenSpec.upto (s : _root_.Go.ChangeSpec) : _root_.Go.OpenSpec := { _root_.Go.OpenSpec.ofChange s with cond := some uptoSmall }

/-- 'laws.FnIntOfU64', WHERE WHAT IT READS IS OF BULK AT MOST 1048576: true; the input reads as it did. -/
def fnIntOfU64UptoRow : OpenClaim := { program := "ytidkdjnfpepnfaa", sum := "b86d743aa0b4361638a5026933e47e7b2ed2b861f586b1e171799f0477772162", func := "given.example/pub-larkspur/laws.FnIntOfU64", spec := "fnIntOfU64", apart := false, narrowed := true }
def FnIntOfU64UptoSaid : Prop := fnIntOfU64UptoRow.holds Try.pinned (OpenSpec.upto fnIntOfU64Spec)

/-- 'laws.FnIntBack', WHERE WHAT IT READS IS OF BULK AT MOST 1048576: true; the input reads as it did. -/
def fnIntBackUptoRow : OpenClaim := { program := "ytidkdjnfpepnfaa", sum := "b86d743aa0b4361638a5026933e47e7b2ed2b861f586b1e171799f0477772162", func := "given.example/pub-larkspur/laws.FnIntBack", spec := "fnIntBack", apart := false, narrowed := true }
def FnIntBackUptoSaid : Prop := fnIntBackUptoRow.holds Try.pinned (OpenSpec.upto fnIntBackSpec)

/-- 'laws.FnIntLsh', WHERE WHAT IT READS IS OF BULK AT MOST 1048576: true; the input reads as it did. -/
def fnIntLshUptoRow : OpenClaim := { program := "ytidkdjnfpepnfaa", sum := "b86d743aa0b4361638a5026933e47e7b2ed2b861f586b1e171799f0477772162", func := "given.example/pub-larkspur/laws.FnIntLsh", spec := "fnIntLsh", apart := false, narrowed := true }
def FnIntLshUptoSaid : Prop := fnIntLshUptoRow.holds Try.pinned (OpenSpec.upto fnIntLshSpec)

/-- 'laws.FnIntSub', WHERE WHAT IT READS IS OF BULK AT MOST 1048576: true; the input reads as it did. -/
def fnIntSubUptoRow : OpenClaim := { program := "ytidkdjnfpepnfaa", sum := "b86d743aa0b4361638a5026933e47e7b2ed2b861f586b1e171799f0477772162", func := "given.example/pub-larkspur/laws.FnIntSub", spec := "fnIntSub", inPlace := ["math/bits.Add64", "math/bits.Sub64"], recurses := true, apart := false, narrowed := true }
def FnIntSubUptoSaid : Prop := fnIntSubUptoRow.holds Try.pinned (OpenSpec.upto fnIntSubSpec)

/-- 'laws.FnIntAnd', WHERE WHAT IT READS IS OF BULK AT MOST 1048576: true; the input reads as it did. -/
def fnIntAndUptoRow : OpenClaim := { program := "ytidkdjnfpepnfaa", sum := "b86d743aa0b4361638a5026933e47e7b2ed2b861f586b1e171799f0477772162", func := "given.example/pub-larkspur/laws.FnIntAnd", spec := "fnIntAnd", inPlace := ["math/bits.Sub64", "math/bits.Add64"], recurses := true, apart := false, narrowed := true }
def FnIntAndUptoSaid : Prop := fnIntAndUptoRow.holds Try.pinned (OpenSpec.upto fnIntAndSpec)

end Rows
end Go.Proofs.Ytidkdjnfpepnfaa
