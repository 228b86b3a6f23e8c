/-
  No cell of these rows narrows 'for every input' (looked for: loops, veiled, ifaces, maps, wideKeys, modest, calm, conditions, laid).
  DERIVED. THE GIVEN ROWS OF THIS SEAT. 5 by the template 'for every input the law returns true; each argument reads behind the call as it read before'; 0 by the template 'total and deterministic' (their statements: YthmflamghjgeeaaTotals.lean).
  GIVEN WITH THE SEED: the statements are not yours to turn. If you find one false, say at which input.
  Laid BY PROGRAM, IN A SANDBOX (cutbox-rows.mjs): the forced cells as the released guide's own fill.sh prints them over the translation fac06ea205ab3551… (all of the seat's roots in one cut). By AI agents, Wed Nov 11 2026. No macro, syntax, notation, axiom, sorry.
-/
import Derived.Test.YthmflamghjgeeaaChecked
import GoSem.Claim
import GoSem.ClaimJoined
import GoSem.ClaimMapViews
import Derived.JoinedTies
import Derived.KernelRfl
namespace Go.Proofs.Ythmflamghjgeeaa
/- THE CELL 'sum', in the pinned program and in every row, IS THE sha256 OF THE DUMP (.gsa) THAT YthmflamghjgeeaaProg.lean LOADS. Nothing in Lean hashes anything: it is a label: what it is worth is what the hold of that sum in a sandbox is worth. -/
noncomputable def Try.pinned : Pinned := { name := "ythmflamghjgeeaa", sum := "fac06ea205ab355124f9a44514da519f9c7976752f4397e07abaf5460674e078", checked := Try.checked }
namespace Rows
def none {H : Type} : Left H := { results := [], args := [] }

/-- 'laws.FnStringIndex': WHATEVER THE INPUT: true; the input reads as it did. -/
def fnStringIndexSpec : ChangeSpec := { name := "fnStringIndex", fn := fun _ => fun
  | [d1, d2] => { results := [.lit (.bool true)], args := [d1, d2] }
  | _ => none }
def fnStringIndexRow : OpenClaim := { program := "ythmflamghjgeeaa", sum := "fac06ea205ab355124f9a44514da519f9c7976752f4397e07abaf5460674e078", func := "given.example/pub-larkspur/laws.FnStringIndex", spec := "fnStringIndex", apart := false }
def FnStringIndexSaid : Prop := fnStringIndexRow.holds Try.pinned (OpenSpec.ofChange fnStringIndexSpec)

/-- ITS FALSE NEIGHBOUR: 'it returns false'. Refute it at one input. -/
def fnStringIndexWrong : ChangeSpec := { name := "fnStringIndex", fn := fun _ => fun
  | [d1, d2] => { results := [.lit (.bool false)], args := [d1, d2] }
  | _ => none }
def FnStringIndexWrongFalsely : Prop := fnStringIndexRow.holds Try.pinned (OpenSpec.ofChange fnStringIndexWrong)

/-- 'laws.FnRangeEqual': WHATEVER THE INPUT: true; the input reads as it did. -/
def fnRangeEqualSpec : ChangeSpec := { name := "fnRangeEqual", fn := fun _ => fun
  | [d1, d2] => { results := [.lit (.bool true)], args := [d1, d2] }
  | _ => none }
def fnRangeEqualRow : OpenClaim := { program := "ythmflamghjgeeaa", sum := "fac06ea205ab355124f9a44514da519f9c7976752f4397e07abaf5460674e078", func := "given.example/pub-larkspur/laws.FnRangeEqual", spec := "fnRangeEqual", apart := false }
def FnRangeEqualSaid : Prop := fnRangeEqualRow.holds Try.pinned (OpenSpec.ofChange fnRangeEqualSpec)

/-- ITS FALSE NEIGHBOUR: 'it returns false'. Refute it at one input. -/
def fnRangeEqualWrong : ChangeSpec := { name := "fnRangeEqual", fn := fun _ => fun
  | [d1, d2] => { results := [.lit (.bool false)], args := [d1, d2] }
  | _ => none }
def FnRangeEqualWrongFalsely : Prop := fnRangeEqualRow.holds Try.pinned (OpenSpec.ofChange fnRangeEqualWrong)

/-- 'laws.FnBytesCompare': WHATEVER THE INPUT: true; the input reads as it did. -/
def fnBytesCompareSpec : ChangeSpec := { name := "fnBytesCompare", fn := fun _ => fun
  | [d1, d2, d3] => { results := [.lit (.bool true)], args := [d1, d2, d3] }
  | _ => none }
def fnBytesCompareRow : OpenClaim := { program := "ythmflamghjgeeaa", sum := "fac06ea205ab355124f9a44514da519f9c7976752f4397e07abaf5460674e078", func := "given.example/pub-larkspur/laws.FnBytesCompare", spec := "fnBytesCompare", inPlace := ["internal/bytealg.abigen_runtime_cmpstring", "math.Float64frombits", "math.Float64bits"], recurses := true, apart := false }
def FnBytesCompareSaid : Prop := fnBytesCompareRow.holds Try.pinned (OpenSpec.ofChange fnBytesCompareSpec)

/-- ITS FALSE NEIGHBOUR: 'it returns false'. Refute it at one input. -/
def fnBytesCompareWrong : ChangeSpec := { name := "fnBytesCompare", fn := fun _ => fun
  | [d1, d2, d3] => { results := [.lit (.bool false)], args := [d1, d2, d3] }
  | _ => none }
def FnBytesCompareWrongFalsely : Prop := fnBytesCompareRow.holds Try.pinned (OpenSpec.ofChange fnBytesCompareWrong)

/-- 'laws.FnElems': WHATEVER THE INPUT: true; the input reads as it did. -/
def fnElemsSpec : ChangeSpec := { name := "fnElems", fn := fun _ => fun
  | [d] => { results := [.lit (.bool true)], args := [d] }
  | _ => none }
def fnElemsRow : OpenClaim := { program := "ythmflamghjgeeaa", sum := "fac06ea205ab355124f9a44514da519f9c7976752f4397e07abaf5460674e078", func := "given.example/pub-larkspur/laws.FnElems", spec := "fnElems", apart := false }
def FnElemsSaid : Prop := fnElemsRow.holds Try.pinned (OpenSpec.ofChange fnElemsSpec)

/-- ITS FALSE NEIGHBOUR: 'it returns false'. Refute it at one input. -/
def fnElemsWrong : ChangeSpec := { name := "fnElems", fn := fun _ => fun
  | [d] => { results := [.lit (.bool false)], args := [d] }
  | _ => none }
def FnElemsWrongFalsely : Prop := fnElemsRow.holds Try.pinned (OpenSpec.ofChange fnElemsWrong)

/-- 'laws.FnIntOfU64': WHATEVER THE INPUT: true; the input reads as it did. -/
def fnIntOfU64Spec : ChangeSpec := { name := "fnIntOfU64", fn := fun _ => fun
  | [d] => { results := [.lit (.bool true)], args := [d] }
  | _ => none }
def fnIntOfU64Row : OpenClaim := { program := "ythmflamghjgeeaa", sum := "fac06ea205ab355124f9a44514da519f9c7976752f4397e07abaf5460674e078", func := "given.example/pub-larkspur/laws.FnIntOfU64", spec := "fnIntOfU64", apart := false }
def FnIntOfU64Said : Prop := fnIntOfU64Row.holds Try.pinned (OpenSpec.ofChange fnIntOfU64Spec)

/-- ITS FALSE NEIGHBOUR: 'it returns false'. Refute it at one input. -/
def fnIntOfU64Wrong : ChangeSpec := { name := "fnIntOfU64", fn := fun _ => fun
  | [d] => { results := [.lit (.bool false)], args := [d] }
  | _ => none }
def FnIntOfU64WrongFalsely : Prop := fnIntOfU64Row.holds Try.pinned (OpenSpec.ofChange fnIntOfU64Wrong)

/- THE SECOND FORM. 'bulk': how many values and letters a reading holds, each counted each time it is reached (what is shared counts as often as it is met; a slice's spare places count too). A statement '..UptoSaid' is the law's where the arguments, and the package variables that the reading takes, are together of bulk at most 1048576: NARROWER than '..Said'. Prove '..Said' where nothing that the law and all that it calls make is longer than what came in: it says more and counts as full. Else prove '..UptoSaid'. A law counts once. -/
mutual
def uptoBulk {H : Type} : DataW H → Nat
  | .lit (.string bytes) => bytes.length + 1
  | .lit _ => 1
  | .nil => 1
  | .ptr d => uptoBulk d + 1
  | .slice elems spare => uptoBulkAll elems + uptoBulkAll spare + 1
  | .agg parts => uptoBulkAll parts + 1
  | .iface _ d => uptoBulk d + 1
  | .map entries => uptoBulkEntries entries + 1
  | .held _ => 1
def uptoBulkAll {H : Type} : List (DataW H) → Nat
  | [] => 0
  | d :: r => uptoBulk d + uptoBulkAll r
def uptoBulkEntries {H : Type} : List (Lit × DataW H) → Nat
  | [] => 0
  | x :: r => uptoBulkEntry x + uptoBulkEntries r
def uptoBulkEntry {H : Type} : Lit × DataW H → Nat
  | (.string bytes, d) => bytes.length + uptoBulk d + 1
  | (_, d) => uptoBulk d + 1
 end
def uptoSmall : (H : Type) → List (DataW H) → Bool := fun _ ds => decide (uptoBulkAll ds ≤ 1048576)
def OpenSpec.upto (s : _root_.Go.ChangeSpec) : _root_.Go.OpenSpec := { _root_.Go.OpenSpec.ofChange s with cond := some uptoSmall }

/-- 'laws.FnStringIndex', WHERE WHAT IT READS IS OF BULK AT MOST 1048576: true; the input reads as it did. -/
def fnStringIndexUptoRow : OpenClaim := { program := "ythmflamghjgeeaa", sum := "fac06ea205ab355124f9a44514da519f9c7976752f4397e07abaf5460674e078", func := "given.example/pub-larkspur/laws.FnStringIndex", spec := "fnStringIndex", apart := false, narrowed := true }
def FnStringIndexUptoSaid : Prop := fnStringIndexUptoRow.holds Try.pinned (OpenSpec.upto fnStringIndexSpec)

/-- 'laws.FnRangeEqual', WHERE WHAT IT READS IS OF BULK AT MOST 1048576: true; the input reads as it did. -/
def fnRangeEqualUptoRow : OpenClaim := { program := "ythmflamghjgeeaa", sum := "fac06ea205ab355124f9a44514da519f9c7976752f4397e07abaf5460674e078", func := "given.example/pub-larkspur/laws.FnRangeEqual", spec := "fnRangeEqual", apart := false, narrowed := true }
def FnRangeEqualUptoSaid : Prop := fnRangeEqualUptoRow.holds Try.pinned (OpenSpec.upto fnRangeEqualSpec)

/-- 'laws.FnBytesCompare', WHERE WHAT IT READS IS OF BULK AT MOST 1048576: true; the input reads as it did. -/
def fnBytesCompareUptoRow : OpenClaim := { program := "ythmflamghjgeeaa", sum := "fac06ea205ab355124f9a44514da519f9c7976752f4397e07abaf5460674e078", func := "given.example/pub-larkspur/laws.FnBytesCompare", spec := "fnBytesCompare", inPlace := ["internal/bytealg.abigen_runtime_cmpstring", "math.Float64frombits", "math.Float64bits"], recurses := true, apart := false, narrowed := true }
def FnBytesCompareUptoSaid : Prop := fnBytesCompareUptoRow.holds Try.pinned (OpenSpec.upto fnBytesCompareSpec)

/-- 'laws.FnElems', WHERE WHAT IT READS IS OF BULK AT MOST 1048576: true; the input reads as it did. -/
def fnElemsUptoRow : OpenClaim := { program := "ythmflamghjgeeaa", sum := "fac06ea205ab355124f9a44514da519f9c7976752f4397e07abaf5460674e078", func := "given.example/pub-larkspur/laws.FnElems", spec := "fnElems", apart := false, narrowed := true }
def FnElemsUptoSaid : Prop := fnElemsUptoRow.holds Try.pinned (OpenSpec.upto fnElemsSpec)

/-- 'laws.FnIntOfU64', WHERE WHAT IT READS IS OF BULK AT MOST 1048576: true; the input reads as it did. -/
def fnIntOfU64UptoRow : OpenClaim := { program := "ythmflamghjgeeaa", sum := "fac06ea205ab355124f9a44514da519f9c7976752f4397e07abaf5460674e078", func := "given.example/pub-larkspur/laws.FnIntOfU64", spec := "fnIntOfU64", apart := false, narrowed := true }
def FnIntOfU64UptoSaid : Prop := fnIntOfU64UptoRow.holds Try.pinned (OpenSpec.upto fnIntOfU64Spec)

end Rows
end Go.Proofs.Ythmflamghjgeeaa
