/-
  DERIVED. GIVEN WITH THE SEED: THE CARDS: each row of YtbimbpplkhdeiaaDoorRows.lean that lists a variable, with what it lists TIED to the program's text (the seventh form; the later family's looks); each row that meets fmt, with fmt's text TOLD by the authors' own Lean function (tested against real Go, not proved from fmt's source: count such statements apart). THE CARD IS WHAT COUNTS. Prove the row's statement (the work); the ties are given (YtbimbpplkhdeiaaDoorTie.lean); close each card by the builder's one call (the guide's Derived/Test/ToyasCard.lean, 'card_holds'). Laid BY PROGRAM, IN A SANDBOX (cutbox-door.mjs). By AI agents, Wed Nov 11 2026. No macro, syntax, notation, axiom, sorry.
-/
import Derived.Test.YtbimbpplkhdeiaaDoorRows
import GoSem.ClaimSeven
namespace Go.Proofs.YtbimbpplkhdeiaaDoor
namespace Rows

/-- THE TIED CARD OF 'laws.FnStringText'. -/
def fnStringTextCard : Claim7 := { stood := { row := fnStringTextRow, standIns := [], harness := (true, "2d7da2daab8ee315fd3612affe3ef59ca0212baf7554f5c3d4c9eb4df5d9a95e"), looks := true }, kinds := [], alts := [], laidByText := true, laidKinds := [.data, .pinned, .pinned, .pinned, .pinned, .pinned], laidTests := true, laidLooks := .later }
def FnStringTextCardSaid : Prop := Claim7.holds Tryd.pinned (.plain (OpenSpec.ofChange fnStringTextSpec)) fnStringTextCard

/-- THE TIED CARD OF 'laws.FnOrd'. -/
def fnOrdCard : Claim7 := { stood := { row := fnOrdRow, standIns := [], harness := (true, "2d7da2daab8ee315fd3612affe3ef59ca0212baf7554f5c3d4c9eb4df5d9a95e"), looks := true }, kinds := [], alts := [], laidByText := true, laidKinds := [.data, .pinned], laidTests := true, laidLooks := .later }
def FnOrdCardSaid : Prop := Claim7.holds Tryd.pinned (.plain (OpenSpec.ofChange fnOrdSpec)) fnOrdCard

/-- THE SECOND FORM's CARD OF 'laws.FnStringText'. -/
def fnStringTextUptoCard : Claim7 := { stood := { row := fnStringTextUptoRow, standIns := [], harness := (true, "2d7da2daab8ee315fd3612affe3ef59ca0212baf7554f5c3d4c9eb4df5d9a95e"), looks := true }, kinds := [], alts := [], laidByText := true, laidKinds := [.data, .pinned, .pinned, .pinned, .pinned, .pinned], laidTests := true, laidLooks := .later }
def FnStringTextUptoCardSaid : Prop := Claim7.holds Tryd.pinned (.plain (OpenSpec.upto fnStringTextSpec)) fnStringTextUptoCard

/-- THE SECOND FORM's CARD OF 'laws.FnOrd'. -/
def fnOrdUptoCard : Claim7 := { stood := { row := fnOrdUptoRow, standIns := [], harness := (true, "2d7da2daab8ee315fd3612affe3ef59ca0212baf7554f5c3d4c9eb4df5d9a95e"), looks := true }, kinds := [], alts := [], laidByText := true, laidKinds := [.data, .pinned], laidTests := true, laidLooks := .later }
def FnOrdUptoCardSaid : Prop := Claim7.holds Tryd.pinned (.plain (OpenSpec.upto fnOrdSpec)) fnOrdUptoCard
end Rows
end Go.Proofs.YtbimbpplkhdeiaaDoor
