/-
  DERIVED. GIVEN WITH THE SEED: THE CARDS: each row of YtgcofpmhojplhaaGreatDoorRows.lean that lists a variable, with what it lists TIED to the program's text (the seventh form; the later family's looks); each row that meets fmt, with fmt's text TOLD by the authors' own Lean function (tested against real Go, not proved from fmt's source: count such statements apart). THE CARD IS WHAT COUNTS. Prove the row's statement (the work); the ties are given (YtgcofpmhojplhaaGreatDoorTie.lean); close each card by the builder's one call (the guide's Derived/Test/ToyasCard.lean, 'card_holds'). Laid BY PROGRAM, IN A SANDBOX (cutbox-door.mjs). By AI agents, Wed Nov 11 2026. No macro, syntax, notation, axiom, sorry.
-/
import Derived.Test.YtgcofpmhojplhaaGreatDoorRows
import GoSem.ClaimSeven
namespace Go.Proofs.YtgcofpmhojplhaaGreatDoor
namespace Rows

/-- THE TIED CARD OF 'laws.FnTextStrip'. -/
def fnTextStripCard : Claim7 := { stood := { row := fnTextStripRow, standIns := [], harness := (true, "5ab19651cbe6b7c895a6cc883b79b25d6ae6f6419fa8879e7f0cc09b60d39694"), looks := true }, kinds := [], alts := [], laidByText := true, laidKinds := [.data, .pinned], laidTests := true, laidLooks := .later }
def FnTextStripCardSaid : Prop := Claim7.holds Tryz.pinned (.plain (OpenSpec.ofChange fnTextStripSpec)) fnTextStripCard

/-- THE TIED CARD OF 'laws.FnTextSplit'. -/
def fnTextSplitCard : Claim7 := { stood := { row := fnTextSplitRow, standIns := [], harness := (true, "5ab19651cbe6b7c895a6cc883b79b25d6ae6f6419fa8879e7f0cc09b60d39694"), looks := true }, kinds := [], alts := [], laidByText := true, laidKinds := [.data, .pinned], laidTests := true, laidLooks := .later }
def FnTextSplitCardSaid : Prop := Claim7.holds Tryz.pinned (.plain (OpenSpec.ofChange fnTextSplitSpec)) fnTextSplitCard

/-- THE SECOND FORM's CARD OF 'laws.FnTextStrip'. -/
def fnTextStripUptoCard : Claim7 := { stood := { row := fnTextStripUptoRow, standIns := [], harness := (true, "5ab19651cbe6b7c895a6cc883b79b25d6ae6f6419fa8879e7f0cc09b60d39694"), looks := true }, kinds := [], alts := [], laidByText := true, laidKinds := [.data, .pinned], laidTests := true, laidLooks := .later }
def FnTextStripUptoCardSaid : Prop := Claim7.holds Tryz.pinned (.plain (OpenSpec.upto fnTextStripSpec)) fnTextStripUptoCard

/-- THE SECOND FORM's CARD OF 'laws.FnTextSplit'. -/
def fnTextSplitUptoCard : Claim7 := { stood := { row := fnTextSplitUptoRow, standIns := [], harness := (true, "5ab19651cbe6b7c895a6cc883b79b25d6ae6f6419fa8879e7f0cc09b60d39694"), looks := true }, kinds := [], alts := [], laidByText := true, laidKinds := [.data, .pinned], laidTests := true, laidLooks := .later }
def FnTextSplitUptoCardSaid : Prop := Claim7.holds Tryz.pinned (.plain (OpenSpec.upto fnTextSplitSpec)) fnTextSplitUptoCard
end Rows
end Go.Proofs.YtgcofpmhojplhaaGreatDoor
