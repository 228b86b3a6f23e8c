/-
  DERIVED. GIVEN WITH THE SEED: THE CARDS: each row of YtllgogkjcbdpkaaGreatDoorRows.lean that lists a variable, with what it lists TIED to the program's text (the seventh form; the later family's looks); each row that meets fmt, with fmt's text TOLD by the authors' own Lean function (tested against real Go, not proved from fmt's source: count such statements apart). THE CARD IS WHAT COUNTS. Prove the row's statement (the work); the ties are given (YtllgogkjcbdpkaaGreatDoorTie.lean); close each card by the builder's one call (the guide's Derived/Test/ToyasCard.lean, 'card_holds'). Laid BY PROGRAM, IN A SANDBOX (cutbox-door.mjs). By AI agents, Wed Nov 11 2026. No macro, syntax, notation, axiom, sorry.
-/
import Derived.Test.YtllgogkjcbdpkaaGreatDoorRows
import GoSem.ClaimSeven
namespace Go.Proofs.YtllgogkjcbdpkaaGreatDoor
namespace Rows

/-- THE TIED CARD OF 'laws.FnNumberHash'. -/
def fnNumberHashCard : Claim7 := { stood := { row := fnNumberHashRow, standIns := [], harness := (true, "995d80ec92b64f5bd7509961c3b3a50c10e9e4662265eeea3cc745ed8b98c051"), looks := false }, kinds := [], alts := [], laidByText := true, laidKinds := [.data, .data, .data, .data], laidTests := true, laidLooks := .later }
def FnNumberHashCardSaid : Prop := Claim7.holds Tryz.pinned (.plain (OpenSpec.ofChange fnNumberHashSpec)) fnNumberHashCard

/-- THE SECOND FORM's CARD OF 'laws.FnNumberHash'. -/
def fnNumberHashUptoCard : Claim7 := { stood := { row := fnNumberHashUptoRow, standIns := [], harness := (true, "995d80ec92b64f5bd7509961c3b3a50c10e9e4662265eeea3cc745ed8b98c051"), looks := false }, kinds := [], alts := [], laidByText := true, laidKinds := [.data, .data, .data, .data], laidTests := true, laidLooks := .later }
def FnNumberHashUptoCardSaid : Prop := Claim7.holds Tryz.pinned (.plain (OpenSpec.upto fnNumberHashSpec)) fnNumberHashUptoCard
end Rows
end Go.Proofs.YtllgogkjcbdpkaaGreatDoor
