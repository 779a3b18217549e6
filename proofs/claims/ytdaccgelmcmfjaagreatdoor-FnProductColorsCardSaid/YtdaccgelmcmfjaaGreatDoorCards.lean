/-
  DERIVED. GIVEN WITH THE SEED: THE CARDS: each row of YtdaccgelmcmfjaaGreatDoorRows.lean that lists a variable, with what it lists TIED to the program's text (the seventh form; the later family's looks); each row that meets fmt, with fmt's text TOLD by the authors' own Lean function (tested against real Go, not proved from fmt's source: count such statements apart). THE CARD IS WHAT COUNTS. Prove the row's statement (the work); the ties are given (YtdaccgelmcmfjaaGreatDoorTie.lean); close each card by the builder's one call (the guide's Derived/Test/ToyasCard.lean, 'card_holds'). Laid BY PROGRAM, IN A SANDBOX (cutbox-door.mjs). By AI agents, Wed Nov 11 2026. No macro, syntax, notation, axiom, sorry.
-/
import Derived.Test.YtdaccgelmcmfjaaGreatDoorRows
import GoSem.ClaimSeven
namespace Go.Proofs.YtdaccgelmcmfjaaGreatDoor
namespace Rows

/-- THE TIED CARD OF 'laws.FnProductColors'. -/
def fnProductColorsCard : Claim7 := { stood := { row := fnProductColorsRow, standIns := [], harness := (true, "2d16c88e0d5fed6f3de1bfbdee51e81c28a209b5416de587d7c79deb41037799"), looks := true }, kinds := [], alts := [], laidByText := true, laidKinds := [.sentinel], laidTests := true, laidLooks := .later }
def FnProductColorsCardSaid : Prop := Claim7.holds Tryz.pinned (.plain (OpenSpec.ofChange fnProductColorsSpec)) fnProductColorsCard

/-- THE SECOND FORM's CARD OF 'laws.FnProductColors'. -/
def fnProductColorsUptoCard : Claim7 := { stood := { row := fnProductColorsUptoRow, standIns := [], harness := (true, "2d16c88e0d5fed6f3de1bfbdee51e81c28a209b5416de587d7c79deb41037799"), looks := true }, kinds := [], alts := [], laidByText := true, laidKinds := [.sentinel], laidTests := true, laidLooks := .later }
def FnProductColorsUptoCardSaid : Prop := Claim7.holds Tryz.pinned (.plain (OpenSpec.upto fnProductColorsSpec)) fnProductColorsUptoCard
end Rows
end Go.Proofs.YtdaccgelmcmfjaaGreatDoor
