/-
  DERIVED. GIVEN WITH THE SEED: THE CARDS: each row of YtbehijhpichniaaDoorRows.lean that lists a variable, with what it lists TIED to the program's text (the seventh form; the later family's looks); each row that meets fmt, with fmt's text TOLD by the authors' own Lean function (tested against real Go, not proved from fmt's source: count such statements apart). THE CARD IS WHAT COUNTS. Prove the row's statement (the work); the ties are given (YtbehijhpichniaaDoorTie.lean); close each card by the builder's one call (the guide's Derived/Test/ToyasCard.lean, 'card_holds'). Laid BY PROGRAM, IN A SANDBOX (cutbox-door.mjs). By AI agents, Wed Nov 11 2026. No macro, syntax, notation, axiom, sorry.
-/
import Derived.Test.YtbehijhpichniaaDoorRows
import GoSem.ClaimSeven
namespace Go.Proofs.YtbehijhpichniaaDoor
namespace Rows

/-- THE TIED CARD OF 'laws.FnStepCue'. -/
def fnStepCueCard : Claim7 := { stood := { row := fnStepCueRow, standIns := [], harness := (true, "70ed548412652bb836024a397a3fc4448f51a5cc568202cc36c2ff59c6dc4c6f"), looks := false }, kinds := [], alts := [], laidByText := true, laidKinds := [.sentinel, .sentinel], laidTests := true, laidLooks := .later }
def FnStepCueCardSaid : Prop := Claim7.holds Tryd.pinned (.plain (OpenSpec.ofChange fnStepCueSpec)) fnStepCueCard

/-- THE SECOND FORM's CARD OF 'laws.FnStepCue'. -/
def fnStepCueUptoCard : Claim7 := { stood := { row := fnStepCueUptoRow, standIns := [], harness := (true, "70ed548412652bb836024a397a3fc4448f51a5cc568202cc36c2ff59c6dc4c6f"), looks := false }, kinds := [], alts := [], laidByText := true, laidKinds := [.sentinel, .sentinel], laidTests := true, laidLooks := .later }
def FnStepCueUptoCardSaid : Prop := Claim7.holds Tryd.pinned (.plain (OpenSpec.upto fnStepCueSpec)) fnStepCueUptoCard
end Rows
end Go.Proofs.YtbehijhpichniaaDoor
