/-
  DERIVED. GIVEN WITH THE SEED: THE CARDS: each row of YtkddkmiomhadaaaDoorRows.lean that lists a variable, with what it lists TIED to the program's text (the seventh form; the later family's looks); each row that meets fmt, with fmt's text TOLD by the authors' own Lean function (tested against real Go, not proved from fmt's source: count such statements apart). THE CARD IS WHAT COUNTS. Prove the row's statement (the work); the ties are given (YtkddkmiomhadaaaDoorTie.lean); close each card by the builder's one call (the guide's Derived/Test/ToyasCard.lean, 'card_holds'). Laid BY PROGRAM, IN A SANDBOX (cutbox-door.mjs). By AI agents, Wed Nov 11 2026. No macro, syntax, notation, axiom, sorry.
-/
import Derived.Test.YtkddkmiomhadaaaDoorRows
import GoSem.ClaimSeven
namespace Go.Proofs.YtkddkmiomhadaaaDoor
namespace Rows

/-- THE TIED CARD OF 'laws.FnMasterText'. -/
def fnMasterTextCard : Claim7 := { stood := { row := fnMasterTextRow, standIns := [], harness := (true, "c9e3b89a9e286f036de21f38441850e4983d5fcecbeb34985d5ca08953f55817"), looks := false }, kinds := [], alts := [], laidByText := true, laidKinds := [.data, .data, .data, .data, .sentinel, .pinned, .pinned], laidTests := true, laidLooks := .later }
def FnMasterTextCardSaid : Prop := Claim7.holds Tryd.pinned (.plain (OpenSpec.ofChange fnMasterTextSpec)) fnMasterTextCard

/-- THE SECOND FORM's CARD OF 'laws.FnMasterText'. -/
def fnMasterTextUptoCard : Claim7 := { stood := { row := fnMasterTextUptoRow, standIns := [], harness := (true, "c9e3b89a9e286f036de21f38441850e4983d5fcecbeb34985d5ca08953f55817"), looks := false }, kinds := [], alts := [], laidByText := true, laidKinds := [.data, .data, .data, .data, .sentinel, .pinned, .pinned], laidTests := true, laidLooks := .later }
def FnMasterTextUptoCardSaid : Prop := Claim7.holds Tryd.pinned (.plain (OpenSpec.upto fnMasterTextSpec)) fnMasterTextUptoCard
end Rows
end Go.Proofs.YtkddkmiomhadaaaDoor
