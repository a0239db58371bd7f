/-
  DERIVED. GIVEN WITH THE SEED: THE CARDS: each row of YtflppablgdegcaaGreatDoorRows.lean that lists a variable, with what it lists TIED to the program's text (the seventh form; the later family's looks); each row that meets fmt, with fmt's text TOLD by the authors' own Lean function (tested against real Go, not proved from fmt's source: count such statements apart). THE CARD IS WHAT COUNTS. Prove the row's statement (the work); the ties are given (YtflppablgdegcaaGreatDoorTie.lean); close each card by the builder's one call (the guide's Derived/Test/ToyasCard.lean, 'card_holds'). Laid BY PROGRAM, IN A SANDBOX (cutbox-door.mjs). By AI agents, Wed Nov 11 2026. No macro, syntax, notation, axiom, sorry.
-/
import Derived.Test.YtflppablgdegcaaGreatDoorRows
import GoSem.ClaimSeven
namespace Go.Proofs.YtflppablgdegcaaGreatDoor
namespace Rows

/-- THE TIED CARD OF 'laws.FnGrow'. -/
def fnGrowCard : Claim7 := { stood := { row := fnGrowRow, standIns := [], harness := (true, "76e6d52907818d44a82d0a77e429536a23b46cf9dac0955b57e62d5c07fb55a1"), looks := true }, kinds := [], alts := [], laidByText := true, laidKinds := [.data, .data, .widerDeep, .data, .data, .sentinel, .data, .data, .sentinel], laidTests := true, laidLooks := .later }
def FnGrowCardSaid : Prop := Claim7.holds Tryz.pinned (.plain (OpenSpec.ofChange fnGrowSpec)) fnGrowCard

/-- THE TIED CARD OF 'laws.FnNoNumber'. -/
def fnNoNumberCard : Claim7 := { stood := { row := fnNoNumberRow, standIns := [], harness := (true, "76e6d52907818d44a82d0a77e429536a23b46cf9dac0955b57e62d5c07fb55a1"), looks := true }, kinds := [], alts := [], laidByText := true, laidKinds := [.data, .data, .widerDeep, .data, .data, .sentinel, .sentinel, .data, .data, .sentinel], laidTests := true, laidLooks := .later }
def FnNoNumberCardSaid : Prop := Claim7.holds Tryz.pinned (.plain (OpenSpec.ofChange fnNoNumberSpec)) fnNoNumberCard

/-- THE SECOND FORM's CARD OF 'laws.FnGrow'. -/
def fnGrowUptoCard : Claim7 := { stood := { row := fnGrowUptoRow, standIns := [], harness := (true, "76e6d52907818d44a82d0a77e429536a23b46cf9dac0955b57e62d5c07fb55a1"), looks := true }, kinds := [], alts := [], laidByText := true, laidKinds := [.data, .data, .widerDeep, .data, .data, .sentinel, .data, .data, .sentinel], laidTests := true, laidLooks := .later }
def FnGrowUptoCardSaid : Prop := Claim7.holds Tryz.pinned (.plain (OpenSpec.upto fnGrowSpec)) fnGrowUptoCard

/-- THE SECOND FORM's CARD OF 'laws.FnNoNumber'. -/
def fnNoNumberUptoCard : Claim7 := { stood := { row := fnNoNumberUptoRow, standIns := [], harness := (true, "76e6d52907818d44a82d0a77e429536a23b46cf9dac0955b57e62d5c07fb55a1"), looks := true }, kinds := [], alts := [], laidByText := true, laidKinds := [.data, .data, .widerDeep, .data, .data, .sentinel, .sentinel, .data, .data, .sentinel], laidTests := true, laidLooks := .later }
def FnNoNumberUptoCardSaid : Prop := Claim7.holds Tryz.pinned (.plain (OpenSpec.upto fnNoNumberSpec)) fnNoNumberUptoCard
end Rows
end Go.Proofs.YtflppablgdegcaaGreatDoor
