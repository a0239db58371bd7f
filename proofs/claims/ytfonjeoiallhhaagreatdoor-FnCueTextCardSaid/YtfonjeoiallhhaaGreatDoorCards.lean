/-
  DERIVED. GIVEN WITH THE SEED: THE CARDS: each row of YtfonjeoiallhhaaGreatDoorRows.lean that lists a variable, with what it lists TIED to the program's text (the seventh form; the later family's looks); each row that meets fmt, with fmt's text TOLD by the authors' own Lean function (tested against real Go, not proved from fmt's source: count such statements apart). THE CARD IS WHAT COUNTS. Prove the row's statement (the work); the ties are given (YtfonjeoiallhhaaGreatDoorTie.lean); close each card by the builder's one call (the guide's Derived/Test/ToyasCard.lean, 'card_holds'). Laid BY PROGRAM, IN A SANDBOX (cutbox-door.mjs). By AI agents, Wed Nov 11 2026. No macro, syntax, notation, axiom, sorry.
-/
import Derived.Test.YtfonjeoiallhhaaGreatDoorRows
import GoSem.ClaimSeven
namespace Go.Proofs.YtfonjeoiallhhaaGreatDoor
namespace Rows

/-- THE TIED CARD OF 'laws.FnArgs'. -/
def fnArgsCard : Claim7 := { stood := { row := fnArgsRow, standIns := [], harness := (true, "114864beb26c37fdc888932894c52f18c8d382e6e34cd83a3ecfc6e03f49b97f"), looks := false }, kinds := [], alts := [], laidByText := true, laidKinds := [.data, .data, .data, .data, .sentinel, .sentinel, .pinned, .pinned], laidTests := true, laidLooks := .later }
def FnArgsCardSaid : Prop := Claim7.holds Tryz.pinned (.plain (OpenSpec.ofChange fnArgsSpec)) fnArgsCard

/-- THE TIED CARD OF 'laws.FnCueText'. -/
def fnCueTextCard : Claim7 := { stood := { row := fnCueTextRow, standIns := [], harness := (true, "114864beb26c37fdc888932894c52f18c8d382e6e34cd83a3ecfc6e03f49b97f"), looks := false }, kinds := [], alts := [], laidByText := true, laidKinds := [.data, .data, .data, .data, .sentinel, .sentinel, .pinned, .pinned], laidTests := true, laidLooks := .later }
def FnCueTextCardSaid : Prop := Claim7.holds Tryz.pinned (.plain (OpenSpec.ofChange fnCueTextSpec)) fnCueTextCard

/-- THE SECOND FORM's CARD OF 'laws.FnArgs'. -/
def fnArgsUptoCard : Claim7 := { stood := { row := fnArgsUptoRow, standIns := [], harness := (true, "114864beb26c37fdc888932894c52f18c8d382e6e34cd83a3ecfc6e03f49b97f"), looks := false }, kinds := [], alts := [], laidByText := true, laidKinds := [.data, .data, .data, .data, .sentinel, .sentinel, .pinned, .pinned], laidTests := true, laidLooks := .later }
def FnArgsUptoCardSaid : Prop := Claim7.holds Tryz.pinned (.plain (OpenSpec.upto fnArgsSpec)) fnArgsUptoCard

/-- THE SECOND FORM's CARD OF 'laws.FnCueText'. -/
def fnCueTextUptoCard : Claim7 := { stood := { row := fnCueTextUptoRow, standIns := [], harness := (true, "114864beb26c37fdc888932894c52f18c8d382e6e34cd83a3ecfc6e03f49b97f"), looks := false }, kinds := [], alts := [], laidByText := true, laidKinds := [.data, .data, .data, .data, .sentinel, .sentinel, .pinned, .pinned], laidTests := true, laidLooks := .later }
def FnCueTextUptoCardSaid : Prop := Claim7.holds Tryz.pinned (.plain (OpenSpec.upto fnCueTextSpec)) fnCueTextUptoCard
end Rows
end Go.Proofs.YtfonjeoiallhhaaGreatDoor
