/-
  DERIVED. GIVEN WITH THE SEED: THE CARDS: each row of YbulkcspwDoorRows.lean that lists a variable, with what it lists TIED to the program's text (the seventh form; the later family's looks); each row that meets fmt, with fmt's text TOLD by the authors' own Lean function (tested against real Go, not proved from fmt's source: count such statements apart). THE CARD IS WHAT COUNTS. Prove the row's statement (the work); the ties are given (YbulkcspwDoorTie.lean); close each card by the builder's one call (the guide's Derived/Test/ToyasCard.lean, 'card_holds'). Laid BY PROGRAM, IN A SANDBOX (cutbox-door.mjs). By AI agents, Wed Nov 11 2026. No macro, syntax, notation, axiom, sorry.
-/
import Derived.Test.YbulkcspwDoorRows
import GoSem.ClaimSeven
namespace Go.Proofs.YbulkcspwDoor
namespace Rows

/-- THE TIED CARD OF 'ordjson.LawS4715AModel'. -/
def lawS4715AModelCard : Claim7 := { stood := { row := lawS4715AModelRow, standIns := [], harness := (true, "d841b466b6897e0a062deb82bfdb1e15326b839185ec00472d81187a3bee8f2a"), looks := false }, kinds := [], alts := [], laidByText := true, laidKinds := [.data, .pinned], laidTests := true, laidLooks := .later }
def LawS4715AModelCardSaid : Prop := Claim7.holds Ybad.pinned (.plain (OpenSpec.ofChange lawS4715AModelSpec)) lawS4715AModelCard

/-- THE TIED CARD OF 'ordjson.LawS4715APieces'. -/
def lawS4715APiecesCard : Claim7 := { stood := { row := lawS4715APiecesRow, standIns := [], harness := (true, "d841b466b6897e0a062deb82bfdb1e15326b839185ec00472d81187a3bee8f2a"), looks := false }, kinds := [], alts := [], laidByText := true, laidKinds := [.data, .pinned], laidTests := true, laidLooks := .later }
def LawS4715APiecesCardSaid : Prop := Claim7.holds Ybad.pinned (.plain (OpenSpec.ofChange lawS4715APiecesSpec)) lawS4715APiecesCard

/-- THE TIED CARD OF 'reassemble.LawS4715CFilter'. -/
def lawS4715CFilterCard : Claim7 := { stood := { row := lawS4715CFilterRow, standIns := [], harness := (true, "d841b466b6897e0a062deb82bfdb1e15326b839185ec00472d81187a3bee8f2a"), looks := false }, kinds := [], alts := [], laidByText := true, laidKinds := [.widerDeep], laidTests := true, laidLooks := .later }
def LawS4715CFilterCardSaid : Prop := Claim7.holds Ybad.pinned (.plain (OpenSpec.ofChange lawS4715CFilterSpec)) lawS4715CFilterCard
end Rows
end Go.Proofs.YbulkcspwDoor
