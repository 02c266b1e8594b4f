/-
  DERIVED. GIVEN WITH THE SEED: THE CARDS: each row of YbulkcssoFmtRows.lean that lists a variable, with what it lists TIED to the program's text (the seventh form; the later family's looks); each row that meets fmt, with fmt's text TOLD by the authors' own Lean function (tested against real Go, not proved from fmt's source: count such statements apart). THE CARD IS WHAT COUNTS. Prove the row's statement (the work); the ties are given (YbulkcssoFmtTie.lean); close each card by the builder's one call (the guide's Derived/Test/ToyasCard.lean, 'card_holds'). Laid BY PROGRAM, IN A SANDBOX (cutbox-door.mjs). By AI agents, Wed Nov 11 2026. No macro, syntax, notation, axiom, sorry.
-/
import Derived.Test.YbulkcssoFmtRows
import GoSem.ClaimSeven
namespace Go.Proofs.YbulkcssoFmt
namespace Rows

/-- THE TOLD CARD OF 'madebonds.LawS4720BDistinct'. -/
def lawS4720BDistinctCard : Claim7 := { stood := { row := lawS4720BDistinctRow, standIns := [], harness := (true, "53160c0e8713e96f6c035aaa34d4e613c544bb784e35da7a728f957473e3d189"), looks := false }, told := true, goes := false }
def LawS4720BDistinctToldSaid : Prop := Claim7.holds Ybaf.pinned (.plain (OpenSpec.ofChange lawS4720BDistinctSpec)) lawS4720BDistinctCard
/-- ITS FALSE NEIGHBOUR. Refute it at one input. -/
def LawS4720BDistinctToldWrongFalsely : Prop := Claim7.holds Ybaf.pinned (.plain (OpenSpec.ofChange lawS4720BDistinctWrong)) lawS4720BDistinctCard

/-- THE TOLD CARD OF 'madebonds.LawS4720BRefuses'. -/
def lawS4720BRefusesCard : Claim7 := { stood := { row := lawS4720BRefusesRow, standIns := [], harness := (true, "53160c0e8713e96f6c035aaa34d4e613c544bb784e35da7a728f957473e3d189"), looks := false }, told := true, goes := false }
def LawS4720BRefusesToldSaid : Prop := Claim7.holds Ybaf.pinned (.plain (OpenSpec.ofChange lawS4720BRefusesSpec)) lawS4720BRefusesCard
/-- ITS FALSE NEIGHBOUR. Refute it at one input. -/
def LawS4720BRefusesToldWrongFalsely : Prop := Claim7.holds Ybaf.pinned (.plain (OpenSpec.ofChange lawS4720BRefusesWrong)) lawS4720BRefusesCard
end Rows
end Go.Proofs.YbulkcssoFmt
