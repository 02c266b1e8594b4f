/-
  No cell of these rows narrows 'for every input' (looked for: loops, veiled, ifaces, maps, wideKeys, modest, calm, conditions, laid).
  DERIVED. THE GIVEN ROWS OF THIS SEAT. 1 by the template 'for every input the law returns true; each argument reads behind the call as it read before'; 0 by the template 'total and deterministic' (their statements: YbulkcsqyTotals.lean).
  GIVEN WITH THE SEED: the statements are not yours to turn. If you find one false, say at which input.
  Laid BY PROGRAM, IN A SANDBOX (cutbox-rows.mjs): the forced cells as the released guide's own fill.sh prints them over the translation b69db374478c558a… (all of the seat's roots in one cut). By AI agents, Wed Nov 11 2026. No macro, syntax, notation, axiom, sorry.
-/
import Derived.Test.YbulkcsqyChecked
import GoSem.Claim
import GoSem.ClaimJoined
import GoSem.ClaimMapViews
import Derived.JoinedTies
import Derived.KernelRfl
namespace Go.Proofs.Ybulkcsqy
/- THE CELL 'sum', in the pinned program and in every row, IS THE sha256 OF THE DUMP (.gsa) THAT YbulkcsqyProg.lean LOADS. Nothing in Lean hashes anything: it is a label: what it is worth is what the hold of that sum in a sandbox is worth. -/
noncomputable def Yba.pinned : Pinned := { name := "ybulkcsqy", sum := "b69db374478c558a8cb102d0e6fb4e25328797b10d2978c6b140c0f289aa00cc", checked := Yba.checked }
namespace Rows
def none {H : Type} : Left H := { results := [], args := [] }

/-- 'book.LawS4717BPost': WHATEVER THE INPUT: true; the input reads as it did. -/
def lawS4717BPostSpec : ChangeSpec := { name := "lawS4717BPost", fn := fun _ => fun
  | [d1, d2, d3, d4, d5, d6] => { results := [.lit (.bool true)], args := [d1, d2, d3, d4, d5, d6] }
  | _ => none }
def lawS4717BPostRow : OpenClaim := { program := "ybulkcsqy", sum := "b69db374478c558a8cb102d0e6fb4e25328797b10d2978c6b140c0f289aa00cc", func := "example.com/ledgerward/ledgerward/book.LawS4717BPost", spec := "lawS4717BPost", apart := false }
def LawS4717BPostSaid : Prop := lawS4717BPostRow.holds Yba.pinned (OpenSpec.ofChange lawS4717BPostSpec)

/-- ITS FALSE NEIGHBOUR: 'it returns false'. Refute it at one input. -/
def lawS4717BPostWrong : ChangeSpec := { name := "lawS4717BPost", fn := fun _ => fun
  | [d1, d2, d3, d4, d5, d6] => { results := [.lit (.bool false)], args := [d1, d2, d3, d4, d5, d6] }
  | _ => none }
def LawS4717BPostWrongFalsely : Prop := lawS4717BPostRow.holds Yba.pinned (OpenSpec.ofChange lawS4717BPostWrong)

end Rows
end Go.Proofs.Ybulkcsqy
