/-
  No cell of these rows narrows 'for every input' (looked for: loops, veiled, ifaces, maps, wideKeys, modest, calm, conditions, laid).
  DERIVED. THE GIVEN ROWS OF THIS SEAT. 2 by the template 'for every input the law returns true; each argument reads behind the call as it read before'; 0 by the template 'total and deterministic' (their statements: YbulkcssoFmtTotals.lean).
  GIVEN WITH THE SEED: the statements are not yours to turn. If you find one false, say at which input.
  Laid BY PROGRAM, IN A SANDBOX (cutbox-rows.mjs): the forced cells as the released guide's own fill.sh prints them over the translation 8f1cbb6784243fd7… (all of the seat's roots in one cut). By AI agents, Wed Nov 11 2026. No macro, syntax, notation, axiom, sorry.
-/
import Derived.Test.YbulkcssoFmtChecked
import GoSem.Claim
import GoSem.ClaimJoined
import GoSem.ClaimMapViews
import Derived.JoinedTies
import Derived.KernelRfl
namespace Go.Proofs.YbulkcssoFmt
/- THE CELL 'sum', in the pinned program and in every row, IS THE sha256 OF THE DUMP (.gsa) THAT YbulkcssoFmtProg.lean LOADS. Nothing in Lean hashes anything: it is a label: what it is worth is what the hold of that sum in a sandbox is worth. -/
noncomputable def Ybaf.pinned : Pinned := { name := "ybulkcssofmt", sum := "8f1cbb6784243fd745b000294391fb14f95b84f7c4a78df3597bb0d7cba844bb", checked := Ybaf.checked }
namespace Rows
def none {H : Type} : Left H := { results := [], args := [] }

/-- 'madebonds.LawS4720BDistinct': WHATEVER THE INPUT: true; the input reads as it did. -/
def lawS4720BDistinctSpec : ChangeSpec := { name := "lawS4720BDistinct", fn := fun _ => fun
  | [d1, d2, d3] => { results := [.lit (.bool true)], args := [d1, d2, d3] }
  | _ => none }
def lawS4720BDistinctRow : OpenClaim := { program := "ybulkcssofmt", sum := "8f1cbb6784243fd745b000294391fb14f95b84f7c4a78df3597bb0d7cba844bb", func := "example.com/kezhuan/kezhuan/internal/madebonds.LawS4720BDistinct", spec := "lawS4720BDistinct", stops := ["fmt.Sprintf", "fmt.errorf"], inPlace := ["fmt.errorf", "fmt.Sprintf"], unfollowed := true, recurses := true, apart := false }
/-- NO THEOREM (fmt's text is open here; it may be false): for the released tool's asking of the row's closed facts alone. THE STATEMENT IS 'LawS4720BDistinctToldSaid' (YbulkcssoFmtCards.lean). -/
def LawS4720BDistinctFormAsk : Prop := lawS4720BDistinctRow.holds Ybaf.pinned (OpenSpec.ofChange lawS4720BDistinctSpec)

/-- ITS FALSE NEIGHBOUR: 'it returns false'. Refute it at one input. -/
def lawS4720BDistinctWrong : ChangeSpec := { name := "lawS4720BDistinct", fn := fun _ => fun
  | [d1, d2, d3] => { results := [.lit (.bool false)], args := [d1, d2, d3] }
  | _ => none }
def LawS4720BDistinctWrongFormAsk : Prop := lawS4720BDistinctRow.holds Ybaf.pinned (OpenSpec.ofChange lawS4720BDistinctWrong)

/-- 'madebonds.LawS4720BRefuses': WHATEVER THE INPUT: true; the input reads as it did. -/
def lawS4720BRefusesSpec : ChangeSpec := { name := "lawS4720BRefuses", fn := fun _ => fun
  | [d1, d2, d3] => { results := [.lit (.bool true)], args := [d1, d2, d3] }
  | _ => none }
def lawS4720BRefusesRow : OpenClaim := { program := "ybulkcssofmt", sum := "8f1cbb6784243fd745b000294391fb14f95b84f7c4a78df3597bb0d7cba844bb", func := "example.com/kezhuan/kezhuan/internal/madebonds.LawS4720BRefuses", spec := "lawS4720BRefuses", stops := ["fmt.Sprintf", "fmt.errorf"], inPlace := ["fmt.errorf", "fmt.Sprintf"], unfollowed := true, recurses := true, apart := false }
/-- NO THEOREM (fmt's text is open here; it may be false): for the released tool's asking of the row's closed facts alone. THE STATEMENT IS 'LawS4720BRefusesToldSaid' (YbulkcssoFmtCards.lean). -/
def LawS4720BRefusesFormAsk : Prop := lawS4720BRefusesRow.holds Ybaf.pinned (OpenSpec.ofChange lawS4720BRefusesSpec)

/-- ITS FALSE NEIGHBOUR: 'it returns false'. Refute it at one input. -/
def lawS4720BRefusesWrong : ChangeSpec := { name := "lawS4720BRefuses", fn := fun _ => fun
  | [d1, d2, d3] => { results := [.lit (.bool false)], args := [d1, d2, d3] }
  | _ => none }
def LawS4720BRefusesWrongFormAsk : Prop := lawS4720BRefusesRow.holds Ybaf.pinned (OpenSpec.ofChange lawS4720BRefusesWrong)

end Rows
end Go.Proofs.YbulkcssoFmt
