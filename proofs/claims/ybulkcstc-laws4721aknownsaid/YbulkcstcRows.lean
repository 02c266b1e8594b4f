/-
  No cell of these rows narrows 'for every input' (looked for: loops, veiled, ifaces, maps, wideKeys, modest, calm, conditions, laid).
  DERIVED. THE GIVEN ROWS OF THIS SEAT. 2 by the template 'for every input the law returns true; each argument reads behind the call as it read before'; 0 by the template 'total and deterministic' (their statements: YbulkcstcTotals.lean).
  GIVEN WITH THE SEED: the statements are not yours to turn. If you find one false, say at which input.
  Laid BY PROGRAM, IN A SANDBOX (cutbox-rows.mjs): the forced cells as the released guide's own fill.sh prints them over the translation 75d6c48fdeddf993… (all of the seat's roots in one cut). By AI agents, Wed Nov 11 2026. No macro, syntax, notation, axiom, sorry.
-/
import Derived.Test.YbulkcstcChecked
import GoSem.Claim
import GoSem.ClaimJoined
import GoSem.ClaimMapViews
import Derived.JoinedTies
import Derived.KernelRfl
namespace Go.Proofs.Ybulkcstc
/- THE CELL 'sum', in the pinned program and in every row, IS THE sha256 OF THE DUMP (.gsa) THAT YbulkcstcProg.lean LOADS. Nothing in Lean hashes anything: it is a label: what it is worth is what the hold of that sum in a sandbox is worth. -/
noncomputable def Yba.pinned : Pinned := { name := "ybulkcstc", sum := "75d6c48fdeddf993321507ec74c83afd67c6bcc4a83f08e9e2acd9cbef30f87e", checked := Yba.checked }
namespace Rows
def none {H : Type} : Left H := { results := [], args := [] }

/-- 'jsonscan.LawS4721AKnown': WHATEVER THE INPUT: true; the input reads as it did. -/
def lawS4721AKnownSpec : ChangeSpec := { name := "lawS4721AKnown", fn := fun _ => fun
  | [d] => { results := [.lit (.bool true)], args := [d] }
  | _ => none }
def lawS4721AKnownRow : OpenClaim := { program := "ybulkcstc", sum := "75d6c48fdeddf993321507ec74c83afd67c6bcc4a83f08e9e2acd9cbef30f87e", func := "example.com/parley/parley/internal/jsonscan.LawS4721AKnown", spec := "lawS4721AKnown", apart := false }
def LawS4721AKnownSaid : Prop := lawS4721AKnownRow.holds Yba.pinned (OpenSpec.ofChange lawS4721AKnownSpec)

/-- ITS FALSE NEIGHBOUR: 'it returns false'. Refute it at one input. -/
def lawS4721AKnownWrong : ChangeSpec := { name := "lawS4721AKnown", fn := fun _ => fun
  | [d] => { results := [.lit (.bool false)], args := [d] }
  | _ => none }
def LawS4721AKnownWrongFalsely : Prop := lawS4721AKnownRow.holds Yba.pinned (OpenSpec.ofChange lawS4721AKnownWrong)

/-- 'jsonscan.LawS4721AAny': WHATEVER THE INPUT: true; the input reads as it did. -/
def lawS4721AAnySpec : ChangeSpec := { name := "lawS4721AAny", fn := fun _ => fun
  | [d] => { results := [.lit (.bool true)], args := [d] }
  | _ => none }
def lawS4721AAnyRow : OpenClaim := { program := "ybulkcstc", sum := "75d6c48fdeddf993321507ec74c83afd67c6bcc4a83f08e9e2acd9cbef30f87e", func := "example.com/parley/parley/internal/jsonscan.LawS4721AAny", spec := "lawS4721AAny", apart := false }
def LawS4721AAnySaid : Prop := lawS4721AAnyRow.holds Yba.pinned (OpenSpec.ofChange lawS4721AAnySpec)

/-- ITS FALSE NEIGHBOUR: 'it returns false'. Refute it at one input. -/
def lawS4721AAnyWrong : ChangeSpec := { name := "lawS4721AAny", fn := fun _ => fun
  | [d] => { results := [.lit (.bool false)], args := [d] }
  | _ => none }
def LawS4721AAnyWrongFalsely : Prop := lawS4721AAnyRow.holds Yba.pinned (OpenSpec.ofChange lawS4721AAnyWrong)

end Rows
end Go.Proofs.Ybulkcstc
