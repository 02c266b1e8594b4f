/-
  NARROWER THAN 'FOR EVERY INPUT', by the rows' own cells (each row's printed sentence says how): LawS4715AModel: laid · LawS4715APieces: laid · LawS4715CFilter: laid.
  DERIVED. THE GIVEN ROWS OF THIS SEAT. 3 by the template 'for every input the law returns true; each argument reads behind the call as it read before'; 0 by the template 'total and deterministic' (their statements: YbulkcspwDoorTotals.lean).
  GIVEN WITH THE SEED: the statements are not yours to turn. If you find one false, say at which input.
  Laid BY PROGRAM, IN A SANDBOX (cutbox-rows.mjs): the forced cells as the released guide's own fill.sh prints them over the translation db837dc2d8f48b21… (all of the seat's roots in one cut). By AI agents, Wed Nov 11 2026. No macro, syntax, notation, axiom, sorry.
-/
import Derived.Test.YbulkcspwDoorChecked
import GoSem.PinnedTables
import GoSem.Claim
import GoSem.ClaimJoined
import GoSem.ClaimMapViews
import Derived.JoinedTies
import Derived.KernelRfl
namespace Go.Proofs.YbulkcspwDoor
/- THE CELL 'sum', in the pinned program and in every row, IS THE sha256 OF THE DUMP (.gsa) THAT YbulkcspwDoorProg.lean LOADS. Nothing in Lean hashes anything: it is a label: what it is worth is what the hold of that sum in a sandbox is worth. -/
noncomputable def Ybad.pinned : Pinned := { name := "ybulkcspwdoor", sum := "db837dc2d8f48b21c776a2e1f2ff7f71ee13a2c7ab692e7eda9681baf3117391", checked := Ybad.checked }
namespace Rows
def none {H : Type} : Left H := { results := [], args := [] }

/- WHAT THE LISTED PACKAGE-LEVEL VARIABLES READ AS WHEN THE CALL BEGINS. Each datum BY PROGRAM (the guide's laid-datum.mjs) off the statement by which the dump's own 'gosem.cut.vars' lays the variable. In a bare row this is a premise. The card (YbulkcspwDoorCards.lean) ties it to the program's text. -/
def laid_unicode_utf8_acceptRanges {H : Type} : DataW H := .agg [.agg [.lit (.int .u8 128), .lit (.int .u8 191)], .agg [.lit (.int .u8 160), .lit (.int .u8 191)], .agg [.lit (.int .u8 128), .lit (.int .u8 159)], .agg [.lit (.int .u8 144), .lit (.int .u8 191)], .agg [.lit (.int .u8 128), .lit (.int .u8 143)], .agg [.lit (.int .u8 0), .lit (.int .u8 0)], .agg [.lit (.int .u8 0), .lit (.int .u8 0)], .agg [.lit (.int .u8 0), .lit (.int .u8 0)], .agg [.lit (.int .u8 0), .lit (.int .u8 0)], .agg [.lit (.int .u8 0), .lit (.int .u8 0)], .agg [.lit (.int .u8 0), .lit (.int .u8 0)], .agg [.lit (.int .u8 0), .lit (.int .u8 0)], .agg [.lit (.int .u8 0), .lit (.int .u8 0)], .agg [.lit (.int .u8 0), .lit (.int .u8 0)], .agg [.lit (.int .u8 0), .lit (.int .u8 0)], .agg [.lit (.int .u8 0), .lit (.int .u8 0)]]
/-- One of Go's own tables, pinned by name: the form's constant. -/
def laid_unicode_utf8_first : DataW Unit := Go.Pinned.utf8First
def laid_example_com_auditloom_auditloom_internal_reassemble_spreadKeys {H : Type} : DataW H := .slice [.lit (.string [114, 101, 113, 117, 101, 115, 116]), .lit (.string [114, 101, 115, 112, 111, 110, 115, 101]), .lit (.string [109, 101, 116, 97, 100, 97, 116, 97])] []

/-- 'ordjson.LawS4715AModel': WHATEVER THE INPUT: true; the input reads as it did. -/
def lawS4715AModelSpec : ChangeSpec := { name := "lawS4715AModel", fn := fun _ => fun
  | [d1, d2] => { results := [.lit (.bool true)], args := [d1, d2] }
  | _ => none }
def lawS4715AModelRow : OpenClaim := { program := "ybulkcspwdoor", sum := "db837dc2d8f48b21c776a2e1f2ff7f71ee13a2c7ab692e7eda9681baf3117391", func := "example.com/auditloom/auditloom/internal/ordjson.LawS4715AModel", spec := "lawS4715AModel", named := ["unicode/utf8.first", "unicode/utf8.acceptRanges"], apart := false, laid := [("unicode/utf8.acceptRanges", laid_unicode_utf8_acceptRanges), ("unicode/utf8.first", laid_unicode_utf8_first)] }
def LawS4715AModelSaid : Prop := lawS4715AModelRow.holds Ybad.pinned (OpenSpec.ofChange lawS4715AModelSpec)

/-- ITS FALSE NEIGHBOUR: 'it returns false'. Refute it at one input. -/
def lawS4715AModelWrong : ChangeSpec := { name := "lawS4715AModel", fn := fun _ => fun
  | [d1, d2] => { results := [.lit (.bool false)], args := [d1, d2] }
  | _ => none }
def LawS4715AModelWrongFalsely : Prop := lawS4715AModelRow.holds Ybad.pinned (OpenSpec.ofChange lawS4715AModelWrong)

/-- 'ordjson.LawS4715APieces': WHATEVER THE INPUT: true; the input reads as it did. -/
def lawS4715APiecesSpec : ChangeSpec := { name := "lawS4715APieces", fn := fun _ => fun
  | [d1, d2] => { results := [.lit (.bool true)], args := [d1, d2] }
  | _ => none }
def lawS4715APiecesRow : OpenClaim := { program := "ybulkcspwdoor", sum := "db837dc2d8f48b21c776a2e1f2ff7f71ee13a2c7ab692e7eda9681baf3117391", func := "example.com/auditloom/auditloom/internal/ordjson.LawS4715APieces", spec := "lawS4715APieces", named := ["unicode/utf8.first", "unicode/utf8.acceptRanges"], apart := false, laid := [("unicode/utf8.acceptRanges", laid_unicode_utf8_acceptRanges), ("unicode/utf8.first", laid_unicode_utf8_first)] }
def LawS4715APiecesSaid : Prop := lawS4715APiecesRow.holds Ybad.pinned (OpenSpec.ofChange lawS4715APiecesSpec)

/-- ITS FALSE NEIGHBOUR: 'it returns false'. Refute it at one input. -/
def lawS4715APiecesWrong : ChangeSpec := { name := "lawS4715APieces", fn := fun _ => fun
  | [d1, d2] => { results := [.lit (.bool false)], args := [d1, d2] }
  | _ => none }
def LawS4715APiecesWrongFalsely : Prop := lawS4715APiecesRow.holds Ybad.pinned (OpenSpec.ofChange lawS4715APiecesWrong)

/-- 'reassemble.LawS4715CFilter': WHATEVER THE INPUT: true; the input reads as it did. -/
def lawS4715CFilterSpec : ChangeSpec := { name := "lawS4715CFilter", vars := ["example.com/auditloom/auditloom/internal/reassemble.spreadKeys"], fn := fun _ => fun
  | [d1, d2, g1] => { results := [.lit (.bool true)], args := [d1, d2], vars := [g1] }
  | _ => none }
def lawS4715CFilterRow : OpenClaim := { program := "ybulkcspwdoor", sum := "db837dc2d8f48b21c776a2e1f2ff7f71ee13a2c7ab692e7eda9681baf3117391", func := "example.com/auditloom/auditloom/internal/reassemble.LawS4715CFilter", spec := "lawS4715CFilter", named := ["example.com/auditloom/auditloom/internal/reassemble.spreadKeys"], apart := false, laid := [("example.com/auditloom/auditloom/internal/reassemble.spreadKeys", laid_example_com_auditloom_auditloom_internal_reassemble_spreadKeys)] }
def LawS4715CFilterSaid : Prop := lawS4715CFilterRow.holds Ybad.pinned (OpenSpec.ofChange lawS4715CFilterSpec)

/-- ITS FALSE NEIGHBOUR: 'it returns false'. Refute it at one input. -/
def lawS4715CFilterWrong : ChangeSpec := { name := "lawS4715CFilter", vars := ["example.com/auditloom/auditloom/internal/reassemble.spreadKeys"], fn := fun _ => fun
  | [d1, d2, g1] => { results := [.lit (.bool false)], args := [d1, d2], vars := [g1] }
  | _ => none }
def LawS4715CFilterWrongFalsely : Prop := lawS4715CFilterRow.holds Ybad.pinned (OpenSpec.ofChange lawS4715CFilterWrong)

end Rows
end Go.Proofs.YbulkcspwDoor
