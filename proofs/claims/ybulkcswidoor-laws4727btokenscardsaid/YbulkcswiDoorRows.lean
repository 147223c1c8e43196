/-
  NARROWER THAN 'FOR EVERY INPUT', by the rows' own cells (each row's printed sentence says how): LawS4727AModel: laid · LawS4727ABuilt: laid · LawS4727BRaw: laid · LawS4727BTokens: laid · LawS4727BWindow: laid.
  DERIVED. THE GIVEN ROWS OF THIS SEAT. 5 by the template 'for every input the law returns true; each argument reads behind the call as it read before'; 0 by the template 'total and deterministic' (their statements: YbulkcswiDoorTotals.lean).
  GIVEN WITH THE SEED: the statements are not yours to turn. If you find one false, say at which input.
  Laid BY PROGRAM, IN A SANDBOX (cutbox-rows.mjs): the forced cells as the released guide's own fill.sh prints them over the translation e5b20cae4cb54ffb… (all of the seat's roots in one cut). By AI agents, Wed Nov 11 2026. No macro, syntax, notation, axiom, sorry.
-/
import Derived.Test.YbulkcswiDoorChecked
import GoSem.Claim
import GoSem.ClaimJoined
import GoSem.ClaimMapViews
import Derived.JoinedTies
import Derived.KernelRfl
namespace Go.Proofs.YbulkcswiDoor
/- THE CELL 'sum', in the pinned program and in every row, IS THE sha256 OF THE DUMP (.gsa) THAT YbulkcswiDoorProg.lean LOADS. Nothing in Lean hashes anything: it is a label: what it is worth is what the hold of that sum in a sandbox is worth. -/
noncomputable def Ybad.pinned : Pinned := { name := "ybulkcswidoor", sum := "e5b20cae4cb54ffbffa5a96c639a861cb9d7662a3027618ffb0919e2fde74162", checked := Ybad.checked }
namespace Rows
def none {H : Type} : Left H := { results := [], args := [] }

/- WHAT THE LISTED PACKAGE-LEVEL VARIABLES READ AS WHEN THE CALL BEGINS. Each datum BY PROGRAM (the guide's laid-datum.mjs) off the statement by which the dump's own 'gosem.cut.vars' lays the variable. In a bare row this is a premise. The card (YbulkcswiDoorCards.lean) ties it to the program's text. -/
def laid_example_com_tracelens_tracelens_internal_trace_bindStart {H : Type} : DataW H := .slice [.lit (.int .u8 66), .lit (.int .u8 105), .lit (.int .u8 110), .lit (.int .u8 100), .lit (.int .u8 35)] []
def laid_example_com_tracelens_tracelens_internal_trace_oldBindStart {H : Type} : DataW H := .slice [.lit (.int .u8 98), .lit (.int .u8 105), .lit (.int .u8 110), .lit (.int .u8 100), .lit (.int .u8 32)] []
def laid_example_com_tracelens_tracelens_internal_trace_bindValue {H : Type} : DataW H := .slice [.lit (.int .u8 118), .lit (.int .u8 97), .lit (.int .u8 108), .lit (.int .u8 117), .lit (.int .u8 101), .lit (.int .u8 61)] []
def laid_example_com_tracelens_tracelens_internal_trace_textEnd {H : Type} : DataW H := .slice [.lit (.int .u8 69), .lit (.int .u8 78), .lit (.int .u8 68), .lit (.int .u8 32), .lit (.int .u8 79), .lit (.int .u8 70), .lit (.int .u8 32), .lit (.int .u8 83), .lit (.int .u8 84), .lit (.int .u8 77), .lit (.int .u8 84)] []

/-- 'trace.LawS4727AModel': WHATEVER THE INPUT: true; the input reads as it did. -/
def lawS4727AModelSpec : ChangeSpec := { name := "lawS4727AModel", vars := ["example.com/tracelens/tracelens/internal/trace.bindStart", "example.com/tracelens/tracelens/internal/trace.oldBindStart", "example.com/tracelens/tracelens/internal/trace.bindValue"], fn := fun _ => fun
  | [d, g1, g2, g3] => { results := [.lit (.bool true)], args := [d], vars := [g1, g2, g3] }
  | _ => none }
def lawS4727AModelRow : OpenClaim := { program := "ybulkcswidoor", sum := "e5b20cae4cb54ffbffa5a96c639a861cb9d7662a3027618ffb0919e2fde74162", func := "example.com/tracelens/tracelens/internal/trace.LawS4727AModel", spec := "lawS4727AModel", named := ["example.com/tracelens/tracelens/internal/trace.bindStart", "example.com/tracelens/tracelens/internal/trace.oldBindStart", "example.com/tracelens/tracelens/internal/trace.bindValue"], apart := false, laid := [("example.com/tracelens/tracelens/internal/trace.bindStart", laid_example_com_tracelens_tracelens_internal_trace_bindStart), ("example.com/tracelens/tracelens/internal/trace.oldBindStart", laid_example_com_tracelens_tracelens_internal_trace_oldBindStart), ("example.com/tracelens/tracelens/internal/trace.bindValue", laid_example_com_tracelens_tracelens_internal_trace_bindValue)] }
def LawS4727AModelSaid : Prop := lawS4727AModelRow.holds Ybad.pinned (OpenSpec.ofChange lawS4727AModelSpec)

/-- ITS FALSE NEIGHBOUR: 'it returns false'. Refute it at one input. -/
def lawS4727AModelWrong : ChangeSpec := { name := "lawS4727AModel", vars := ["example.com/tracelens/tracelens/internal/trace.bindStart", "example.com/tracelens/tracelens/internal/trace.oldBindStart", "example.com/tracelens/tracelens/internal/trace.bindValue"], fn := fun _ => fun
  | [d, g1, g2, g3] => { results := [.lit (.bool false)], args := [d], vars := [g1, g2, g3] }
  | _ => none }
def LawS4727AModelWrongFalsely : Prop := lawS4727AModelRow.holds Ybad.pinned (OpenSpec.ofChange lawS4727AModelWrong)

/-- 'trace.LawS4727ABuilt': WHATEVER THE INPUT: true; the input reads as it did. -/
def lawS4727ABuiltSpec : ChangeSpec := { name := "lawS4727ABuilt", vars := ["example.com/tracelens/tracelens/internal/trace.bindStart", "example.com/tracelens/tracelens/internal/trace.oldBindStart", "example.com/tracelens/tracelens/internal/trace.bindValue"], fn := fun _ => fun
  | [d, g1, g2, g3] => { results := [.lit (.bool true)], args := [d], vars := [g1, g2, g3] }
  | _ => none }
def lawS4727ABuiltRow : OpenClaim := { program := "ybulkcswidoor", sum := "e5b20cae4cb54ffbffa5a96c639a861cb9d7662a3027618ffb0919e2fde74162", func := "example.com/tracelens/tracelens/internal/trace.LawS4727ABuilt", spec := "lawS4727ABuilt", named := ["example.com/tracelens/tracelens/internal/trace.bindStart", "example.com/tracelens/tracelens/internal/trace.oldBindStart", "example.com/tracelens/tracelens/internal/trace.bindValue"], apart := false, laid := [("example.com/tracelens/tracelens/internal/trace.bindStart", laid_example_com_tracelens_tracelens_internal_trace_bindStart), ("example.com/tracelens/tracelens/internal/trace.oldBindStart", laid_example_com_tracelens_tracelens_internal_trace_oldBindStart), ("example.com/tracelens/tracelens/internal/trace.bindValue", laid_example_com_tracelens_tracelens_internal_trace_bindValue)] }
def LawS4727ABuiltSaid : Prop := lawS4727ABuiltRow.holds Ybad.pinned (OpenSpec.ofChange lawS4727ABuiltSpec)

/-- ITS FALSE NEIGHBOUR: 'it returns false'. Refute it at one input. -/
def lawS4727ABuiltWrong : ChangeSpec := { name := "lawS4727ABuilt", vars := ["example.com/tracelens/tracelens/internal/trace.bindStart", "example.com/tracelens/tracelens/internal/trace.oldBindStart", "example.com/tracelens/tracelens/internal/trace.bindValue"], fn := fun _ => fun
  | [d, g1, g2, g3] => { results := [.lit (.bool false)], args := [d], vars := [g1, g2, g3] }
  | _ => none }
def LawS4727ABuiltWrongFalsely : Prop := lawS4727ABuiltRow.holds Ybad.pinned (OpenSpec.ofChange lawS4727ABuiltWrong)

/-- 'trace.LawS4727BRaw': WHATEVER THE INPUT: true; the input reads as it did. -/
def lawS4727BRawSpec : ChangeSpec := { name := "lawS4727BRaw", vars := ["example.com/tracelens/tracelens/internal/trace.textEnd"], fn := fun _ => fun
  | [d, g1] => { results := [.lit (.bool true)], args := [d], vars := [g1] }
  | _ => none }
def lawS4727BRawRow : OpenClaim := { program := "ybulkcswidoor", sum := "e5b20cae4cb54ffbffa5a96c639a861cb9d7662a3027618ffb0919e2fde74162", func := "example.com/tracelens/tracelens/internal/trace.LawS4727BRaw", spec := "lawS4727BRaw", named := ["example.com/tracelens/tracelens/internal/trace.textEnd"], apart := false, laid := [("example.com/tracelens/tracelens/internal/trace.textEnd", laid_example_com_tracelens_tracelens_internal_trace_textEnd)] }
def LawS4727BRawSaid : Prop := lawS4727BRawRow.holds Ybad.pinned (OpenSpec.ofChange lawS4727BRawSpec)

/-- ITS FALSE NEIGHBOUR: 'it returns false'. Refute it at one input. -/
def lawS4727BRawWrong : ChangeSpec := { name := "lawS4727BRaw", vars := ["example.com/tracelens/tracelens/internal/trace.textEnd"], fn := fun _ => fun
  | [d, g1] => { results := [.lit (.bool false)], args := [d], vars := [g1] }
  | _ => none }
def LawS4727BRawWrongFalsely : Prop := lawS4727BRawRow.holds Ybad.pinned (OpenSpec.ofChange lawS4727BRawWrong)

/-- 'trace.LawS4727BTokens': WHATEVER THE INPUT: true; the input reads as it did. -/
def lawS4727BTokensSpec : ChangeSpec := { name := "lawS4727BTokens", vars := ["example.com/tracelens/tracelens/internal/trace.textEnd"], fn := fun _ => fun
  | [d, g1] => { results := [.lit (.bool true)], args := [d], vars := [g1] }
  | _ => none }
def lawS4727BTokensRow : OpenClaim := { program := "ybulkcswidoor", sum := "e5b20cae4cb54ffbffa5a96c639a861cb9d7662a3027618ffb0919e2fde74162", func := "example.com/tracelens/tracelens/internal/trace.LawS4727BTokens", spec := "lawS4727BTokens", named := ["example.com/tracelens/tracelens/internal/trace.textEnd"], apart := false, laid := [("example.com/tracelens/tracelens/internal/trace.textEnd", laid_example_com_tracelens_tracelens_internal_trace_textEnd)] }
def LawS4727BTokensSaid : Prop := lawS4727BTokensRow.holds Ybad.pinned (OpenSpec.ofChange lawS4727BTokensSpec)

/-- ITS FALSE NEIGHBOUR: 'it returns false'. Refute it at one input. -/
def lawS4727BTokensWrong : ChangeSpec := { name := "lawS4727BTokens", vars := ["example.com/tracelens/tracelens/internal/trace.textEnd"], fn := fun _ => fun
  | [d, g1] => { results := [.lit (.bool false)], args := [d], vars := [g1] }
  | _ => none }
def LawS4727BTokensWrongFalsely : Prop := lawS4727BTokensRow.holds Ybad.pinned (OpenSpec.ofChange lawS4727BTokensWrong)

/-- 'trace.LawS4727BWindow': WHATEVER THE INPUT: true; the input reads as it did. -/
def lawS4727BWindowSpec : ChangeSpec := { name := "lawS4727BWindow", vars := ["example.com/tracelens/tracelens/internal/trace.textEnd"], fn := fun _ => fun
  | [d1, d2, d3, g1] => { results := [.lit (.bool true)], args := [d1, d2, d3], vars := [g1] }
  | _ => none }
def lawS4727BWindowRow : OpenClaim := { program := "ybulkcswidoor", sum := "e5b20cae4cb54ffbffa5a96c639a861cb9d7662a3027618ffb0919e2fde74162", func := "example.com/tracelens/tracelens/internal/trace.LawS4727BWindow", spec := "lawS4727BWindow", named := ["example.com/tracelens/tracelens/internal/trace.textEnd"], apart := false, laid := [("example.com/tracelens/tracelens/internal/trace.textEnd", laid_example_com_tracelens_tracelens_internal_trace_textEnd)] }
def LawS4727BWindowSaid : Prop := lawS4727BWindowRow.holds Ybad.pinned (OpenSpec.ofChange lawS4727BWindowSpec)

/-- ITS FALSE NEIGHBOUR: 'it returns false'. Refute it at one input. -/
def lawS4727BWindowWrong : ChangeSpec := { name := "lawS4727BWindow", vars := ["example.com/tracelens/tracelens/internal/trace.textEnd"], fn := fun _ => fun
  | [d1, d2, d3, g1] => { results := [.lit (.bool false)], args := [d1, d2, d3], vars := [g1] }
  | _ => none }
def LawS4727BWindowWrongFalsely : Prop := lawS4727BWindowRow.holds Ybad.pinned (OpenSpec.ofChange lawS4727BWindowWrong)

end Rows
end Go.Proofs.YbulkcswiDoor
