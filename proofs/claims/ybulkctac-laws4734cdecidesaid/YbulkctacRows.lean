/-
  No cell of these rows narrows 'for every input' (looked for: loops, veiled, ifaces, maps, wideKeys, modest, calm, conditions, laid).
  DERIVED. THE GIVEN ROWS OF THIS SEAT. 2 by the template 'for every input the law returns true; each argument reads behind the call as it read before'; 0 by the template 'total and deterministic' (their statements: YbulkctacTotals.lean).
  GIVEN WITH THE SEED: the statements are not yours to turn. If you find one false, say at which input.
  Laid BY PROGRAM, IN A SANDBOX (cutbox-rows.mjs): the forced cells as the released guide's own fill.sh prints them over the translation 8a22a6f0a697348d… (all of the seat's roots in one cut). By AI agents, Wed Nov 11 2026. No macro, syntax, notation, axiom, sorry.
-/
import Derived.Test.YbulkctacChecked
import GoSem.Claim
import GoSem.ClaimJoined
import GoSem.ClaimMapViews
import Derived.JoinedTies
import Derived.KernelRfl
namespace Go.Proofs.Ybulkctac
/- THE CELL 'sum', in the pinned program and in every row, IS THE sha256 OF THE DUMP (.gsa) THAT YbulkctacProg.lean LOADS. Nothing in Lean hashes anything: it is a label: what it is worth is what the hold of that sum in a sandbox is worth. -/
noncomputable def Yba.pinned : Pinned := { name := "ybulkctac", sum := "8a22a6f0a697348d9663abb19d1a34cf203c58aca96844a8c8fdae5f9a0f1715", checked := Yba.checked }
namespace Rows
def none {H : Type} : Left H := { results := [], args := [] }

/-- 'rumorwire.LawS4734AKeep': WHATEVER THE INPUT: true; the input reads as it did. -/
def lawS4734AKeepSpec : ChangeSpec := { name := "lawS4734AKeep", fn := fun _ => fun
  | [d] => { results := [.lit (.bool true)], args := [d] }
  | _ => none }
def lawS4734AKeepRow : OpenClaim := { program := "ybulkctac", sum := "8a22a6f0a697348d9663abb19d1a34cf203c58aca96844a8c8fdae5f9a0f1715", func := "example.com/rumorwire/rumorwire.LawS4734AKeep", spec := "lawS4734AKeep", plainKeys := false, apart := false }
def LawS4734AKeepSaid : Prop := lawS4734AKeepRow.holds Yba.pinned (OpenSpec.ofChange lawS4734AKeepSpec)

/-- ITS FALSE NEIGHBOUR: 'it returns false'. Refute it at one input. -/
def lawS4734AKeepWrong : ChangeSpec := { name := "lawS4734AKeep", fn := fun _ => fun
  | [d] => { results := [.lit (.bool false)], args := [d] }
  | _ => none }
def LawS4734AKeepWrongFalsely : Prop := lawS4734AKeepRow.holds Yba.pinned (OpenSpec.ofChange lawS4734AKeepWrong)

/-- 'rumorwire.LawS4734CDecide': WHATEVER THE INPUT: true; the input reads as it did. -/
def lawS4734CDecideSpec : ChangeSpec := { name := "lawS4734CDecide", fn := fun _ => fun
  | [d1, d2, d3, d4, d5, d6, d7, d8] => { results := [.lit (.bool true)], args := [d1, d2, d3, d4, d5, d6, d7, d8] }
  | _ => none }
def lawS4734CDecideRow : OpenClaim := { program := "ybulkctac", sum := "8a22a6f0a697348d9663abb19d1a34cf203c58aca96844a8c8fdae5f9a0f1715", func := "example.com/rumorwire/rumorwire.LawS4734CDecide", spec := "lawS4734CDecide", inPlace := ["slices.overlaps[string]"], plainKeys := false, apart := false }
def LawS4734CDecideSaid : Prop := lawS4734CDecideRow.holds Yba.pinned (OpenSpec.ofChange lawS4734CDecideSpec)

/-- ITS FALSE NEIGHBOUR: 'it returns false'. Refute it at one input. -/
def lawS4734CDecideWrong : ChangeSpec := { name := "lawS4734CDecide", fn := fun _ => fun
  | [d1, d2, d3, d4, d5, d6, d7, d8] => { results := [.lit (.bool false)], args := [d1, d2, d3, d4, d5, d6, d7, d8] }
  | _ => none }
def LawS4734CDecideWrongFalsely : Prop := lawS4734CDecideRow.holds Yba.pinned (OpenSpec.ofChange lawS4734CDecideWrong)

end Rows
end Go.Proofs.Ybulkctac
