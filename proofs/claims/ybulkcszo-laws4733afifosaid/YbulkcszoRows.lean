/-
  No cell of these rows narrows 'for every input' (looked for: loops, veiled, ifaces, maps, wideKeys, modest, calm, conditions, laid).
  DERIVED. THE GIVEN ROWS OF THIS SEAT. 1 by the template 'for every input the law returns true; each argument reads behind the call as it read before'; 0 by the template 'total and deterministic' (their statements: YbulkcszoTotals.lean).
  GIVEN WITH THE SEED: the statements are not yours to turn. If you find one false, say at which input.
  Laid BY PROGRAM, IN A SANDBOX (cutbox-rows.mjs): the forced cells as the released guide's own fill.sh prints them over the translation 49fc3cf112a0bbd7… (all of the seat's roots in one cut). By AI agents, Wed Nov 11 2026. No macro, syntax, notation, axiom, sorry.
-/
import Derived.Test.YbulkcszoChecked
import GoSem.Claim
import GoSem.ClaimJoined
import GoSem.ClaimMapViews
import Derived.JoinedTies
import Derived.KernelRfl
namespace Go.Proofs.Ybulkcszo
/- THE CELL 'sum', in the pinned program and in every row, IS THE sha256 OF THE DUMP (.gsa) THAT YbulkcszoProg.lean LOADS. Nothing in Lean hashes anything: it is a label: what it is worth is what the hold of that sum in a sandbox is worth. -/
noncomputable def Yba.pinned : Pinned := { name := "ybulkcszo", sum := "49fc3cf112a0bbd7955023ec27d8b1c97a533fc60d62fdfcc0dfe46ac5a93530", checked := Yba.checked }
namespace Rows
def none {H : Type} : Left H := { results := [], args := [] }

/-- 'continuation.LawS4733AFifo': WHATEVER THE INPUT: true; the input reads as it did. -/
def lawS4733AFifoSpec : ChangeSpec := { name := "lawS4733AFifo", fn := fun _ => fun
  | [d] => { results := [.lit (.bool true)], args := [d] }
  | _ => none }
def lawS4733AFifoRow : OpenClaim := { program := "ybulkcszo", sum := "49fc3cf112a0bbd7955023ec27d8b1c97a533fc60d62fdfcc0dfe46ac5a93530", func := "example.com/continuation/continuation.LawS4733AFifo", spec := "lawS4733AFifo", apart := false }
def LawS4733AFifoSaid : Prop := lawS4733AFifoRow.holds Yba.pinned (OpenSpec.ofChange lawS4733AFifoSpec)

/-- ITS FALSE NEIGHBOUR: 'it returns false'. Refute it at one input. -/
def lawS4733AFifoWrong : ChangeSpec := { name := "lawS4733AFifo", fn := fun _ => fun
  | [d] => { results := [.lit (.bool false)], args := [d] }
  | _ => none }
def LawS4733AFifoWrongFalsely : Prop := lawS4733AFifoRow.holds Yba.pinned (OpenSpec.ofChange lawS4733AFifoWrong)

end Rows
end Go.Proofs.Ybulkcszo
