/-
  DERIVED. GIVEN WITH THE SEED: THE CARDS: each row of YbulkcswiDoorRows.lean that lists a variable, with what it lists TIED to the program's text (the seventh form; the later family's looks); each row that meets fmt, with fmt's text TOLD by the authors' own Lean function (tested against real Go, not proved from fmt's source: count such statements apart). THE CARD IS WHAT COUNTS. Prove the row's statement (the work); the ties are given (YbulkcswiDoorTie.lean); close each card by the builder's one call (the guide's Derived/Test/ToyasCard.lean, 'card_holds'). Laid BY PROGRAM, IN A SANDBOX (cutbox-door.mjs). By AI agents, Wed Nov 11 2026. No macro, syntax, notation, axiom, sorry.
-/
import Derived.Test.YbulkcswiDoorRows
import GoSem.ClaimSeven
namespace Go.Proofs.YbulkcswiDoor
namespace Rows

/-- THE TIED CARD OF 'trace.LawS4727AModel'. -/
def lawS4727AModelCard : Claim7 := { stood := { row := lawS4727AModelRow, standIns := [], harness := (true, "0ebfe5948f137fd7ca31270c95acff3cc8d70cfdd37dabf13571e54b1ffaea5e"), looks := false }, kinds := [], alts := [], laidByText := true, laidKinds := [.widerDeep, .widerDeep, .widerDeep], laidTests := true, laidLooks := .later }
def LawS4727AModelCardSaid : Prop := Claim7.holds Ybad.pinned (.plain (OpenSpec.ofChange lawS4727AModelSpec)) lawS4727AModelCard

/-- THE TIED CARD OF 'trace.LawS4727ABuilt'. -/
def lawS4727ABuiltCard : Claim7 := { stood := { row := lawS4727ABuiltRow, standIns := [], harness := (true, "0ebfe5948f137fd7ca31270c95acff3cc8d70cfdd37dabf13571e54b1ffaea5e"), looks := false }, kinds := [], alts := [], laidByText := true, laidKinds := [.widerDeep, .widerDeep, .widerDeep], laidTests := true, laidLooks := .later }
def LawS4727ABuiltCardSaid : Prop := Claim7.holds Ybad.pinned (.plain (OpenSpec.ofChange lawS4727ABuiltSpec)) lawS4727ABuiltCard

/-- THE TIED CARD OF 'trace.LawS4727BRaw'. -/
def lawS4727BRawCard : Claim7 := { stood := { row := lawS4727BRawRow, standIns := [], harness := (true, "0ebfe5948f137fd7ca31270c95acff3cc8d70cfdd37dabf13571e54b1ffaea5e"), looks := false }, kinds := [], alts := [], laidByText := true, laidKinds := [.widerDeep], laidTests := true, laidLooks := .later }
def LawS4727BRawCardSaid : Prop := Claim7.holds Ybad.pinned (.plain (OpenSpec.ofChange lawS4727BRawSpec)) lawS4727BRawCard

/-- THE TIED CARD OF 'trace.LawS4727BTokens'. -/
def lawS4727BTokensCard : Claim7 := { stood := { row := lawS4727BTokensRow, standIns := [], harness := (true, "0ebfe5948f137fd7ca31270c95acff3cc8d70cfdd37dabf13571e54b1ffaea5e"), looks := false }, kinds := [], alts := [], laidByText := true, laidKinds := [.widerDeep], laidTests := true, laidLooks := .later }
def LawS4727BTokensCardSaid : Prop := Claim7.holds Ybad.pinned (.plain (OpenSpec.ofChange lawS4727BTokensSpec)) lawS4727BTokensCard

/-- THE TIED CARD OF 'trace.LawS4727BWindow'. -/
def lawS4727BWindowCard : Claim7 := { stood := { row := lawS4727BWindowRow, standIns := [], harness := (true, "0ebfe5948f137fd7ca31270c95acff3cc8d70cfdd37dabf13571e54b1ffaea5e"), looks := false }, kinds := [], alts := [], laidByText := true, laidKinds := [.widerDeep], laidTests := true, laidLooks := .later }
def LawS4727BWindowCardSaid : Prop := Claim7.holds Ybad.pinned (.plain (OpenSpec.ofChange lawS4727BWindowSpec)) lawS4727BWindowCard
end Rows
end Go.Proofs.YbulkcswiDoor
