/-
  DERIVED. GIVEN WITH THE SEED: THE PROGRAM's TIES (one call each: nine closed facts by the kernel) AND EACH ROW's TIE, after the 31st guide's Derived/Test/Toyas{Tie, Card}.lean. No idea stands in it: it is a product of the set-up. Laid BY PROGRAM, IN A SANDBOX (cutbox-door.mjs). By AI agents, Wed Nov 11 2026. No macro, syntax, notation, axiom, sorry.
-/
import Derived.Test.YbulkcswiDoorRows
import Derived.LaidByTextLater
import Derived.SevenTiedAt
import Derived.LaidSub
import Derived.LaidOnce
namespace Go.Proofs.YbulkcswiDoor
open Go
set_option maxRecDepth 100000
theorem seatTie1 : Ybad.prog.laidByTextLater [("example.com/tracelens/tracelens/internal/trace.bindStart", Rows.laid_example_com_tracelens_tracelens_internal_trace_bindStart), ("example.com/tracelens/tracelens/internal/trace.oldBindStart", Rows.laid_example_com_tracelens_tracelens_internal_trace_oldBindStart), ("example.com/tracelens/tracelens/internal/trace.bindValue", Rows.laid_example_com_tracelens_tracelens_internal_trace_bindValue), ("example.com/tracelens/tracelens/internal/trace.textEnd", Rows.laid_example_com_tracelens_tracelens_internal_trace_textEnd)] [.widerDeep, .widerDeep, .widerDeep, .widerDeep] true :=
  Program.laidByTextLater_by_one 29 8 12 (by kernel_rfl) (by kernel_rfl) (by kernel_rfl) (by kernel_rfl) (by kernel_rfl) (by kernel_rfl) (fun _ _ => by kernel_rfl)
theorem noOwnUnsafe : Ybad.pinned.checked.prog.headLifts.contains "ownunsafe" = false := by kernel_rfl
theorem tie : Ybad.prog.laidByTextLater [("example.com/tracelens/tracelens/internal/trace.bindStart", Rows.laid_example_com_tracelens_tracelens_internal_trace_bindStart), ("example.com/tracelens/tracelens/internal/trace.oldBindStart", Rows.laid_example_com_tracelens_tracelens_internal_trace_oldBindStart), ("example.com/tracelens/tracelens/internal/trace.bindValue", Rows.laid_example_com_tracelens_tracelens_internal_trace_bindValue)] [.widerDeep, .widerDeep, .widerDeep] true :=
  Program.laidByTextLater.sub seatTie1 ["example.com/tracelens/tracelens/internal/trace.bindStart", "example.com/tracelens/tracelens/internal/trace.oldBindStart", "example.com/tracelens/tracelens/internal/trace.bindValue"] (by kernel_rfl) (by kernel_rfl)
theorem lawS4727AModel_row_tie : Rows.lawS4727AModelRow.laidByTextAt .later Ybad.pinned [.widerDeep, .widerDeep, .widerDeep] true :=
  OpenClaim.laidByTextAt_later rfl rfl tie noOwnUnsafe
theorem lawS4727ABuilt_row_tie : Rows.lawS4727ABuiltRow.laidByTextAt .later Ybad.pinned [.widerDeep, .widerDeep, .widerDeep] true :=
  OpenClaim.laidByTextAt_later rfl rfl tie noOwnUnsafe
theorem tie2 : Ybad.prog.laidByTextLater [("example.com/tracelens/tracelens/internal/trace.textEnd", Rows.laid_example_com_tracelens_tracelens_internal_trace_textEnd)] [.widerDeep] true :=
  Program.laidByTextLater.sub seatTie1 ["example.com/tracelens/tracelens/internal/trace.textEnd"] (by kernel_rfl) (by kernel_rfl)
theorem lawS4727BRaw_row_tie : Rows.lawS4727BRawRow.laidByTextAt .later Ybad.pinned [.widerDeep] true :=
  OpenClaim.laidByTextAt_later rfl rfl tie2 noOwnUnsafe
theorem lawS4727BTokens_row_tie : Rows.lawS4727BTokensRow.laidByTextAt .later Ybad.pinned [.widerDeep] true :=
  OpenClaim.laidByTextAt_later rfl rfl tie2 noOwnUnsafe
theorem lawS4727BWindow_row_tie : Rows.lawS4727BWindowRow.laidByTextAt .later Ybad.pinned [.widerDeep] true :=
  OpenClaim.laidByTextAt_later rfl rfl tie2 noOwnUnsafe
end Go.Proofs.YbulkcswiDoor
