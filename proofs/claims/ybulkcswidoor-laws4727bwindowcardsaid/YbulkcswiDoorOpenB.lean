/-
  The listed variable textEnd: from the row's condition to what the walks ask.
-/
import Derived.Test.YbulkcswiDoorOpen
import Derived.Test.YbulkcswiDoorPlainB
namespace Go.Proofs.YbulkcswiDoor
open Go.ChangeShapes Go.WideShapes Go.ChangeAt Go.RowKit Go.Lib

abbrev laidB : List (String × DataW Unit) := Rows.lawS4727BRawRow.laid
theorem gB : Ybad.prog.globalNamed (laidB[0]).1 = some 3 := by kernel_rfl
theorem tB : (Ybad.prog.globals[3]?).map (·.type) = some 22 := by kernel_rfl

theorem door_metB (os : Os) (args : Array Value) : laidMetH Ybad.prog laidB ((World.doorLaid Ybad.prog 29 os).forCall (fun _ _ => 0) ⟨#[], args, []⟩).memory :=
  laidMetH_of_parts3 (fuel := 8) (laidMet_of_run' 8 (by kernel_rfl) (by kernel_rfl)) (by kernel_rfl) (by kernel_rfl)

theorem of_laidB {W : World} (h : laidMetH Ybad.prog laidB W) : Glob W 3 kEnd := by
  rw [MakeChecks.laidMetH_plain _ _ _ (by kernel_rfl)] at h
  obtain ⟨ps, ⟨h0, u0, cs0, f0, p0, q0, hg0, ht0, hv0, hd0, _, _⟩, _, _⟩ := h
  obtain rfl := Option.some.inj (gB.symm.trans hg0)
  obtain rfl := Option.some.inj (tB.symm.trans ht0)
  exact glob_of (ks := [69, 78, 68, 32, 79, 70, 32, 83, 84, 77, 84]) hg0 hv0 hd0
end Go.Proofs.YbulkcswiDoor
