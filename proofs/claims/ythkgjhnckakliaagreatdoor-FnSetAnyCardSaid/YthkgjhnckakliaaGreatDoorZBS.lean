/- A part of the proof that the rows statement FnSetAny holds: the engine of abstract states, the walks through the program, the bridge; no conditions. -/
import Derived.Test.YthkgjhnckakliaaGreatDoorZBP
set_option linter.unusedVariables false
set_option linter.unusedSimpArgs false
set_option linter.unusedSectionVars false
namespace Go.Proofs.YthkgjhnckakliaaGreatDoor
open Go.Eng
open Go.ChangeShapes Go.WideShapes Go.ChangeAt Go.RowKit
theorem fact13 : (Rows.fnSetAnyRow.named == Program.varsNamed Tryz.prog 6) = true := by kernel_rfl
theorem fact23 : (Rows.fnSetAnyRow.plainKeys == Program.plainKeys Tryz.prog) = true := by kernel_rfl
theorem fact25 : Program.stopsHeard Tryz.prog = true := by kernel_rfl
theorem fact27 : (Rows.fnSetAnyRow.lifted == Program.liftsFinal Tryz.prog) = true := by kernel_rfl
theorem fact28 : (Program.make Tryz.prog == some Rows.fnSetAnyRow.make) = true := by kernel_rfl
end Go.Proofs.YthkgjhnckakliaaGreatDoor
