/- A part of the proof that the rows statement FnSetBack holds; no conditions. -/
import Derived.Test.YthkgjhnckakliaaGreatDoorZAJ
set_option linter.unusedVariables false
set_option linter.unusedSimpArgs false
set_option linter.unusedSectionVars false
namespace Go.Proofs.YthkgjhnckakliaaGreatDoor
open Go.Eng
open Go.ChangeShapes Go.WideShapes Go.ChangeAt Go.RowKit
theorem fact13 : (Rows.fnSetBackRow.named == Program.varsNamed Tryz.prog 3) = true := by kernel_rfl
theorem fact23 : (Rows.fnSetBackRow.plainKeys == Program.plainKeys Tryz.prog) = true := by kernel_rfl
theorem fact25 : Program.stopsHeard Tryz.prog = true := by kernel_rfl
theorem fact27 : (Rows.fnSetBackRow.lifted == Program.liftsFinal Tryz.prog) = true := by kernel_rfl
theorem fact28 : (Program.make Tryz.prog == some Rows.fnSetBackRow.make) = true := by kernel_rfl
end Go.Proofs.YthkgjhnckakliaaGreatDoor
