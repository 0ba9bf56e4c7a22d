/- A part of the proof that the rows statement FnSetBack holds; no conditions. -/
import Derived.Test.YthkgjhnckakliaaGreatDoorZAJ
set_option linter.unusedVariables false
set_option linter.unusedSimpArgs false
set_option linter.unusedSectionVars false
namespace Go.Proofs.YthkgjhnckakliaaGreatDoor
open Go.Eng
open Go.ChangeShapes Go.WideShapes Go.ChangeAt Go.RowKit
theorem fact11 : (Rows.fnSetBackRow.unfollowed == Program.unfollowed Tryz.prog 3) = true := by kernel_rfl
theorem fact12 : (Rows.fnSetBackRow.recurses == Program.recurses Tryz.prog 3) = true := by kernel_rfl
end Go.Proofs.YthkgjhnckakliaaGreatDoor
