/- A part of the proof that the rows statement FnSetBack holds; no conditions. -/
import Derived.Test.YthkgjhnckakliaaGreatDoorZBP
set_option linter.unusedVariables false
set_option linter.unusedSimpArgs false
set_option linter.unusedSectionVars false
namespace Go.Eng
open Go.Proofs
noncomputable def S0 : XS := ⟨0, 0, 0, .nil, .nil⟩
noncomputable def isTrue (r : Option (XV × XS)) : Bool := match r with | some (.bool true, _) => true | _ => false
theorem awake_run : isTrue ((xr X0 2000).call 11 [] S0) = true := by kernel_rfl
theorem awake_tri : Tri C0 11 0 [] [] (fun n hp r => r = .bool true) := by
 have h := awake_run
 unfold isTrue at h
 split at h
 · rename_i s' hs
   have T := (xr_sound X0 (fun _ => rfl) 2000).callS 11 [] S0 (.bool true) s' hs (fun _ => 0) (fun _ => 0) [] ⟨fun id p hq => (by simp only [S0, TR.get_nil] at hq; cases hq), fun id p hq => (by simp only [S0, TR.get_nil] at hq; cases hq)⟩
   refine Tri.mono (R := CR (fun _ => 0) (fun _ => 0) S0 s' (.bool true)) T ?_
   rintro n hp r ⟨_, κ', τ', _, _, rfl⟩
   rfl
 · cases h
end Go.Eng
