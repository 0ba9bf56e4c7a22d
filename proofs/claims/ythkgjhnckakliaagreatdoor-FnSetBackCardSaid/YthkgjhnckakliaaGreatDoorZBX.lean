/- A part of the proof that the rows statement FnSetBack holds; no conditions. -/
import Derived.Test.YthkgjhnckakliaaGreatDoorZBU
import Derived.Test.YthkgjhnckakliaaGreatDoorZBV
import Derived.Test.YthkgjhnckakliaaGreatDoorZBW
set_option linter.unusedVariables false
set_option linter.unusedSimpArgs false
set_option linter.unusedSectionVars false
namespace Go.Proofs.YthkgjhnckakliaaGreatDoor
open Go.Eng
open Go.ChangeShapes Go.WideShapes Go.ChangeAt Go.RowKit
theorem ownKnob_none : ownKnob Tryz.prog.godebug = none := by kernel_rfl
theorem shaped_size {W : World} (h : W.ShapedOpen Tryz.prog) : 22 ≤ W.heap.size := by
 have e : ∃ z t, ((begin Tryz.prog (fun _ _ => 0) default).world.heap[21]?).bind Obj.row? = some (z, t) := by
  cases hx : ((begin Tryz.prog (fun _ _ => 0) default).world.heap[21]?).bind Obj.row? with
  | none =>
    have : ((((begin Tryz.prog (fun _ _ => 0) default).world.heap[21]?).bind Obj.row?).isSome) = true := by kernel_rfl
    rw [hx] at this; cases this
  | some x => exact ⟨x.1, x.2, rfl⟩
 obtain ⟨z, t, e⟩ := e
 obtain ⟨cs, hc, _⟩ := h.1 21 z t (by rw [show Tryz.prog.globals.size = 22 by kernel_rfl]; omega) e
 have := (Array.getElem?_eq_some_iff.1 hc).1
 omega
set_option maxRecDepth 100000 in
theorem lifted_back (os : Os) (started : os.Started) (H : Type) (enc : TypeId × Value → H) (F : Stop.Interp) :
 ReturnsInHanded {} Tryz.checked os 3 .any ((OpenSpec.ofChange Rows.fnSetBackSpec).preRow enc Tryz.prog Tryz.f3 Rows.fnSetBackRow.domain false Rows.fnSetBackRow.laid) (((OpenSpec.ofChange Rows.fnSetBackSpec).at F).post enc Tryz.prog Tryz.f3 false true false false) := by
 refine returnsInHanded_of_row (C := Tryz.checked) (s := OpenSpec.ofChange Rows.fnSetBackSpec) ownKnob_none started (by kernel_rfl) Tryz.func3
  (ChangeSpec.witness_shaped (s := Rows.fnSetBackSpec) (conds := Rows.fnSetBackRow.domain) (apart := false) (enc := enc) (C := Tryz.checked) (os := os) (X := fun w _ => laidMetH Tryz.prog Rows.fnSetBackRow.laid w) false (World.laidAll Tryz.prog os Rows.fnSetBackRow.laid) #[.agg #[.int .i64 0, .bool false, .int .u8 0, .bool false, .int .i64 0, .int .i64 0, .int .i64 0, .int .i64 0, .bool false, .int .i64 0, .slice none 0 0, .slice none 0 0, .slice none 0 0, .slice none 0 0, .slice none 0 0, .slice none 0 0, .slice none 0 0, .slice none 0 0, .slice none 0 0, .slice none 0 0, .slice none 0 0, .slice none 0 0]] 8 (World.laidAll_os _ _ _)
   (World.shaped_of_ZipB (by kernel_rfl) (by kernel_rfl)) (by kernel_rfl) (by kernel_rfl) (by kernel_rfl)
   (by rw [MakeChecks.laidMetH_plain _ _ _ (by kernel_rfl)]; exact laidMet_laidAll _ (by kernel_rfl) (by kernel_rfl))) ?_
 intro W base args ds gs before hval hW _ _ _ hL hsh _
 rw [MakeChecks.laidMetH_plain _ _ _ (by kernel_rfl)] at hL
 exact contract_back H enc W base args ds gs before hval hW (gok hL (shaped_size hsh))
theorem and_t {a b : Bool} (h : a = true) (h2 : b = true) : (a && b) = true := by rw [h, h2]; rfl
theorem closed_back : joinedFacts Tryz.prog 3 Tryz.f3 (OpenSpec.ofChange Rows.fnSetBackSpec).bare Rows.fnSetBackRow = true :=
 (and_t (and_t (and_t (and_t (and_t (and_t (and_t (and_t (and_t (and_t (and_t (and_t (and_t (and_t (and_t (and_t (and_t (and_t (and_t (and_t (and_t (and_t (and_t (and_t (and_t (and_t (and_t (and_t (and_t (and_t (and_t (by kernel_rfl) fact2) fact3) (by kernel_rfl)) (by kernel_rfl)) (by kernel_rfl)) (by kernel_rfl)) (by kernel_rfl)) (by kernel_rfl)) fact10) fact11) fact12) fact13) (by kernel_rfl)) (by kernel_rfl)) (by kernel_rfl)) (by kernel_rfl)) (by kernel_rfl)) (by kernel_rfl)) (by kernel_rfl)) (by kernel_rfl)) (by kernel_rfl)) fact23) (by kernel_rfl)) fact25) (by kernel_rfl)) fact27) fact28) (by kernel_rfl)) (by kernel_rfl)) (by kernel_rfl)) (by kernel_rfl))
theorem said_back : Rows.FnSetBackSaid :=
 OpenClaim.holds_of_cond 3 Tryz.f3 rfl rfl rfl rfl rfl rfl rfl ⟨rfl, rfl, rfl, rfl, rfl⟩ rfl rfl rfl rfl rfl (by kernel_rfl) Tryz.func3 closed_back
  (of_decide_eq_true (by kernel_rfl)) (by unfold Func.isWrapper; first | (rw [if_pos (by decide +kernel)]; kernel_rfl) | (rw [if_neg (by decide +kernel)]; exact ⟨rfl, rfl⟩))
  (fun os started H enc _ F => by rw [OpenClaim.pre_eq_preRow]; exact lifted_back os started H enc F)
theorem plain_back (f : FuncId) (fn : Func) (hf : Tryz.pinned.checked.prog.funcNamed "pub-ferial/laws.FnSetBack" = some f) (hfn : Tryz.pinned.checked.prog.funcs[f]? = some fn) :
 true = Tryz.pinned.checked.prog.looks [] ∧ ∀ (j : Nat) t, fn.params[j]? = some t → Tryz.pinned.checked.prog.wantsStandIn t = false := by
 obtain rfl : f = 3 := Option.some.inj ((show Tryz.prog.funcNamed "pub-ferial/laws.FnSetBack" = some 3 by kernel_rfl).symm.trans hf) |>.symm
 obtain rfl : fn = Tryz.f3 := (Option.some.inj (Tryz.func3.symm.trans hfn)).symm
 refine ⟨by kernel_rfl, fun j t ht => ?_⟩
 rw [Tryz.params3] at ht
 obtain rfl : t = 28 := by simpa using Array.mem_of_getElem? ht
 exact (show Tryz.prog.wantsStandIn 28 = false by kernel_rfl)
theorem setBack_holds : Rows.FnSetBackCardSaid :=
 Claim7.holds_tied_plain_at .later [] _ _ _ _ said_back (fun _ h => by cases h) (by kernel_rfl) (fun _ h => by cases h) fnSetBack_row_tie rfl ⟨rfl, rfl⟩ (by kernel_rfl) rfl plain_back (by kernel_rfl)
end Go.Proofs.YthkgjhnckakliaaGreatDoor
