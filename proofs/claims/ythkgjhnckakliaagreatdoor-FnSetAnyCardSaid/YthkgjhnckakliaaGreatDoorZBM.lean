/- A part of the proof that the rows statement FnSetAny holds: the engine of abstract states, the walks through the program, the bridge; no conditions. -/
import Derived.Test.YthkgjhnckakliaaGreatDoorZBL
import Derived.Test.YthkgjhnckakliaaGreatDoorZAN
set_option linter.unusedVariables false
set_option linter.unusedSimpArgs false
set_option linter.unusedSectionVars false
namespace Go.Eng
open Go.Proofs
noncomputable def msT : TypeId → String → Option FuncId := fun t m =>
  bif Nat.beq t 169 then (if m = "Len" then some 358 else if m = "Less" then some 359 else if m = "Swap" then some 360 else none)
  else bif Nat.beq t 175 then (if m = "Len" then some 361 else if m = "Less" then some 362 else if m = "Swap" then some 363 else none) else none
theorem ms_of (t f : Nat) (m : String) (i : TypeInfo) (sig d : TypeId) (hi : Tryz.prog.info? t = some i) (hm : i.methods.find? (·.name == m) = some ⟨m, sig, #[], some (f, false)⟩) (hu : Tryz.prog.underlying t = some (.slice d))
    (hf : ∀ args w, (callFunc f args).run Tryz.prog w = .ok (.enter f args) w) : ∀ v args w, (callMethod (.iface t v) m args).run Tryz.prog w = .ok (.enter f (#[v] ++ args)) w := by
  intro v args w
  have hmeth : ∀ n, (method (n + 1) t v m).run Tryz.prog w = .ok (f, v) w := by
    intro n
    have h1 : (typeInfo t).run Tryz.prog w = .ok i w := by simp only [typeInfo, Sem.run_bind, run_program, Result.andThen_ok, hi, Sem.run_pure]
    simp only [method, Sem.run_bind, h1, Result.andThen_ok, hm, follow, Sem.run_pure, receiverAt, Go.run_underlying hu, Place.get]
  have hn : Tryz.prog.types.size + Made.depth = (Tryz.prog.types.size + Made.depth - 1) + 1 := by
    have : 0 < Made.depth := by decide
    omega
  simp only [callMethod, Sem.run_bind, run_program, Result.andThen_ok]
  rw [hn, hmeth]
  simp only [Result.andThen_ok, hf]
theorem ms_all : ∀ t m f, msT t m = some f → ∀ v args w, (callMethod (.iface t v) m args).run Tryz.prog w = .ok (.enter f (#[v] ++ args)) w := by
  intro t m f h
  unfold msT at h
  cases h1 : Nat.beq t 169 <;> rw [h1] at h
  · simp only [cond_false] at h
    cases h2 : Nat.beq t 175 <;> rw [h2] at h
    · cases h
    · have := Nat.eq_of_beq_eq_true h2
      subst this
      simp only [cond_true] at h
      split at h
      · rename_i e; subst e; cases h; exact ms_of 175 361 "Len" Tryz.t175 239 177 (by kernel_rfl) (by kernel_rfl) (by kernel_rfl) fok361.enter
      · split at h
        · rename_i e; subst e; cases h; exact ms_of 175 362 "Less" Tryz.t175 303 177 (by kernel_rfl) (by kernel_rfl) (by kernel_rfl) fok362.enter
        · split at h
          · rename_i e; subst e; cases h; exact ms_of 175 363 "Swap" Tryz.t175 345 177 (by kernel_rfl) (by kernel_rfl) (by kernel_rfl) fok363.enter
          · cases h
  · have := Nat.eq_of_beq_eq_true h1
    subst this
    simp only [cond_true] at h
    split at h
    · rename_i e; subst e; cases h; exact ms_of 169 358 "Len" Tryz.t169 239 88 (by kernel_rfl) (by kernel_rfl) (by kernel_rfl) fok358.enter
    · split at h
      · rename_i e; subst e; cases h; exact ms_of 169 359 "Less" Tryz.t169 303 88 (by kernel_rfl) (by kernel_rfl) (by kernel_rfl) fok359.enter
      · split at h
        · rename_i e; subst e; cases h; exact ms_of 169 360 "Swap" Tryz.t169 345 88 (by kernel_rfl) (by kernel_rfl) (by kernel_rfl) fok360.enter
        · cases h
noncomputable def X0 : XC := { C0 with
  ft := fnTree.get
  ftok := fun f fn h => ⟨(BT.get_all fnAll h).fn, (BT.get_all fnAll h).enter⟩
  gx := fun _ => none
  gxok := fun _ _ h => (by cases h)
  ms := msT
  msok := ms_all
  dr := by kernel_rfl
  okc := okC
  okf := fun f fn c h hb => (by have := (BT.get_all fnAll h).ok; unfold okB at this; rw [hb] at this; exact this) }
end Go.Eng
