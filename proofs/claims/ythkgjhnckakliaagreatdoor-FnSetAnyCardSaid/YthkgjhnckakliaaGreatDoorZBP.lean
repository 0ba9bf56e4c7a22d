/- A part of the proof that the rows statement FnSetAny holds: the engine of abstract states, the walks through the program, the bridge; no conditions. -/
import Derived.Test.YthkgjhnckakliaaGreatDoorZAM
import Derived.Test.YthkgjhnckakliaaGreatDoorZBO
set_option linter.unusedVariables false
set_option linter.unusedSimpArgs false
set_option linter.unusedSectionVars false
namespace Go.Eng
open Go.Proofs Go.Proofs.YthkgjhnckakliaaGreatDoor
open Go.ChangeShapes Go.WideShapes Go.ChangeAt Go.RowKit
set_option maxRecDepth 100000 in
theorem contract_any (H : Type) (enc : TypeId × Value → H) (W : World) (base : Nat) (args : Array Value) (ds gs : List (DataW H)) (before : List MemPlace)
    (hval : ∀ (j : Nat) t v, Tryz.f6.params[j]? = some t → args[j]? = some v → Value.okWide Tryz.prog W .any base t v)
    (hW : DataW.Whole enc Tryz.prog Tryz.f6.params.toList Rows.fnSetAnySpec.vars false W args.toList ds gs before) (hg : GOK C0.toCx W) :
    Calls Tryz.prog 6 args W fun e W' => ∃ v, e = .returned v ∧ Rows.fnSetAnySpec.post enc Tryz.prog Tryz.f6 false true false false W args v W' := by
  have hW' := hW
  obtain ⟨p, q, hA0, hV, rfl, hfz, hnd⟩ := hW
  have hA : DataW.TrodAll enc Tryz.prog W 0 (fun _ => true) true Tryz.f6.params.toList args.toList ds p := hA0
  rw [Tryz.params6] at hA hval
  obtain ⟨v0, d0, rfl, rfl, h0⟩ := trodAll_one hA
  obtain ⟨rfl, rfl⟩ := trodVars_none hV
  have hok := hval 0 31 v0 rfl rfl
  simp only [List.append_nil] at hW'
  clear hA0 hA
  have key : ∀ (W' : World) (e : Ending), e = .returned (.bool true) → (∀ b, b < W.heap.size → W'.heap[b]? = W.heap[b]?) → W'.os = W.os → W'.output = W.output →
      (DataW.TrodAll enc Tryz.prog W' 0 (fun b => decide (b < W.heap.size)) true Tryz.f6.params.toList #[v0].toList [d0] p) →
      ∃ v, e = .returned v ∧ Rows.fnSetAnySpec.post enc Tryz.prog Tryz.f6 false true false false W #[v0] v W' := by
    intro W' e he hh ho hu hargs
    refine ⟨_, he, [d0], [], p, [], p, [], hW', ?_, hargs, rfl, kept_same hh ho hu _, fun h => by cases h⟩
    exact trodAll_mk1 (shut_bool Tryz.underlying4 _)
  rcases slice_val Tryz.underlying31 hok with rfl | ⟨a, len, cap, c, el, fz, rfl, hlc, ha, hh⟩
  · have T := (setAny_tri 9 true 0 [] (Nat.le_refl 0)).2 (fun _ => (0, 0)) W (nil_HR hg) ⟨by show 0 < 1; omega, trivial⟩
    refine Calls.mono (show Calls Tryz.prog 6 #[Value.slice none 0 0] W _ from T) ?_
    rintro e W' ⟨ρ', n1, hp1, r, ⟨_, _, rfl⟩, he, _, _, _, _, F⟩
    obtain ⟨f1, f2, f3⟩ := same_heap F (by
      rintro b ⟨id, o, h1, h2, _⟩
      rw [lk_cons] at h1
      split at h1
      · cases h1; cases h2
      · cases h1)
    refine key W' e he f1 f2 f3 ?_
    rw [Tryz.params6]
    obtain ⟨fuel, h0⟩ := h0
    rcases Deep.open_strs Tryz.underlying31 Tryz.underlying9 (by kernel_rfl) h0 with ⟨_, hx⟩ | ⟨a, len, cap, m, Sx, e1, _⟩
    · cases hx
      exact trodAll_mk1 ⟨1, by simp [DataW.trod, Tryz.underlying31, Value.cells]⟩
    · simp [Value.cells] at e1
  · obtain ⟨fuel, h0⟩ := h0
    rcases Deep.open_strs Tryz.underlying31 Tryz.underlying9 (by kernel_rfl) h0 with ⟨e1, _⟩ | ⟨a', len', cap', m, Sx, e1, _, _, hm, hmm, hx, hcell⟩
    · simp [Value.cells] at e1
    have e2 : a' = a ∧ len' = len ∧ cap' = cap := by
      simp [Value.cells] at e1
      exact ⟨e1.1.symm, e1.2.1.symm, e1.2.2.symm⟩
    obtain ⟨rfl, rfl, rfl⟩ := e2
    rw [if_pos rfl] at hmm
    subst hmm
    obtain ⟨b, off, sp⟩ := a'
    simp only at ha
    subst ha
    have hbs : b < W.heap.size := (Array.getElem?_eq_some_iff.1 hh).1
    have HRW := list_HR (len := len') hg hh rfl Sx (fun i hi => (hcell i (by omega)).1)
    have T := (setAny_tri el false m ((List.range len').map fun i => (Sx i).data.toList) (by simpa using hlc)).2 _ W HRW ⟨by show 0 < 1; omega, trivial⟩
    refine Calls.mono (show Calls Tryz.prog 6 #[Value.slice (some ⟨b, off, none⟩) len' m] W _ from by
      have e5 : denL (fun _ => (b, off)) [AV.sl false 0 1 0 ((List.range len').map fun i => (Sx i).data.toList).length m] = [Value.slice (some ⟨b, off, none⟩) len' m] := by
        simp [denL, AV.den]
      rw [e5] at T
      exact T) ?_
    rintro e W' ⟨ρ', n1, hp1, r, ⟨_, _, rfl⟩, he, _, _, _, _, F⟩
    obtain ⟨f1, f2, f3⟩ := same_heap F (by
      rintro b ⟨id, o, h1, h2, _⟩
      rw [lk_cons] at h1
      split at h1
      · cases h1; cases h2
      · cases h1)
    refine key W' e he f1 f2 f3 ?_
    rw [Tryz.params6]
    cases hx
    have hcell' : ∀ i, i < m → W'.cell? ⟨b, off + i, none⟩ = some (.string (Sx i)) := by
      intro i hi
      have h1 := (hcell i hi).1
      rw [add_none rfl i] at h1
      rw [cell?_cells hh] at h1
      rw [cell?_cells (by rw [f1 b hbs]; exact hh)]
      exact h1
    obtain ⟨n, hn⟩ := Deep.shut_strs_whole (enc := enc) (P := Tryz.prog) (w := W') (base := 0) (spare := fun b => decide (b < W.heap.size)) (held := true) Tryz.underlying31 Tryz.underlying9 (by kernel_rfl) (Nat.zero_le _) hlc hm (by simpa using hbs) Sx hcell' (fun i hi => (hcell i hi).2)
    exact trodAll_mk1 ⟨n, hn⟩
end Go.Eng
