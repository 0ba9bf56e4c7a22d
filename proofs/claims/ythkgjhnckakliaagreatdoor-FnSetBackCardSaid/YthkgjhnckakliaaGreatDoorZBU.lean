/- A part of the proof that the rows statement FnSetBack holds; no conditions. -/
import Derived.Test.YthkgjhnckakliaaGreatDoorZBS
import Derived.Test.YthkgjhnckakliaaGreatDoorZBT
import Derived.WideKeyArgs
set_option linter.unusedVariables false
set_option linter.unusedSimpArgs false
set_option linter.unusedSectionVars false
namespace Go.Eng
open Go.Proofs Go.Proofs.YthkgjhnckakliaaGreatDoor
open Go.ChangeShapes Go.WideShapes Go.ChangeAt Go.RowKit
theorem same_heap {S T : Nat → Prop} {hp : Hp} {ρ : Nat → Nat × Nat} {w w' : World} (F : FR S T hp ρ w w') (hS : ∀ b, ¬ S b) : (∀ b, b < w.heap.size → w'.heap[b]? = w.heap[b]?) ∧ w'.os = w.os ∧ w'.output = w.output :=
 ⟨fun b hb => F.frame b hb (hS b), F.os, F.output⟩
theorem kept_same {W W' : World} (h : ∀ b, b < W.heap.size → W'.heap[b]? = W.heap[b]?) (ho : W'.os = W.os) (hu : W'.output = W.output) (may : MemPlace → Prop) : W.keptBut W' may := by
 refine ⟨ho, hu, fun i hi => ?_⟩
 rw [h i hi]
 cases W.heap[i]? with
 | none => rfl
 | some o =>
   cases o <;> first | exact ⟨rfl, rfl, rfl, fun _ _ => rfl⟩ | exact .inr ⟨rfl, rfl⟩ | rfl
theorem same_at {W W' : World} (h : ∀ b, b < W.heap.size → W'.heap[b]? = W.heap[b]?) {p : MemPlace} (hp : p.block < W.heap.size) : W.sameAt W' p := by
 cases p with
 | cell b off =>
   show W'.cell? _ = W.cell? _
   unfold World.cell?
   rw [h b hp]
 | map b => exact h b hp
set_option maxRecDepth 100000 in
theorem contract_back (H : Type) (enc : TypeId × Value → H) (W : World) (base : Nat) (args : Array Value) (ds gs : List (DataW H)) (before : List MemPlace)
 (hval : ∀ (j : Nat) t v, Tryz.f3.params[j]? = some t → args[j]? = some v → Value.okWide Tryz.prog W .any base t v)
 (hW : DataW.Whole enc Tryz.prog Tryz.f3.params.toList Rows.fnSetBackSpec.vars false W args.toList ds gs before) (hg : GOK C0.toCx W) :
 Calls Tryz.prog 3 args W fun e W' => ∃ v, e = .returned v ∧ Rows.fnSetBackSpec.post enc Tryz.prog Tryz.f3 false true false false W args v W' := by
 have hW' := hW
 obtain ⟨p, q, hA0, hV, rfl, hfz, hnd⟩ := hW
 have hA : DataW.TrodAll enc Tryz.prog W 0 (fun _ => true) true Tryz.f3.params.toList args.toList ds p := hA0
 rw [Tryz.params3] at hA hval
 obtain ⟨v0, d0, rfl, rfl, h0⟩ := trodAll_one hA
 obtain ⟨rfl, rfl⟩ := trodVars_none hV
 have hok := hval 0 28 v0 rfl rfl
 simp only [List.append_nil] at hW'
 clear hA0 hA
 obtain ⟨n, hn⟩ := h0
 obtain ⟨s, hs, hu, y, β, HRW, rfl, hy, A⟩ := open_set hg hok hn
 have T := (setBack_tri s hs hu y hy A).2 β W HRW (by
  show ltL 12 (_ : List AV)
  exact s_)
 refine Calls.mono (show Calls Tryz.prog 3 #[(AV.agg (cellsH s hs hu y 0)).den β] W _ from T) ?_
 rintro e W' ⟨ρ', n1, hp1, r, ⟨_, _, rfl⟩, he, _, _, _, _, F⟩
 obtain ⟨f1, f2, f3⟩ := same_heap F (by
  rintro b ⟨id, o, h1, h2, _⟩
  have := lk_mem h1
  simp only [setHp, setHpM, lstHp, List.mem_cons, List.not_mem_nil, or_false, Prod.mk.injEq] at this
  rcases this with ⟨_, rfl⟩ | ⟨_, rfl⟩ | ⟨_, rfl⟩ | ⟨_, rfl⟩ | ⟨_, rfl⟩ | ⟨_, rfl⟩ | ⟨_, rfl⟩ | ⟨_, rfl⟩ | ⟨_, rfl⟩ | ⟨_, rfl⟩ | ⟨_, rfl⟩ | ⟨_, rfl⟩ <;> cases h2)
 have hblk : ∀ q ∈ p, q.block < W.heap.size := DataW.trod_lt n _ _ _ hn
 refine ⟨_, he, [d0], [], p, [], p, [], hW', ?_, ?_, rfl, kept_same f1 f2 f3 _, fun h => by cases h⟩
 · exact trodAll_mk1 (shut_bool Tryz.underlying4 _)
 · rw [Tryz.params3]
   exact trodAll_mk1 (WideElems.Trod_stays fact2 (by kernel_rfl) (of_decide_eq_true (by kernel_rfl)) ⟨n, hn⟩ (fun q hq => same_at f1 (hblk q hq)) (fun q hq => decide_eq_true (hblk q hq)))
end Go.Eng
