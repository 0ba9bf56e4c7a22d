/- A part of the proof that the rows statement FnSetBack holds; no conditions. -/
import Derived.Test.YthkgjhnckakliaaGreatDoorZAP
import Derived.Test.YthkgjhnckakliaaGreatDoorZAQ
set_option linter.unusedVariables false
set_option linter.unusedSimpArgs false
set_option linter.unusedSectionVars false
namespace Go.Eng
open Go.Proofs
attribute [local irreducible] W WL LP Then InBl Tri WS
def cutL (cs : List UInt8) : List UInt8 → Nat
 | [] => 0
 | b :: l => if b ∈ cs then 0 else cutL cs l + 1
theorem cutL_le (cs : List UInt8) : ∀ l, cutL cs l ≤ l.length
 | [] => by simp [cutL]
 | b :: l => by have := cutL_le cs l; simp only [cutL]; split <;> simp <;> omega
theorem bt_nat (l : List UInt8) (i : Nat) : bt l i = ((l.getD i 0).toNat : Int) := by simp [bt]
theorem bt_asc {l : List UInt8} (h : asc l) {i : Nat} (hi : i < l.length) : bt l i < 128 := by
 rw [bt_nat]
 have : l.getD i 0 = l[i] := by simp [List.getD, hi]
 rw [this]; have := h l[i] (List.getElem_mem hi); omega
theorem bt_eq {l m : List UInt8} {i j : Nat} : bt l i = bt m j ↔ l.getD i 0 = m.getD j 0 := by
 rw [bt_nat, bt_nat]
 constructor
 · intro h; exact UInt8.toNat_inj.1 (by omega)
 · intro h; rw [h]
theorem indexAny_tri (s cs : List UInt8) (hs : s.length ≤ 4611686018427387904) (hcl : cs.length ≤ 4611686018427387904) (ha : asc s) (hc : asc cs) : Tri C0 215 0 [] [.str s, .str cs]
 (fun k hp r => k = 0 ∧ hp = [] ∧ r = .int .i64 (if cutL cs s < s.length then (cutL cs s : Int) else -1)) := by
 refine Tri.keep (Tri.mk 24 [.tmp 4] Tryz.func215 rfl rfl rfl rfl cf215 ?_) t_ (fun r h => q_); intro w0 S T ρ0
 refine w_ ?_
 refine W_loop ?_; refine LP_ren [0] (LP_ind 1 (fun i : Nat => ([(1, .str cs), (10, .ptr 0 0)], [(0, .iter s i)])) (fun i => s.length - i) (fun i => i ≤ s.length ∧ cutL cs s = i + cutL cs (s.drop i)) 0 ?_ (⟨Nat.zero_le _, by simp⟩)) s_ s_ rfl rfl rfl
 rintro i ⟨hi, h1⟩ ih
 refine LP_round ?_; try dsimp only
 refine w_ ?_
 by_cases h : i < s.length
 · rw [drop_getB h, cutL] at h1
   refine WL_next rfl rfl rfl rfl h (bt_asc ha h) ?_
   refine w_ ?_
   refine W_cond_true rfl ?_
   refine w_ ?_
   refine W_loop ?_; refine LP_ren [0, 1] (LP_ind 2 (fun j : Nat => ([(1, .str cs), (10, .ptr 0 0), (5, .int .i64 i), (6, .int .i32 (bt s i)), (16, .ptr 1 0)], [(0, .iter s (i + 1)), (1, .iter cs j)])) (fun j => cs.length - j) (fun j => j ≤ cs.length ∧ (s.getD i 0 ∈ cs ↔ s.getD i 0 ∈ cs.drop j)) 0 ?_ (⟨Nat.zero_le _, Iff.rfl⟩)) s_ s_ rfl rfl rfl
   rintro j ⟨hj, h2⟩ ih2
   refine LP_round ?_; try dsimp only
   refine w_ ?_
   by_cases h3 : j < cs.length
   · rw [drop_getB h3, List.mem_cons] at h2
     refine WL_next rfl rfl rfl rfl h3 (bt_asc hc h3) ?_
     refine w_ ?_
     refine W_cond_true rfl ?_
     refine w_ ?_
     refine i_ ?_ ?_ <;> intro h4
     · have h4 := bt_eq.1 h4
       rw [if_pos (h2.2 (.inl h4))] at h1
       rw [if_pos (by omega)]
       refine w_ ?_
       refine k_ ?_
       rw [h1]; rfl
     · have h4 : ¬ s.getD i 0 = cs.getD j 0 := fun e => h4 (bt_eq.2 e)
       refine w_ ?_
       refine LP_ren [0, 1] (ih2 (j + 1) ⟨by omega, ?_⟩ (by omega)) ?_ ?_ rfl rfl rfl
       · rw [h2]; exact ⟨fun e => e.resolve_left h4, .inr⟩
       · exact s_
       · exact s_
   · have h3 : j = cs.length := by omega
     rw [h3, List.drop_length] at h2
     rw [if_neg (by rw [h2]; simp)] at h1
     refine WL_next_end rfl rfl rfl rfl (by omega) ?_
     refine w_ ?_
     refine W_cond_false rfl ?_
     refine w_ ?_
     refine x_ ?_
     refine w_ ?_
     refine LP_ren [0] (ih (i + 1) (⟨by omega, by omega⟩) (by omega)) s_ s_ rfl rfl rfl
 · have h : i = s.length := by omega
   rw [h, List.drop_length, cutL] at h1
   rw [if_neg (by omega)]
   refine WL_next_end rfl rfl rfl rfl (by omega) ?_
   refine w_ ?_
   refine W_cond_false rfl ?_
   refine w_ ?_
   refine x_ ?_
   refine w_ ?_
   refine k_ ?_
   rfl
theorem tzid_utc : Tri C0 216 0 [] [.str [84, 90, 73, 68, 61, 85, 84, 67]] (fun k hp r => k = 0 ∧ hp = [] ∧ r = .tup [.agg [], .v .nilIface]) := by
 refine Tri.keep (Tri.mk 19 [.cell 2 156, .tmp 3] Tryz.func216 rfl rfl rfl rfl cf216 ?_) t_ (fun r h => q_); intro w0 S T ρ0
 refine w_ ?_
 refine WL_call [] (hasPrefix_tri [84, 90, 73, 68, 61, 85, 84, 67] [84, 90, 73, 68, 61]) rfl rfl rfl t_ t_ rfl rfl rfl rfl ?_; rintro _ _ _ ⟨rfl, rfl, rfl⟩
 refine w_ ?_
 refine W_cond_false rfl ?_
 refine w_ ?_
 refine WL_call [] (loadLoc_utc) rfl rfl rfl t_ t_ rfl rfl rfl rfl ?_; rintro _ _ _ ⟨rfl, rfl, rfl⟩
 refine w_ ?_
 refine k_ ?_
 rfl
theorem tzid_err (s : List UInt8) (h : ¬ Lib.hasPrefix s [84, 90, 73, 68, 61] = true) : Tri C0 216 0 [] [.str s] (fun k hp r => k = 0 ∧ hp = [] ∧ ∃ e, isE e ∧ r = .tup [.agg [], e]) := by
 refine Tri.keep ?_ trivial (by rintro r ⟨e, he, rfl⟩; exact ⟨trivial, isE_lt he 0, trivial⟩)
 refine Tri.mk 19 [.cell 2 156, .tmp 3] Tryz.func216 rfl rfl rfl rfl cf216 ?_; intro w0 S T ρ0
 refine w_ ?_
 refine WL_call [] (hasPrefix_tri s [84, 90, 73, 68, 61]) rfl rfl rfl t_ t_ rfl rfl rfl rfl ?_; rintro _ _ _ ⟨rfl, rfl, rfl⟩
 simp only [Bool.not_eq_true] at h
 rw [h]
 refine w_ ?_
 refine W_cond_true rfl ?_
 refine w_ ?_
 refine WL_call [] (errNew_tri _) rfl rfl rfl t_ t_ rfl rfl rfl rfl ?_; rintro _ _ _ ⟨rfl, rfl, et, ep, rfl⟩
 refine w_ ?_
 refine k_ ?_
 exact ⟨_, ⟨_, _, rfl⟩, rfl⟩
end Go.Eng
