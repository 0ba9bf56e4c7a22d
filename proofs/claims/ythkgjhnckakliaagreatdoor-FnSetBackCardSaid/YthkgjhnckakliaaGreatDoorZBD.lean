/- A part of the proof that the rows statement FnSetBack holds; no conditions. -/
import Derived.Test.YthkgjhnckakliaaGreatDoorZBA
import Derived.Test.YthkgjhnckakliaaGreatDoorZBC
set_option linter.unusedVariables false
set_option linter.unusedSimpArgs false
set_option linter.unusedSectionVars false
namespace Go.Eng
open Go.Proofs
attribute [local irreducible] W WL LP Then InBl Tri WS
theorem add_tri (s : Int) (hs : -1000000000000000000 ≤ s ∧ s ≤ 1000000000000000000) : Tri C0 201 0 [] [tsec s 0, .int .i64 9223372036854775807] (fun k hp r => k = 0 ∧ hp = [] ∧ r = tsec (s + 9223372036) 854775807) := by
 have q1 : (9223372036854775807 : Int).tdiv 1000000000 = 9223372036 := by decide
 have q2 : (9223372036854775807 : Int).tmod 1000000000 = 854775807 := by decide
 refine Tri.keep (Tri.mk 32 [.cell 4 88] Tryz.func201 rfl rfl rfl rfl cf201 ?_) t_ (fun r h => q_); intro w0 S T ρ0
 refine w_ ?_
 refine W_draw [0] [] 9 mo0 (by kernel_rfl) (by kernel_rfl) (fun ρ1 hkl => ?_); refine d_ ?_
 refine w_ ?_
 rw [q1, q2]
 refine i_ ?_ ?_ <;> intro h
 · exact absurd h (by decide)
 refine w_ ?_
 refine i_ ?_ ?_ <;> intro h
 · exact absurd h (by decide)
 refine w_ ?_
 refine k_ ?_
 rfl
theorem toPy_tri (w : Int) (hw : 0 ≤ w ∧ w ≤ 6) : Tri C0 184 0 [] [.int .i64 w] (fun k hp r => k = 0 ∧ hp = [] ∧ ∃ v, r = .int .i64 v) := by
 refine Tri.keep ?_ trivial (by rintro r ⟨v, rfl⟩; trivial)
 refine Tri.mk 7 [.tmp 2] Tryz.func184 rfl rfl rfl rfl cf184 ?_; intro w0 S T ρ0
 refine W_seq ?_
 refine W_region ?_
 refine WL_cut 1 ?_; (refine w_ ?_); refine nq_walk ?_
 refine WL_nil ?_
 refine then_normal ?_
 refine W_seq ?_
 refine W_region ?_
 refine WL_cut 1 ?_; (refine w_ ?_); refine nq_walk ?_
 refine WL_conv 0 (.ints 3 (some 7) .i64 [6, 0, 1, 2, 3, 4, 5]) rfl rfl rfl rfl (.inr rfl) ⟨[], rfl⟩ ?_
 have hside : 0 ≤ w ∧ w < ((7 : Nat) : Int) ∧ 7 ≤ 7 := by omega
 have hsidf : 0 + w.toNat < 7 := by omega
 refine w_ ?_
 refine k_ ?_
 exact ⟨_, rfl⟩
end Go.Eng
namespace Go.Eng
open Go.Proofs
structure BND (z : RZ) : Prop where
 st : -1000000000000 ≤ z.st ∧ z.st ≤ 1000000000000
 len : LEN z
 h5 : z.l5.length ≤ 1000
 h6 : z.l6.length ≤ 1000
 h7 : z.l7.length ≤ 1000
theorem Z0 : (-1000000000000 : Int) ≤ 0 ∧ (0 : Int) ≤ 1000000000000 := by decide
theorem NZ_bd (y k : Int) (hy : -1 ≤ y ∧ y ≤ 9999) (hk : 0 ≤ k ∧ k ≤ 400) : -1000 ≤ NZ y + k - 306 ∧ NZ y + k - 306 ≤ 4000000 := by unfold NZ; omega
theorem dateZ_bd (y m d : Int) (hy : 0 ≤ y ∧ y ≤ 9999) (hm : 1 ≤ m ∧ m ≤ 12) (hd : 1 ≤ d ∧ d ≤ 31) : -1000 ≤ dateZ y m d ∧ dateZ y m d ≤ 4000000 := by
 rw [dateZ_tDays y m d hm, tDays_NZ]
 exact NZ_bd _ _ (by split <;> omega) (by omega)
theorem momT_bd (s : List UInt8) (D : Int) (hD : -86400000 ≤ D ∧ D ≤ 345600000000) : -1000000000000 ≤ (momT s D).1 ∧ (momT s D).1 ≤ 1000000000000 := by
 unfold momT
 cases h1 : digZ (s.drop 9) 2 with
 | none => exact Z0
 | some h =>
   cases h2 : digZ (s.drop 11) 2 with
   | none => exact Z0
   | some n =>
     cases h3 : digZ (s.drop 13) 2 with
     | none => exact Z0
     | some x =>
       have a1 := digZ_le2 h1
       have a2 := digZ_le2 h2
       have a3 := digZ_le2 h3
       dsimp only
       split
       · exact Z0
       · split
         · exact ⟨by simp only; omega, by simp only; omega⟩
         · split <;> exact Z0
theorem momZ_bd (s : List UInt8) : -1000000000000 ≤ (momZ s).1 ∧ (momZ s).1 ≤ 1000000000000 := by
 unfold momZ
 cases h1 : digZ s 4 with
 | none => exact Z0
 | some y =>
   cases h2 : digZ (s.drop 4) 2 with
   | none => exact Z0
   | some m =>
     cases h3 : digZ (s.drop 6) 2 with
     | none => exact Z0
     | some d =>
       have a1 := digZ_le4 h1
       have a2 := digZ_le2 h2
       have a3 := digZ_le2 h3
       dsimp only
       split
       · exact Z0
       · rename_i hn
         have hml := mdays_le m y
         have hb := dateZ_bd y m d ⟨a1.1, a1.2.1⟩ (by omega) (by omega)
         split
         · exact ⟨by simp only; omega, by simp only; omega⟩
         · exact momT_bd _ _ (by omega)
theorem startZ_bd (s : List UInt8) : -1000000000000 ≤ (startZ s).1 ∧ (startZ s).1 ≤ 1000000000000 := by
 unfold startZ
 split
 · exact momZ_bd _
 · split
   · exact Z0
   · split
     · exact Z0
     · exact momZ_bd _
 · exact Z0
end Go.Eng
