/- A part of the proof that the rows statement FnSetAny holds: the engine of abstract states, the walks through the program, the bridge; no conditions. -/
import Derived.Test.YthkgjhnckakliaaGreatDoorZAO
import Derived.Test.YthkgjhnckakliaaGreatDoorZBC
import Derived.Test.YthkgjhnckakliaaGreatDoorZBF
import Derived.Test.YthkgjhnckakliaaGreatDoorZBD
set_option linter.unusedVariables false
set_option linter.unusedSimpArgs false
set_option linter.unusedSectionVars false
namespace Go.Eng
open Go.Proofs
attribute [local irreducible] W WL LP Then InBl Tri WS
theorem add_tri (s : Int) (hs : -1000000000000000000 ≤ s ∧ s ≤ 1000000000000000000) : Tri C0 201 0 [] [tsec s 0, .int .i64 9223372036854775807] (fun k hp r => k = 0 ∧ hp = [] ∧ r = tsec (s + 9223372036) 854775807) := by
  have q1 : (9223372036854775807 : Int).tdiv 1000000000 = 9223372036 := by decide
  have q2 : (9223372036854775807 : Int).tmod 1000000000 = 854775807 := by decide
  refine Tri.keep (Tri.mk 32 [.cell 4 88] Tryz.func201 rfl rfl rfl rfl cf201 ?_) t_ (fun r h => q_); intro w0 S T ρ0
  refine w_ ?_
  refine W_draw [0] [] 9 mo0 (by kernel_rfl) (by kernel_rfl) (fun ρ1 hkl => ?_); refine d_ ?_
  refine w_ ?_
  rw [q1, q2]
  refine i_ ?_ ?_ <;> intro h
  · exact absurd h (by decide)
  refine w_ ?_
  refine i_ ?_ ?_ <;> intro h
  · exact absurd h (by decide)
  refine w_ ?_
  refine k_ ?_
  rfl
theorem toPy_tri (w : Int) (hw : 0 ≤ w ∧ w ≤ 6) : Tri C0 184 0 [] [.int .i64 w] (fun k hp r => k = 0 ∧ hp = [] ∧ ∃ v, r = .int .i64 v) := by
  refine Tri.keep ?_ trivial (by rintro r ⟨v, rfl⟩; trivial)
  refine Tri.mk 7 [.tmp 2] Tryz.func184 rfl rfl rfl rfl cf184 ?_; intro w0 S T ρ0
  refine W_seq ?_
  refine W_region ?_
  refine WL_cut 1 ?_; (refine w_ ?_); refine nq_walk ?_
  refine WL_nil ?_
  refine then_normal ?_
  refine W_seq ?_
  refine W_region ?_
  refine WL_cut 1 ?_; (refine w_ ?_); refine nq_walk ?_
  refine WL_conv 0 (.ints 3 (some 7) .i64 [6, 0, 1, 2, 3, 4, 5]) rfl rfl rfl rfl (.inr rfl) ⟨[], rfl⟩ ?_
  have hside : 0 ≤ w ∧ w < ((7 : Nat) : Int) ∧ 7 ≤ 7 := by omega
  have hsidf : 0 + w.toNat < 7 := by omega
  refine w_ ?_
  refine k_ ?_
  exact ⟨_, rfl⟩
end Go.Eng
namespace Go.Eng
open Go.Proofs
structure BND (z : RZ) : Prop where
  st : -1000000000000 ≤ z.st ∧ z.st ≤ 1000000000000
  len : LEN z
  h5 : z.l5.length ≤ 1000
  h6 : z.l6.length ≤ 1000
  h7 : z.l7.length ≤ 1000
theorem Z0 : (-1000000000000 : Int) ≤ 0 ∧ (0 : Int) ≤ 1000000000000 := by decide
theorem NZ_bd (y k : Int) (hy : -1 ≤ y ∧ y ≤ 9999) (hk : 0 ≤ k ∧ k ≤ 400) : -1000 ≤ NZ y + k - 306 ∧ NZ y + k - 306 ≤ 4000000 := by unfold NZ; omega
theorem dateZ_bd (y m d : Int) (hy : 0 ≤ y ∧ y ≤ 9999) (hm : 1 ≤ m ∧ m ≤ 12) (hd : 1 ≤ d ∧ d ≤ 31) : -1000 ≤ dateZ y m d ∧ dateZ y m d ≤ 4000000 := by
  rw [dateZ_tDays y m d hm, tDays_NZ]
  exact NZ_bd _ _ (by split <;> omega) (by omega)
theorem momT_bd (s : List UInt8) (D : Int) (hD : -86400000 ≤ D ∧ D ≤ 345600000000) : -1000000000000 ≤ (momT s D).1 ∧ (momT s D).1 ≤ 1000000000000 := by
  unfold momT
  cases h1 : digZ (s.drop 9) 2 with
  | none => exact Z0
  | some h =>
    cases h2 : digZ (s.drop 11) 2 with
    | none => exact Z0
    | some n =>
      cases h3 : digZ (s.drop 13) 2 with
      | none => exact Z0
      | some x =>
        have a1 := digZ_le2 h1
        have a2 := digZ_le2 h2
        have a3 := digZ_le2 h3
        dsimp only
        split
        · exact Z0
        · split
          · exact ⟨by simp only; omega, by simp only; omega⟩
          · split <;> exact Z0
theorem momZ_bd (s : List UInt8) : -1000000000000 ≤ (momZ s).1 ∧ (momZ s).1 ≤ 1000000000000 := by
  unfold momZ
  cases h1 : digZ s 4 with
  | none => exact Z0
  | some y =>
    cases h2 : digZ (s.drop 4) 2 with
    | none => exact Z0
    | some m =>
      cases h3 : digZ (s.drop 6) 2 with
      | none => exact Z0
      | some d =>
        have a1 := digZ_le4 h1
        have a2 := digZ_le2 h2
        have a3 := digZ_le2 h3
        dsimp only
        split
        · exact Z0
        · rename_i hn
          have hml := mdays_le m y
          have hb := dateZ_bd y m d ⟨a1.1, a1.2.1⟩ (by omega) (by omega)
          split
          · exact ⟨by simp only; omega, by simp only; omega⟩
          · exact momT_bd _ _ (by omega)
theorem startZ_bd (s : List UInt8) : -1000000000000 ≤ (startZ s).1 ∧ (startZ s).1 ≤ 1000000000000 := by
  unfold startZ
  split
  · exact momZ_bd _
  · split
    · exact Z0
    · split
      · exact Z0
      · exact momZ_bd _
  · exact Z0
structure SML (z : RZ) : Prop where
  st : -1000000000000 ≤ z.st ∧ z.st ≤ 1000000000000
  h5 : z.l5.length ≤ 1000
  h6 : z.l6.length ≤ 1000
  h7 : z.l7.length ≤ 1000
theorem SML_zero : SML RZ.zero := ⟨Z0, Nat.zero_le _, Nat.zero_le _, Nat.zero_le _⟩
theorem splitB_sm {c : UInt8} {v : List UInt8} {α : Type} {f : List UInt8 → Option α} {xs : List α} (h : mapZ f (splitB c v) = some xs) (hv : v.length ≤ 300) : xs.length ≤ 1000 := by
  have := mapZ_len h; have := splitB_count c v; omega
theorem partZ_SML {z : RZ} {k v : List UInt8} (h : SML z) (hv : v.length ≤ 300) : SML (partZ z k v).1 := by
  have h' := h
  obtain ⟨hst, h5, h6, h7⟩ := h'
  by_cases hFREQ : k = [70, 82, 69, 81]
  · subst hFREQ; rw [partZ_FREQ]
    exact okZ_cases h fun a e => ⟨hst, h5, h6, h7⟩
  by_cases hDTSTART : k = [68, 84, 83, 84, 65, 82, 84]
  · subst hDTSTART; rw [partZ_DTSTART]
    split
    · exact ⟨momZ_bd _, h5, h6, h7⟩
    · exact h
  by_cases hUNTIL : k = [85, 78, 84, 73, 76]
  · subst hUNTIL; rw [partZ_UNTIL]
    split
    · exact ⟨hst, h5, h6, h7⟩
    · exact h
  by_cases hINTERVAL : k = [73, 78, 84, 69, 82, 86, 65, 76]
  · subst hINTERVAL; rw [partZ_INTERVAL]
    exact okZ_cases h fun a e => ⟨hst, h5, h6, h7⟩
  by_cases hCOUNT : k = [67, 79, 85, 78, 84]
  · subst hCOUNT; rw [partZ_COUNT]
    exact okZ_cases h fun a e => ⟨hst, h5, h6, h7⟩
  by_cases hWKST : k = [87, 75, 83, 84]
  · subst hWKST; rw [partZ_WKST]
    split
    · split
      · exact ⟨hst, h5, h6, h7⟩
      · exact h
    · exact h
  by_cases hBYDAY : k = [66, 89, 68, 65, 89]
  · subst hBYDAY; rw [partZ_BYDAY]
    exact okZ_cases h fun a e => ⟨hst, h5, h6, h7⟩
  by_cases hBYSETPOS : k = [66, 89, 83, 69, 84, 80, 79, 83]
  · subst hBYSETPOS; rw [partZ_BYSETPOS]
    exact okZ_cases h fun a e => ⟨hst, h5, h6, h7⟩
  by_cases hBYMONTH : k = [66, 89, 77, 79, 78, 84, 72]
  · subst hBYMONTH; rw [partZ_BYMONTH]
    exact okZ_cases h fun a e => ⟨hst, h5, h6, h7⟩
  by_cases hBYMONTHDAY : k = [66, 89, 77, 79, 78, 84, 72, 68, 65, 89]
  · subst hBYMONTHDAY; rw [partZ_BYMONTHDAY]
    exact okZ_cases h fun a e => ⟨hst, h5, h6, h7⟩
  by_cases hBYYEARDAY : k = [66, 89, 89, 69, 65, 82, 68, 65, 89]
  · subst hBYYEARDAY; rw [partZ_BYYEARDAY]
    exact okZ_cases h fun a e => ⟨hst, h5, h6, h7⟩
  by_cases hBYWEEKNO : k = [66, 89, 87, 69, 69, 75, 78, 79]
  · subst hBYWEEKNO; rw [partZ_BYWEEKNO]
    exact okZ_cases h fun a e => ⟨hst, h5, h6, h7⟩
  by_cases hBYHOUR : k = [66, 89, 72, 79, 85, 82]
  · subst hBYHOUR; rw [partZ_BYHOUR]
    exact okZ_cases h fun a e => ⟨hst, splitB_sm e hv, h6, h7⟩
  by_cases hBYMINUTE : k = [66, 89, 77, 73, 78, 85, 84, 69]
  · subst hBYMINUTE; rw [partZ_BYMINUTE]
    exact okZ_cases h fun a e => ⟨hst, h5, splitB_sm e hv, h7⟩
  by_cases hBYSECOND : k = [66, 89, 83, 69, 67, 79, 78, 68]
  · subst hBYSECOND; rw [partZ_BYSECOND]
    exact okZ_cases h fun a e => ⟨hst, h5, h6, splitB_sm e hv⟩
  by_cases hBYEASTER : k = [66, 89, 69, 65, 83, 84, 69, 82]
  · subst hBYEASTER; rw [partZ_BYEASTER]
    exact okZ_cases h fun a e => ⟨hst, h5, h6, h7⟩
  rw [partZ_other z k v hFREQ hDTSTART hUNTIL hINTERVAL hCOUNT hWKST hBYDAY hBYSETPOS hBYMONTH hBYMONTHDAY hBYYEARDAY hBYWEEKNO hBYHOUR hBYMINUTE hBYSECOND hBYEASTER]; exact h
theorem loopZ_SML : ∀ (l : List (List UInt8)) (z : RZ) (fq : Bool), SML z → (∀ x ∈ l, x.length ≤ 300) → SML (loopZ z fq l).1
  | [], z, fq, h, _ => by
    simp only [loopZ]; split
    · exact h
    · exact SML_zero
  | p :: l, z, fq, h, hl => by
    have hp := hl p (by simp)
    have hm := splitB_mem 61 p
    simp only [loopZ]
    split
    · rename_i k v e
      rw [e] at hm
      have hv := (hm v (by simp)).1
      split
      · exact SML_zero
      · split
        · exact loopZ_SML l _ _ (partZ_SML h (by omega)) (fun x hx => hl x (List.mem_cons_of_mem _ hx))
        · exact SML_zero
    · exact SML_zero
theorem partsZ_SML {z : RZ} {x : List UInt8} (h : SML z) (hx : x.length ≤ 300) : SML (partsZ z x).1 := by
  unfold partsZ
  have hm := splitB_mem 59 (bareZ x)
  have hb := bareZ_le x
  exact loopZ_SML _ _ _ h (fun y hy => by have := (hm y hy).1; omega)
theorem optZ_SML {s : List UInt8} (hs : s.length ≤ 300) : SML (optZ s).1 := by
  have htl := trim_le s
  have hm := splitB_mem 10 (Lib.trimSpace s)
  unfold optZ
  generalize splitB 10 (Lib.trimSpace s) = ls at *
  match ls with
  | [] => exact SML_zero
  | [x] => exact partsZ_SML SML_zero (by have := (hm x (by simp)).1; omega)
  | [d, x] =>
    simp only [optL]
    split
    · exact SML_zero
    · split
      · exact SML_zero
      · split
        · exact partsZ_SML ⟨startZ_bd _, Nat.zero_le _, Nat.zero_le _, Nat.zero_le _⟩ (by have := (hm x (by simp)).1; omega)
        · exact SML_zero
  | a :: b :: c :: l => exact SML_zero
theorem optZ_BND {s : List UInt8} (hs : s.length ≤ 300) : BND (optZ s).1 := by
  obtain ⟨a, b, c, d⟩ := optZ_SML hs
  exact ⟨a, optZ_LEN (by omega), b, c, d⟩
end Go.Eng
