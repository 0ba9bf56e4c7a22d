/- A part of the proof that the rows statement FnSetBack holds; no conditions. -/
import Derived.Test.YthkgjhnckakliaaGreatDoorZBN
set_option linter.unusedVariables false
set_option linter.unusedSimpArgs false
set_option linter.unusedSectionVars false
namespace Go.Eng
open Go.Proofs
attribute [local irreducible] W WL LP Then InBl Tri WS
structure TST (s : SZ) (hs hu : Bool) : Prop where
 st : DateR s.start
 no : s.has = false → sameP s.z hs hu RZ.zero false false
 ru : s.has = true → TRT s.z hs hu ∧ rightZ s.z = true
 nr : s.rd.length ≤ 40
 ne : s.ex.length ≤ 40
 rd : ∀ n ∈ s.rd, DateR n ∧ n ≠ 0
 ex : ∀ n ∈ s.ex, DateR n ∧ n ≠ 0
theorem LEN_z : LEN RZ.zero := ⟨Nat.zero_le _, Nat.zero_le _, Nat.zero_le _, Nat.zero_le _, Nat.zero_le _, Nat.zero_le _, Nat.zero_le _, Nat.zero_le _, Nat.zero_le _, Nat.zero_le _⟩
theorem mem_getDI {l : List Int} {P : Int → Prop} (h : ∀ k, k < l.length → P (l.getD k 0)) : ∀ n ∈ l, P n := by
 intro p hp
 obtain ⟨k, hk, rfl⟩ := List.getElem_of_mem hp
 have := h k hk
 simpa [List.getD, hk] using this
set_option maxRecDepth 8192 in
set_option maxHeartbeats 8000000 in
theorem textSet_tri (s : SZ) (hs hu : Bool) (y : SY) (hy : SOK s y) (hz : LEN s.z ∧ s.rd.length ≤ 2147483647 ∧ s.ex.length ≤ 2147483647) : Tri C0 8 12 (setHp 95 s 0) [.agg (cellsH s hs hu y 0)] (fun k hp r => k = 12 ∧ hp = setHp 95 s 0 ∧ rbl (TST s hs hu) r) := by
 obtain ⟨st, has, z, rd, ex⟩ := s
 obtain ⟨y, yr, ye⟩ := y
 obtain ⟨g1, g2, g3⟩ := hy
 obtain ⟨hL, hr1, he1⟩ := hz
 simp only at g1 g2 g3 hL hr1 he1
 refine Tri.keep ?_ s_ rbl_lt
 refine Tri.mk 83 [.tmp 2] Tryz.func8 rfl rfl rfl rfl cf8 ?_; intro w0 S T ρ0
 refine v_ ?_
 refine j_ 10 ?_ ?_ <;> intro h1
 · refine v_ ?_
   refine W_cond_true rfl ?_
   refine v_ ?_
   refine W_ret ?_; (repeat (first | refine then_ret ?_ | refine inbl_ret ?_))
   exact ⟨_, _, rfl, s_, s_, false, (fun h => by cases h), rfl⟩
 refine v_ ?_
 refine j_ 15 ?_ ?_ <;> intro h2
 · refine v_ ?_
   refine W_cond_true rfl ?_
   refine v_ ?_
   refine W_ret ?_; (repeat (first | refine then_ret ?_ | refine inbl_ret ?_))
   exact ⟨_, _, rfl, s_, s_, false, (fun h => by cases h), rfl⟩
 have h1 : ¬ st < -31622400 := h1
 have h2 : ¬ st > 315537897599 := h2
 have f0 : DateR st := ⟨by omega, by omega⟩
 cases has with
 | false =>
   refine v_ ?_
   refine WL_imp (Imp_nils (show 0 < 22 by omega) (nils 95) s_) ?_
   refine WL_imp (Imp_tm 22 (.agg (cellsG RZ.zero false false LY.zero 13)) rfl (fun _ => rfl) s_) ?_
   refine WL_callR [0, 1, 2, 3, 4, 5, 6, 7, 8, 9, 13, 14, 15, 16, 17, 18, 19, 20, 21, 22] (sameRule_tri z hs hu y RZ.zero false false LY.zero g1 hL (LOK_zero _ rfl) LEN_z) rfl rfl rfl t_ t_ rfl rfl rfl rfl ?_; rintro _ rfl
   obtain ⟨b, hb⟩ : ∃ b, b = decide (sameP z hs hu RZ.zero false false) := ⟨_, rfl⟩
   rw [← hb]
   cases b with
   | false =>
     refine v_ ?_
     refine W_cond_true rfl ?_
     refine v_ ?_
     refine W_ret ?_; (repeat (first | refine then_ret ?_ | refine inbl_ret ?_))
     exact ⟨_, _, rfl, s_, s_, false, (fun h => by cases h), rfl⟩
   | true =>
     have hb : sameP z hs hu RZ.zero false false := of_decide_eq_true hb.symm
     refine v_ ?_
     refine j_ 49 ?_ ?_ <;> intro h5
     · refine v_ ?_
       refine W_cond_true rfl ?_
       refine v_ ?_
       refine W_ret ?_; (repeat (first | refine then_ret ?_ | refine inbl_ret ?_))
       exact ⟨_, _, rfl, s_, s_, false, (fun h => by cases h), rfl⟩
     refine v_ ?_
     refine i_ ?_ ?_ <;> intro h6
     · refine v_ ?_
       refine W_ret ?_; (repeat (first | refine then_ret ?_ | refine inbl_ret ?_))
       exact ⟨_, _, rfl, s_, s_, false, (fun h => by cases h), rfl⟩
     refine v_ ?_
     refine W_loop ?_
     refine LP_renG [0, 1, 2, 3, 4, 5, 6, 7, 8, 9, 10, 11, 12, 23] (LP_ind 14 (fun i : Nat => ([(59, .sl false 13 1 0 2 2), (60, .int .i64 2), (61, .int .i64 i)], (13, .cells 26 (some 2) [slI yr 10 1 rd.length, slI ye 11 1 ex.length]) :: (12, .cells 28 (some 22) (cellsH ⟨st, false, z, rd, ex⟩ hs hu ⟨y, yr, ye⟩ 0)) :: setHp 95 ⟨st, false, z, rd, ex⟩ 0)) (fun i => 2 - i)
      (fun i => i ≤ 2 ∧ (0 < i → ∀ n ∈ rd, DateR n ∧ n ≠ 0) ∧ (1 < i → ∀ n ∈ ex, DateR n ∧ n ≠ 0)) 0 ?_ ⟨Nat.zero_le _, fun h => by omega, fun h => by omega⟩) s_ s_ rfl rfl rfl
     rintro i ⟨g4, g5, g6⟩ ih
     refine LP_round ?_; try dsimp only
     refine v_ ?_
     refine i_ ?_ ?_ <;> intro h
     rotate_left 1
     · have h : i = 2 := by omega
       subst h
       refine v_ ?_
       refine x_ ?_
       refine v_ ?_
       refine W_ret ?_; (repeat (first | refine then_ret ?_ | refine inbl_ret ?_))
       exact ⟨_, _, rfl, s_, s_, true, (fun _ => ⟨f0, (fun _ => hb), (fun h => by cases h), by omega, by omega, g5 (by omega), g6 (by omega)⟩), rfl⟩
     have h : i = 0 ∨ i = 1 := by omega
     rcases h with rfl | rfl
     · refine v_ ?_
       refine W_loop ?_
       refine LP_renG [0, 1, 2, 3, 4, 5, 6, 7, 8, 9, 10, 11, 12, 13] (LP_ind 14 (fun k : Nat => ([(59, .sl false 13 1 0 2 2), (60, .int .i64 2), (61, .int .i64 (0 : Nat)), (65, slI yr 10 1 rd.length), (66, .int .i64 rd.length), (67, .int .i64 k)], (13, .cells 26 (some 2) [slI yr 10 1 rd.length, slI ye 11 1 ex.length]) :: (12, .cells 28 (some 22) (cellsH ⟨st, false, z, rd, ex⟩ hs hu ⟨y, yr, ye⟩ 0)) :: setHp 95 ⟨st, false, z, rd, ex⟩ 0)) (fun k => rd.length - k)
        (fun k => k ≤ rd.length ∧ ∀ j, j < k → DateR (rd.getD j 0) ∧ rd.getD j 0 ≠ 0) 0 ?_ ⟨Nat.zero_le _, fun k hk => absurd hk (Nat.not_lt_zero _)⟩) s_ s_ rfl rfl rfl
       rintro k ⟨p1, p2⟩ ih2
       refine LP_round ?_; try dsimp only
       refine v_ ?_
       refine i_ ?_ ?_ <;> intro h7
       · have h7 : k < rd.length := by omega
         refine v_ ?_
         rw [show 0 + (k : Int).toNat = k by omega]
         refine v_ ?_
         refine j_ 73 ?_ ?_ <;> intro k1
         · refine v_ ?_
           refine W_cond_true rfl ?_
           refine v_ ?_
           refine W_ret ?_; (repeat (first | refine then_ret ?_ | refine inbl_ret ?_))
           exact ⟨_, _, rfl, s_, s_, false, (fun h => by cases h), rfl⟩
         refine v_ ?_
         refine j_ 77 ?_ ?_ <;> intro k2
         · refine v_ ?_
           refine W_cond_true rfl ?_
           refine v_ ?_
           refine W_ret ?_; (repeat (first | refine then_ret ?_ | refine inbl_ret ?_))
           exact ⟨_, _, rfl, s_, s_, false, (fun h => by cases h), rfl⟩
         refine v_ ?_
         refine i_ ?_ ?_ <;> intro k3
         · refine v_ ?_
           refine W_ret ?_; (repeat (first | refine then_ret ?_ | refine inbl_ret ?_))
           exact ⟨_, _, rfl, s_, s_, false, (fun h => by cases h), rfl⟩
         refine v_ ?_
         have k1 : ¬ rd.getD k 0 < -31622400 := k1
         have k2 : ¬ rd.getD k 0 > 315537897599 := k2
         have k3 : ¬ rd.getD k 0 = 0 := k3
         exact LP_renG [0, 1, 2, 3, 4, 5, 6, 7, 8, 9, 10, 11, 12, 13] (ih2 (k + 1) ⟨h7, fun j hj => by
          rcases Nat.lt_succ_iff_lt_or_eq.1 hj with h3 | h3
          · exact p2 j h3
          · subst h3; exact ⟨⟨by omega, by omega⟩, by omega⟩⟩ (by omega)) s_ s_ rfl rfl rfl
       have h7 : k = rd.length := by omega
       subst h7
       have p3 := mem_getDI (P := fun n => DateR n ∧ n ≠ 0) p2
       clear ih2 p1 p2
       refine v_ ?_
       refine x_ ?_
       refine v_ ?_
       exact LP_renG [0, 1, 2, 3, 4, 5, 6, 7, 8, 9, 10, 11, 12, 13] (ih 1 ⟨by omega, fun _ => p3, fun h => by omega⟩ (by omega)) s_ s_ rfl rfl rfl
     · refine v_ ?_
       refine W_loop ?_
       refine LP_renG [0, 1, 2, 3, 4, 5, 6, 7, 8, 9, 10, 11, 12, 13] (LP_ind 14 (fun k : Nat => ([(59, .sl false 13 1 0 2 2), (60, .int .i64 2), (61, .int .i64 (1 : Nat)), (65, slI ye 11 1 ex.length), (66, .int .i64 ex.length), (67, .int .i64 k)], (13, .cells 26 (some 2) [slI yr 10 1 rd.length, slI ye 11 1 ex.length]) :: (12, .cells 28 (some 22) (cellsH ⟨st, false, z, rd, ex⟩ hs hu ⟨y, yr, ye⟩ 0)) :: setHp 95 ⟨st, false, z, rd, ex⟩ 0)) (fun k => ex.length - k)
        (fun k => k ≤ ex.length ∧ ∀ j, j < k → DateR (ex.getD j 0) ∧ ex.getD j 0 ≠ 0) 0 ?_ ⟨Nat.zero_le _, fun k hk => absurd hk (Nat.not_lt_zero _)⟩) s_ s_ rfl rfl rfl
       rintro k ⟨p1, p2⟩ ih2
       refine LP_round ?_; try dsimp only
       refine v_ ?_
       refine i_ ?_ ?_ <;> intro h7
       · have h7 : k < ex.length := by omega
         refine v_ ?_
         rw [show 0 + (k : Int).toNat = k by omega]
         refine v_ ?_
         refine j_ 73 ?_ ?_ <;> intro k1
         · refine v_ ?_
           refine W_cond_true rfl ?_
           refine v_ ?_
           refine W_ret ?_; (repeat (first | refine then_ret ?_ | refine inbl_ret ?_))
           exact ⟨_, _, rfl, s_, s_, false, (fun h => by cases h), rfl⟩
         refine v_ ?_
         refine j_ 77 ?_ ?_ <;> intro k2
         · refine v_ ?_
           refine W_cond_true rfl ?_
           refine v_ ?_
           refine W_ret ?_; (repeat (first | refine then_ret ?_ | refine inbl_ret ?_))
           exact ⟨_, _, rfl, s_, s_, false, (fun h => by cases h), rfl⟩
         refine v_ ?_
         refine i_ ?_ ?_ <;> intro k3
         · refine v_ ?_
           refine W_ret ?_; (repeat (first | refine then_ret ?_ | refine inbl_ret ?_))
           exact ⟨_, _, rfl, s_, s_, false, (fun h => by cases h), rfl⟩
         refine v_ ?_
         have k1 : ¬ ex.getD k 0 < -31622400 := k1
         have k2 : ¬ ex.getD k 0 > 315537897599 := k2
         have k3 : ¬ ex.getD k 0 = 0 := k3
         exact LP_renG [0, 1, 2, 3, 4, 5, 6, 7, 8, 9, 10, 11, 12, 13] (ih2 (k + 1) ⟨h7, fun j hj => by
          rcases Nat.lt_succ_iff_lt_or_eq.1 hj with h3 | h3
          · exact p2 j h3
          · subst h3; exact ⟨⟨by omega, by omega⟩, by omega⟩⟩ (by omega)) s_ s_ rfl rfl rfl
       have h7 : k = ex.length := by omega
       subst h7
       have p3 := mem_getDI (P := fun n => DateR n ∧ n ≠ 0) p2
       clear ih2 p1 p2
       refine v_ ?_
       refine x_ ?_
       refine v_ ?_
       exact LP_renG [0, 1, 2, 3, 4, 5, 6, 7, 8, 9, 10, 11, 12, 13] (ih 2 ⟨by omega, fun _ => g5 (by omega), fun _ => p3⟩ (by omega)) s_ s_ rfl rfl rfl
 | true =>
   refine v_ ?_
   refine WL_callR [0, 1, 2, 3, 4, 5, 6, 7, 8, 9] (textRule_tri z hs hu y g1) rfl rfl rfl t_ t_ rfl rfl rfl rfl ?_; rintro _ ⟨b,hb,rfl⟩
   cases b with
   | false =>
     refine v_ ?_
     refine W_cond_true rfl ?_
     refine v_ ?_
     refine W_ret ?_; (repeat (first | refine then_ret ?_ | refine inbl_ret ?_))
     exact ⟨_, _, rfl, s_, s_, false, (fun h => by cases h), rfl⟩
   | true =>
     have hT := hb rfl
     obtain rfl := hT.hs
     obtain rfl := hT.hu
     refine v_ ?_
     refine WL_callR [0, 1, 2, 3, 4, 5, 6, 7, 8, 9] (ruleRight_tri z y g1 hL) rfl rfl rfl t_ t_ rfl rfl rfl rfl ?_; rintro _ rfl
     obtain ⟨b, hb⟩ : ∃ b, b = rightZ z := ⟨_, rfl⟩
     rw [← hb]
     cases b with
     | false =>
       refine v_ ?_
       refine W_cond_true rfl ?_
       refine v_ ?_
       refine W_ret ?_; (repeat (first | refine then_ret ?_ | refine inbl_ret ?_))
       exact ⟨_, _, rfl, s_, s_, false, (fun h => by cases h), rfl⟩
     | true =>
       refine v_ ?_
       refine j_ 49 ?_ ?_ <;> intro h5
       · refine v_ ?_
         refine W_cond_true rfl ?_
         refine v_ ?_
         refine W_ret ?_; (repeat (first | refine then_ret ?_ | refine inbl_ret ?_))
         exact ⟨_, _, rfl, s_, s_, false, (fun h => by cases h), rfl⟩
       refine v_ ?_
       refine i_ ?_ ?_ <;> intro h6
       · refine v_ ?_
         refine W_ret ?_; (repeat (first | refine then_ret ?_ | refine inbl_ret ?_))
         exact ⟨_, _, rfl, s_, s_, false, (fun h => by cases h), rfl⟩
       refine v_ ?_
       refine W_loop ?_
       refine LP_renG [0, 1, 2, 3, 4, 5, 6, 7, 8, 9, 10, 11, 12, 13] (LP_ind 14 (fun i : Nat => ([(59, .sl false 13 1 0 2 2), (60, .int .i64 2), (61, .int .i64 i)], (13, .cells 26 (some 2) [slI yr 10 1 rd.length, slI ye 11 1 ex.length]) :: (12, .cells 28 (some 22) (cellsH ⟨st, true, z, rd, ex⟩ (z.st != 0) (z.un != 0) ⟨y, yr, ye⟩ 0)) :: setHp 95 ⟨st, true, z, rd, ex⟩ 0)) (fun i => 2 - i)
        (fun i => i ≤ 2 ∧ (0 < i → ∀ n ∈ rd, DateR n ∧ n ≠ 0) ∧ (1 < i → ∀ n ∈ ex, DateR n ∧ n ≠ 0)) 0 ?_ ⟨Nat.zero_le _, fun h => by omega, fun h => by omega⟩) s_ s_ rfl rfl rfl
       rintro i ⟨g4, g5, g6⟩ ih
       refine LP_round ?_; try dsimp only
       refine v_ ?_
       refine i_ ?_ ?_ <;> intro h
       rotate_left 1
       · have h : i = 2 := by omega
         subst h
         refine v_ ?_
         refine x_ ?_
         refine v_ ?_
         refine W_ret ?_; (repeat (first | refine then_ret ?_ | refine inbl_ret ?_))
         exact ⟨_, _, rfl, s_, s_, true, (fun _ => ⟨f0, (fun h => by cases h), (fun _ => ⟨hT, hb.symm⟩), by omega, by omega, g5 (by omega), g6 (by omega)⟩), rfl⟩
       have h : i = 0 ∨ i = 1 := by omega
       rcases h with rfl | rfl
       · refine v_ ?_
         refine W_loop ?_
         refine LP_renG [0, 1, 2, 3, 4, 5, 6, 7, 8, 9, 10, 11, 12, 13] (LP_ind 14 (fun k : Nat => ([(59, .sl false 13 1 0 2 2), (60, .int .i64 2), (61, .int .i64 (0 : Nat)), (65, slI yr 10 1 rd.length), (66, .int .i64 rd.length), (67, .int .i64 k)], (13, .cells 26 (some 2) [slI yr 10 1 rd.length, slI ye 11 1 ex.length]) :: (12, .cells 28 (some 22) (cellsH ⟨st, true, z, rd, ex⟩ (z.st != 0) (z.un != 0) ⟨y, yr, ye⟩ 0)) :: setHp 95 ⟨st, true, z, rd, ex⟩ 0)) (fun k => rd.length - k)
          (fun k => k ≤ rd.length ∧ ∀ j, j < k → DateR (rd.getD j 0) ∧ rd.getD j 0 ≠ 0) 0 ?_ ⟨Nat.zero_le _, fun k hk => absurd hk (Nat.not_lt_zero _)⟩) s_ s_ rfl rfl rfl
         rintro k ⟨p1, p2⟩ ih2
         refine LP_round ?_; try dsimp only
         refine v_ ?_
         refine i_ ?_ ?_ <;> intro h7
         · have h7 : k < rd.length := by omega
           refine v_ ?_
           rw [show 0 + (k : Int).toNat = k by omega]
           refine v_ ?_
           refine j_ 73 ?_ ?_ <;> intro k1
           · refine v_ ?_
             refine W_cond_true rfl ?_
             refine v_ ?_
             refine W_ret ?_; (repeat (first | refine then_ret ?_ | refine inbl_ret ?_))
             exact ⟨_, _, rfl, s_, s_, false, (fun h => by cases h), rfl⟩
           refine v_ ?_
           refine j_ 77 ?_ ?_ <;> intro k2
           · refine v_ ?_
             refine W_cond_true rfl ?_
             refine v_ ?_
             refine W_ret ?_; (repeat (first | refine then_ret ?_ | refine inbl_ret ?_))
             exact ⟨_, _, rfl, s_, s_, false, (fun h => by cases h), rfl⟩
           refine v_ ?_
           refine i_ ?_ ?_ <;> intro k3
           · refine v_ ?_
             refine W_ret ?_; (repeat (first | refine then_ret ?_ | refine inbl_ret ?_))
             exact ⟨_, _, rfl, s_, s_, false, (fun h => by cases h), rfl⟩
           refine v_ ?_
           have k1 : ¬ rd.getD k 0 < -31622400 := k1
           have k2 : ¬ rd.getD k 0 > 315537897599 := k2
           have k3 : ¬ rd.getD k 0 = 0 := k3
           exact LP_renG [0, 1, 2, 3, 4, 5, 6, 7, 8, 9, 10, 11, 12, 13] (ih2 (k + 1) ⟨h7, fun j hj => by
            rcases Nat.lt_succ_iff_lt_or_eq.1 hj with h3 | h3
            · exact p2 j h3
            · subst h3; exact ⟨⟨by omega, by omega⟩, by omega⟩⟩ (by omega)) s_ s_ rfl rfl rfl
         have h7 : k = rd.length := by omega
         subst h7
         have p3 := mem_getDI (P := fun n => DateR n ∧ n ≠ 0) p2
         clear ih2 p1 p2
         refine v_ ?_
         refine x_ ?_
         refine v_ ?_
         exact LP_renG [0, 1, 2, 3, 4, 5, 6, 7, 8, 9, 10, 11, 12, 13] (ih 1 ⟨by omega, fun _ => p3, fun h => by omega⟩ (by omega)) s_ s_ rfl rfl rfl
       · refine v_ ?_
         refine W_loop ?_
         refine LP_renG [0, 1, 2, 3, 4, 5, 6, 7, 8, 9, 10, 11, 12, 13] (LP_ind 14 (fun k : Nat => ([(59, .sl false 13 1 0 2 2), (60, .int .i64 2), (61, .int .i64 (1 : Nat)), (65, slI ye 11 1 ex.length), (66, .int .i64 ex.length), (67, .int .i64 k)], (13, .cells 26 (some 2) [slI yr 10 1 rd.length, slI ye 11 1 ex.length]) :: (12, .cells 28 (some 22) (cellsH ⟨st, true, z, rd, ex⟩ (z.st != 0) (z.un != 0) ⟨y, yr, ye⟩ 0)) :: setHp 95 ⟨st, true, z, rd, ex⟩ 0)) (fun k => ex.length - k)
          (fun k => k ≤ ex.length ∧ ∀ j, j < k → DateR (ex.getD j 0) ∧ ex.getD j 0 ≠ 0) 0 ?_ ⟨Nat.zero_le _, fun k hk => absurd hk (Nat.not_lt_zero _)⟩) s_ s_ rfl rfl rfl
         rintro k ⟨p1, p2⟩ ih2
         refine LP_round ?_; try dsimp only
         refine v_ ?_
         refine i_ ?_ ?_ <;> intro h7
         · have h7 : k < ex.length := by omega
           refine v_ ?_
           rw [show 0 + (k : Int).toNat = k by omega]
           refine v_ ?_
           refine j_ 73 ?_ ?_ <;> intro k1
           · refine v_ ?_
             refine W_cond_true rfl ?_
             refine v_ ?_
             refine W_ret ?_; (repeat (first | refine then_ret ?_ | refine inbl_ret ?_))
             exact ⟨_, _, rfl, s_, s_, false, (fun h => by cases h), rfl⟩
           refine v_ ?_
           refine j_ 77 ?_ ?_ <;> intro k2
           · refine v_ ?_
             refine W_cond_true rfl ?_
             refine v_ ?_
             refine W_ret ?_; (repeat (first | refine then_ret ?_ | refine inbl_ret ?_))
             exact ⟨_, _, rfl, s_, s_, false, (fun h => by cases h), rfl⟩
           refine v_ ?_
           refine i_ ?_ ?_ <;> intro k3
           · refine v_ ?_
             refine W_ret ?_; (repeat (first | refine then_ret ?_ | refine inbl_ret ?_))
             exact ⟨_, _, rfl, s_, s_, false, (fun h => by cases h), rfl⟩
           refine v_ ?_
           have k1 : ¬ ex.getD k 0 < -31622400 := k1
           have k2 : ¬ ex.getD k 0 > 315537897599 := k2
           have k3 : ¬ ex.getD k 0 = 0 := k3
           exact LP_renG [0, 1, 2, 3, 4, 5, 6, 7, 8, 9, 10, 11, 12, 13] (ih2 (k + 1) ⟨h7, fun j hj => by
            rcases Nat.lt_succ_iff_lt_or_eq.1 hj with h3 | h3
            · exact p2 j h3
            · subst h3; exact ⟨⟨by omega, by omega⟩, by omega⟩⟩ (by omega)) s_ s_ rfl rfl rfl
         have h7 : k = ex.length := by omega
         subst h7
         have p3 := mem_getDI (P := fun n => DateR n ∧ n ≠ 0) p2
         clear ih2 p1 p2
         refine v_ ?_
         refine x_ ?_
         refine v_ ?_
         exact LP_renG [0, 1, 2, 3, 4, 5, 6, 7, 8, 9, 10, 11, 12, 13] (ih 2 ⟨by omega, fun _ => g5 (by omega), fun _ => p3⟩ (by omega)) s_ s_ rfl rfl rfl
end Go.Eng
