/- A part of the proof that the rows statement FnSetBack holds; no conditions. -/
import Derived.Test.YthkgjhnckakliaaGreatDoorZBM
set_option linter.unusedVariables false
set_option linter.unusedSimpArgs false
set_option linter.unusedSectionVars false
namespace Go.Eng
open Go.Proofs
attribute [local irreducible] W WL LP Then InBl Tri WS
set_option maxRecDepth 8192 in
set_option maxHeartbeats 4000000 in
theorem ofRule_tri (z : RZ) (y : LY) (hy : LOK z y) (hL : LEN z) : Tri C0 47 10 (lstHp 110 z 0) [.agg (cellsS z y 0)]
 (Fin' (fun _ => 20) (fun _ => lstHp 95 z 10) (fun q => .agg (cellsS z { y with yd := q } 10)) (fun q : Bool × Nat => z.dd.length ≤ q.2)) := by
 refine Tri.renX ?_
 refine Tri.mk 56 [.cell 2 25] Tryz.func47 rfl rfl rfl rfl cf47 ?_; intro w0 S T ρ0
 repeat (refine W_seq ?_)
 refine W_region ?_
 refine WL_cut 2 ?_; (refine w_ ?_); refine nq_walk ?_
 refine WL_nil ?_
 refine then_normal ?_
 repeat (refine W_seq ?_)
 refine W_region ?_
 iterate 34 (apply WL_val; exact rfl; exact rfl; exact rfl; exact trivial)
 refine WL_val (φ := True) (av := .agg [.int .u8 z.fr, .bool (z.st != 0), .int .i64 z.st, .int .i64 z.iv, .int .i64 z.wk, .int .i64 z.ct, .bool (z.un != 0), .int .i64 z.un, slI y.y0 (0 + 0) 1 z.l0.length, slI y.y1 (0 + 1) 1 z.l1.length, slI y.y2 (0 + 2) 1 z.l2.length, slI y.y3 (0 + 3) 1 z.l3.length, slI y.y4 (0 + 4) 1 z.l4.length, .v (.slice none 0 0), slI y.y5 (0 + 5) 1 z.l5.length, slI y.y6 (0 + 6) 1 z.l6.length, slI y.y7 (0 + 7) 1 z.l7.length, slI y.y8 (0 + 8) 1 z.l8.length]) (by kernel_rfl) rfl rfl trivial ?_
 refine w_ ?_
 obtain ⟨LL0, LL1, LL2, LL3, LL4, LL5, LL6, LL7, LL8, LLd⟩ := hL
 obtain ⟨OO0, OO1, OO2, OO3, OO4, OO5, OO6, OO7, OO8, OOd⟩ := hy
 have hml : (prs2 z.dd).length = z.dd.length := by simp
 refine W_loop ?_
 refine LP_imp (Imp_nils (show 0 < 22 by omega) [.recs 95 none K2 []] (s_)) ?_
 refine LP_imp (Imp_cells 12 (cellsD z y 0 (slI (true, 0) 13 2 0)) rfl (fun _ => rfl) (s_) (fun h => absurd (congrArg List.length h) (Nat.succ_ne_zero 17))) ?_
 refine LP_renG [0, 1, 2, 3, 4, 5, 6, 7, 8, 9, 10, 11, 12, 13] (LP_ind 14 (fun q : Nat × List (Int × Int) × (Bool × Nat) × Option Nat => ([(2, .ptr 11 0), (3, .ptr 12 0), (42, slI y.yd 9 2 z.dd.length), (43, .int .i64 z.dd.length), (44, .int .i64 q.1)],
  (11, .cells 25 (some 18) zcS) :: (12, .cells 25 (some 18) (cellsD z y 0 (slI q.2.2.1 13 2 q.2.1.length))) :: (13, .recs 95 q.2.2.2 K2 (prs2 q.2.1)) :: lstHp 110 z 0)) (fun q => z.dd.length - q.1)
  (fun q => q.1 ≤ z.dd.length ∧ q.2.1 = z.dd.take q.1 ∧ GOKR (prs2 q.2.1) q.2.2.1 q.2.2.2) (0, [], (true, 0), none) ?_ ⟨Nat.zero_le _, rfl, .inl ⟨rfl, rfl, rfl⟩⟩) ?_ ?_ rfl rfl rfl
 rotate_left 1
 · exact s_
 · exact s_
 rintro ⟨i, acc, ya, ma⟩ ⟨g1, g2, g3⟩ ih
 simp only at g1 g2 g3
 refine LP_round ?_; try dsimp only
 refine w_ ?_
 refine i_ ?_ ?_ <;> intro h
 rotate_left 1
 · have h : i = z.dd.length := by omega
   rw [h, List.take_length] at g2
   subst g2
   have hya : z.dd.length ≤ ya.2 := by
    rcases g3 with ⟨rfl, _, h9⟩ | ⟨tt, cap, rfl, _, h9, _⟩
    · have h10 : z.dd = [] := by simpa using h9
      rw [h10]; exact Nat.zero_le _
    · rw [hml] at h9; exact h9
   refine w_ ?_
   refine x_ ?_
   refine then_normal ?_
   refine W_imp (Imp_conv 13 (.recs 95 none K2 (prs2 z.dd)) rfl rfl rfl rfl (.inl rfl) ⟨[], by simp [AO.avs]⟩) ?_
   refine w_ ?_
   refine W_ret ?_; (repeat (first | refine then_ret ?_ | refine inbl_ret ?_))
   exact ⟨_, _, rfl, s_, ya, [0, 1, 2, 3, 4, 5, 6, 7, 8, 9, 0, 1, 2, 3, 4, 5, 6, 7, 8, 13], s_, rfl, rfl, rfl, rfl, s_, hya⟩
 have h : i < z.dd.length := by omega
 refine w_ ?_
 rw [show 0 + (i : Int).toNat = i by omega]
 refine w_ ?_
 rw [prs2_get h]
 rcases g3 with ⟨rfl, rfl, hx9⟩ | ⟨tt0, cap0, rfl, rfl, q1, q2⟩
 · obtain rfl : acc = [] := by simpa using hx9
   refine w_ ?_
   refine WL_imp (Imp_tm 49 (.v (.slice none 0 0)) rfl (fun _ => rfl) trivial) ?_
   refine WL_appN (FamR 95 K2) [[(z.dd.getD i (0, 0)).1, (z.dd.getD i (0, 0)).2]] rfl rfl rfl rfl rfl rfl rfl rfl rfl rfl rfl rfl rfl (Nat.le_of_ble_eq_true rfl) (Nat.le_refl _) ⟨Nat.le_of_ble_eq_true rfl, Nat.le_of_ble_eq_true rfl⟩ ?_
   intro cap3 tt3 hc3 hc4
   refine w_ ?_
   have ih2 := ih (i + 1, [z.dd.getD i (0, 0)], (false, cap3), some tt3) ⟨h, by simp only; rw [← takeP_succ h, ← g2]; rfl, .inr ⟨tt3, cap3, rfl, rfl, by simp at hc3 ⊢; omega, hc4⟩⟩ (by simp only; omega)
   dsimp only at ih2
   exact LP_renG [0, 1, 2, 3, 4, 5, 6, 7, 8, 9, 10, 11, 12, 16] ih2 s_ s_ rfl rfl rfl
 · have hal : acc.length ≤ z.dd.length := by rw [g2, List.length_take]; omega
   have htl : (prs2 acc).length = acc.length := by simp
   rw [htl] at q1
   rw [← htl]
   refine w_ ?_
   refine WL_app1 (FamR 95 K2) (prs2 acc) ([(z.dd.getD i (0, 0)).1, (z.dd.getD i (0, 0)).2]) rfl rfl rfl rfl rfl rfl rfl rfl rfl rfl rfl rfl rfl rfl ?_ ?_ ?_
   · exact ⟨by omega, q2⟩
   · exact ⟨by omega, by show ((prs2 acc).length + 1) * 16 ≤ _; omega⟩
   intro cap3 tt3 hc3 hc4 _
   refine w_ ?_
   have ih2 := ih (i + 1, acc ++ [z.dd.getD i (0, 0)], (false, cap3), some tt3) ⟨h, by simp only; rw [← takeP_succ h, ← g2], .inr ⟨tt3, cap3, rfl, rfl, by simp at hc3 ⊢; omega, hc4⟩⟩ (by simp only; omega)
   dsimp only at ih2
   rw [show prs2 (acc ++ [z.dd.getD i (0, 0)]) = prs2 acc ++ [[(z.dd.getD i (0, 0)).1, (z.dd.getD i (0, 0)).2]] by simp, show (acc ++ [z.dd.getD i (0, 0)]).length = (prs2 acc).length + 1 by simp] at ih2
   exact LP_renG [0, 1, 2, 3, 4, 5, 6, 7, 8, 9, 10, 11, 12, 16] ih2 s_ s_ rfl rfl rfl
theorem ofSet_tri (s : SZ) (y : SY) (hy : SOK s y) (hL : LEN s.z) : Tri C0 19 12 (setHp 110 s 0) [.agg (cellsT s y 0)]
 (Fin' (fun _ => 24) (fun _ => setHp 95 s 12) (fun q => .agg (cellsT s { y with y := { y.y with yd := q } } 12)) (fun q : Bool × Nat => s.z.dd.length ≤ q.2)) := by
 refine Tri.renX ?_
 refine Tri.mk 15 [.cell 2 28] Tryz.func19 rfl rfl rfl rfl cf19 ?_; intro w0 S T ρ0
 refine w_ ?_
 refine W_draw [12] [] 13 mo0 (by kernel_rfl) (by kernel_rfl) (fun ρ1 hkl => ?_); refine d_ ?_
 refine WS_loud rfl ?_ hkl
 refine WL_call [0, 1, 2, 3, 4, 5, 6, 7, 8, 9] (ofRule_tri s.z y.y hy.1 hL) rfl rfl rfl (s_) (s_) rfl rfl rfl rfl ?_; rintro _ _ _ ⟨q, rfl, rfl, rfl, hq⟩
 refine WL_nil ?_
 refine nq_walk ⟨fun _ => s_, ?_⟩
 iterate 4 (apply WS_val; exact rfl; exact rfl; exact rfl; exact rfl; exact rfl; exact trivial)
 refine WS_val (φ := True) (av := .agg (.int .i64 s.start :: .bool s.has :: (cellsS s.z { y.y with yd := q } 14 ++ [slI y.yr 10 1 s.rd.length, slI y.ye 11 1 s.ex.length]))) rfl rfl (by kernel_rfl) rfl rfl trivial ?_
 refine WS_loud rfl ?_ hkl
 refine WL_store rfl rfl trivial ?_
 refine WL_nil ?_
 refine nq_walk ⟨fun h => (by cases h), ?_⟩
 refine d_ ?_
 refine W_ret ?_; (repeat (first | refine then_ret ?_ | refine inbl_ret ?_))
 exact ⟨_, _, rfl, s_, q, [0, 1, 2, 3, 4, 5, 6, 7, 8, 9, 10, 11, 14, 15, 16, 17, 18, 19, 20, 21, 22, 23, 10, 11], s_, rfl, rfl, rfl, rfl, s_, hq⟩
end Go.Eng
namespace Go.Eng
open Go.Proofs
attribute [local irreducible] W WL LP Then InBl Tri WS
def cellsG (z : RZ) (hs hu : Bool) (y : LY) (b : Nat) : List AV := [.int .u8 z.fr, .bool hs, .int .i64 z.st, .int .i64 z.iv, .int .i64 z.wk, .int .i64 z.ct, .bool hu, .int .i64 z.un, slI y.y0 (b + 0) 1 z.l0.length, slI y.y1 (b + 1) 1 z.l1.length, slI y.y2 (b + 2) 1 z.l2.length, slI y.y3 (b + 3) 1 z.l3.length, slI y.y4 (b + 4) 1 z.l4.length, slI y.yd (b + 9) 2 z.dd.length, slI y.y5 (b + 5) 1 z.l5.length, slI y.y6 (b + 6) 1 z.l6.length, slI y.y7 (b + 7) 1 z.l7.length, slI y.y8 (b + 8) 1 z.l8.length]
def sameP (z : RZ) (hs hu : Bool) (z' : RZ) (hs' hu' : Bool) : Prop :=
 z.dd = z'.dd ∧ z.fr = z'.fr ∧ hs = hs' ∧ z.st = z'.st ∧ z.iv = z'.iv ∧ z.wk = z'.wk ∧ z.ct = z'.ct ∧ hu = hu' ∧ z.un = z'.un ∧ z.l0 = z'.l0 ∧ z.l1 = z'.l1 ∧ z.l2 = z'.l2 ∧ z.l3 = z'.l3 ∧ z.l4 = z'.l4 ∧ z.l5 = z'.l5 ∧ z.l6 = z'.l6 ∧ z.l7 = z'.l7 ∧ z.l8 = z'.l8
instance (z : RZ) (hs hu : Bool) (z' : RZ) (hs' hu' : Bool) : Decidable (sameP z hs hu z' hs' hu') := by unfold sameP; infer_instance
abbrev twoHp (z z' : RZ) : Hp := lstHp 95 z 0 ++ lstHp 95 z' 10
set_option maxRecDepth 8192 in
set_option maxHeartbeats 4000000 in
theorem sameRule_tri (z : RZ) (hs hu : Bool) (y : LY) (z' : RZ) (hs' hu' : Bool) (y' : LY) (hy : LOK z y) (hL : LEN z) (hy' : LOK z' y') (hL' : LEN z') :
 Tri C0 35 20 (twoHp z z') [.agg (cellsG z hs hu y 0), .agg (cellsG z' hs' hu' y' 10)] (fun k hp r => k = 20 ∧ hp = twoHp z z' ∧ r = .bool (decide (sameP z hs hu z' hs' hu'))) := by
 obtain ⟨LL0, LL1, LL2, LL3, LL4, LL5, LL6, LL7, LL8, LLd⟩ := hL
 obtain ⟨OO0, OO1, OO2, OO3, OO4, OO5, OO6, OO7, OO8, OOd⟩ := hy
 obtain ⟨MM0, MM1, MM2, MM3, MM4, MM5, MM6, MM7, MM8, MMd⟩ := hL'
 obtain ⟨PP0, PP1, PP2, PP3, PP4, PP5, PP6, PP7, PP8, PPd⟩ := hy'
 have hml : (prs2 z.dd).length = z.dd.length := by simp
 have hml' : (prs2 z'.dd).length = z'.dd.length := by simp
 refine Tri.keep (Tri.mk 157 [.tmp 4] Tryz.func35 rfl rfl rfl rfl cf35 ?_) t_ (fun r h => q_); intro w0 S T ρ0
 refine w_ ?_
 refine i_ ?_ ?_ <;> intro h0
 · have hn : ¬ sameP z hs hu z' hs' hu' := fun h => by
    have := congrArg List.length h.1
    omega
   refine w_ ?_
   refine k_ ?_
   rw [decide_eq_false hn]; rfl
 have h0 : z.dd.length = z'.dd.length := by omega
 refine w_ ?_
 refine W_loop ?_
 refine LP_renG [0, 1, 2, 3, 4, 5, 6, 7, 8, 9, 10, 11, 12, 13, 14, 15, 16, 17, 18, 19, 20, 21] (LP_ind 22 (fun i : Nat => ([(2, .ptr 20 0), (3, .ptr 21 0), (5, .fn (.func 80) [] []), (16, slI y.yd 9 2 z.dd.length), (17, .int .i64 z.dd.length), (18, .int .i64 i)], (20, .cells 25 (some 18) (cellsG z hs hu y 0)) :: (21, .cells 25 (some 18) (cellsG z' hs' hu' y' 10)) :: twoHp z z')) (fun i => z.dd.length - i)
  (fun i => i ≤ z.dd.length ∧ (z.dd = z'.dd ↔ z.dd.drop i = z'.dd.drop i)) 0 ?_ ⟨Nat.zero_le _, Iff.rfl⟩) ?_ ?_ rfl rfl rfl
 rotate_left 1
 · exact s_
 · exact s_
 rintro i ⟨g1, g2⟩ ih
 refine LP_round ?_; try dsimp only
 refine w_ ?_
 refine i_ ?_ ?_ <;> intro h
 rotate_left 1
 · have h : i = z.dd.length := by omega
   have qdd : z.dd = z'.dd := by rw [g2, h, List.drop_length, h0, List.drop_length]
   refine w_ ?_
   refine x_ ?_
   refine w_ ?_
   refine j_ 36 ?_ ?_ <;> intro qfr
   rotate_left 1
   · have hn : ¬ sameP z hs hu z' hs' hu' := fun h => qfr (h.2.1)
     refine w_ ?_
     refine k_ ?_
     rw [decide_eq_false hn]; rfl
   refine w_ ?_
   refine j_ 43 ?_ ?_ <;> intro qhs
   rotate_left 1
   · have hn : ¬ sameP z hs hu z' hs' hu' := fun h => by rw [h.2.2.1] at qhs; simp at qhs
     refine w_ ?_
     refine k_ ?_
     rw [decide_eq_false hn]; rfl
   have qhs : hs = hs' := by simpa using qhs
   refine w_ ?_
   refine j_ 50 ?_ ?_ <;> intro qst
   rotate_left 1
   · have hn : ¬ sameP z hs hu z' hs' hu' := fun h => qst (h.2.2.2.1)
     refine w_ ?_
     refine k_ ?_
     rw [decide_eq_false hn]; rfl
   refine w_ ?_
   refine j_ 57 ?_ ?_ <;> intro qiv
   rotate_left 1
   · have hn : ¬ sameP z hs hu z' hs' hu' := fun h => qiv (h.2.2.2.2.1)
     refine w_ ?_
     refine k_ ?_
     rw [decide_eq_false hn]; rfl
   refine w_ ?_
   refine j_ 64 ?_ ?_ <;> intro qwk
   rotate_left 1
   · have hn : ¬ sameP z hs hu z' hs' hu' := fun h => qwk (h.2.2.2.2.2.1)
     refine w_ ?_
     refine k_ ?_
     rw [decide_eq_false hn]; rfl
   refine w_ ?_
   refine j_ 71 ?_ ?_ <;> intro qct
   rotate_left 1
   · have hn : ¬ sameP z hs hu z' hs' hu' := fun h => qct (h.2.2.2.2.2.2.1)
     refine w_ ?_
     refine k_ ?_
     rw [decide_eq_false hn]; rfl
   refine w_ ?_
   refine j_ 78 ?_ ?_ <;> intro qhu
   rotate_left 1
   · have hn : ¬ sameP z hs hu z' hs' hu' := fun h => by rw [h.2.2.2.2.2.2.2.1] at qhu; simp at qhu
     refine w_ ?_
     refine k_ ?_
     rw [decide_eq_false hn]; rfl
   have qhu : hu = hu' := by simpa using qhu
   refine w_ ?_
   refine j_ 85 ?_ ?_ <;> intro qun
   rotate_left 1
   · have hn : ¬ sameP z hs hu z' hs' hu' := fun h => qun (h.2.2.2.2.2.2.2.2.1)
     refine w_ ?_
     refine k_ ?_
     rw [decide_eq_false hn]; rfl
   refine w_ ?_
   refine WL_callR [0, 10] (same80g y.y0.1 y'.y0.1 none none z.l0 z'.l0 y.y0.2 y'.y0.2 ⟨OO0, by omega⟩ ⟨PP0, by omega⟩) rfl rfl rfl t_ t_ rfl rfl rfl rfl ?_; rintro _ rfl
   refine w_ ?_
   refine j_ 93 ?_ ?_ <;> intro ql0
   rotate_left 1
   · have hn : ¬ sameP z hs hu z' hs' hu' := fun h => ql0 (h.2.2.2.2.2.2.2.2.2.1)
     refine w_ ?_
     refine k_ ?_
     rw [decide_eq_false hn]; rfl
   refine w_ ?_
   refine WL_callR [1, 11] (same80g y.y1.1 y'.y1.1 none none z.l1 z'.l1 y.y1.2 y'.y1.2 ⟨OO1, by omega⟩ ⟨PP1, by omega⟩) rfl rfl rfl t_ t_ rfl rfl rfl rfl ?_; rintro _ rfl
   refine w_ ?_
   refine j_ 101 ?_ ?_ <;> intro ql1
   rotate_left 1
   · have hn : ¬ sameP z hs hu z' hs' hu' := fun h => ql1 (h.2.2.2.2.2.2.2.2.2.2.1)
     refine w_ ?_
     refine k_ ?_
     rw [decide_eq_false hn]; rfl
   refine w_ ?_
   refine WL_callR [2, 12] (same80g y.y2.1 y'.y2.1 none none z.l2 z'.l2 y.y2.2 y'.y2.2 ⟨OO2, by omega⟩ ⟨PP2, by omega⟩) rfl rfl rfl t_ t_ rfl rfl rfl rfl ?_; rintro _ rfl
   refine w_ ?_
   refine j_ 109 ?_ ?_ <;> intro ql2
   rotate_left 1
   · have hn : ¬ sameP z hs hu z' hs' hu' := fun h => ql2 (h.2.2.2.2.2.2.2.2.2.2.2.1)
     refine w_ ?_
     refine k_ ?_
     rw [decide_eq_false hn]; rfl
   refine w_ ?_
   refine WL_callR [3, 13] (same80g y.y3.1 y'.y3.1 none none z.l3 z'.l3 y.y3.2 y'.y3.2 ⟨OO3, by omega⟩ ⟨PP3, by omega⟩) rfl rfl rfl t_ t_ rfl rfl rfl rfl ?_; rintro _ rfl
   refine w_ ?_
   refine j_ 117 ?_ ?_ <;> intro ql3
   rotate_left 1
   · have hn : ¬ sameP z hs hu z' hs' hu' := fun h => ql3 (h.2.2.2.2.2.2.2.2.2.2.2.2.1)
     refine w_ ?_
     refine k_ ?_
     rw [decide_eq_false hn]; rfl
   refine w_ ?_
   refine WL_callR [4, 14] (same80g y.y4.1 y'.y4.1 none none z.l4 z'.l4 y.y4.2 y'.y4.2 ⟨OO4, by omega⟩ ⟨PP4, by omega⟩) rfl rfl rfl t_ t_ rfl rfl rfl rfl ?_; rintro _ rfl
   refine w_ ?_
   refine j_ 125 ?_ ?_ <;> intro ql4
   rotate_left 1
   · have hn : ¬ sameP z hs hu z' hs' hu' := fun h => ql4 (h.2.2.2.2.2.2.2.2.2.2.2.2.2.1)
     refine w_ ?_
     refine k_ ?_
     rw [decide_eq_false hn]; rfl
   refine w_ ?_
   refine WL_callR [5, 15] (same80g y.y5.1 y'.y5.1 none none z.l5 z'.l5 y.y5.2 y'.y5.2 ⟨OO5, by omega⟩ ⟨PP5, by omega⟩) rfl rfl rfl t_ t_ rfl rfl rfl rfl ?_; rintro _ rfl
   refine w_ ?_
   refine j_ 133 ?_ ?_ <;> intro ql5
   rotate_left 1
   · have hn : ¬ sameP z hs hu z' hs' hu' := fun h => ql5 (h.2.2.2.2.2.2.2.2.2.2.2.2.2.2.1)
     refine w_ ?_
     refine k_ ?_
     rw [decide_eq_false hn]; rfl
   refine w_ ?_
   refine WL_callR [6, 16] (same80g y.y6.1 y'.y6.1 none none z.l6 z'.l6 y.y6.2 y'.y6.2 ⟨OO6, by omega⟩ ⟨PP6, by omega⟩) rfl rfl rfl t_ t_ rfl rfl rfl rfl ?_; rintro _ rfl
   refine w_ ?_
   refine j_ 141 ?_ ?_ <;> intro ql6
   rotate_left 1
   · have hn : ¬ sameP z hs hu z' hs' hu' := fun h => ql6 (h.2.2.2.2.2.2.2.2.2.2.2.2.2.2.2.1)
     refine w_ ?_
     refine k_ ?_
     rw [decide_eq_false hn]; rfl
   refine w_ ?_
   refine WL_callR [7, 17] (same80g y.y7.1 y'.y7.1 none none z.l7 z'.l7 y.y7.2 y'.y7.2 ⟨OO7, by omega⟩ ⟨PP7, by omega⟩) rfl rfl rfl t_ t_ rfl rfl rfl rfl ?_; rintro _ rfl
   refine w_ ?_
   refine j_ 149 ?_ ?_ <;> intro ql7
   rotate_left 1
   · have hn : ¬ sameP z hs hu z' hs' hu' := fun h => ql7 (h.2.2.2.2.2.2.2.2.2.2.2.2.2.2.2.2.1)
     refine w_ ?_
     refine k_ ?_
     rw [decide_eq_false hn]; rfl
   refine w_ ?_
   refine WL_callR [8, 18] (same80g y.y8.1 y'.y8.1 none none z.l8 z'.l8 y.y8.2 y'.y8.2 ⟨OO8, by omega⟩ ⟨PP8, by omega⟩) rfl rfl rfl t_ t_ rfl rfl rfl rfl ?_; rintro _ rfl
   refine w_ ?_
   refine k_ ?_
   have hd : decide (z.l8 = z'.l8) = decide (sameP z hs hu z' hs' hu') := by
    by_cases h8 : z.l8 = z'.l8
    · rw [decide_eq_true h8, decide_eq_true (show sameP z hs hu z' hs' hu' from ⟨qdd, qfr, qhs, qst, qiv, qwk, qct, qhu, qun, ql0, ql1, ql2, ql3, ql4, ql5, ql6, ql7, h8⟩)]
    · rw [decide_eq_false h8, decide_eq_false (fun h => h8 (h.2.2.2.2.2.2.2.2.2.2.2.2.2.2.2.2.2))]
   rw [← hd]; rfl
 have h : i < z.dd.length := by omega
 have h' : i < z'.dd.length := by omega
 rw [drop_getP h, drop_getP h', List.cons.injEq] at g2
 refine w_ ?_
 rw [show 0 + (i : Int).toNat = i by omega]
 refine w_ ?_
 rw [prs2_get h]
 refine w_ ?_
 refine W_draw [19, 21, 22] [] 7 mo0 (by kernel_rfl) (by kernel_rfl) (fun ρ1 hkl => ?_); refine d_ ?_
 rw [show 0 + (i : Int).toNat = i by omega, prs2_get h']
 refine d_ ?_
 refine i_ ?_ ?_ <;> intro hb
 · have hn : ¬ sameP z hs hu z' hs' hu' := fun h9 => by
    have e := (g2.1 h9.1).1
    rw [e] at hb
    simp at hb
   refine w_ ?_
   refine k_ ?_
   rw [decide_eq_false hn]; rfl
 have e : z.dd.getD i (0, 0) = z'.dd.getD i (0, 0) := by
  simp at hb
  exact Prod.ext hb.1 hb.2
 refine w_ ?_
 exact LP_renG [0, 1, 2, 3, 4, 5, 6, 7, 8, 9, 10, 11, 12, 13, 14, 15, 16, 17, 18, 19, 20, 21] (ih (i + 1) ⟨by omega, by rw [g2]; exact and_iff_right e⟩ (by omega)) s_ s_ rfl rfl rfl
def cellsH (s : SZ) (hs hu : Bool) (y : SY) (b : Nat) : List AV := .int .i64 s.start :: .bool s.has :: (cellsG s.z hs hu y.y b ++ [slI y.yr (b + 10) 1 s.rd.length, slI y.ye (b + 11) 1 s.ex.length])
def sameS (s : SZ) (hu : Bool) (s' : SZ) (hu' : Bool) : Prop := s.start = s'.start ∧ s.has = s'.has ∧ sameP { s.z with st := 0 } false hu { s'.z with st := 0 } false hu' ∧ s.rd = s'.rd ∧ s.ex = s'.ex
instance (s : SZ) (hu : Bool) (s' : SZ) (hu' : Bool) : Decidable (sameS s hu s' hu') := by unfold sameS; infer_instance
abbrev twoSet (s s' : SZ) : Hp := setHp 95 s 0 ++ setHp 95 s' 12
set_option maxRecDepth 8192 in
set_option maxHeartbeats 4000000 in
theorem sameSet_tri (s : SZ) (hs hu : Bool) (y : SY) (s' : SZ) (hs' hu' : Bool) (y' : SY) (hy : SOK s y) (hz : ZOK s) (hy' : SOK s' y') (hz' : ZOK s') :
 Tri C0 18 24 (twoSet s s') [.agg (cellsH s hs hu y 0), .agg (cellsH s' hs' hu' y' 12)] (fun k hp r => k = 24 ∧ hp = twoSet s s' ∧ r = .bool (decide (sameS s hu s' hu'))) := by
 obtain ⟨g1, g2, g3⟩ := hy
 obtain ⟨k1, k2, k3⟩ := hy'
 have hr := hz.rd
 have hx := hz.ex
 have hr' := hz'.rd
 have hx' := hz'.ex
 refine Tri.keep (Tri.mk 49 [.tmp 4] Tryz.func18 rfl rfl rfl rfl cf18 ?_) t_ (fun r h => q_); intro w0 S T ρ0
 refine w_ ?_
 refine j_ 19 ?_ ?_ <;> intro qst
 rotate_left 1
 · have hn : ¬ sameS s hu s' hu' := fun h => qst h.1
   refine w_ ?_
   refine k_ ?_
   rw [decide_eq_false hn]; rfl
 refine w_ ?_
 refine j_ 26 ?_ ?_ <;> intro qhas
 rotate_left 1
 · have hn : ¬ sameS s hu s' hu' := fun h => by rw [h.2.1] at qhas; simp at qhas
   refine w_ ?_
   refine k_ ?_
   rw [decide_eq_false hn]; rfl
 have qhas : s.has = s'.has := by simpa using qhas
 refine w_ ?_
 refine WL_callR [0, 1, 2, 3, 4, 5, 6, 7, 8, 9, 12, 13, 14, 15, 16, 17, 18, 19, 20, 21] (sameRule_tri { s.z with st := 0 } false hu y.y { s'.z with st := 0 } false hu' y'.y g1 hz.len k1 hz'.len) rfl rfl rfl t_ t_ rfl rfl rfl rfl ?_; rintro _ rfl
 refine w_ ?_
 refine j_ 33 ?_ ?_ <;> intro qr
 rotate_left 1
 · have hn : ¬ sameS s hu s' hu' := fun h => qr h.2.2.1
   refine w_ ?_
   refine k_ ?_
   rw [decide_eq_false hn]; rfl
 refine w_ ?_
 refine WL_callR [10, 22] (same46g y.yr.1 y'.yr.1 none none s.rd s'.rd y.yr.2 y'.yr.2 ⟨g2, by omega⟩ ⟨k2, by omega⟩) rfl rfl rfl t_ t_ rfl rfl rfl rfl ?_; rintro _ rfl
 refine w_ ?_
 refine j_ 41 ?_ ?_ <;> intro qrd
 rotate_left 1
 · have hn : ¬ sameS s hu s' hu' := fun h => qrd h.2.2.2.1
   refine w_ ?_
   refine k_ ?_
   rw [decide_eq_false hn]; rfl
 refine w_ ?_
 refine WL_callR [11, 23] (same46g y.ye.1 y'.ye.1 none none s.ex s'.ex y.ye.2 y'.ye.2 ⟨g3, by omega⟩ ⟨k3, by omega⟩) rfl rfl rfl t_ t_ rfl rfl rfl rfl ?_; rintro _ rfl
 refine w_ ?_
 refine k_ ?_
 have hd : decide (s.ex = s'.ex) = decide (sameS s hu s' hu') := by
  by_cases h8 : s.ex = s'.ex
  · rw [decide_eq_true h8, decide_eq_true (show sameS s hu s' hu' from ⟨qst, qhas, qr, qrd, h8⟩)]
  · rw [decide_eq_false h8, decide_eq_false (fun h => h8 h.2.2.2.2)]
 rw [← hd]; rfl
end Go.Eng
namespace Go.Eng
open Go.Proofs
section
variable {C : Cy} {E : En} {ops : Array Oper} {rest : List Oper} {nx : Nat} {tm : Tm} {hp : Hp} {Q : Po}
theorem WL_loadC {d : Nat} {x : Operand} {t : TypeId} {ty : TypeId} {pos : String} {af : Array Edge} {g : Option (Nat × Bool)} {s : TS} {id i : Nat} {e : TypeId} {m : Option Nat} {cs : List AV} {av : AV}
 (hx : ev tm x = some (.pix id 1 i 0)) (hid : lk hp id = some (.cells e m cs)) (hs : C.ti t = some s) (ha : isAggD s.desc = false) (hg : wanted ops tm g = some true) (hd : Nat.blt d E.nt = true)
 (hi : cs[i]? = some av) (h : WL C E ops rest nx ((d, av) :: tm) hp Q) :
 WL C E ops (⟨some d, .load t x, ty, pos, af, g⟩ :: rest) nx tm hp Q := by
 intro ρ a w H
 obtain ⟨c1, hl⟩ := H.heap.cell hid (i := i) (av := av) hi
 have hrun : (execOp a.eval ⟨some d, .load t x, ty, pos, af, g⟩).run C.P w = .ok (.value (av.den ρ)) w := by
  simp only [execOp, (H.ev hx).1]
  refine run_val ?_
  simp only [AV.den, Nat.add_zero, Nat.mul_one, Instr.loadAt, Instr.sureAddr, loadVar, Sem.run_bind, Sem.run_pure, Result.andThen_ok, run_isAgg hs, ha, Bool.false_eq_true, if_false, run_load]
  rw [c1]
 exact wpList_of_run (wanted_sound H (o := ⟨some d, .load t x, ty, pos, af, g⟩) hg) hrun (h ρ _ w (H.put (av := av) (by simpa [Nat.blt_eq] using hd) hl))
end
attribute [local irreducible] W WL LP Then InBl Tri WS
abbrev rbl (P : Prop) (r : AV) : Prop := ∃ b : Bool, (b = true → P) ∧ r = .bool b
theorem rbl_lt {P : Prop} {n : Nat} : ∀ r, rbl P r → r.lt n := by rintro r ⟨b, _, rfl⟩; trivial
set_option maxRecDepth 8192 in
set_option maxHeartbeats 4000000 in
theorem fits1_tri (z : RZ) (hs hu : Bool) (y : LY) : Tri C0 24 10 (lstHp 95 z 0) [.agg (cellsG z hs hu y 0)] (fun k hp r => k = 10 ∧ hp = lstHp 95 z 0 ∧ rbl (LEN z) r) := by
 refine Tri.keep ?_ s_ rbl_lt
 refine Tri.mk 43 [.tmp 2] Tryz.func24 rfl rfl rfl rfl cf24 ?_; intro w0 S T ρ0
 refine v_ ?_
 refine i_ ?_ ?_ <;> intro el0
 · refine v_ ?_
   refine W_ret ?_; (repeat (first | refine then_ret ?_ | refine inbl_ret ?_))
   exact ⟨_, _, rfl, s_, s_, false, (fun h => by cases h), rfl⟩
 refine v_ ?_
 refine i_ ?_ ?_ <;> intro el1
 · refine v_ ?_
   refine W_ret ?_; (repeat (first | refine then_ret ?_ | refine inbl_ret ?_))
   exact ⟨_, _, rfl, s_, s_, false, (fun h => by cases h), rfl⟩
 refine v_ ?_
 refine i_ ?_ ?_ <;> intro el2
 · refine v_ ?_
   refine W_ret ?_; (repeat (first | refine then_ret ?_ | refine inbl_ret ?_))
   exact ⟨_, _, rfl, s_, s_, false, (fun h => by cases h), rfl⟩
 refine v_ ?_
 refine i_ ?_ ?_ <;> intro el3
 · refine v_ ?_
   refine W_ret ?_; (repeat (first | refine then_ret ?_ | refine inbl_ret ?_))
   exact ⟨_, _, rfl, s_, s_, false, (fun h => by cases h), rfl⟩
 refine v_ ?_
 refine i_ ?_ ?_ <;> intro el4
 · refine v_ ?_
   refine W_ret ?_; (repeat (first | refine then_ret ?_ | refine inbl_ret ?_))
   exact ⟨_, _, rfl, s_, s_, false, (fun h => by cases h), rfl⟩
 refine v_ ?_
 refine i_ ?_ ?_ <;> intro edd
 · refine v_ ?_
   refine W_ret ?_; (repeat (first | refine then_ret ?_ | refine inbl_ret ?_))
   exact ⟨_, _, rfl, s_, s_, false, (fun h => by cases h), rfl⟩
 refine v_ ?_
 refine i_ ?_ ?_ <;> intro el5
 · refine v_ ?_
   refine W_ret ?_; (repeat (first | refine then_ret ?_ | refine inbl_ret ?_))
   exact ⟨_, _, rfl, s_, s_, false, (fun h => by cases h), rfl⟩
 refine v_ ?_
 refine i_ ?_ ?_ <;> intro el6
 · refine v_ ?_
   refine W_ret ?_; (repeat (first | refine then_ret ?_ | refine inbl_ret ?_))
   exact ⟨_, _, rfl, s_, s_, false, (fun h => by cases h), rfl⟩
 refine v_ ?_
 refine i_ ?_ ?_ <;> intro el7
 · refine v_ ?_
   refine W_ret ?_; (repeat (first | refine then_ret ?_ | refine inbl_ret ?_))
   exact ⟨_, _, rfl, s_, s_, false, (fun h => by cases h), rfl⟩
 refine v_ ?_
 refine i_ ?_ ?_ <;> intro el8
 · refine v_ ?_
   refine W_ret ?_; (repeat (first | refine then_ret ?_ | refine inbl_ret ?_))
   exact ⟨_, _, rfl, s_, s_, false, (fun h => by cases h), rfl⟩
 refine v_ ?_
 refine W_ret ?_; (repeat (first | refine then_ret ?_ | refine inbl_ret ?_))
 exact ⟨_, _, rfl, s_, s_, true, (fun _ => ⟨by omega, by omega, by omega, by omega, by omega, by omega, by omega, by omega, by omega, by omega⟩), rfl⟩
set_option maxRecDepth 8192 in
set_option maxHeartbeats 4000000 in
theorem fits2_tri (s : SZ) (hs hu : Bool) (y : SY) : Tri C0 7 12 (setHp 95 s 0) [.agg (cellsH s hs hu y 0)] (fun k hp r => k = 12 ∧ hp = setHp 95 s 0 ∧ rbl (LEN s.z ∧ s.rd.length ≤ 2147483647 ∧ s.ex.length ≤ 2147483647) r) := by
 refine Tri.keep ?_ s_ rbl_lt
 refine Tri.mk 15 [.tmp 2] Tryz.func7 rfl rfl rfl rfl cf7 ?_; intro w0 S T ρ0
 refine v_ ?_
 refine WL_callR [0, 1, 2, 3, 4, 5, 6, 7, 8, 9] (fits1_tri s.z hs hu y.y) rfl rfl rfl t_ t_ rfl rfl rfl rfl ?_; rintro _ ⟨b,hb,rfl⟩
 cases b with
 | false =>
   refine v_ ?_
   refine W_cond_true rfl ?_
   refine v_ ?_
   refine W_ret ?_; (repeat (first | refine then_ret ?_ | refine inbl_ret ?_))
   exact ⟨_, _, rfl, s_, s_, false, (fun h => by cases h), rfl⟩
 | true =>
   refine v_ ?_
   refine W_cond_false rfl ?_
   refine v_ ?_
   refine i_ ?_ ?_ <;> intro h1
   · refine v_ ?_
     refine W_ret ?_; (repeat (first | refine then_ret ?_ | refine inbl_ret ?_))
     exact ⟨_, _, rfl, s_, s_, false, (fun h => by cases h), rfl⟩
   refine v_ ?_
   refine i_ ?_ ?_ <;> intro h2
   · refine v_ ?_
     refine W_ret ?_; (repeat (first | refine then_ret ?_ | refine inbl_ret ?_))
     exact ⟨_, _, rfl, s_, s_, false, (fun h => by cases h), rfl⟩
   refine v_ ?_
   refine W_ret ?_; (repeat (first | refine then_ret ?_ | refine inbl_ret ?_))
   exact ⟨_, _, rfl, s_, s_, true, (fun _ => ⟨hb rfl, by omega, by omega⟩), rfl⟩
theorem inDate_tri (n : Int) : Tri C0 81 0 [] [.int .i64 n] (fun k hp r => k = 0 ∧ hp = [] ∧ r = .bool (decide (DateR n))) := by
 refine Tri.keep (Tri.mk 9 [.tmp 2] Tryz.func81 rfl rfl rfl rfl cf81 ?_) t_ (fun r h => q_); intro w0 S T ρ0
 refine v_ ?_
 refine j_ 5 ?_ ?_ <;> intro h
 · refine v_ ?_
   refine k_ ?_
   show AV.bool _ = _
   congr 1
   unfold DateR
   by_cases h2 : n ≤ 315537897599
   · rw [decide_eq_true h2, decide_eq_true ⟨h, h2⟩]
   · rw [decide_eq_false h2, decide_eq_false (fun h3 => h2 h3.2)]
 · refine v_ ?_
   refine k_ ?_
   show AV.bool false = _
   rw [decide_eq_false (fun h3 : DateR n => h h3.1)]
structure TRT (z : RZ) (hs hu : Bool) : Prop where
 fr : z.fr ≤ 6
 wk : 0 ≤ z.wk ∧ z.wk ≤ 6
 st : DateR z.st
 un : DateR z.un
 hu : hu = (z.un != 0)
 hs : hs = (z.st != 0)
 nd : z.dd.length ≤ 40
 wd : ∀ p ∈ z.dd, 0 ≤ p.1 ∧ p.1 ≤ 6
 n : ∀ j, j < 9 → ([z.l0, z.l1, z.l2, z.l3, z.l4, z.l5, z.l6, z.l7, z.l8].getD j []).length ≤ 40
def sl9 (z : RZ) (y : LY) : List AV := [slI y.y0 0 1 z.l0.length, slI y.y1 1 1 z.l1.length, slI y.y2 2 1 z.l2.length, slI y.y3 3 1 z.l3.length, slI y.y4 4 1 z.l4.length, slI y.y5 5 1 z.l5.length, slI y.y6 6 1 z.l6.length, slI y.y7 7 1 z.l7.length, slI y.y8 8 1 z.l8.length]
theorem sl9_get (z : RZ) (y : LY) {i : Nat} (h : i < 9) : (sl9 z y)[i]? = some (slI ([y.y0, y.y1, y.y2, y.y3, y.y4, y.y5, y.y6, y.y7, y.y8].getD i (true, 0)) i 1 ([z.l0, z.l1, z.l2, z.l3, z.l4, z.l5, z.l6, z.l7, z.l8].getD i []).length) := by
 obtain rfl | rfl | rfl | rfl | rfl | rfl | rfl | rfl | rfl : i = 0 ∨ i = 1 ∨ i = 2 ∨ i = 3 ∨ i = 4 ∨ i = 5 ∨ i = 6 ∨ i = 7 ∨ i = 8 := by omega
 all_goals rfl
theorem bne_of {a b : Bool} (h : (!(a == b)) = false) : a = b := by cases a <;> cases b <;> first | rfl | (revert h; decide)
theorem mem_getDP {l : List (Int × Int)} {P : Int × Int → Prop} (h : ∀ k, k < l.length → P (l.getD k (0, 0))) : ∀ p ∈ l, P p := by
 intro p hp
 obtain ⟨k, hk, rfl⟩ := List.getElem_of_mem hp
 have := h k hk
 simpa [List.getD, hk] using this
set_option maxRecDepth 8192 in
set_option maxHeartbeats 8000000 in
theorem textRule_tri (z : RZ) (hs hu : Bool) (y : LY) (hy : LOK z y) : Tri C0 36 10 (lstHp 95 z 0) [.agg (cellsG z hs hu y 0)] (fun k hp r => k = 10 ∧ hp = lstHp 95 z 0 ∧ rbl (TRT z hs hu) r) := by
 obtain ⟨OO0, OO1, OO2, OO3, OO4, OO5, OO6, OO7, OO8, OOd⟩ := hy
 have hml : (prs2 z.dd).length = z.dd.length := by simp
 refine Tri.keep ?_ s_ rbl_lt
 refine Tri.mk 101 [.tmp 2] Tryz.func36 rfl rfl rfl rfl cf36 ?_; intro w0 S T ρ0
 refine v_ ?_
 refine j_ 11 ?_ ?_ <;> intro h1
 · refine v_ ?_
   refine W_cond_true rfl ?_
   refine v_ ?_
   refine W_ret ?_; (repeat (first | refine then_ret ?_ | refine inbl_ret ?_))
   exact ⟨_, _, rfl, s_, s_, false, (fun h => by cases h), rfl⟩
 refine v_ ?_
 refine j_ 16 ?_ ?_ <;> intro h2
 · refine v_ ?_
   refine W_cond_true rfl ?_
   refine v_ ?_
   refine W_ret ?_; (repeat (first | refine then_ret ?_ | refine inbl_ret ?_))
   exact ⟨_, _, rfl, s_, s_, false, (fun h => by cases h), rfl⟩
 refine v_ ?_
 refine j_ 21 ?_ ?_ <;> intro h3
 · refine v_ ?_
   refine W_cond_true rfl ?_
   refine v_ ?_
   refine W_ret ?_; (repeat (first | refine then_ret ?_ | refine inbl_ret ?_))
   exact ⟨_, _, rfl, s_, s_, false, (fun h => by cases h), rfl⟩
 refine v_ ?_
 refine WL_callR [] (inDate_tri z.st) rfl rfl rfl t_ t_ rfl rfl rfl rfl ?_; rintro _ rfl
 refine v_ ?_
 refine j_ 28 ?_ ?_ <;> intro h4
 · refine v_ ?_
   refine W_cond_true rfl ?_
   refine v_ ?_
   refine W_ret ?_; (repeat (first | refine then_ret ?_ | refine inbl_ret ?_))
   exact ⟨_, _, rfl, s_, s_, false, (fun h => by cases h), rfl⟩
 refine v_ ?_
 refine WL_callR [] (inDate_tri z.un) rfl rfl rfl t_ t_ rfl rfl rfl rfl ?_; rintro _ rfl
 refine v_ ?_
 refine j_ 35 ?_ ?_ <;> intro h5
 · refine v_ ?_
   refine W_cond_true rfl ?_
   refine v_ ?_
   refine W_ret ?_; (repeat (first | refine then_ret ?_ | refine inbl_ret ?_))
   exact ⟨_, _, rfl, s_, s_, false, (fun h => by cases h), rfl⟩
 refine v_ ?_
 refine j_ 43 ?_ ?_ <;> intro h6
 · refine v_ ?_
   refine W_cond_true rfl ?_
   refine v_ ?_
   refine W_ret ?_; (repeat (first | refine then_ret ?_ | refine inbl_ret ?_))
   exact ⟨_, _, rfl, s_, s_, false, (fun h => by cases h), rfl⟩
 refine v_ ?_
 refine j_ 51 ?_ ?_ <;> intro h7
 · refine v_ ?_
   refine W_cond_true rfl ?_
   refine v_ ?_
   refine W_ret ?_; (repeat (first | refine then_ret ?_ | refine inbl_ret ?_))
   exact ⟨_, _, rfl, s_, s_, false, (fun h => by cases h), rfl⟩
 refine v_ ?_
 refine i_ ?_ ?_ <;> intro h8
 · refine v_ ?_
   refine W_ret ?_; (repeat (first | refine then_ret ?_ | refine inbl_ret ?_))
   exact ⟨_, _, rfl, s_, s_, false, (fun h => by cases h), rfl⟩
 have f4 : DateR z.st := by simpa using h4
 have f5 : DateR z.un := by simpa using h5
 have f6 := bne_of h6
 have f7 := bne_of h7
 refine v_ ?_
 refine W_loop ?_
 refine LP_renG [0, 1, 2, 3, 4, 5, 6, 7, 8, 9, 10] (LP_ind 11 (fun i : Nat => ([(1, .ptr 10 0), (58, slI y.yd 9 2 z.dd.length), (59, .int .i64 z.dd.length), (60, .int .i64 i)], (10, .cells 25 (some 18) (cellsG z hs hu y 0)) :: lstHp 95 z 0)) (fun i => z.dd.length - i)
  (fun i => i ≤ z.dd.length ∧ ∀ k, k < i → 0 ≤ (z.dd.getD k (0, 0)).1 ∧ (z.dd.getD k (0, 0)).1 ≤ 6) 0 ?_ ⟨Nat.zero_le _, fun k hk => absurd hk (Nat.not_lt_zero _)⟩) s_ s_ rfl rfl rfl
 rintro i ⟨g1, g2⟩ ih
 refine LP_round ?_; try dsimp only
 refine v_ ?_
 refine i_ ?_ ?_ <;> intro h
 · have h : i < z.dd.length := by omega
   refine v_ ?_
   rw [show 0 + (i : Int).toNat = i by omega]
   refine v_ ?_
   rw [prs2_get h]
   refine v_ ?_
   refine j_ 67 ?_ ?_ <;> intro k1
   · refine v_ ?_
     refine W_cond_true rfl ?_
     refine v_ ?_
     refine W_ret ?_; (repeat (first | refine then_ret ?_ | refine inbl_ret ?_))
     exact ⟨_, _, rfl, s_, s_, false, (fun h => by cases h), rfl⟩
   refine v_ ?_
   refine i_ ?_ ?_ <;> intro k2
   · refine v_ ?_
     refine W_ret ?_; (repeat (first | refine then_ret ?_ | refine inbl_ret ?_))
     exact ⟨_, _, rfl, s_, s_, false, (fun h => by cases h), rfl⟩
   refine v_ ?_
   have k1 : ¬ (z.dd.getD i (0, 0)).1 < 0 := k1
   have k2 : ¬ (z.dd.getD i (0, 0)).1 > 6 := k2
   exact LP_renG [0, 1, 2, 3, 4, 5, 6, 7, 8, 9, 10] (ih (i + 1) ⟨h, fun k hk => by
    rcases Nat.lt_succ_iff_lt_or_eq.1 hk with h3 | h3
    · exact g2 k h3
    · subst h3; omega⟩ (by omega)) s_ s_ rfl rfl rfl
 have h : i = z.dd.length := by omega
 subst h
 have g2 := mem_getDP (P := fun p => 0 ≤ p.1 ∧ p.1 ≤ 6) g2
 clear ih g1
 refine v_ ?_
 refine x_ ?_
 refine v_ ?_
 refine W_loop ?_
 refine LP_renG [0, 1, 2, 3, 4, 5, 6, 7, 8, 9, 10, 11] (LP_ind 12 (fun i : Nat => ([(91, .sl false 11 1 0 9 9), (92, .int .i64 9), (93, .int .i64 i)], (10, .cells 25 (some 18) (cellsG z hs hu y 0)) :: (11, .cells 22 (some 9) (sl9 z y)) :: lstHp 95 z 0)) (fun i => 9 - i)
  (fun i => i ≤ 9 ∧ ∀ j, j < i → ([z.l0, z.l1, z.l2, z.l3, z.l4, z.l5, z.l6, z.l7, z.l8].getD j []).length ≤ 40) 0 ?_ ⟨Nat.zero_le _, fun k hk => absurd hk (Nat.not_lt_zero _)⟩) s_ s_ rfl rfl rfl
 rintro i ⟨g1, g3⟩ ih
 refine LP_round ?_; try dsimp only
 refine v_ ?_
 refine i_ ?_ ?_ <;> intro h
 · have h : i < 9 := by omega
   refine v_ ?_
   rw [show 0 + (i : Int).toNat = i by omega]
   refine WL_loadC rfl rfl rfl rfl rfl rfl (sl9_get z y h) ?_
   refine v_ ?_
   refine i_ ?_ ?_ <;> intro k2
   · refine v_ ?_
     refine W_ret ?_; (repeat (first | refine then_ret ?_ | refine inbl_ret ?_))
     exact ⟨_, _, rfl, s_, s_, false, (fun h => by cases h), rfl⟩
   refine v_ ?_
   exact LP_renG [0, 1, 2, 3, 4, 5, 6, 7, 8, 9, 10, 11] (ih (i + 1) ⟨h, fun k hk => by
    rcases Nat.lt_succ_iff_lt_or_eq.1 hk with h3 | h3
    · exact g3 k h3
    · subst h3; omega⟩ (by omega)) s_ s_ rfl rfl rfl
 have h : i = 9 := by omega
 subst h
 refine v_ ?_
 refine x_ ?_
 refine v_ ?_
 refine W_ret ?_; (repeat (first | refine then_ret ?_ | refine inbl_ret ?_))
 exact ⟨_, _, rfl, s_, s_, true, (fun _ => ⟨by omega, ⟨by omega, by omega⟩, f4, f5, f6, f7, by omega, g2, g3⟩), rfl⟩
end Go.Eng
