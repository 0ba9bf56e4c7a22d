/- A part of the proof that the rows statement FnSetAny holds: the engine of abstract states, the walks through the program, the bridge; no conditions. -/
import Derived.Test.YthkgjhnckakliaaGreatDoorZAO
import Derived.Test.YthkgjhnckakliaaGreatDoorZBK
import Derived.Test.YthkgjhnckakliaaGreatDoorZAI
import Derived.Test.YthkgjhnckakliaaGreatDoorZAK
import Derived.KernelRfl
set_option linter.unusedVariables false
set_option linter.unusedSimpArgs false
set_option linter.unusedSectionVars false
namespace Go.Eng
open Go.Proofs
attribute [local irreducible] W WL LP Then InBl Tri WS
set_option maxRecDepth 8192 in
set_option maxHeartbeats 4000000 in
theorem ofRule_tri (z : RZ) (y : LY) (hy : LOK z y) (hL : LEN z) : Tri C0 47 10 (lstHp 110 z 0) [.agg (cellsS z y 0)]
    (Fin' (fun _ => 20) (fun _ => lstHp 95 z 10) (fun q => .agg (cellsS z { y with yd := q } 10)) (fun q : Bool × Nat => z.dd.length ≤ q.2)) := by
  refine Tri.renX ?_
  refine Tri.mk 56 [.cell 2 25] Tryz.func47 rfl rfl rfl rfl cf47 ?_; intro w0 S T ρ0
  repeat (refine W_seq ?_)
  refine W_region ?_
  refine WL_cut 2 ?_; (refine w_ ?_); refine nq_walk ?_
  refine WL_nil ?_
  refine then_normal ?_
  repeat (refine W_seq ?_)
  refine W_region ?_
  iterate 34 (apply WL_val; exact rfl; exact rfl; exact rfl; exact trivial)
  refine WL_val (φ := True) (av := .agg [.int .u8 z.fr, .bool (z.st != 0), .int .i64 z.st, .int .i64 z.iv, .int .i64 z.wk, .int .i64 z.ct, .bool (z.un != 0), .int .i64 z.un, slI y.y0 (0 + 0) 1 z.l0.length, slI y.y1 (0 + 1) 1 z.l1.length, slI y.y2 (0 + 2) 1 z.l2.length, slI y.y3 (0 + 3) 1 z.l3.length, slI y.y4 (0 + 4) 1 z.l4.length, .v (.slice none 0 0), slI y.y5 (0 + 5) 1 z.l5.length, slI y.y6 (0 + 6) 1 z.l6.length, slI y.y7 (0 + 7) 1 z.l7.length, slI y.y8 (0 + 8) 1 z.l8.length]) (by kernel_rfl) rfl rfl trivial ?_
  refine w_ ?_
  obtain ⟨LL0, LL1, LL2, LL3, LL4, LL5, LL6, LL7, LL8, LLd⟩ := hL
  obtain ⟨OO0, OO1, OO2, OO3, OO4, OO5, OO6, OO7, OO8, OOd⟩ := hy
  have hml : (prs2 z.dd).length = z.dd.length := by simp
  refine W_loop ?_
  refine LP_imp (Imp_nils (show 0 < 22 by omega) [.recs 95 none K2 []] (s_)) ?_
  refine LP_imp (Imp_cells 12 (cellsD z y 0 (slI (true, 0) 13 2 0)) rfl (fun _ => rfl) (s_) (fun h => absurd (congrArg List.length h) (Nat.succ_ne_zero 17))) ?_
  refine LP_renG [0, 1, 2, 3, 4, 5, 6, 7, 8, 9, 10, 11, 12, 13] (LP_ind 14 (fun q : Nat × List (Int × Int) × (Bool × Nat) × Option Nat => ([(2, .ptr 11 0), (3, .ptr 12 0), (42, slI y.yd 9 2 z.dd.length), (43, .int .i64 z.dd.length), (44, .int .i64 q.1)],
      (11, .cells 25 (some 18) zcS) :: (12, .cells 25 (some 18) (cellsD z y 0 (slI q.2.2.1 13 2 q.2.1.length))) :: (13, .recs 95 q.2.2.2 K2 (prs2 q.2.1)) :: lstHp 110 z 0)) (fun q => z.dd.length - q.1)
    (fun q => q.1 ≤ z.dd.length ∧ q.2.1 = z.dd.take q.1 ∧ GOKR (prs2 q.2.1) q.2.2.1 q.2.2.2) (0, [], (true, 0), none) ?_ ⟨Nat.zero_le _, rfl, .inl ⟨rfl, rfl, rfl⟩⟩) ?_ ?_ rfl rfl rfl
  rotate_left 1
  · exact s_
  · exact s_
  rintro ⟨i, acc, ya, ma⟩ ⟨g1, g2, g3⟩ ih
  simp only at g1 g2 g3
  refine LP_round ?_; try dsimp only
  refine w_ ?_
  refine i_ ?_ ?_ <;> intro h
  rotate_left 1
  · have h : i = z.dd.length := by omega
    rw [h, List.take_length] at g2
    subst g2
    have hya : z.dd.length ≤ ya.2 := by
      rcases g3 with ⟨rfl, _, h9⟩ | ⟨tt, cap, rfl, _, h9, _⟩
      · have h10 : z.dd = [] := by simpa using h9
        rw [h10]; exact Nat.zero_le _
      · rw [hml] at h9; exact h9
    refine w_ ?_
    refine x_ ?_
    refine then_normal ?_
    refine W_imp (Imp_conv 13 (.recs 95 none K2 (prs2 z.dd)) rfl rfl rfl rfl (.inl rfl) ⟨[], by simp [AO.avs]⟩) ?_
    refine w_ ?_
    refine W_ret ?_; (repeat (first | refine then_ret ?_ | refine inbl_ret ?_))
    exact ⟨_, _, rfl, s_, ya, [0, 1, 2, 3, 4, 5, 6, 7, 8, 9, 0, 1, 2, 3, 4, 5, 6, 7, 8, 13], s_, rfl, rfl, rfl, rfl, s_, hya⟩
  have h : i < z.dd.length := by omega
  refine w_ ?_
  rw [show 0 + (i : Int).toNat = i by omega]
  refine w_ ?_
  rw [prs2_get h]
  rcases g3 with ⟨rfl, rfl, hx9⟩ | ⟨tt0, cap0, rfl, rfl, q1, q2⟩
  · obtain rfl : acc = [] := by simpa using hx9
    refine w_ ?_
    refine WL_imp (Imp_tm 49 (.v (.slice none 0 0)) rfl (fun _ => rfl) trivial) ?_
    refine WL_appN (FamR 95 K2) [[(z.dd.getD i (0, 0)).1, (z.dd.getD i (0, 0)).2]] rfl rfl rfl rfl rfl rfl rfl rfl rfl rfl rfl rfl rfl (Nat.le_of_ble_eq_true rfl) (Nat.le_refl _) ⟨Nat.le_of_ble_eq_true rfl, Nat.le_of_ble_eq_true rfl⟩ ?_
    intro cap3 tt3 hc3 hc4
    refine w_ ?_
    have ih2 := ih (i + 1, [z.dd.getD i (0, 0)], (false, cap3), some tt3) ⟨h, by simp only; rw [← takeP_succ h, ← g2]; rfl, .inr ⟨tt3, cap3, rfl, rfl, by simp at hc3 ⊢; omega, hc4⟩⟩ (by simp only; omega)
    dsimp only at ih2
    exact LP_renG [0, 1, 2, 3, 4, 5, 6, 7, 8, 9, 10, 11, 12, 16] ih2 s_ s_ rfl rfl rfl
  · have hal : acc.length ≤ z.dd.length := by rw [g2, List.length_take]; omega
    have htl : (prs2 acc).length = acc.length := by simp
    rw [htl] at q1
    rw [← htl]
    refine w_ ?_
    refine WL_app1 (FamR 95 K2) (prs2 acc) ([(z.dd.getD i (0, 0)).1, (z.dd.getD i (0, 0)).2]) rfl rfl rfl rfl rfl rfl rfl rfl rfl rfl rfl rfl rfl rfl ?_ ?_ ?_
    · exact ⟨by omega, q2⟩
    · exact ⟨by omega, by show ((prs2 acc).length + 1) * 16 ≤ _; omega⟩
    intro cap3 tt3 hc3 hc4 _
    refine w_ ?_
    have ih2 := ih (i + 1, acc ++ [z.dd.getD i (0, 0)], (false, cap3), some tt3) ⟨h, by simp only; rw [← takeP_succ h, ← g2], .inr ⟨tt3, cap3, rfl, rfl, by simp at hc3 ⊢; omega, hc4⟩⟩ (by simp only; omega)
    dsimp only at ih2
    rw [show prs2 (acc ++ [z.dd.getD i (0, 0)]) = prs2 acc ++ [[(z.dd.getD i (0, 0)).1, (z.dd.getD i (0, 0)).2]] by simp, show (acc ++ [z.dd.getD i (0, 0)]).length = (prs2 acc).length + 1 by simp] at ih2
    exact LP_renG [0, 1, 2, 3, 4, 5, 6, 7, 8, 9, 10, 11, 12, 16] ih2 s_ s_ rfl rfl rfl
theorem ofSet_tri (s : SZ) (y : SY) (hy : SOK s y) (hL : LEN s.z) : Tri C0 19 12 (setHp 110 s 0) [.agg (cellsT s y 0)]
    (Fin' (fun _ => 24) (fun _ => setHp 95 s 12) (fun q => .agg (cellsT s { y with y := { y.y with yd := q } } 12)) (fun q : Bool × Nat => s.z.dd.length ≤ q.2)) := by
  refine Tri.renX ?_
  refine Tri.mk 15 [.cell 2 28] Tryz.func19 rfl rfl rfl rfl cf19 ?_; intro w0 S T ρ0
  refine w_ ?_
  refine W_draw [12] [] 13 mo0 (by kernel_rfl) (by kernel_rfl) (fun ρ1 hkl => ?_); refine d_ ?_
  refine WS_loud rfl ?_ hkl
  refine WL_call [0, 1, 2, 3, 4, 5, 6, 7, 8, 9] (ofRule_tri s.z y.y hy.1 hL) rfl rfl rfl (s_) (s_) rfl rfl rfl rfl ?_; rintro _ _ _ ⟨q, rfl, rfl, rfl, hq⟩
  refine WL_nil ?_
  refine nq_walk ⟨fun _ => s_, ?_⟩
  iterate 4 (apply WS_val; exact rfl; exact rfl; exact rfl; exact rfl; exact rfl; exact trivial)
  refine WS_val (φ := True) (av := .agg (.int .i64 s.start :: .bool s.has :: (cellsS s.z { y.y with yd := q } 14 ++ [slI y.yr 10 1 s.rd.length, slI y.ye 11 1 s.ex.length]))) rfl rfl (by kernel_rfl) rfl rfl trivial ?_
  refine WS_loud rfl ?_ hkl
  refine WL_store rfl rfl trivial ?_
  refine WL_nil ?_
  refine nq_walk ⟨fun h => (by cases h), ?_⟩
  refine d_ ?_
  refine W_ret ?_; (repeat (first | refine then_ret ?_ | refine inbl_ret ?_))
  exact ⟨_, _, rfl, s_, q, [0, 1, 2, 3, 4, 5, 6, 7, 8, 9, 10, 11, 14, 15, 16, 17, 18, 19, 20, 21, 22, 23, 10, 11], s_, rfl, rfl, rfl, rfl, s_, hq⟩
end Go.Eng
namespace Go.Eng
open Go.Proofs
attribute [local irreducible] W WL LP Then InBl Tri WS
def cellsG (z : RZ) (hs hu : Bool) (y : LY) (b : Nat) : List AV := [.int .u8 z.fr, .bool hs, .int .i64 z.st, .int .i64 z.iv, .int .i64 z.wk, .int .i64 z.ct, .bool hu, .int .i64 z.un, slI y.y0 (b + 0) 1 z.l0.length, slI y.y1 (b + 1) 1 z.l1.length, slI y.y2 (b + 2) 1 z.l2.length, slI y.y3 (b + 3) 1 z.l3.length, slI y.y4 (b + 4) 1 z.l4.length, slI y.yd (b + 9) 2 z.dd.length, slI y.y5 (b + 5) 1 z.l5.length, slI y.y6 (b + 6) 1 z.l6.length, slI y.y7 (b + 7) 1 z.l7.length, slI y.y8 (b + 8) 1 z.l8.length]
def sameP (z : RZ) (hs hu : Bool) (z' : RZ) (hs' hu' : Bool) : Prop :=
  z.dd = z'.dd ∧ z.fr = z'.fr ∧ hs = hs' ∧ z.st = z'.st ∧ z.iv = z'.iv ∧ z.wk = z'.wk ∧ z.ct = z'.ct ∧ hu = hu' ∧ z.un = z'.un ∧ z.l0 = z'.l0 ∧ z.l1 = z'.l1 ∧ z.l2 = z'.l2 ∧ z.l3 = z'.l3 ∧ z.l4 = z'.l4 ∧ z.l5 = z'.l5 ∧ z.l6 = z'.l6 ∧ z.l7 = z'.l7 ∧ z.l8 = z'.l8
instance (z : RZ) (hs hu : Bool) (z' : RZ) (hs' hu' : Bool) : Decidable (sameP z hs hu z' hs' hu') := by unfold sameP; infer_instance
abbrev twoHp (z z' : RZ) : Hp := lstHp 95 z 0 ++ lstHp 95 z' 10
set_option maxRecDepth 8192 in
set_option maxHeartbeats 4000000 in
theorem sameRule_tri (z : RZ) (hs hu : Bool) (y : LY) (z' : RZ) (hs' hu' : Bool) (y' : LY) (hy : LOK z y) (hL : LEN z) (hy' : LOK z' y') (hL' : LEN z') :
    Tri C0 35 20 (twoHp z z') [.agg (cellsG z hs hu y 0), .agg (cellsG z' hs' hu' y' 10)] (fun k hp r => k = 20 ∧ hp = twoHp z z' ∧ r = .bool (decide (sameP z hs hu z' hs' hu'))) := by
  obtain ⟨LL0, LL1, LL2, LL3, LL4, LL5, LL6, LL7, LL8, LLd⟩ := hL
  obtain ⟨OO0, OO1, OO2, OO3, OO4, OO5, OO6, OO7, OO8, OOd⟩ := hy
  obtain ⟨MM0, MM1, MM2, MM3, MM4, MM5, MM6, MM7, MM8, MMd⟩ := hL'
  obtain ⟨PP0, PP1, PP2, PP3, PP4, PP5, PP6, PP7, PP8, PPd⟩ := hy'
  have hml : (prs2 z.dd).length = z.dd.length := by simp
  have hml' : (prs2 z'.dd).length = z'.dd.length := by simp
  refine Tri.keep (Tri.mk 157 [.tmp 4] Tryz.func35 rfl rfl rfl rfl cf35 ?_) t_ (fun r h => q_); intro w0 S T ρ0
  refine w_ ?_
  refine i_ ?_ ?_ <;> intro h0
  · have hn : ¬ sameP z hs hu z' hs' hu' := fun h => by
      have := congrArg List.length h.1
      omega
    refine w_ ?_
    refine k_ ?_
    rw [decide_eq_false hn]; rfl
  have h0 : z.dd.length = z'.dd.length := by omega
  refine w_ ?_
  refine W_loop ?_
  refine LP_renG [0, 1, 2, 3, 4, 5, 6, 7, 8, 9, 10, 11, 12, 13, 14, 15, 16, 17, 18, 19, 20, 21] (LP_ind 22 (fun i : Nat => ([(2, .ptr 20 0), (3, .ptr 21 0), (5, .fn (.func 80) [] []), (16, slI y.yd 9 2 z.dd.length), (17, .int .i64 z.dd.length), (18, .int .i64 i)], (20, .cells 25 (some 18) (cellsG z hs hu y 0)) :: (21, .cells 25 (some 18) (cellsG z' hs' hu' y' 10)) :: twoHp z z')) (fun i => z.dd.length - i)
    (fun i => i ≤ z.dd.length ∧ (z.dd = z'.dd ↔ z.dd.drop i = z'.dd.drop i)) 0 ?_ ⟨Nat.zero_le _, Iff.rfl⟩) ?_ ?_ rfl rfl rfl
  rotate_left 1
  · exact s_
  · exact s_
  rintro i ⟨g1, g2⟩ ih
  refine LP_round ?_; try dsimp only
  refine w_ ?_
  refine i_ ?_ ?_ <;> intro h
  rotate_left 1
  · have h : i = z.dd.length := by omega
    have qdd : z.dd = z'.dd := by rw [g2, h, List.drop_length, h0, List.drop_length]
    refine w_ ?_
    refine x_ ?_
    refine w_ ?_
    refine j_ 36 ?_ ?_ <;> intro qfr
    rotate_left 1
    · have hn : ¬ sameP z hs hu z' hs' hu' := fun h => qfr (h.2.1)
      refine w_ ?_
      refine k_ ?_
      rw [decide_eq_false hn]; rfl
    refine w_ ?_
    refine j_ 43 ?_ ?_ <;> intro qhs
    rotate_left 1
    · have hn : ¬ sameP z hs hu z' hs' hu' := fun h => by rw [h.2.2.1] at qhs; simp at qhs
      refine w_ ?_
      refine k_ ?_
      rw [decide_eq_false hn]; rfl
    have qhs : hs = hs' := by simpa using qhs
    refine w_ ?_
    refine j_ 50 ?_ ?_ <;> intro qst
    rotate_left 1
    · have hn : ¬ sameP z hs hu z' hs' hu' := fun h => qst (h.2.2.2.1)
      refine w_ ?_
      refine k_ ?_
      rw [decide_eq_false hn]; rfl
    refine w_ ?_
    refine j_ 57 ?_ ?_ <;> intro qiv
    rotate_left 1
    · have hn : ¬ sameP z hs hu z' hs' hu' := fun h => qiv (h.2.2.2.2.1)
      refine w_ ?_
      refine k_ ?_
      rw [decide_eq_false hn]; rfl
    refine w_ ?_
    refine j_ 64 ?_ ?_ <;> intro qwk
    rotate_left 1
    · have hn : ¬ sameP z hs hu z' hs' hu' := fun h => qwk (h.2.2.2.2.2.1)
      refine w_ ?_
      refine k_ ?_
      rw [decide_eq_false hn]; rfl
    refine w_ ?_
    refine j_ 71 ?_ ?_ <;> intro qct
    rotate_left 1
    · have hn : ¬ sameP z hs hu z' hs' hu' := fun h => qct (h.2.2.2.2.2.2.1)
      refine w_ ?_
      refine k_ ?_
      rw [decide_eq_false hn]; rfl
    refine w_ ?_
    refine j_ 78 ?_ ?_ <;> intro qhu
    rotate_left 1
    · have hn : ¬ sameP z hs hu z' hs' hu' := fun h => by rw [h.2.2.2.2.2.2.2.1] at qhu; simp at qhu
      refine w_ ?_
      refine k_ ?_
      rw [decide_eq_false hn]; rfl
    have qhu : hu = hu' := by simpa using qhu
    refine w_ ?_
    refine j_ 85 ?_ ?_ <;> intro qun
    rotate_left 1
    · have hn : ¬ sameP z hs hu z' hs' hu' := fun h => qun (h.2.2.2.2.2.2.2.2.1)
      refine w_ ?_
      refine k_ ?_
      rw [decide_eq_false hn]; rfl
    refine w_ ?_
    refine WL_callR [0, 10] (same80g y.y0.1 y'.y0.1 none none z.l0 z'.l0 y.y0.2 y'.y0.2 ⟨OO0, by omega⟩ ⟨PP0, by omega⟩) rfl rfl rfl t_ t_ rfl rfl rfl rfl ?_; rintro _ rfl
    refine w_ ?_
    refine j_ 93 ?_ ?_ <;> intro ql0
    rotate_left 1
    · have hn : ¬ sameP z hs hu z' hs' hu' := fun h => ql0 (h.2.2.2.2.2.2.2.2.2.1)
      refine w_ ?_
      refine k_ ?_
      rw [decide_eq_false hn]; rfl
    refine w_ ?_
    refine WL_callR [1, 11] (same80g y.y1.1 y'.y1.1 none none z.l1 z'.l1 y.y1.2 y'.y1.2 ⟨OO1, by omega⟩ ⟨PP1, by omega⟩) rfl rfl rfl t_ t_ rfl rfl rfl rfl ?_; rintro _ rfl
    refine w_ ?_
    refine j_ 101 ?_ ?_ <;> intro ql1
    rotate_left 1
    · have hn : ¬ sameP z hs hu z' hs' hu' := fun h => ql1 (h.2.2.2.2.2.2.2.2.2.2.1)
      refine w_ ?_
      refine k_ ?_
      rw [decide_eq_false hn]; rfl
    refine w_ ?_
    refine WL_callR [2, 12] (same80g y.y2.1 y'.y2.1 none none z.l2 z'.l2 y.y2.2 y'.y2.2 ⟨OO2, by omega⟩ ⟨PP2, by omega⟩) rfl rfl rfl t_ t_ rfl rfl rfl rfl ?_; rintro _ rfl
    refine w_ ?_
    refine j_ 109 ?_ ?_ <;> intro ql2
    rotate_left 1
    · have hn : ¬ sameP z hs hu z' hs' hu' := fun h => ql2 (h.2.2.2.2.2.2.2.2.2.2.2.1)
      refine w_ ?_
      refine k_ ?_
      rw [decide_eq_false hn]; rfl
    refine w_ ?_
    refine WL_callR [3, 13] (same80g y.y3.1 y'.y3.1 none none z.l3 z'.l3 y.y3.2 y'.y3.2 ⟨OO3, by omega⟩ ⟨PP3, by omega⟩) rfl rfl rfl t_ t_ rfl rfl rfl rfl ?_; rintro _ rfl
    refine w_ ?_
    refine j_ 117 ?_ ?_ <;> intro ql3
    rotate_left 1
    · have hn : ¬ sameP z hs hu z' hs' hu' := fun h => ql3 (h.2.2.2.2.2.2.2.2.2.2.2.2.1)
      refine w_ ?_
      refine k_ ?_
      rw [decide_eq_false hn]; rfl
    refine w_ ?_
    refine WL_callR [4, 14] (same80g y.y4.1 y'.y4.1 none none z.l4 z'.l4 y.y4.2 y'.y4.2 ⟨OO4, by omega⟩ ⟨PP4, by omega⟩) rfl rfl rfl t_ t_ rfl rfl rfl rfl ?_; rintro _ rfl
    refine w_ ?_
    refine j_ 125 ?_ ?_ <;> intro ql4
    rotate_left 1
    · have hn : ¬ sameP z hs hu z' hs' hu' := fun h => ql4 (h.2.2.2.2.2.2.2.2.2.2.2.2.2.1)
      refine w_ ?_
      refine k_ ?_
      rw [decide_eq_false hn]; rfl
    refine w_ ?_
    refine WL_callR [5, 15] (same80g y.y5.1 y'.y5.1 none none z.l5 z'.l5 y.y5.2 y'.y5.2 ⟨OO5, by omega⟩ ⟨PP5, by omega⟩) rfl rfl rfl t_ t_ rfl rfl rfl rfl ?_; rintro _ rfl
    refine w_ ?_
    refine j_ 133 ?_ ?_ <;> intro ql5
    rotate_left 1
    · have hn : ¬ sameP z hs hu z' hs' hu' := fun h => ql5 (h.2.2.2.2.2.2.2.2.2.2.2.2.2.2.1)
      refine w_ ?_
      refine k_ ?_
      rw [decide_eq_false hn]; rfl
    refine w_ ?_
    refine WL_callR [6, 16] (same80g y.y6.1 y'.y6.1 none none z.l6 z'.l6 y.y6.2 y'.y6.2 ⟨OO6, by omega⟩ ⟨PP6, by omega⟩) rfl rfl rfl t_ t_ rfl rfl rfl rfl ?_; rintro _ rfl
    refine w_ ?_
    refine j_ 141 ?_ ?_ <;> intro ql6
    rotate_left 1
    · have hn : ¬ sameP z hs hu z' hs' hu' := fun h => ql6 (h.2.2.2.2.2.2.2.2.2.2.2.2.2.2.2.1)
      refine w_ ?_
      refine k_ ?_
      rw [decide_eq_false hn]; rfl
    refine w_ ?_
    refine WL_callR [7, 17] (same80g y.y7.1 y'.y7.1 none none z.l7 z'.l7 y.y7.2 y'.y7.2 ⟨OO7, by omega⟩ ⟨PP7, by omega⟩) rfl rfl rfl t_ t_ rfl rfl rfl rfl ?_; rintro _ rfl
    refine w_ ?_
    refine j_ 149 ?_ ?_ <;> intro ql7
    rotate_left 1
    · have hn : ¬ sameP z hs hu z' hs' hu' := fun h => ql7 (h.2.2.2.2.2.2.2.2.2.2.2.2.2.2.2.2.1)
      refine w_ ?_
      refine k_ ?_
      rw [decide_eq_false hn]; rfl
    refine w_ ?_
    refine WL_callR [8, 18] (same80g y.y8.1 y'.y8.1 none none z.l8 z'.l8 y.y8.2 y'.y8.2 ⟨OO8, by omega⟩ ⟨PP8, by omega⟩) rfl rfl rfl t_ t_ rfl rfl rfl rfl ?_; rintro _ rfl
    refine w_ ?_
    refine k_ ?_
    have hd : decide (z.l8 = z'.l8) = decide (sameP z hs hu z' hs' hu') := by
      by_cases h8 : z.l8 = z'.l8
      · rw [decide_eq_true h8, decide_eq_true (show sameP z hs hu z' hs' hu' from ⟨qdd, qfr, qhs, qst, qiv, qwk, qct, qhu, qun, ql0, ql1, ql2, ql3, ql4, ql5, ql6, ql7, h8⟩)]
      · rw [decide_eq_false h8, decide_eq_false (fun h => h8 (h.2.2.2.2.2.2.2.2.2.2.2.2.2.2.2.2.2))]
    rw [← hd]; rfl
  have h : i < z.dd.length := by omega
  have h' : i < z'.dd.length := by omega
  rw [drop_getP h, drop_getP h', List.cons.injEq] at g2
  refine w_ ?_
  rw [show 0 + (i : Int).toNat = i by omega]
  refine w_ ?_
  rw [prs2_get h]
  refine w_ ?_
  refine W_draw [19, 21, 22] [] 7 mo0 (by kernel_rfl) (by kernel_rfl) (fun ρ1 hkl => ?_); refine d_ ?_
  rw [show 0 + (i : Int).toNat = i by omega, prs2_get h']
  refine d_ ?_
  refine i_ ?_ ?_ <;> intro hb
  · have hn : ¬ sameP z hs hu z' hs' hu' := fun h9 => by
      have e := (g2.1 h9.1).1
      rw [e] at hb
      simp at hb
    refine w_ ?_
    refine k_ ?_
    rw [decide_eq_false hn]; rfl
  have e : z.dd.getD i (0, 0) = z'.dd.getD i (0, 0) := by
    simp at hb
    exact Prod.ext hb.1 hb.2
  refine w_ ?_
  exact LP_renG [0, 1, 2, 3, 4, 5, 6, 7, 8, 9, 10, 11, 12, 13, 14, 15, 16, 17, 18, 19, 20, 21] (ih (i + 1) ⟨by omega, by rw [g2]; exact and_iff_right e⟩ (by omega)) s_ s_ rfl rfl rfl
def cellsH (s : SZ) (hs hu : Bool) (y : SY) (b : Nat) : List AV := .int .i64 s.start :: .bool s.has :: (cellsG s.z hs hu y.y b ++ [slI y.yr (b + 10) 1 s.rd.length, slI y.ye (b + 11) 1 s.ex.length])
def sameS (s : SZ) (hu : Bool) (s' : SZ) (hu' : Bool) : Prop := s.start = s'.start ∧ s.has = s'.has ∧ sameP { s.z with st := 0 } false hu { s'.z with st := 0 } false hu' ∧ s.rd = s'.rd ∧ s.ex = s'.ex
instance (s : SZ) (hu : Bool) (s' : SZ) (hu' : Bool) : Decidable (sameS s hu s' hu') := by unfold sameS; infer_instance
abbrev twoSet (s s' : SZ) : Hp := setHp 95 s 0 ++ setHp 95 s' 12
set_option maxRecDepth 8192 in
set_option maxHeartbeats 4000000 in
theorem sameSet_tri (s : SZ) (hs hu : Bool) (y : SY) (s' : SZ) (hs' hu' : Bool) (y' : SY) (hy : SOK s y) (hz : ZOK s) (hy' : SOK s' y') (hz' : ZOK s') :
    Tri C0 18 24 (twoSet s s') [.agg (cellsH s hs hu y 0), .agg (cellsH s' hs' hu' y' 12)] (fun k hp r => k = 24 ∧ hp = twoSet s s' ∧ r = .bool (decide (sameS s hu s' hu'))) := by
  obtain ⟨g1, g2, g3⟩ := hy
  obtain ⟨k1, k2, k3⟩ := hy'
  have hr := hz.rd
  have hx := hz.ex
  have hr' := hz'.rd
  have hx' := hz'.ex
  refine Tri.keep (Tri.mk 49 [.tmp 4] Tryz.func18 rfl rfl rfl rfl cf18 ?_) t_ (fun r h => q_); intro w0 S T ρ0
  refine w_ ?_
  refine j_ 19 ?_ ?_ <;> intro qst
  rotate_left 1
  · have hn : ¬ sameS s hu s' hu' := fun h => qst h.1
    refine w_ ?_
    refine k_ ?_
    rw [decide_eq_false hn]; rfl
  refine w_ ?_
  refine j_ 26 ?_ ?_ <;> intro qhas
  rotate_left 1
  · have hn : ¬ sameS s hu s' hu' := fun h => by rw [h.2.1] at qhas; simp at qhas
    refine w_ ?_
    refine k_ ?_
    rw [decide_eq_false hn]; rfl
  have qhas : s.has = s'.has := by simpa using qhas
  refine w_ ?_
  refine WL_callR [0, 1, 2, 3, 4, 5, 6, 7, 8, 9, 12, 13, 14, 15, 16, 17, 18, 19, 20, 21] (sameRule_tri { s.z with st := 0 } false hu y.y { s'.z with st := 0 } false hu' y'.y g1 hz.len k1 hz'.len) rfl rfl rfl t_ t_ rfl rfl rfl rfl ?_; rintro _ rfl
  refine w_ ?_
  refine j_ 33 ?_ ?_ <;> intro qr
  rotate_left 1
  · have hn : ¬ sameS s hu s' hu' := fun h => qr h.2.2.1
    refine w_ ?_
    refine k_ ?_
    rw [decide_eq_false hn]; rfl
  refine w_ ?_
  refine WL_callR [10, 22] (same46g y.yr.1 y'.yr.1 none none s.rd s'.rd y.yr.2 y'.yr.2 ⟨g2, by omega⟩ ⟨k2, by omega⟩) rfl rfl rfl t_ t_ rfl rfl rfl rfl ?_; rintro _ rfl
  refine w_ ?_
  refine j_ 41 ?_ ?_ <;> intro qrd
  rotate_left 1
  · have hn : ¬ sameS s hu s' hu' := fun h => qrd h.2.2.2.1
    refine w_ ?_
    refine k_ ?_
    rw [decide_eq_false hn]; rfl
  refine w_ ?_
  refine WL_callR [11, 23] (same46g y.ye.1 y'.ye.1 none none s.ex s'.ex y.ye.2 y'.ye.2 ⟨g3, by omega⟩ ⟨k3, by omega⟩) rfl rfl rfl t_ t_ rfl rfl rfl rfl ?_; rintro _ rfl
  refine w_ ?_
  refine k_ ?_
  have hd : decide (s.ex = s'.ex) = decide (sameS s hu s' hu') := by
    by_cases h8 : s.ex = s'.ex
    · rw [decide_eq_true h8, decide_eq_true (show sameS s hu s' hu' from ⟨qst, qhas, qr, qrd, h8⟩)]
    · rw [decide_eq_false h8, decide_eq_false (fun h => h8 h.2.2.2.2)]
  rw [← hd]; rfl
end Go.Eng
namespace Go.Eng
open Go.Proofs
inductive BT (α : Type) where
  | nil
  | node (k : Nat) (v : α) (l r : BT α)
noncomputable def BT.get {α : Type} (t : BT α) : Nat → Option α :=
  BT.rec (motive := fun _ => Nat → Option α) (fun _ => none) (fun k v _ _ gl gr i => bif Nat.beq i k then some v else bif Nat.blt i k then gl i else gr i) t
def BT.All {α : Type} (p : Nat → α → Prop) : BT α → Prop
  | .nil => True
  | .node k v l r => p k v ∧ l.All p ∧ r.All p
theorem BT.get_all {α : Type} {p : Nat → α → Prop} : ∀ {t : BT α}, t.All p → ∀ {i s}, t.get i = some s → p i s
  | .nil, _, _, _, h => by cases h
  | .node k v l r, ha, i, s, h => by
    replace h : (bif Nat.beq i k then some v else bif Nat.blt i k then l.get i else r.get i) = some s := h
    cases e : Nat.beq i k <;> rw [e] at h
    · cases e2 : Nat.blt i k <;> rw [e2] at h
      · exact BT.get_all ha.2.2 h
      · exact BT.get_all ha.2.1 h
    · cases h; have := Nat.eq_of_beq_eq_true e; subst this; exact ha.1
def okB (fn : Func) : Bool := match fn.body with | some c => okC c | none => true
structure FOK (P : Program) (f : FuncId) (fu : Func) : Prop where
  fn : P.funcs[f]? = some fu
  enter : ∀ args w, (callFunc f args).run P w = .ok (.enter f args) w
  ok : okB fu = true
theorem fok11 : FOK Tryz.prog 11 Tryz.f11 := ⟨Tryz.func11, fun _ _ => by kernel_rfl, by kernel_rfl⟩
theorem fok13 : FOK Tryz.prog 13 Tryz.f13 := ⟨Tryz.func13, fun _ _ => by kernel_rfl, by kernel_rfl⟩
theorem fok22 : FOK Tryz.prog 22 Tryz.f22 := ⟨Tryz.func22, fun _ _ => by kernel_rfl, by kernel_rfl⟩
theorem fok23 : FOK Tryz.prog 23 Tryz.f23 := ⟨Tryz.func23, fun _ _ => by kernel_rfl, by kernel_rfl⟩
theorem fok28 : FOK Tryz.prog 28 Tryz.f28 := ⟨Tryz.func28, fun _ _ => by kernel_rfl, by kernel_rfl⟩
theorem fok40 : FOK Tryz.prog 40 Tryz.f40 := ⟨Tryz.func40, fun _ _ => by kernel_rfl, by kernel_rfl⟩
theorem fok50 : FOK Tryz.prog 50 Tryz.f50 := ⟨Tryz.func50, fun _ _ => by kernel_rfl, by kernel_rfl⟩
theorem fok51 : FOK Tryz.prog 51 Tryz.f51 := ⟨Tryz.func51, fun _ _ => by kernel_rfl, by kernel_rfl⟩
theorem fok71 : FOK Tryz.prog 71 Tryz.f71 := ⟨Tryz.func71, fun _ _ => by kernel_rfl, by kernel_rfl⟩
theorem fok87 : FOK Tryz.prog 87 Tryz.f87 := ⟨Tryz.func87, fun _ _ => by kernel_rfl, by kernel_rfl⟩
theorem fok88 : FOK Tryz.prog 88 Tryz.f88 := ⟨Tryz.func88, fun _ _ => by kernel_rfl, by kernel_rfl⟩
theorem fok89 : FOK Tryz.prog 89 Tryz.f89 := ⟨Tryz.func89, fun _ _ => by kernel_rfl, by kernel_rfl⟩
theorem fok90 : FOK Tryz.prog 90 Tryz.f90 := ⟨Tryz.func90, fun _ _ => by kernel_rfl, by kernel_rfl⟩
theorem fok91 : FOK Tryz.prog 91 Tryz.f91 := ⟨Tryz.func91, fun _ _ => by kernel_rfl, by kernel_rfl⟩
theorem fok92 : FOK Tryz.prog 92 Tryz.f92 := ⟨Tryz.func92, fun _ _ => by kernel_rfl, by kernel_rfl⟩
theorem fok93 : FOK Tryz.prog 93 Tryz.f93 := ⟨Tryz.func93, fun _ _ => by kernel_rfl, by kernel_rfl⟩
theorem fok94 : FOK Tryz.prog 94 Tryz.f94 := ⟨Tryz.func94, fun _ _ => by kernel_rfl, by kernel_rfl⟩
theorem fok95 : FOK Tryz.prog 95 Tryz.f95 := ⟨Tryz.func95, fun _ _ => by kernel_rfl, by kernel_rfl⟩
theorem fok100 : FOK Tryz.prog 100 Tryz.f100 := ⟨Tryz.func100, fun _ _ => by kernel_rfl, by kernel_rfl⟩
theorem fok108 : FOK Tryz.prog 108 Tryz.f108 := ⟨Tryz.func108, fun _ _ => by kernel_rfl, by kernel_rfl⟩
theorem fok112 : FOK Tryz.prog 112 Tryz.f112 := ⟨Tryz.func112, fun _ _ => by kernel_rfl, by kernel_rfl⟩
theorem fok113 : FOK Tryz.prog 113 Tryz.f113 := ⟨Tryz.func113, fun _ _ => by kernel_rfl, by kernel_rfl⟩
theorem fok114 : FOK Tryz.prog 114 Tryz.f114 := ⟨Tryz.func114, fun _ _ => by kernel_rfl, by kernel_rfl⟩
theorem fok115 : FOK Tryz.prog 115 Tryz.f115 := ⟨Tryz.func115, fun _ _ => by kernel_rfl, by kernel_rfl⟩
theorem fok116 : FOK Tryz.prog 116 Tryz.f116 := ⟨Tryz.func116, fun _ _ => by kernel_rfl, by kernel_rfl⟩
theorem fok117 : FOK Tryz.prog 117 Tryz.f117 := ⟨Tryz.func117, fun _ _ => by kernel_rfl, by kernel_rfl⟩
theorem fok118 : FOK Tryz.prog 118 Tryz.f118 := ⟨Tryz.func118, fun _ _ => by kernel_rfl, by kernel_rfl⟩
theorem fok137 : FOK Tryz.prog 137 Tryz.f137 := ⟨Tryz.func137, fun _ _ => by kernel_rfl, by kernel_rfl⟩
theorem fok138 : FOK Tryz.prog 138 Tryz.f138 := ⟨Tryz.func138, fun _ _ => by kernel_rfl, by kernel_rfl⟩
theorem fok152 : FOK Tryz.prog 152 Tryz.f152 := ⟨Tryz.func152, fun _ _ => by kernel_rfl, by kernel_rfl⟩
theorem fok153 : FOK Tryz.prog 153 Tryz.f153 := ⟨Tryz.func153, fun _ _ => by kernel_rfl, by kernel_rfl⟩
theorem fok154 : FOK Tryz.prog 154 Tryz.f154 := ⟨Tryz.func154, fun _ _ => by kernel_rfl, by kernel_rfl⟩
theorem fok155 : FOK Tryz.prog 155 Tryz.f155 := ⟨Tryz.func155, fun _ _ => by kernel_rfl, by kernel_rfl⟩
theorem fok156 : FOK Tryz.prog 156 Tryz.f156 := ⟨Tryz.func156, fun _ _ => by kernel_rfl, by kernel_rfl⟩
theorem fok157 : FOK Tryz.prog 157 Tryz.f157 := ⟨Tryz.func157, fun _ _ => by kernel_rfl, by kernel_rfl⟩
theorem fok180 : FOK Tryz.prog 180 Tryz.f180 := ⟨Tryz.func180, fun _ _ => by kernel_rfl, by kernel_rfl⟩
theorem fok181 : FOK Tryz.prog 181 Tryz.f181 := ⟨Tryz.func181, fun _ _ => by kernel_rfl, by kernel_rfl⟩
theorem fok182 : FOK Tryz.prog 182 Tryz.f182 := ⟨Tryz.func182, fun _ _ => by kernel_rfl, by kernel_rfl⟩
theorem fok183 : FOK Tryz.prog 183 Tryz.f183 := ⟨Tryz.func183, fun _ _ => by kernel_rfl, by kernel_rfl⟩
theorem fok184 : FOK Tryz.prog 184 Tryz.f184 := ⟨Tryz.func184, fun _ _ => by kernel_rfl, by kernel_rfl⟩
theorem fok185 : FOK Tryz.prog 185 Tryz.f185 := ⟨Tryz.func185, fun _ _ => by kernel_rfl, by kernel_rfl⟩
theorem fok186 : FOK Tryz.prog 186 Tryz.f186 := ⟨Tryz.func186, fun _ _ => by kernel_rfl, by kernel_rfl⟩
theorem fok187 : FOK Tryz.prog 187 Tryz.f187 := ⟨Tryz.func187, fun _ _ => by kernel_rfl, by kernel_rfl⟩
theorem fok188 : FOK Tryz.prog 188 Tryz.f188 := ⟨Tryz.func188, fun _ _ => by kernel_rfl, by kernel_rfl⟩
theorem fok189 : FOK Tryz.prog 189 Tryz.f189 := ⟨Tryz.func189, fun _ _ => by kernel_rfl, by kernel_rfl⟩
theorem fok199 : FOK Tryz.prog 199 Tryz.f199 := ⟨Tryz.func199, fun _ _ => by kernel_rfl, by kernel_rfl⟩
theorem fok200 : FOK Tryz.prog 200 Tryz.f200 := ⟨Tryz.func200, fun _ _ => by kernel_rfl, by kernel_rfl⟩
theorem fok201 : FOK Tryz.prog 201 Tryz.f201 := ⟨Tryz.func201, fun _ _ => by kernel_rfl, by kernel_rfl⟩
theorem fok202 : FOK Tryz.prog 202 Tryz.f202 := ⟨Tryz.func202, fun _ _ => by kernel_rfl, by kernel_rfl⟩
theorem fok203 : FOK Tryz.prog 203 Tryz.f203 := ⟨Tryz.func203, fun _ _ => by kernel_rfl, by kernel_rfl⟩
theorem fok204 : FOK Tryz.prog 204 Tryz.f204 := ⟨Tryz.func204, fun _ _ => by kernel_rfl, by kernel_rfl⟩
theorem fok205 : FOK Tryz.prog 205 Tryz.f205 := ⟨Tryz.func205, fun _ _ => by kernel_rfl, by kernel_rfl⟩
theorem fok206 : FOK Tryz.prog 206 Tryz.f206 := ⟨Tryz.func206, fun _ _ => by kernel_rfl, by kernel_rfl⟩
theorem fok207 : FOK Tryz.prog 207 Tryz.f207 := ⟨Tryz.func207, fun _ _ => by kernel_rfl, by kernel_rfl⟩
theorem fok229 : FOK Tryz.prog 229 Tryz.f229 := ⟨Tryz.func229, fun _ _ => by kernel_rfl, by kernel_rfl⟩
theorem fok230 : FOK Tryz.prog 230 Tryz.f230 := ⟨Tryz.func230, fun _ _ => by kernel_rfl, by kernel_rfl⟩
theorem fok231 : FOK Tryz.prog 231 Tryz.f231 := ⟨Tryz.func231, fun _ _ => by kernel_rfl, by kernel_rfl⟩
theorem fok232 : FOK Tryz.prog 232 Tryz.f232 := ⟨Tryz.func232, fun _ _ => by kernel_rfl, by kernel_rfl⟩
theorem fok233 : FOK Tryz.prog 233 Tryz.f233 := ⟨Tryz.func233, fun _ _ => by kernel_rfl, by kernel_rfl⟩
theorem fok234 : FOK Tryz.prog 234 Tryz.f234 := ⟨Tryz.func234, fun _ _ => by kernel_rfl, by kernel_rfl⟩
theorem fok235 : FOK Tryz.prog 235 Tryz.f235 := ⟨Tryz.func235, fun _ _ => by kernel_rfl, by kernel_rfl⟩
theorem fok236 : FOK Tryz.prog 236 Tryz.f236 := ⟨Tryz.func236, fun _ _ => by kernel_rfl, by kernel_rfl⟩
theorem fok237 : FOK Tryz.prog 237 Tryz.f237 := ⟨Tryz.func237, fun _ _ => by kernel_rfl, by kernel_rfl⟩
theorem fok238 : FOK Tryz.prog 238 Tryz.f238 := ⟨Tryz.func238, fun _ _ => by kernel_rfl, by kernel_rfl⟩
theorem fok239 : FOK Tryz.prog 239 Tryz.f239 := ⟨Tryz.func239, fun _ _ => by kernel_rfl, by kernel_rfl⟩
theorem fok240 : FOK Tryz.prog 240 Tryz.f240 := ⟨Tryz.func240, fun _ _ => by kernel_rfl, by kernel_rfl⟩
theorem fok241 : FOK Tryz.prog 241 Tryz.f241 := ⟨Tryz.func241, fun _ _ => by kernel_rfl, by kernel_rfl⟩
theorem fok242 : FOK Tryz.prog 242 Tryz.f242 := ⟨Tryz.func242, fun _ _ => by kernel_rfl, by kernel_rfl⟩
theorem fok243 : FOK Tryz.prog 243 Tryz.f243 := ⟨Tryz.func243, fun _ _ => by kernel_rfl, by kernel_rfl⟩
theorem fok244 : FOK Tryz.prog 244 Tryz.f244 := ⟨Tryz.func244, fun _ _ => by kernel_rfl, by kernel_rfl⟩
theorem fok245 : FOK Tryz.prog 245 Tryz.f245 := ⟨Tryz.func245, fun _ _ => by kernel_rfl, by kernel_rfl⟩
theorem fok246 : FOK Tryz.prog 246 Tryz.f246 := ⟨Tryz.func246, fun _ _ => by kernel_rfl, by kernel_rfl⟩
theorem fok247 : FOK Tryz.prog 247 Tryz.f247 := ⟨Tryz.func247, fun _ _ => by kernel_rfl, by kernel_rfl⟩
theorem fok248 : FOK Tryz.prog 248 Tryz.f248 := ⟨Tryz.func248, fun _ _ => by kernel_rfl, by kernel_rfl⟩
theorem fok249 : FOK Tryz.prog 249 Tryz.f249 := ⟨Tryz.func249, fun _ _ => by kernel_rfl, by kernel_rfl⟩
theorem fok250 : FOK Tryz.prog 250 Tryz.f250 := ⟨Tryz.func250, fun _ _ => by kernel_rfl, by kernel_rfl⟩
theorem fok251 : FOK Tryz.prog 251 Tryz.f251 := ⟨Tryz.func251, fun _ _ => by kernel_rfl, by kernel_rfl⟩
theorem fok252 : FOK Tryz.prog 252 Tryz.f252 := ⟨Tryz.func252, fun _ _ => by kernel_rfl, by kernel_rfl⟩
theorem fok253 : FOK Tryz.prog 253 Tryz.f253 := ⟨Tryz.func253, fun _ _ => by kernel_rfl, by kernel_rfl⟩
theorem fok254 : FOK Tryz.prog 254 Tryz.f254 := ⟨Tryz.func254, fun _ _ => by kernel_rfl, by kernel_rfl⟩
theorem fok255 : FOK Tryz.prog 255 Tryz.f255 := ⟨Tryz.func255, fun _ _ => by kernel_rfl, by kernel_rfl⟩
theorem fok256 : FOK Tryz.prog 256 Tryz.f256 := ⟨Tryz.func256, fun _ _ => by kernel_rfl, by kernel_rfl⟩
theorem fok258 : FOK Tryz.prog 258 Tryz.f258 := ⟨Tryz.func258, fun _ _ => by kernel_rfl, by kernel_rfl⟩
theorem fok277 : FOK Tryz.prog 277 Tryz.f277 := ⟨Tryz.func277, fun _ _ => by kernel_rfl, by kernel_rfl⟩
theorem fok278 : FOK Tryz.prog 278 Tryz.f278 := ⟨Tryz.func278, fun _ _ => by kernel_rfl, by kernel_rfl⟩
theorem fok279 : FOK Tryz.prog 279 Tryz.f279 := ⟨Tryz.func279, fun _ _ => by kernel_rfl, by kernel_rfl⟩
theorem fok280 : FOK Tryz.prog 280 Tryz.f280 := ⟨Tryz.func280, fun _ _ => by kernel_rfl, by kernel_rfl⟩
theorem fok281 : FOK Tryz.prog 281 Tryz.f281 := ⟨Tryz.func281, fun _ _ => by kernel_rfl, by kernel_rfl⟩
theorem fok282 : FOK Tryz.prog 282 Tryz.f282 := ⟨Tryz.func282, fun _ _ => by kernel_rfl, by kernel_rfl⟩
theorem fok283 : FOK Tryz.prog 283 Tryz.f283 := ⟨Tryz.func283, fun _ _ => by kernel_rfl, by kernel_rfl⟩
theorem fok284 : FOK Tryz.prog 284 Tryz.f284 := ⟨Tryz.func284, fun _ _ => by kernel_rfl, by kernel_rfl⟩
theorem fok285 : FOK Tryz.prog 285 Tryz.f285 := ⟨Tryz.func285, fun _ _ => by kernel_rfl, by kernel_rfl⟩
theorem fok286 : FOK Tryz.prog 286 Tryz.f286 := ⟨Tryz.func286, fun _ _ => by kernel_rfl, by kernel_rfl⟩
theorem fok287 : FOK Tryz.prog 287 Tryz.f287 := ⟨Tryz.func287, fun _ _ => by kernel_rfl, by kernel_rfl⟩
theorem fok288 : FOK Tryz.prog 288 Tryz.f288 := ⟨Tryz.func288, fun _ _ => by kernel_rfl, by kernel_rfl⟩
theorem fok289 : FOK Tryz.prog 289 Tryz.f289 := ⟨Tryz.func289, fun _ _ => by kernel_rfl, by kernel_rfl⟩
theorem fok290 : FOK Tryz.prog 290 Tryz.f290 := ⟨Tryz.func290, fun _ _ => by kernel_rfl, by kernel_rfl⟩
theorem fok291 : FOK Tryz.prog 291 Tryz.f291 := ⟨Tryz.func291, fun _ _ => by kernel_rfl, by kernel_rfl⟩
theorem fok292 : FOK Tryz.prog 292 Tryz.f292 := ⟨Tryz.func292, fun _ _ => by kernel_rfl, by kernel_rfl⟩
theorem fok293 : FOK Tryz.prog 293 Tryz.f293 := ⟨Tryz.func293, fun _ _ => by kernel_rfl, by kernel_rfl⟩
theorem fok294 : FOK Tryz.prog 294 Tryz.f294 := ⟨Tryz.func294, fun _ _ => by kernel_rfl, by kernel_rfl⟩
theorem fok295 : FOK Tryz.prog 295 Tryz.f295 := ⟨Tryz.func295, fun _ _ => by kernel_rfl, by kernel_rfl⟩
theorem fok296 : FOK Tryz.prog 296 Tryz.f296 := ⟨Tryz.func296, fun _ _ => by kernel_rfl, by kernel_rfl⟩
theorem fok312 : FOK Tryz.prog 312 Tryz.f312 := ⟨Tryz.func312, fun _ _ => by kernel_rfl, by kernel_rfl⟩
theorem fok314 : FOK Tryz.prog 314 Tryz.f314 := ⟨Tryz.func314, fun _ _ => by kernel_rfl, by kernel_rfl⟩
theorem fok323 : FOK Tryz.prog 323 Tryz.f323 := ⟨Tryz.func323, fun _ _ => by kernel_rfl, by kernel_rfl⟩
theorem fok324 : FOK Tryz.prog 324 Tryz.f324 := ⟨Tryz.func324, fun _ _ => by kernel_rfl, by kernel_rfl⟩
theorem fok325 : FOK Tryz.prog 325 Tryz.f325 := ⟨Tryz.func325, fun _ _ => by kernel_rfl, by kernel_rfl⟩
theorem fok333 : FOK Tryz.prog 333 Tryz.f333 := ⟨Tryz.func333, fun _ _ => by kernel_rfl, by kernel_rfl⟩
theorem fok334 : FOK Tryz.prog 334 Tryz.f334 := ⟨Tryz.func334, fun _ _ => by kernel_rfl, by kernel_rfl⟩
theorem fok335 : FOK Tryz.prog 335 Tryz.f335 := ⟨Tryz.func335, fun _ _ => by kernel_rfl, by kernel_rfl⟩
theorem fok339 : FOK Tryz.prog 339 Tryz.f339 := ⟨Tryz.func339, fun _ _ => by kernel_rfl, by kernel_rfl⟩
theorem fok358 : FOK Tryz.prog 358 Tryz.f358 := ⟨Tryz.func358, fun _ _ => by kernel_rfl, by kernel_rfl⟩
theorem fok359 : FOK Tryz.prog 359 Tryz.f359 := ⟨Tryz.func359, fun _ _ => by kernel_rfl, by kernel_rfl⟩
theorem fok360 : FOK Tryz.prog 360 Tryz.f360 := ⟨Tryz.func360, fun _ _ => by kernel_rfl, by kernel_rfl⟩
theorem fok361 : FOK Tryz.prog 361 Tryz.f361 := ⟨Tryz.func361, fun _ _ => by kernel_rfl, by kernel_rfl⟩
theorem fok362 : FOK Tryz.prog 362 Tryz.f362 := ⟨Tryz.func362, fun _ _ => by kernel_rfl, by kernel_rfl⟩
theorem fok363 : FOK Tryz.prog 363 Tryz.f363 := ⟨Tryz.func363, fun _ _ => by kernel_rfl, by kernel_rfl⟩
noncomputable def fnTree : BT Func := (.node 234 Tryz.f234 (.node 152 Tryz.f152 (.node 92 Tryz.f92 (.node 51 Tryz.f51 (.node 23 Tryz.f23 (.node 13 Tryz.f13 (.node 11 Tryz.f11 .nil .nil) (.node 22 Tryz.f22 .nil .nil)) (.node 40 Tryz.f40 (.node 28 Tryz.f28 .nil .nil) (.node 50 Tryz.f50 .nil .nil))) (.node 89 Tryz.f89 (.node 87 Tryz.f87 (.node 71 Tryz.f71 .nil .nil) (.node 88 Tryz.f88 .nil .nil)) (.node 91 Tryz.f91 (.node 90 Tryz.f90 .nil .nil) .nil))) (.node 114 Tryz.f114 (.node 100 Tryz.f100 (.node 94 Tryz.f94 (.node 93 Tryz.f93 .nil .nil) (.node 95 Tryz.f95 .nil .nil)) (.node 112 Tryz.f112 (.node 108 Tryz.f108 .nil .nil) (.node 113 Tryz.f113 .nil .nil))) (.node 118 Tryz.f118 (.node 116 Tryz.f116 (.node 115 Tryz.f115 .nil .nil) (.node 117 Tryz.f117 .nil .nil)) (.node 138 Tryz.f138 (.node 137 Tryz.f137 .nil .nil) .nil)))) (.node 189 Tryz.f189 (.node 182 Tryz.f182 (.node 156 Tryz.f156 (.node 154 Tryz.f154 (.node 153 Tryz.f153 .nil .nil) (.node 155 Tryz.f155 .nil .nil)) (.node 180 Tryz.f180 (.node 157 Tryz.f157 .nil .nil) (.node 181 Tryz.f181 .nil .nil))) (.node 186 Tryz.f186 (.node 184 Tryz.f184 (.node 183 Tryz.f183 .nil .nil) (.node 185 Tryz.f185 .nil .nil)) (.node 188 Tryz.f188 (.node 187 Tryz.f187 .nil .nil) .nil))) (.node 206 Tryz.f206 (.node 202 Tryz.f202 (.node 200 Tryz.f200 (.node 199 Tryz.f199 .nil .nil) (.node 201 Tryz.f201 .nil .nil)) (.node 204 Tryz.f204 (.node 203 Tryz.f203 .nil .nil) (.node 205 Tryz.f205 .nil .nil))) (.node 231 Tryz.f231 (.node 229 Tryz.f229 (.node 207 Tryz.f207 .nil .nil) (.node 230 Tryz.f230 .nil .nil)) (.node 233 Tryz.f233 (.node 232 Tryz.f232 .nil .nil) .nil))))) (.node 283 Tryz.f283 (.node 249 Tryz.f249 (.node 242 Tryz.f242 (.node 238 Tryz.f238 (.node 236 Tryz.f236 (.node 235 Tryz.f235 .nil .nil) (.node 237 Tryz.f237 .nil .nil)) (.node 240 Tryz.f240 (.node 239 Tryz.f239 .nil .nil) (.node 241 Tryz.f241 .nil .nil))) (.node 246 Tryz.f246 (.node 244 Tryz.f244 (.node 243 Tryz.f243 .nil .nil) (.node 245 Tryz.f245 .nil .nil)) (.node 248 Tryz.f248 (.node 247 Tryz.f247 .nil .nil) .nil))) (.node 258 Tryz.f258 (.node 253 Tryz.f253 (.node 251 Tryz.f251 (.node 250 Tryz.f250 .nil .nil) (.node 252 Tryz.f252 .nil .nil)) (.node 255 Tryz.f255 (.node 254 Tryz.f254 .nil .nil) (.node 256 Tryz.f256 .nil .nil))) (.node 280 Tryz.f280 (.node 278 Tryz.f278 (.node 277 Tryz.f277 .nil .nil) (.node 279 Tryz.f279 .nil .nil)) (.node 282 Tryz.f282 (.node 281 Tryz.f281 .nil .nil) .nil)))) (.node 314 Tryz.f314 (.node 291 Tryz.f291 (.node 287 Tryz.f287 (.node 285 Tryz.f285 (.node 284 Tryz.f284 .nil .nil) (.node 286 Tryz.f286 .nil .nil)) (.node 289 Tryz.f289 (.node 288 Tryz.f288 .nil .nil) (.node 290 Tryz.f290 .nil .nil))) (.node 295 Tryz.f295 (.node 293 Tryz.f293 (.node 292 Tryz.f292 .nil .nil) (.node 294 Tryz.f294 .nil .nil)) (.node 312 Tryz.f312 (.node 296 Tryz.f296 .nil .nil) .nil))) (.node 339 Tryz.f339 (.node 333 Tryz.f333 (.node 324 Tryz.f324 (.node 323 Tryz.f323 .nil .nil) (.node 325 Tryz.f325 .nil .nil)) (.node 335 Tryz.f335 (.node 334 Tryz.f334 .nil .nil) .nil)) (.node 361 Tryz.f361 (.node 359 Tryz.f359 (.node 358 Tryz.f358 .nil .nil) (.node 360 Tryz.f360 .nil .nil)) (.node 363 Tryz.f363 (.node 362 Tryz.f362 .nil .nil) .nil))))))
theorem fnAll : fnTree.All (FOK Tryz.prog) := ⟨fok234, ⟨fok152, ⟨fok92, ⟨fok51, ⟨fok23, ⟨fok13, ⟨fok11, trivial, trivial⟩, ⟨fok22, trivial, trivial⟩⟩, ⟨fok40, ⟨fok28, trivial, trivial⟩, ⟨fok50, trivial, trivial⟩⟩⟩, ⟨fok89, ⟨fok87, ⟨fok71, trivial, trivial⟩, ⟨fok88, trivial, trivial⟩⟩, ⟨fok91, ⟨fok90, trivial, trivial⟩, trivial⟩⟩⟩, ⟨fok114, ⟨fok100, ⟨fok94, ⟨fok93, trivial, trivial⟩, ⟨fok95, trivial, trivial⟩⟩, ⟨fok112, ⟨fok108, trivial, trivial⟩, ⟨fok113, trivial, trivial⟩⟩⟩, ⟨fok118, ⟨fok116, ⟨fok115, trivial, trivial⟩, ⟨fok117, trivial, trivial⟩⟩, ⟨fok138, ⟨fok137, trivial, trivial⟩, trivial⟩⟩⟩⟩, ⟨fok189, ⟨fok182, ⟨fok156, ⟨fok154, ⟨fok153, trivial, trivial⟩, ⟨fok155, trivial, trivial⟩⟩, ⟨fok180, ⟨fok157, trivial, trivial⟩, ⟨fok181, trivial, trivial⟩⟩⟩, ⟨fok186, ⟨fok184, ⟨fok183, trivial, trivial⟩, ⟨fok185, trivial, trivial⟩⟩, ⟨fok188, ⟨fok187, trivial, trivial⟩, trivial⟩⟩⟩, ⟨fok206, ⟨fok202, ⟨fok200, ⟨fok199, trivial, trivial⟩, ⟨fok201, trivial, trivial⟩⟩, ⟨fok204, ⟨fok203, trivial, trivial⟩, ⟨fok205, trivial, trivial⟩⟩⟩, ⟨fok231, ⟨fok229, ⟨fok207, trivial, trivial⟩, ⟨fok230, trivial, trivial⟩⟩, ⟨fok233, ⟨fok232, trivial, trivial⟩, trivial⟩⟩⟩⟩⟩, ⟨fok283, ⟨fok249, ⟨fok242, ⟨fok238, ⟨fok236, ⟨fok235, trivial, trivial⟩, ⟨fok237, trivial, trivial⟩⟩, ⟨fok240, ⟨fok239, trivial, trivial⟩, ⟨fok241, trivial, trivial⟩⟩⟩, ⟨fok246, ⟨fok244, ⟨fok243, trivial, trivial⟩, ⟨fok245, trivial, trivial⟩⟩, ⟨fok248, ⟨fok247, trivial, trivial⟩, trivial⟩⟩⟩, ⟨fok258, ⟨fok253, ⟨fok251, ⟨fok250, trivial, trivial⟩, ⟨fok252, trivial, trivial⟩⟩, ⟨fok255, ⟨fok254, trivial, trivial⟩, ⟨fok256, trivial, trivial⟩⟩⟩, ⟨fok280, ⟨fok278, ⟨fok277, trivial, trivial⟩, ⟨fok279, trivial, trivial⟩⟩, ⟨fok282, ⟨fok281, trivial, trivial⟩, trivial⟩⟩⟩⟩, ⟨fok314, ⟨fok291, ⟨fok287, ⟨fok285, ⟨fok284, trivial, trivial⟩, ⟨fok286, trivial, trivial⟩⟩, ⟨fok289, ⟨fok288, trivial, trivial⟩, ⟨fok290, trivial, trivial⟩⟩⟩, ⟨fok295, ⟨fok293, ⟨fok292, trivial, trivial⟩, ⟨fok294, trivial, trivial⟩⟩, ⟨fok312, ⟨fok296, trivial, trivial⟩, trivial⟩⟩⟩, ⟨fok339, ⟨fok333, ⟨fok324, ⟨fok323, trivial, trivial⟩, ⟨fok325, trivial, trivial⟩⟩, ⟨fok335, ⟨fok334, trivial, trivial⟩, trivial⟩⟩, ⟨fok361, ⟨fok359, ⟨fok358, trivial, trivial⟩, ⟨fok360, trivial, trivial⟩⟩, ⟨fok363, ⟨fok362, trivial, trivial⟩, trivial⟩⟩⟩⟩⟩⟩
end Go.Eng
