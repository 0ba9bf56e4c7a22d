/- A part of the proof that the rows statement FnSetBack holds; no conditions. -/
import Derived.Test.YthkgjhnckakliaaGreatDoorZBJ
set_option linter.unusedVariables false
set_option linter.unusedSimpArgs false
set_option linter.unusedSectionVars false
namespace Go.Eng
open Go.Proofs
attribute [local irreducible] W WL LP Then InBl Tri WS
set_option maxRecDepth 8192 in
set_option maxHeartbeats 4000000 in
theorem toRule_tri (z : RZ) (y : LY) (hy : LOK z y) (hL : LEN z) : Tri C0 28 10 (lstHp 95 z 0) [.agg (cellsS z y 0)]
 (Fin' (fun _ => 20) (fun _ => lstHp 110 z 10) (fun q => .agg (cellsS z { y with yd := q } 10)) (fun q : Bool × Nat => z.dd.length ≤ q.2)) := by
 refine Tri.renX ?_
 refine Tri.mk 56 [.cell 2 38] Tryz.func28 rfl rfl rfl rfl cf28 ?_; intro w0 S T ρ0
 repeat (refine W_seq ?_)
 refine W_region ?_
 refine WL_cut 2 ?_; (refine w_ ?_); refine nq_walk ?_
 refine WL_nil ?_
 refine then_normal ?_
 repeat (refine W_seq ?_)
 refine W_region ?_
 iterate 34 (apply WL_val; exact rfl; exact rfl; exact rfl; exact trivial)
 refine WL_val (φ := True) (av := .agg [.int .u8 z.fr, .bool (z.st != 0), .int .i64 z.st, .int .i64 z.iv, .int .i64 z.wk, .int .i64 z.ct, .bool (z.un != 0), .int .i64 z.un, slI y.y0 (0 + 0) 1 z.l0.length, slI y.y1 (0 + 1) 1 z.l1.length, slI y.y2 (0 + 2) 1 z.l2.length, slI y.y3 (0 + 3) 1 z.l3.length, slI y.y4 (0 + 4) 1 z.l4.length, .v (.slice none 0 0), slI y.y5 (0 + 5) 1 z.l5.length, slI y.y6 (0 + 6) 1 z.l6.length, slI y.y7 (0 + 7) 1 z.l7.length, slI y.y8 (0 + 8) 1 z.l8.length]) (by kernel_rfl) rfl rfl trivial ?_
 refine w_ ?_
 obtain ⟨LL0, LL1, LL2, LL3, LL4, LL5, LL6, LL7, LL8, LLd⟩ := hL
 obtain ⟨OO0, OO1, OO2, OO3, OO4, OO5, OO6, OO7, OO8, OOd⟩ := hy
 have hml : (prs2 z.dd).length = z.dd.length := by simp
 refine W_loop ?_
 refine LP_imp (Imp_nils (show 0 < 22 by omega) [.recs 110 none K2 []] (s_)) ?_
 refine LP_imp (Imp_cells 12 (cellsD z y 0 (slI (true, 0) 13 2 0)) rfl (fun _ => rfl) (s_) (fun h => absurd (congrArg List.length h) (Nat.succ_ne_zero 17))) ?_
 refine LP_renG [0, 1, 2, 3, 4, 5, 6, 7, 8, 9, 10, 11, 12, 13] (LP_ind 14 (fun q : Nat × List (Int × Int) × (Bool × Nat) × Option Nat => ([(2, .ptr 11 0), (3, .ptr 12 0), (42, slI y.yd 9 2 z.dd.length), (43, .int .i64 z.dd.length), (44, .int .i64 q.1)],
  (11, .cells 38 (some 18) zcS) :: (12, .cells 38 (some 18) (cellsD z y 0 (slI q.2.2.1 13 2 q.2.1.length))) :: (13, .recs 110 q.2.2.2 K2 (prs2 q.2.1)) :: lstHp 95 z 0)) (fun q => z.dd.length - q.1)
  (fun q => q.1 ≤ z.dd.length ∧ q.2.1 = z.dd.take q.1 ∧ GOKR (prs2 q.2.1) q.2.2.1 q.2.2.2) (0, [], (true, 0), none) ?_ ⟨Nat.zero_le _, rfl, .inl ⟨rfl, rfl, rfl⟩⟩) ?_ ?_ rfl rfl rfl
 rotate_left 1
 · exact s_
 · exact s_
 rintro ⟨i, acc, ya, ma⟩ ⟨g1, g2, g3⟩ ih
 simp only at g1 g2 g3
 refine LP_round ?_; try dsimp only
 refine w_ ?_
 refine i_ ?_ ?_ <;> intro h
 rotate_left 1
 · have h : i = z.dd.length := by omega
   rw [h, List.take_length] at g2
   subst g2
   have hya : z.dd.length ≤ ya.2 := by
    rcases g3 with ⟨rfl, _, h9⟩ | ⟨tt, cap, rfl, _, h9, _⟩
    · have h10 : z.dd = [] := by simpa using h9
      rw [h10]; exact Nat.zero_le _
    · rw [hml] at h9; exact h9
   refine w_ ?_
   refine x_ ?_
   refine then_normal ?_
   refine W_imp (Imp_conv 13 (.recs 110 none K2 (prs2 z.dd)) rfl rfl rfl rfl (.inl rfl) ⟨[], by simp [AO.avs]⟩) ?_
   refine w_ ?_
   refine W_ret ?_; (repeat (first | refine then_ret ?_ | refine inbl_ret ?_))
   exact ⟨_, _, rfl, s_, ya, [0, 1, 2, 3, 4, 5, 6, 7, 8, 9, 0, 1, 2, 3, 4, 5, 6, 7, 8, 13], s_, rfl, rfl, rfl, rfl, s_, hya⟩
 have h : i < z.dd.length := by omega
 refine w_ ?_
 rw [show 0 + (i : Int).toNat = i by omega]
 refine w_ ?_
 rw [prs2_get h]
 rcases g3 with ⟨rfl, rfl, hx9⟩ | ⟨tt0, cap0, rfl, rfl, q1, q2⟩
 · obtain rfl : acc = [] := by simpa using hx9
   refine w_ ?_
   refine WL_imp (Imp_tm 49 (.v (.slice none 0 0)) rfl (fun _ => rfl) trivial) ?_
   refine WL_appN (FamR 110 K2) [[(z.dd.getD i (0, 0)).1, (z.dd.getD i (0, 0)).2]] rfl rfl rfl rfl rfl rfl rfl rfl rfl rfl rfl rfl rfl (Nat.le_of_ble_eq_true rfl) (Nat.le_refl _) ⟨Nat.le_of_ble_eq_true rfl, Nat.le_of_ble_eq_true rfl⟩ ?_
   intro cap3 tt3 hc3 hc4
   refine w_ ?_
   have ih2 := ih (i + 1, [z.dd.getD i (0, 0)], (false, cap3), some tt3) ⟨h, by simp only; rw [← takeP_succ h, ← g2]; rfl, .inr ⟨tt3, cap3, rfl, rfl, by simp at hc3 ⊢; omega, hc4⟩⟩ (by simp only; omega)
   dsimp only at ih2
   exact LP_renG [0, 1, 2, 3, 4, 5, 6, 7, 8, 9, 10, 11, 12, 16] ih2 s_ s_ rfl rfl rfl
 · have hal : acc.length ≤ z.dd.length := by rw [g2, List.length_take]; omega
   have htl : (prs2 acc).length = acc.length := by simp
   rw [htl] at q1
   rw [← htl]
   refine w_ ?_
   refine WL_app1 (FamR 110 K2) (prs2 acc) ([(z.dd.getD i (0, 0)).1, (z.dd.getD i (0, 0)).2]) rfl rfl rfl rfl rfl rfl rfl rfl rfl rfl rfl rfl rfl rfl ?_ ?_ ?_
   · exact ⟨by omega, q2⟩
   · exact ⟨by omega, by show ((prs2 acc).length + 1) * 16 ≤ _; omega⟩
   intro cap3 tt3 hc3 hc4 _
   refine w_ ?_
   have ih2 := ih (i + 1, acc ++ [z.dd.getD i (0, 0)], (false, cap3), some tt3) ⟨h, by simp only; rw [← takeP_succ h, ← g2], .inr ⟨tt3, cap3, rfl, rfl, by simp at hc3 ⊢; omega, hc4⟩⟩ (by simp only; omega)
   dsimp only at ih2
   rw [show prs2 (acc ++ [z.dd.getD i (0, 0)]) = prs2 acc ++ [[(z.dd.getD i (0, 0)).1, (z.dd.getD i (0, 0)).2]] by simp, show (acc ++ [z.dd.getD i (0, 0)]).length = (prs2 acc).length + 1 by simp] at ih2
   exact LP_renG [0, 1, 2, 3, 4, 5, 6, 7, 8, 9, 10, 11, 12, 16] ih2 s_ s_ rfl rfl rfl
theorem toSet_tri (s : SZ) (y : SY) (hy : SOK s y) (hL : LEN s.z) : Tri C0 13 12 (setHp 95 s 0) [.agg (cellsT s y 0)]
 (Fin' (fun _ => 24) (fun _ => setHp 110 s 12) (fun q => .agg (cellsT s { y with y := { y.y with yd := q } } 12)) (fun q : Bool × Nat => s.z.dd.length ≤ q.2)) := by
 refine Tri.renX ?_
 refine Tri.mk 15 [.cell 2 40] Tryz.func13 rfl rfl rfl rfl cf13 ?_; intro w0 S T ρ0
 refine w_ ?_
 refine W_draw [12] [] 13 mo0 (by kernel_rfl) (by kernel_rfl) (fun ρ1 hkl => ?_); refine d_ ?_
 refine WS_loud rfl ?_ hkl
 refine WL_call [0, 1, 2, 3, 4, 5, 6, 7, 8, 9] (toRule_tri s.z y.y hy.1 hL) rfl rfl rfl (s_) (s_) rfl rfl rfl rfl ?_; rintro _ _ _ ⟨q, rfl, rfl, rfl, hq⟩
 refine WL_nil ?_
 refine nq_walk ⟨fun _ => s_, ?_⟩
 iterate 4 (apply WS_val; exact rfl; exact rfl; exact rfl; exact rfl; exact rfl; exact trivial)
 refine WS_val (φ := True) (av := .agg (.int .i64 s.start :: .bool s.has :: (cellsS s.z { y.y with yd := q } 14 ++ [slI y.yr 10 1 s.rd.length, slI y.ye 11 1 s.ex.length]))) rfl rfl (by kernel_rfl) rfl rfl trivial ?_
 refine WS_loud rfl ?_ hkl
 refine WL_store rfl rfl trivial ?_
 refine WL_nil ?_
 refine nq_walk ⟨fun h => (by cases h), ?_⟩
 refine d_ ?_
 refine W_ret ?_; (repeat (first | refine then_ret ?_ | refine inbl_ret ?_))
 exact ⟨_, _, rfl, s_, q, [0, 1, 2, 3, 4, 5, 6, 7, 8, 9, 10, 11, 14, 15, 16, 17, 18, 19, 20, 21, 22, 23, 10, 11], s_, rfl, rfl, rfl, rfl, s_, hq⟩
end Go.Eng
namespace Go.Eng
open Go.Proofs
attribute [local irreducible] W WL LP Then InBl Tri WS
theorem tms_succ {xs : List Int} {i : Nat} (h : i < xs.length) : tms (xs.take i) ++ [[xs.getD i 0, 0]] = tms (xs.take (i + 1)) := by
 rw [← take_succ_getD h]; simp
theorem moments_tri (xs : List Int) (hx : xs.length ≤ 1000000) (y : Bool × Nat) (hcy : xs.length ≤ y.2) : Tri C0 93 1 [(0, dsl none xs)] [slI y 0 1 xs.length]
 (Fin' (fun _ => 2) (fun q : (Bool × Nat) × Option Nat => [(0, dsl none xs), (1, .recs 88 q.2 K2 (tms xs))]) (fun q => slI q.1 1 2 xs.length) (fun q => GOK' 2 (tms xs) q.1 q.2)) := by
 refine Tri.renX ?_
 have hml : (tms xs).length = xs.length := by simp
 refine Tri.mk 19 [.tmp 2] Tryz.func93 rfl rfl rfl rfl cf93 ?_; intro w0 S T ρ0
 refine w_ ?_
 refine W_loop ?_
 refine LP_imp (Imp_nils (show 0 < 22 by omega) [.recs 88 none K2 []] s_) ?_
 refine LP_imp (Imp_tm 3 (.sl true 1 2 0 0 0) rfl (fun _ => rfl) s_) ?_
 refine LP_renG [0, 1] (LP_ind 2 (fun q : Nat × (Bool × Nat) × Option Nat => ([(3, slI q.2.1 1 2 (tms (xs.take q.1)).length), (6, slI y 0 1 xs.length), (7, .int .i64 xs.length), (8, .int .i64 q.1)], [(0, dsl none xs), (1, .recs 88 q.2.2 K2 (tms (xs.take q.1)))])) (fun q => xs.length - q.1)
  (fun q => q.1 ≤ xs.length ∧ GOK' 2 (tms (xs.take q.1)) q.2.1 q.2.2) (0, (true, 0), none) ?_ ⟨Nat.zero_le _, .inl ⟨rfl, rfl, rfl⟩⟩) s_ s_ rfl rfl rfl
 rintro ⟨i, ya, ma⟩ ⟨g1, g3⟩ ih
 simp only at g1 g3
 refine LP_round ?_; try dsimp only
 refine w_ ?_
 refine i_ ?_ ?_ <;> intro h
 rotate_left 1
 · have h : i = xs.length := by omega
   subst h
   rw [List.take_length] at g3 ⊢
   rw [hml]
   refine w_ ?_
   refine x_ ?_
   refine w_ ?_
   refine W_ret ?_; (repeat (first | refine then_ret ?_ | refine inbl_ret ?_))
   exact ⟨_, _, rfl, s_, (ya, ma), [0, 1], s_, rfl, rfl, rfl, rfl, s_, g3⟩
 have h : i < xs.length := by omega
 have hml : (tms (xs.take i)).length = i := by simp; omega
 refine w_ ?_
 rw [show 0 + (i : Int).toNat = i by omega]
 refine WL_call [] (of_tri (xs.getD i 0)) rfl rfl rfl t_ t_ rfl rfl rfl rfl ?_; rintro _ _ _ ⟨rfl, rfl, rfl⟩
 refine w_ ?_
 refine WL_appK (FamR 88 K2) (fun m => .recs 88 m K2 (tms (xs.take i))) (tms (xs.take i)) ([[xs.getD i 0, 0]]) (g3) (fun _ => rfl) rfl rfl rfl rfl rfl rfl rfl rfl rfl rfl rfl rfl rfl rfl rfl rfl (Nat.le_of_ble_eq_true rfl) (Nat.le_refl _) ?_ ?_
 · exact ⟨by show _ + 1 ≤ _; omega, by show (_ + 1) * 16 ≤ _; omega⟩
 rw [tms_succ h]
 intro cap tt hG
 refine w_ ?_
 exact LP_renG [0, 3] (ih (i + 1, (false, cap), some tt) ⟨h, hG⟩ (by simp only; omega)) s_ s_ rfl rfl rfl
theorem zzwd_tri (a b : Int) : Tri C0 156 0 [] [.int .i64 a, .int .i64 b] (fun k hp r => k = 0 ∧ hp = [] ∧ r = .agg [.int .i64 a, .int .i64 b]) := by
 refine Tri.keep (Tri.mk 8 [.cell 4 142] Tryz.func156 rfl rfl rfl rfl cf156 ?_) t_ (fun r h => q_); intro w0 S T ρ0
 refine w_ ?_
 refine k_ ?_
 rfl
def zcP : List AV := [.int .i64 0, .int .i64 0, .int .i64 0, .int .i64 0, .int .i64 0, .int .i64 0, .int .i64 0, .int .i64 0, .int .i64 0, .v (.slice none 0 0), .v (.slice none 0 0), .v (.slice none 0 0), .v (.slice none 0 0), .v (.slice none 0 0), .v (.slice none 0 0), .v (.slice none 0 0), .v (.slice none 0 0), .v (.slice none 0 0), .v (.slice none 0 0)]
def cellsO (z : RZ) (y : LY) (st un : Int) (d : AV) : List AV := [.int .i64 z.fr, .int .i64 st, .int .i64 0, .int .i64 z.iv, .int .i64 z.wk, .int .i64 0, .int .i64 z.ct, .int .i64 un, .int .i64 0, slI y.y0 (0 + 0) 1 z.l0.length, slI y.y1 (0 + 1) 1 z.l1.length, slI y.y2 (0 + 2) 1 z.l2.length, slI y.y3 (0 + 3) 1 z.l3.length, slI y.y4 (0 + 4) 1 z.l4.length, d, slI y.y5 (0 + 5) 1 z.l5.length, slI y.y6 (0 + 6) 1 z.l6.length, slI y.y7 (0 + 7) 1 z.l7.length, slI y.y8 (0 + 8) 1 z.l8.length]
theorem prs_succ {l : List (Int × Int)} {i : Nat} (h : i < l.length) : prs2 (l.take i) ++ [[(l.getD i (0, 0)).1, (l.getD i (0, 0)).2]] = prs2 (l.take (i + 1)) := by
 rw [← takeP_succ h]; simp
set_option maxRecDepth 8192 in
set_option maxHeartbeats 4000000 in
theorem option_tri (z : RZ) (y : LY) (hy : LOK z y) (hL : LEN z) (hf : 0 ≤ z.fr ∧ z.fr ≤ 6) (hw : z.wn = 0) : Tri C0 90 10 (lstHp 110 z 0) [.agg (cellsS z y 0)]
 (Fin' (fun _ => 20) (fun _ => lstHp 142 z 10) (fun q => .agg (cellsP z { y with yd := q } 10)) (fun q : Bool × Nat => z.dd.length ≤ q.2)) := by
 refine Tri.renX ?_
 have LLd := hL.2.2.2.2.2.2.2.2.2
 have OOd := hy.2.2.2.2.2.2.2.2.2
 have hml : (prs2 z.dd).length = z.dd.length := by simp
 refine Tri.mk 66 [.cell 2 145] Tryz.func90 rfl rfl rfl rfl cf90 ?_; intro w0 S T ρ0
 refine w_ ?_
 refine W_mid (α := Unit) (fun _ => (13, [(1, .ptr 10 0), (2, .ptr 11 0), (3, .ptr 12 0)], (10, .cells 38 (some 18) (cellsS z y 0)) :: (11, .cells 145 (some 19) zcP) :: (12, .cells 145 (some 19) (cellsO z y 0 0 (.v (.slice none 0 0)))) :: lstHp 110 z 0)) (fun _ => True) ?_ ?_
 · have hv : ∀ (b : Bool), True := fun _ => trivial
   refine W_drawX [10] [] 31 29 mo0 (by kernel_rfl) (by kernel_rfl) (fun ρ1 hkl => ?_)
   repeat (apply WSX_val; exact rfl; exact rfl; exact rfl; exact rfl; exact rfl; first | exact trivial | omega | exact hside | (simp only [rng]; omega))
   refine WSX_loud rfl rfl rfl rfl ?_ ?_ hkl
   · refine WS_loud rfl ?_ hkl
     refine WL_new rfl rfl rfl ?_
     refine WL_nil ?_; refine nq_walk ⟨fun _ => t_, ?_⟩; refine d_ ?_
     refine WS_loud rfl ?_ hkl
     refine WL_callR [] (zzwd_tri z.wk 0) rfl rfl rfl s_ s_ rfl rfl rfl rfl ?_; rintro _ rfl
     refine WL_nil ?_
     refine nq_walk ⟨fun _ => s_, ?_⟩
     iterate 20 (apply WS_val; exact rfl; exact rfl; exact rfl; exact rfl; exact rfl; exact trivial)
     refine WS_val (φ := True) (av := .agg (cellsO z y 0 0 (.v (.slice none 0 0)))) rfl rfl (by kernel_rfl) rfl rfl trivial ?_
     refine WS_loud rfl ?_ hkl
     refine WL_store rfl rfl trivial ?_
     refine WL_nil ?_
     refine nq_walk ⟨fun h => (by cases h), ?_⟩
     refine d_ ?_
     exact ⟨(), trivial, Imp_renG [0, 1, 2, 3, 4, 5, 6, 7, 8, 9, 10, 11, 12] s_ s_ rfl rfl rfl⟩
   · refine WL_callR [] (zzwd_tri z.wk 0) rfl rfl rfl s_ s_ rfl rfl rfl rfl ?_; rintro _ rfl
     refine WL_nil ?_
     refine nq_walk ⟨s_, ?_⟩
     iterate 20 (apply WSX_val; exact rfl; exact rfl; exact rfl; exact rfl; exact rfl; exact trivial)
     refine WSX_val (φ := True) (av := .agg (cellsO z y 0 0 (.v (.slice none 0 0)))) rfl rfl (by kernel_rfl) rfl rfl trivial ?_
     refine WSX_ax rfl rfl ?_
     refine WS_loud rfl ?_ hkl
     refine WL_new rfl rfl rfl ?_
     refine WL_nil ?_; refine nq_walk ⟨fun _ => t_, ?_⟩; refine d_ ?_
     refine WS_loud rfl ?_ hkl
     refine WL_store rfl rfl trivial ?_
     refine WL_nil ?_
     refine nq_walk ⟨fun h => (by cases h), ?_⟩
     refine d_ ?_
     exact ⟨(), trivial, Imp_renG [0, 1, 2, 3, 4, 5, 6, 7, 8, 9, 10, 11, 12] s_ s_ rfl rfl rfl⟩
 rintro - -
 refine w_ ?_
 refine W_mid (α := Unit) (fun _ => (13, [(1, .ptr 10 0), (2, .ptr 11 0), (3, .ptr 12 0)], (10, .cells 38 (some 18) (cellsS z y 0)) :: (11, .cells 145 (some 19) zcP) :: (12, .cells 145 (some 19) (cellsO z y z.st 0 (.v (.slice none 0 0)))) :: lstHp 110 z 0)) (fun _ => True) ?_ ?_
 · by_cases h : z.st = 0
   · rw [show (z.st != 0) = false by simp [h], show cellsO z y z.st 0 (.v (.slice none 0 0)) = cellsO z y 0 0 (.v (.slice none 0 0)) by rw [h]]
     refine W_cond_false rfl ?_
     refine w_ ?_
     exact ⟨(), trivial, Imp_renG [0, 1, 2, 3, 4, 5, 6, 7, 8, 9, 10, 11, 12] s_ s_ rfl rfl rfl⟩
   · rw [show (z.st != 0) = true by simpa using h]
     refine W_cond_true rfl ?_
     refine w_ ?_
     refine WL_call [] (of_tri z.st) rfl rfl rfl t_ t_ rfl rfl rfl rfl ?_; rintro _ _ _ ⟨rfl, rfl, rfl⟩
     refine w_ ?_
     exact ⟨(), trivial, Imp_renG [0, 1, 2, 3, 4, 5, 6, 7, 8, 9, 10, 11, 12] s_ s_ rfl rfl rfl⟩
 rintro - -
 refine w_ ?_
 refine W_mid (α := Unit) (fun _ => (13, [(1, .ptr 10 0), (2, .ptr 11 0), (3, .ptr 12 0)], (10, .cells 38 (some 18) (cellsS z y 0)) :: (11, .cells 145 (some 19) zcP) :: (12, .cells 145 (some 19) (cellsO z y z.st z.un (.v (.slice none 0 0)))) :: lstHp 110 z 0)) (fun _ => True) ?_ ?_
 · by_cases h : z.un = 0
   · rw [show (z.un != 0) = false by simp [h], show cellsO z y z.st z.un (.v (.slice none 0 0)) = cellsO z y z.st 0 (.v (.slice none 0 0)) by rw [h]]
     refine W_cond_false rfl ?_
     refine w_ ?_
     exact ⟨(), trivial, Imp_renG [0, 1, 2, 3, 4, 5, 6, 7, 8, 9, 10, 11, 12] s_ s_ rfl rfl rfl⟩
   · rw [show (z.un != 0) = true by simpa using h]
     refine W_cond_true rfl ?_
     refine w_ ?_
     refine WL_call [] (of_tri z.un) rfl rfl rfl t_ t_ rfl rfl rfl rfl ?_; rintro _ _ _ ⟨rfl, rfl, rfl⟩
     refine w_ ?_
     exact ⟨(), trivial, Imp_renG [0, 1, 2, 3, 4, 5, 6, 7, 8, 9, 10, 11, 12] s_ s_ rfl rfl rfl⟩
 rintro - -
 refine w_ ?_
 refine W_loop ?_
 refine LP_imp (Imp_nils (show 0 < 22 by omega) [.recs 142 none K2 []] s_) ?_
 refine LP_imp (Imp_cells 12 (cellsO z y z.st z.un (slI (true, 0) 13 2 0)) rfl (fun _ => rfl) s_ (fun h => absurd (congrArg List.length h) (Nat.succ_ne_zero 18))) ?_
 refine LP_renG [0, 1, 2, 3, 4, 5, 6, 7, 8, 9, 10, 11, 12, 13] (LP_ind 14 (fun q : Nat × (Bool × Nat) × Option Nat => ([(1, .ptr 10 0), (2, .ptr 11 0), (3, .ptr 12 0), (48, slI y.yd 9 2 z.dd.length), (49, .int .i64 z.dd.length), (50, .int .i64 q.1)],
  (10, .cells 38 (some 18) (cellsS z y 0)) :: (11, .cells 145 (some 19) zcP) :: (12, .cells 145 (some 19) (cellsO z y z.st z.un (slI q.2.1 13 2 (prs2 (z.dd.take q.1)).length))) :: (13, .recs 142 q.2.2 K2 (prs2 (z.dd.take q.1))) :: lstHp 110 z 0)) (fun q => z.dd.length - q.1)
  (fun q => q.1 ≤ z.dd.length ∧ GOK' 2 (prs2 (z.dd.take q.1)) q.2.1 q.2.2) (0, (true, 0), none) ?_ ⟨Nat.zero_le _, .inl ⟨rfl, rfl, rfl⟩⟩) s_ s_ rfl rfl rfl
 rintro ⟨i, ya, ma⟩ ⟨g1, g3⟩ ih
 simp only at g1 g3
 refine LP_round ?_; try dsimp only
 refine w_ ?_
 refine i_ ?_ ?_ <;> intro h
 rotate_left 1
 · have h : i = z.dd.length := by omega
   subst h
   rw [List.take_length] at g3 ⊢
   have hya := g3.cap
   rw [hml] at hya ⊢
   refine w_ ?_
   refine x_ ?_
   refine then_normal ?_
   refine W_imp (Imp_conv 13 (.recs 142 none K2 (prs2 z.dd)) rfl rfl rfl rfl (.inl rfl) ⟨[], by simp [AO.avs]⟩) ?_
   refine w_ ?_
   refine W_ret ?_; (repeat (first | refine then_ret ?_ | refine inbl_ret ?_))
   have e : cellsO z y z.st z.un (slI ya 13 2 z.dd.length) = [.int .i64 z.fr, .int .i64 z.st, .int .i64 0, .int .i64 z.iv, .int .i64 z.wk, .int .i64 z.wn, .int .i64 z.ct, .int .i64 z.un, .int .i64 0, slI y.y0 (0 + 0) 1 z.l0.length, slI y.y1 (0 + 1) 1 z.l1.length, slI y.y2 (0 + 2) 1 z.l2.length, slI y.y3 (0 + 3) 1 z.l3.length, slI y.y4 (0 + 4) 1 z.l4.length, slI ya 13 2 z.dd.length, slI y.y5 (0 + 5) 1 z.l5.length, slI y.y6 (0 + 6) 1 z.l6.length, slI y.y7 (0 + 7) 1 z.l7.length, slI y.y8 (0 + 8) 1 z.l8.length] := by rw [hw]; rfl
   rw [e]
   exact ⟨_, _, rfl, s_, ya, [0, 1, 2, 3, 4, 5, 6, 7, 8, 9, 0, 1, 2, 3, 4, 5, 6, 7, 8, 13], s_, rfl, rfl, rfl, rfl, s_, hya⟩
 have h : i < z.dd.length := by omega
 have hml : (prs2 (z.dd.take i)).length = i := by simp; omega
 refine w_ ?_
 rw [show 0 + (i : Int).toNat = i by omega]
 refine w_ ?_
 rw [prs2_get h]
 refine w_ ?_
 refine W_draw [12, 14] [] 11 mo0 (by kernel_rfl) (by kernel_rfl) (fun ρ1 hkl => ?_); refine d_ ?_
 refine WS_loud rfl ?_ hkl
 refine WL_callR [] (zzwd_tri (z.dd.getD i (0, 0)).1 (z.dd.getD i (0, 0)).2) rfl rfl rfl s_ s_ rfl rfl rfl rfl ?_; rintro _ rfl
 refine WL_nil ?_; refine nq_walk ⟨fun _ => t_, ?_⟩; refine d_ ?_
 refine WS_loud rfl ?_ hkl
 refine WL_new rfl rfl rfl ?_
 refine WL_nil ?_; refine nq_walk ⟨fun _ => t_, ?_⟩; refine d_ ?_
 refine WS_loud rfl ?_ hkl
 refine WL_appK (FamR 142 K2) (fun m => .recs 142 m K2 (prs2 (z.dd.take i))) (prs2 (z.dd.take i)) ([[(z.dd.getD i (0, 0)).1, (z.dd.getD i (0, 0)).2]]) (g3) (fun _ => rfl) rfl rfl rfl rfl rfl rfl rfl rfl rfl rfl rfl rfl rfl rfl rfl rfl (Nat.le_of_ble_eq_true rfl) (Nat.le_refl _) ?_ ?_
 · exact ⟨by show _ + 1 ≤ _; omega, by show (_ + 1) * 16 ≤ _; omega⟩
 rw [prs_succ h]
 intro cap tt hG
 refine WL_nil ?_; refine nq_walk ⟨fun _ => t_, ?_⟩; refine d_ ?_
 refine d_ ?_
 refine WS_loud rfl ?_ hkl
 refine WL_store rfl rfl trivial ?_
 refine WL_nil ?_
 refine nq_walk ⟨fun h => (by cases h), ?_⟩
 refine d_ ?_
 refine w_ ?_
 exact LP_renG [0, 1, 2, 3, 4, 5, 6, 7, 8, 9, 10, 11, 12, 16] (ih (i + 1, (false, cap), some tt) ⟨h, hG⟩ (by simp only; omega)) s_ s_ rfl rfl rfl
end Go.Eng
namespace Go.Eng
open Go.Proofs
attribute [local irreducible] W WL LP Then InBl Tri WS
set_option maxHeartbeats 4000000 in
theorem setRD_tri (s : Int) (hb : Bool) (xs : List Int) (hx : xs.length ≤ 1000000) (m : Option Nat) (y : Bool × Nat) (hcy : xs.length ≤ y.2) : Tri C0 92 4 [(0, setO s (pQ hb 3) (.v (.slice none 0 0)) (.v (.slice none 0 0))), (1, .recs 88 m K2 (tms xs))] [.ptr 0 0, slI y 1 2 xs.length]
 (Fin' (fun _ => 5) (fun q : (Bool × Nat) × Option Nat => [(0, setO s (pQ hb 3) (slI q.1 4 2 xs.length) (.v (.slice none 0 0))), (4, .recs 88 q.2 K2 (tms xs))]) (fun _ => .tup []) (fun q => GOK' 2 (tms xs) q.1 q.2)) := by
 refine Tri.renX ?_
 have hml : (tms xs).length = xs.length := by simp
 cases hb with
 | false =>
   refine Tri.mk 30 [] Tryz.func92 rfl rfl rfl rfl cf92 ?_; intro w0 S T ρ0
   refine w_ ?_
   refine WL_make (.recs 88 (some (xs.length * 2)) K2 (tms (List.replicate xs.length 0))) rfl rfl rfl rfl rfl rfl rfl rfl rfl rfl ?_ rfl rfl ?_ ?_ ?_
   · refine ⟨by omega, by omega, by omega, ?_⟩
     show (16 : Int) * (xs.length : Int) ≤ _; omega
   · show _ = _
     rw [Int.toNat_natCast]
     exact rep_tms _
   · show some (xs.length * 2) = some _
     congr 1
     simp only [AO.avs, flat_length, List.length_map, List.length_replicate]; rfl
   rw [Int.toNat_natCast]
   refine WL_conv 4 (.recs 88 (some (xs.length * 2)) K2 (tms [])) rfl rfl rfl rfl (.inr rfl) ⟨_, rfl⟩ ?_
   refine w_ ?_
   refine W_loop ?_
   refine LP_renG [0, 1, 2, 3, 4] (LP_ind 5 (fun q : Nat × (Bool × Nat) × Option Nat => ([(0, .ptr 0 0), (12, slI y 1 2 xs.length), (13, .int .i64 xs.length), (14, .int .i64 q.1)], [(0, setO s (pQ false 3) (slI q.2.1 4 2 (tms (xs.take q.1)).length) (.v (.slice none 0 0))), (1, .recs 88 m K2 (tms xs)), (4, .recs 88 q.2.2 K2 (tms (xs.take q.1)))])) (fun q => xs.length - q.1)
    (fun q => q.1 ≤ xs.length ∧ GOK' 2 (tms (xs.take q.1)) q.2.1 q.2.2) (0, (false, xs.length), some (xs.length * 2)) ?_ ⟨Nat.zero_le _, .inr ⟨_, _, rfl, rfl, Nat.zero_le _, Nat.le_refl _⟩⟩) s_ s_ rfl rfl rfl
   rintro ⟨i, ya, ma⟩ ⟨g1, g3⟩ ih
   simp only at g1 g3
   refine LP_round ?_; try dsimp only
   refine w_ ?_
   refine i_ ?_ ?_ <;> intro h
   rotate_left 1
   · have h : i = xs.length := by omega
     subst h
     rw [List.take_length] at g3 ⊢
     rw [hml]
     refine w_ ?_
     refine x_ ?_
     refine w_ ?_
     exact ⟨_, _, rfl, s_, (ya, ma), [0, 1, 2, 3, 4], s_, rfl, rfl, rfl, rfl, s_, g3⟩
   have h : i < xs.length := by omega
   have hmi : (tms (xs.take i)).length = i := by simp; omega
   refine w_ ?_
   rw [show 0 + (i : Int).toNat = i by omega]
   refine w_ ?_
   rw [tms_get h]
   refine w_ ?_
   refine W_draw [0, 5] [] 12 mo0 (by kernel_rfl) (by kernel_rfl) (fun ρ1 hkl => ?_); refine d_ ?_
   refine WS_loud rfl ?_ hkl
   refine WL_callR [] (truncate_tri (xs.getD i 0) 0 1000000000) rfl rfl rfl s_ s_ rfl rfl rfl rfl ?_; rintro _ rfl
   refine WL_nil ?_; refine nq_walk ⟨fun _ => t_, ?_⟩; refine d_ ?_
   refine WS_loud rfl ?_ hkl
   refine WL_new rfl rfl rfl ?_
   refine WL_nil ?_; refine nq_walk ⟨fun _ => t_, ?_⟩; refine d_ ?_
   refine WS_loud rfl ?_ hkl
   refine WL_appK (FamR 88 K2) (fun m => .recs 88 m K2 (tms (xs.take i))) (tms (xs.take i)) ([[xs.getD i 0, 0]]) (g3) (fun _ => rfl) rfl rfl rfl rfl rfl rfl rfl rfl rfl rfl rfl rfl rfl rfl rfl rfl (Nat.le_of_ble_eq_true rfl) (Nat.le_refl _) ?_ ?_
   · exact ⟨by show _ + 1 ≤ _; omega, by show (_ + 1) * 16 ≤ _; omega⟩
   rw [tms_succ h]
   intro cap tt hG
   refine WL_nil ?_; refine nq_walk ⟨fun _ => t_, ?_⟩; refine d_ ?_
   refine d_ ?_
   refine WS_loud rfl ?_ hkl
   refine WL_store rfl rfl trivial ?_
   refine WL_nil ?_
   refine nq_walk ⟨fun h => (by cases h), ?_⟩
   refine d_ ?_
   refine w_ ?_
   exact LP_renG [0, 1, 2, 3, 7] (ih (i + 1, (false, cap), some tt) ⟨h, hG⟩ (by simp only; omega)) s_ s_ rfl rfl rfl
 | true =>
   refine Tri.mk 30 [] Tryz.func92 rfl rfl rfl rfl cf92 ?_; intro w0 S T ρ0
   refine w_ ?_
   refine WL_make (.recs 88 (some (xs.length * 2)) K2 (tms (List.replicate xs.length 0))) rfl rfl rfl rfl rfl rfl rfl rfl rfl rfl ?_ rfl rfl ?_ ?_ ?_
   · refine ⟨by omega, by omega, by omega, ?_⟩
     show (16 : Int) * (xs.length : Int) ≤ _; omega
   · show _ = _
     rw [Int.toNat_natCast]
     exact rep_tms _
   · show some (xs.length * 2) = some _
     congr 1
     simp only [AO.avs, flat_length, List.length_map, List.length_replicate]; rfl
   rw [Int.toNat_natCast]
   refine WL_conv 4 (.recs 88 (some (xs.length * 2)) K2 (tms [])) rfl rfl rfl rfl (.inr rfl) ⟨_, rfl⟩ ?_
   refine w_ ?_
   refine W_loop ?_
   refine LP_renG [0, 1, 2, 3, 4] (LP_ind 5 (fun q : Nat × (Bool × Nat) × Option Nat => ([(0, .ptr 0 0), (12, slI y 1 2 xs.length), (13, .int .i64 xs.length), (14, .int .i64 q.1)], [(0, setO s (pQ true 3) (slI q.2.1 4 2 (tms (xs.take q.1)).length) (.v (.slice none 0 0))), (1, .recs 88 m K2 (tms xs)), (4, .recs 88 q.2.2 K2 (tms (xs.take q.1)))])) (fun q => xs.length - q.1)
    (fun q => q.1 ≤ xs.length ∧ GOK' 2 (tms (xs.take q.1)) q.2.1 q.2.2) (0, (false, xs.length), some (xs.length * 2)) ?_ ⟨Nat.zero_le _, .inr ⟨_, _, rfl, rfl, Nat.zero_le _, Nat.le_refl _⟩⟩) s_ s_ rfl rfl rfl
   rintro ⟨i, ya, ma⟩ ⟨g1, g3⟩ ih
   simp only at g1 g3
   refine LP_round ?_; try dsimp only
   refine w_ ?_
   refine i_ ?_ ?_ <;> intro h
   rotate_left 1
   · have h : i = xs.length := by omega
     subst h
     rw [List.take_length] at g3 ⊢
     rw [hml]
     refine w_ ?_
     refine x_ ?_
     refine w_ ?_
     exact ⟨_, _, rfl, s_, (ya, ma), [0, 1, 2, 3, 4], s_, rfl, rfl, rfl, rfl, s_, g3⟩
   have h : i < xs.length := by omega
   have hmi : (tms (xs.take i)).length = i := by simp; omega
   refine w_ ?_
   rw [show 0 + (i : Int).toNat = i by omega]
   refine w_ ?_
   rw [tms_get h]
   refine w_ ?_
   refine W_draw [0, 5] [] 12 mo0 (by kernel_rfl) (by kernel_rfl) (fun ρ1 hkl => ?_); refine d_ ?_
   refine WS_loud rfl ?_ hkl
   refine WL_callR [] (truncate_tri (xs.getD i 0) 0 1000000000) rfl rfl rfl s_ s_ rfl rfl rfl rfl ?_; rintro _ rfl
   refine WL_nil ?_; refine nq_walk ⟨fun _ => t_, ?_⟩; refine d_ ?_
   refine WS_loud rfl ?_ hkl
   refine WL_new rfl rfl rfl ?_
   refine WL_nil ?_; refine nq_walk ⟨fun _ => t_, ?_⟩; refine d_ ?_
   refine WS_loud rfl ?_ hkl
   refine WL_appK (FamR 88 K2) (fun m => .recs 88 m K2 (tms (xs.take i))) (tms (xs.take i)) ([[xs.getD i 0, 0]]) (g3) (fun _ => rfl) rfl rfl rfl rfl rfl rfl rfl rfl rfl rfl rfl rfl rfl rfl rfl rfl (Nat.le_of_ble_eq_true rfl) (Nat.le_refl _) ?_ ?_
   · exact ⟨by show _ + 1 ≤ _; omega, by show (_ + 1) * 16 ≤ _; omega⟩
   rw [tms_succ h]
   intro cap tt hG
   refine WL_nil ?_; refine nq_walk ⟨fun _ => t_, ?_⟩; refine d_ ?_
   refine d_ ?_
   refine WS_loud rfl ?_ hkl
   refine WL_store rfl rfl trivial ?_
   refine WL_nil ?_
   refine nq_walk ⟨fun h => (by cases h), ?_⟩
   refine d_ ?_
   refine w_ ?_
   exact LP_renG [0, 1, 2, 3, 7] (ih (i + 1, (false, cap), some tt) ⟨h, hG⟩ (by simp only; omega)) s_ s_ rfl rfl rfl
set_option maxHeartbeats 4000000 in
theorem setEX_tri (s : Int) (hb : Bool) (ya : Bool × Nat) (na : Nat) (xs : List Int) (hx : xs.length ≤ 1000000) (m : Option Nat) (y : Bool × Nat) (hcy : xs.length ≤ y.2) : Tri C0 94 4 [(0, setO s (pQ hb 3) (slI ya 2 2 na) (.v (.slice none 0 0))), (1, .recs 88 m K2 (tms xs))] [.ptr 0 0, slI y 1 2 xs.length]
 (Fin' (fun _ => 5) (fun q : (Bool × Nat) × Option Nat => [(0, setO s (pQ hb 3) (slI ya 2 2 na) (slI q.1 4 2 xs.length)), (4, .recs 88 q.2 K2 (tms xs))]) (fun _ => .tup []) (fun q => GOK' 2 (tms xs) q.1 q.2)) := by
 refine Tri.renX ?_
 have hml : (tms xs).length = xs.length := by simp
 cases hb with
 | false =>
   refine Tri.mk 30 [] Tryz.func94 rfl rfl rfl rfl cf94 ?_; intro w0 S T ρ0
   refine w_ ?_
   refine WL_make (.recs 88 (some (xs.length * 2)) K2 (tms (List.replicate xs.length 0))) rfl rfl rfl rfl rfl rfl rfl rfl rfl rfl ?_ rfl rfl ?_ ?_ ?_
   · refine ⟨by omega, by omega, by omega, ?_⟩
     show (16 : Int) * (xs.length : Int) ≤ _; omega
   · show _ = _
     rw [Int.toNat_natCast]
     exact rep_tms _
   · show some (xs.length * 2) = some _
     congr 1
     simp only [AO.avs, flat_length, List.length_map, List.length_replicate]; rfl
   rw [Int.toNat_natCast]
   refine WL_conv 4 (.recs 88 (some (xs.length * 2)) K2 (tms [])) rfl rfl rfl rfl (.inr rfl) ⟨_, rfl⟩ ?_
   refine w_ ?_
   refine W_loop ?_
   refine LP_renG [0, 1, 2, 3, 4] (LP_ind 5 (fun q : Nat × (Bool × Nat) × Option Nat => ([(0, .ptr 0 0), (12, slI y 1 2 xs.length), (13, .int .i64 xs.length), (14, .int .i64 q.1)], [(0, setO s (pQ false 3) (slI ya 2 2 na) (slI q.2.1 4 2 (tms (xs.take q.1)).length)), (1, .recs 88 m K2 (tms xs)), (4, .recs 88 q.2.2 K2 (tms (xs.take q.1)))])) (fun q => xs.length - q.1)
    (fun q => q.1 ≤ xs.length ∧ GOK' 2 (tms (xs.take q.1)) q.2.1 q.2.2) (0, (false, xs.length), some (xs.length * 2)) ?_ ⟨Nat.zero_le _, .inr ⟨_, _, rfl, rfl, Nat.zero_le _, Nat.le_refl _⟩⟩) s_ s_ rfl rfl rfl
   rintro ⟨i, yb, ma⟩ ⟨g1, g3⟩ ih
   simp only at g1 g3
   refine LP_round ?_; try dsimp only
   refine w_ ?_
   refine i_ ?_ ?_ <;> intro h
   rotate_left 1
   · have h : i = xs.length := by omega
     subst h
     rw [List.take_length] at g3 ⊢
     rw [hml]
     refine w_ ?_
     refine x_ ?_
     refine w_ ?_
     exact ⟨_, _, rfl, s_, (yb, ma), [0, 1, 2, 3, 4], s_, rfl, rfl, rfl, rfl, s_, g3⟩
   have h : i < xs.length := by omega
   have hmi : (tms (xs.take i)).length = i := by simp; omega
   refine w_ ?_
   rw [show 0 + (i : Int).toNat = i by omega]
   refine w_ ?_
   rw [tms_get h]
   refine w_ ?_
   refine W_draw [0, 5] [] 12 mo0 (by kernel_rfl) (by kernel_rfl) (fun ρ1 hkl => ?_); refine d_ ?_
   refine WS_loud rfl ?_ hkl
   refine WL_callR [] (truncate_tri (xs.getD i 0) 0 1000000000) rfl rfl rfl s_ s_ rfl rfl rfl rfl ?_; rintro _ rfl
   refine WL_nil ?_; refine nq_walk ⟨fun _ => t_, ?_⟩; refine d_ ?_
   refine WS_loud rfl ?_ hkl
   refine WL_new rfl rfl rfl ?_
   refine WL_nil ?_; refine nq_walk ⟨fun _ => t_, ?_⟩; refine d_ ?_
   refine WS_loud rfl ?_ hkl
   refine WL_appK (FamR 88 K2) (fun m => .recs 88 m K2 (tms (xs.take i))) (tms (xs.take i)) ([[xs.getD i 0, 0]]) (g3) (fun _ => rfl) rfl rfl rfl rfl rfl rfl rfl rfl rfl rfl rfl rfl rfl rfl rfl rfl (Nat.le_of_ble_eq_true rfl) (Nat.le_refl _) ?_ ?_
   · exact ⟨by show _ + 1 ≤ _; omega, by show (_ + 1) * 16 ≤ _; omega⟩
   rw [tms_succ h]
   intro cap tt hG
   refine WL_nil ?_; refine nq_walk ⟨fun _ => t_, ?_⟩; refine d_ ?_
   refine d_ ?_
   refine WS_loud rfl ?_ hkl
   refine WL_store rfl rfl trivial ?_
   refine WL_nil ?_
   refine nq_walk ⟨fun h => (by cases h), ?_⟩
   refine d_ ?_
   refine w_ ?_
   exact LP_renG [0, 1, 2, 3, 7] (ih (i + 1, (false, cap), some tt) ⟨h, hG⟩ (by simp only; omega)) s_ s_ rfl rfl rfl
 | true =>
   refine Tri.mk 30 [] Tryz.func94 rfl rfl rfl rfl cf94 ?_; intro w0 S T ρ0
   refine w_ ?_
   refine WL_make (.recs 88 (some (xs.length * 2)) K2 (tms (List.replicate xs.length 0))) rfl rfl rfl rfl rfl rfl rfl rfl rfl rfl ?_ rfl rfl ?_ ?_ ?_
   · refine ⟨by omega, by omega, by omega, ?_⟩
     show (16 : Int) * (xs.length : Int) ≤ _; omega
   · show _ = _
     rw [Int.toNat_natCast]
     exact rep_tms _
   · show some (xs.length * 2) = some _
     congr 1
     simp only [AO.avs, flat_length, List.length_map, List.length_replicate]; rfl
   rw [Int.toNat_natCast]
   refine WL_conv 4 (.recs 88 (some (xs.length * 2)) K2 (tms [])) rfl rfl rfl rfl (.inr rfl) ⟨_, rfl⟩ ?_
   refine w_ ?_
   refine W_loop ?_
   refine LP_renG [0, 1, 2, 3, 4] (LP_ind 5 (fun q : Nat × (Bool × Nat) × Option Nat => ([(0, .ptr 0 0), (12, slI y 1 2 xs.length), (13, .int .i64 xs.length), (14, .int .i64 q.1)], [(0, setO s (pQ true 3) (slI ya 2 2 na) (slI q.2.1 4 2 (tms (xs.take q.1)).length)), (1, .recs 88 m K2 (tms xs)), (4, .recs 88 q.2.2 K2 (tms (xs.take q.1)))])) (fun q => xs.length - q.1)
    (fun q => q.1 ≤ xs.length ∧ GOK' 2 (tms (xs.take q.1)) q.2.1 q.2.2) (0, (false, xs.length), some (xs.length * 2)) ?_ ⟨Nat.zero_le _, .inr ⟨_, _, rfl, rfl, Nat.zero_le _, Nat.le_refl _⟩⟩) s_ s_ rfl rfl rfl
   rintro ⟨i, yb, ma⟩ ⟨g1, g3⟩ ih
   simp only at g1 g3
   refine LP_round ?_; try dsimp only
   refine w_ ?_
   refine i_ ?_ ?_ <;> intro h
   rotate_left 1
   · have h : i = xs.length := by omega
     subst h
     rw [List.take_length] at g3 ⊢
     rw [hml]
     refine w_ ?_
     refine x_ ?_
     refine w_ ?_
     exact ⟨_, _, rfl, s_, (yb, ma), [0, 1, 2, 3, 4], s_, rfl, rfl, rfl, rfl, s_, g3⟩
   have h : i < xs.length := by omega
   have hmi : (tms (xs.take i)).length = i := by simp; omega
   refine w_ ?_
   rw [show 0 + (i : Int).toNat = i by omega]
   refine w_ ?_
   rw [tms_get h]
   refine w_ ?_
   refine W_draw [0, 5] [] 12 mo0 (by kernel_rfl) (by kernel_rfl) (fun ρ1 hkl => ?_); refine d_ ?_
   refine WS_loud rfl ?_ hkl
   refine WL_callR [] (truncate_tri (xs.getD i 0) 0 1000000000) rfl rfl rfl s_ s_ rfl rfl rfl rfl ?_; rintro _ rfl
   refine WL_nil ?_; refine nq_walk ⟨fun _ => t_, ?_⟩; refine d_ ?_
   refine WS_loud rfl ?_ hkl
   refine WL_new rfl rfl rfl ?_
   refine WL_nil ?_; refine nq_walk ⟨fun _ => t_, ?_⟩; refine d_ ?_
   refine WS_loud rfl ?_ hkl
   refine WL_appK (FamR 88 K2) (fun m => .recs 88 m K2 (tms (xs.take i))) (tms (xs.take i)) ([[xs.getD i 0, 0]]) (g3) (fun _ => rfl) rfl rfl rfl rfl rfl rfl rfl rfl rfl rfl rfl rfl rfl rfl rfl rfl (Nat.le_of_ble_eq_true rfl) (Nat.le_refl _) ?_ ?_
   · exact ⟨by show _ + 1 ≤ _; omega, by show (_ + 1) * 16 ≤ _; omega⟩
   rw [tms_succ h]
   intro cap tt hG
   refine WL_nil ?_; refine nq_walk ⟨fun _ => t_, ?_⟩; refine d_ ?_
   refine d_ ?_
   refine WS_loud rfl ?_ hkl
   refine WL_store rfl rfl trivial ?_
   refine WL_nil ?_
   refine nq_walk ⟨fun h => (by cases h), ?_⟩
   refine d_ ?_
   refine w_ ?_
   exact LP_renG [0, 1, 2, 3, 7] (ih (i + 1, (false, cap), some tt) ⟨h, hG⟩ (by simp only; omega)) s_ s_ rfl rfl rfl
end Go.Eng
