/- A part of the proof that the rows statement FnSetBack holds; no conditions. -/
import Derived.Test.YthkgjhnckakliaaGreatDoorZAZ
set_option linter.unusedVariables false
set_option linter.unusedSimpArgs false
set_option linter.unusedSectionVars false
namespace Go.Eng
open Go.Proofs
attribute [local irreducible] W WL LP Then InBl Tri WS
abbrev bndO (lo up : Int) : AO := .cells 3 (some 2) [.int .i64 lo, .int .i64 up]
theorem checkB_tri (nm : List UInt8) (v lo up : Int) (hlo : -1000 ≤ lo ∧ lo ≤ 1000) (hup : -1000 ≤ up ∧ up ≤ 1000) (pm : Bool) : Tri C0 199 1 [(0, bndO lo up)] [.str nm, .int .i64 v, .sl false 0 1 0 2 2, .bool pm]
 (fun k hp r => k = 1 ∧ hp = [(0, bndO lo up)] ∧ ((inOne lo up pm v = true ∧ r = .v .nilIface) ∨ (inOne lo up pm v = false ∧ ∃ t p, r = .ifc t (.v p)))) := by
 refine Tri.mk 44 [.tmp 8] Tryz.func199 rfl rfl rfl rfl cf199 ?_; intro w0 S T ρ0
 refine w_ ?_
 refine j_ 14 ?_ ?_ <;> intro h1
 · refine w_ ?_
   refine WL_split (t := 22) rfl (fun h2 => ?_) (fun h2 => ?_)
   · have h2 : ¬ v ≤ up := by simpa using h2
     have hor : (decide (v < lo) || decide (v > up)) = true := by simp; omega
     refine w_ ?_
     cases pm with
     | false =>
       have hin : inOne lo up false v = false := by unfold inOne; rw [hor]; rfl
       refine w_ ?_
       refine W_cond_true rfl ?_
       refine w_ ?_
       refine WL_call [] (errNew_tri _) rfl rfl rfl t_ t_ rfl rfl rfl rfl ?_; rintro _ _ _ ⟨rfl, rfl, et, ep, rfl⟩
       refine w_ ?_
       refine W_ren [0] (n := 1) (tm' := [(8, .ifc et (.v ep))]) (hp' := [(0, bndO lo up)]) ?_ s_ s_ rfl rfl rfl
       refine r_ ?_ ?_
       · exact s_
       · exact ⟨rfl, rfl, .inr ⟨hin, _, _, rfl⟩⟩
     | true =>
       refine w_ ?_
       refine j_ 32 ?_ ?_ <;> intro h3
       · refine w_ ?_
         refine W_cond rfl (fun h4 => ?_) (fun h4 => ?_)
         · have h4 : ¬ v ≥ 0 - up := by simpa using h4
           have hin : inOne lo up true v = false := by unfold inOne; rw [hor, decide_eq_true h3, decide_eq_false h4]; rfl
           refine w_ ?_
           refine WL_call [] (errNew_tri _) rfl rfl rfl t_ t_ rfl rfl rfl rfl ?_; rintro _ _ _ ⟨rfl, rfl, et, ep, rfl⟩
           refine w_ ?_
           refine W_ren [0] (n := 1) (tm' := [(8, .ifc et (.v ep))]) (hp' := [(0, bndO lo up)]) ?_ s_ s_ rfl rfl rfl
           refine r_ ?_ ?_
           · exact s_
           · exact ⟨rfl, rfl, .inr ⟨hin, _, _, rfl⟩⟩
         · have h4 : v ≥ 0 - up := by simpa using h4
           have hin : inOne lo up true v = true := by unfold inOne; rw [hor, decide_eq_true h3, decide_eq_true h4]; rfl
           refine w_ ?_
           refine r_ ?_ ?_
           · exact s_
           · exact ⟨rfl, rfl, .inl ⟨hin, rfl⟩⟩
       · have hin : inOne lo up true v = false := by unfold inOne; rw [hor, decide_eq_false h3]; rfl
         refine w_ ?_
         refine W_cond_true rfl ?_
         refine w_ ?_
         refine WL_call [] (errNew_tri _) rfl rfl rfl t_ t_ rfl rfl rfl rfl ?_; rintro _ _ _ ⟨rfl, rfl, et, ep, rfl⟩
         refine w_ ?_
         refine W_ren [0] (n := 1) (tm' := [(8, .ifc et (.v ep))]) (hp' := [(0, bndO lo up)]) ?_ s_ s_ rfl rfl rfl
         refine r_ ?_ ?_
         · exact s_
         · exact ⟨rfl, rfl, .inr ⟨hin, _, _, rfl⟩⟩
   · have h2 : v ≤ up := by simpa using h2
     have hin : inOne lo up pm v = true := by
      have hor : (decide (v < lo) || decide (v > up)) = false := by simp; omega
      unfold inOne; rw [hor]; rfl
     refine w_ ?_
     refine W_cond_false rfl ?_
     refine w_ ?_
     refine r_ ?_ ?_
     · exact s_
     · exact ⟨rfl, rfl, .inl ⟨hin, rfl⟩⟩
 · have hor : (decide (v < lo) || decide (v > up)) = true := by simp; omega
   refine w_ ?_
   cases pm with
   | false =>
     have hin : inOne lo up false v = false := by unfold inOne; rw [hor]; rfl
     refine w_ ?_
     refine W_cond_true rfl ?_
     refine w_ ?_
     refine WL_call [] (errNew_tri _) rfl rfl rfl t_ t_ rfl rfl rfl rfl ?_; rintro _ _ _ ⟨rfl, rfl, et, ep, rfl⟩
     refine w_ ?_
     refine W_ren [0] (n := 1) (tm' := [(8, .ifc et (.v ep))]) (hp' := [(0, bndO lo up)]) ?_ s_ s_ rfl rfl rfl
     refine r_ ?_ ?_
     · exact s_
     · exact ⟨rfl, rfl, .inr ⟨hin, _, _, rfl⟩⟩
   | true =>
     refine w_ ?_
     refine j_ 32 ?_ ?_ <;> intro h3
     · refine w_ ?_
       refine W_cond rfl (fun h4 => ?_) (fun h4 => ?_)
       · have h4 : ¬ v ≥ 0 - up := by simpa using h4
         have hin : inOne lo up true v = false := by unfold inOne; rw [hor, decide_eq_true h3, decide_eq_false h4]; rfl
         refine w_ ?_
         refine WL_call [] (errNew_tri _) rfl rfl rfl t_ t_ rfl rfl rfl rfl ?_; rintro _ _ _ ⟨rfl, rfl, et, ep, rfl⟩
         refine w_ ?_
         refine W_ren [0] (n := 1) (tm' := [(8, .ifc et (.v ep))]) (hp' := [(0, bndO lo up)]) ?_ s_ s_ rfl rfl rfl
         refine r_ ?_ ?_
         · exact s_
         · exact ⟨rfl, rfl, .inr ⟨hin, _, _, rfl⟩⟩
       · have h4 : v ≥ 0 - up := by simpa using h4
         have hin : inOne lo up true v = true := by unfold inOne; rw [hor, decide_eq_true h3, decide_eq_true h4]; rfl
         refine w_ ?_
         refine r_ ?_ ?_
         · exact s_
         · exact ⟨rfl, rfl, .inl ⟨hin, rfl⟩⟩
     · have hin : inOne lo up true v = false := by unfold inOne; rw [hor, decide_eq_false h3]; rfl
       refine w_ ?_
       refine W_cond_true rfl ?_
       refine w_ ?_
       refine WL_call [] (errNew_tri _) rfl rfl rfl t_ t_ rfl rfl rfl rfl ?_; rintro _ _ _ ⟨rfl, rfl, et, ep, rfl⟩
       refine w_ ?_
       refine W_ren [0] (n := 1) (tm' := [(8, .ifc et (.v ep))]) (hp' := [(0, bndO lo up)]) ?_ s_ s_ rfl rfl rfl
       refine r_ ?_ ?_
       · exact s_
       · exact ⟨rfl, rfl, .inr ⟨hin, _, _, rfl⟩⟩
def bndA (z : RZ) (y : LY) : List AV := [slI y.y7 7 1 z.l7.length, .str [98, 121, 115, 101, 99, 111, 110, 100], .sl false 11 1 0 2 2, .bool false, slI y.y6 6 1 z.l6.length, .str [98, 121, 109, 105, 110, 117, 116, 101], .sl false 12 1 0 2 2, .bool false, slI y.y5 5 1 z.l5.length, .str [98, 121, 104, 111, 117, 114], .sl false 13 1 0 2 2, .bool false, slI y.y2 2 1 z.l2.length, .str [98, 121, 109, 111, 110, 116, 104, 100, 97, 121], .sl false 14 1 0 2 2, .bool true, slI y.y3 3 1 z.l3.length, .str [98, 121, 121, 101, 97, 114, 100, 97, 121], .sl false 15 1 0 2 2, .bool true, slI y.y4 4 1 z.l4.length, .str [98, 121, 119, 101, 101, 107, 110, 111], .sl false 16 1 0 2 2, .bool true, slI y.y1 1 1 z.l1.length, .str [98, 121, 109, 111, 110, 116, 104], .sl false 17 1 0 2 2, .bool false, slI y.y0 0 1 z.l0.length, .str [98, 121, 115, 101, 116, 112, 111, 115], .sl false 18 1 0 2 2, .bool true]
def bndH (z : RZ) (y : LY) : Hp := (10, .cells 145 (some 19) (cellsP z y 0)) :: (11, bndO 0 59) :: (12, bndO 0 59) :: (13, bndO 0 23) :: (14, bndO 1 31) :: (15, bndO 1 366) :: (16, bndO 1 53) :: (17, bndO 1 12) :: (18, bndO 1 366) :: (19, .cells 275 (some 32) (bndA z y)) :: lstHp 142 z 0
def rightR (z : RZ) : Rs := fun k hp r => k = 10 ∧ hp = lstHp 142 z 0 ∧ ((rightZ z = true ∧ r = .v .nilIface) ∨ (rightZ z = false ∧ ∃ t p, r = .ifc t (.v p)))
set_option maxHeartbeats 4000000 in
theorem validate_tri (z : RZ) (y : LY) (hy : LOK z y) (hL : LEN z) : Tri C0 154 10 (lstHp 142 z 0) [.agg (cellsP z y 0)] (rightR z) := by
 obtain ⟨y0, y1, y2, y3, y4, y5, y6, y7, y8, yd⟩ := hy
 obtain ⟨b0, b1, b2, b3, b4, b5, b6, b7, b8, bd⟩ := hL
 refine Tri.mk 93 [.tmp 2] Tryz.func154 rfl rfl rfl rfl cf154 ?_; intro w0 S T ρ0
 refine W_seq ?_
 refine W_region ?_
 refine WL_cut 2 ?_; (refine w_ ?_); refine nq_walk ?_
 refine WL_nil ?_
 refine then_normal ?_
 refine W_seq ?_
 refine W_region ?_
 refine WL_cut 32 ?_; (refine w_ ?_); refine nq_walk ?_
 refine WL_new (av := .sl false 19 4 0 8 8) (ob := .cells 275 (some 32) (bndA z y)) (by kernel_rfl) rfl rfl ?_
 refine w_ ?_
 refine W_loop ?_
 refine LP_renG [0, 1, 2, 3, 4, 5, 6, 7, 8, 9, 10, 11, 12, 13, 14, 15, 16, 17, 18, 19] (n := 20) (tm' := [(1, .ptr 10 0), (4, .fn (.func 199) [] []), (45, .sl false 19 4 0 8 8), (46, .int .i64 8), (47, .int .i64 0)]) (hp' := bndH z y) ?_ ?_ ?_ rfl rfl rfl
 rotate_left 1
 · exact s_
 · exact s_
 refine LP_round ?_; try dsimp only
 refine w_ ?_
 refine W_cond_true rfl ?_
 refine w_ ?_
 refine W_loop ?_; refine LP_ren [0, 1, 2, 3, 4, 5, 6, 7, 8, 9, 10, 11, 12, 13, 14, 15, 16, 17, 18, 19, 20] (LP_ind 21 (fun i : Nat => ([(1, .ptr 10 0), (4, .fn (.func 199) [] []), (45, .sl false 19 4 0 8 8), (46, .int .i64 8), (47, .int .i64 0), (6, .ptr 20 0), (52, slI y.y7 7 1 z.l7.length), (53, .int .i64 z.l7.length), (54, .int .i64 i)], (20, .cells 275 (some 4) [slI y.y7 7 1 z.l7.length, .str [98, 121, 115, 101, 99, 111, 110, 100], .sl false 11 1 0 2 2, .bool false]) :: bndH z y)) (fun i => z.l7.length - i) (fun i => i ≤ z.l7.length ∧ withinZ 0 59 false z.l7 = withinZ 0 59 false (z.l7.drop i)) 0 ?_ (⟨Nat.zero_le _, rfl⟩)) s_ s_ rfl rfl rfl
 rintro i ⟨hi, w0⟩ ih
 refine LP_round ?_; try dsimp only
 refine w_ ?_
 refine i_ ?_ ?_ <;> intro h
 · have h : i < z.l7.length := by omega
   rw [drop_getD h, withinZ] at w0
   refine w_ ?_
   rw [show 0 + (i : Int).toNat = i by omega]
   refine WL_call [11] (checkB_tri [98, 121, 115, 101, 99, 111, 110, 100] (z.l7.getD i 0) 0 59 (by omega) (by omega) false) rfl rfl rfl t_ t_ rfl rfl rfl rfl ?_; rintro _ _ _ ⟨rfl, rfl, hr⟩
   rcases hr with ⟨hin, rfl⟩ | ⟨hin, t, p, rfl⟩
   · rw [hin] at w0
     refine w_ ?_
     refine W_cond_false rfl ?_
     refine w_ ?_
     refine LP_ren [0, 1, 2, 3, 4, 5, 6, 7, 8, 9, 10, 11, 12, 13, 14, 15, 16, 17, 18, 19, 20] (ih (i + 1) (⟨by omega, w0⟩) (by omega)) s_ s_ rfl rfl rfl
   · rw [hin] at w0
     have w0 : withinZ 0 59 false z.l7 = false := w0
     have hr : rightZ z = false := by unfold rightZ; simp [w0]
     refine w_ ?_
     refine W_cond_true rfl ?_
     refine w_ ?_
     refine W_renG [0, 1, 2, 3, 4, 5, 6, 7, 8, 9] (n := 10) (tm' := [(2, .ifc t (.v p))]) (hp' := lstHp 142 z 0) ?_ s_ s_ rfl rfl rfl
     refine r_ ?_ ?_
     · exact s_
     · exact ⟨rfl, rfl, .inr ⟨hr, _, _, rfl⟩⟩
 have h : i = z.l7.length := by omega
 rw [h, List.drop_length] at w0
 have w0 : withinZ 0 59 false z.l7 = true := w0
 refine w_ ?_
 refine x_ ?_
 refine w_ ?_
 refine LP_renG [0, 1, 2, 3, 4, 5, 6, 7, 8, 9, 10, 11, 12, 13, 14, 15, 16, 17, 18, 19] (n := 20) (tm' := [(1, .ptr 10 0), (4, .fn (.func 199) [] []), (45, .sl false 19 4 0 8 8), (46, .int .i64 8), (47, .int .i64 1)]) (hp' := bndH z y) ?_ ?_ ?_ rfl rfl rfl
 rotate_left 1
 · exact s_
 · exact s_
 refine LP_round ?_; try dsimp only
 refine w_ ?_
 refine W_cond_true rfl ?_
 refine w_ ?_
 refine W_loop ?_; refine LP_ren [0, 1, 2, 3, 4, 5, 6, 7, 8, 9, 10, 11, 12, 13, 14, 15, 16, 17, 18, 19, 20] (LP_ind 21 (fun i : Nat => ([(1, .ptr 10 0), (4, .fn (.func 199) [] []), (45, .sl false 19 4 0 8 8), (46, .int .i64 8), (47, .int .i64 1), (6, .ptr 20 0), (52, slI y.y6 6 1 z.l6.length), (53, .int .i64 z.l6.length), (54, .int .i64 i)], (20, .cells 275 (some 4) [slI y.y6 6 1 z.l6.length, .str [98, 121, 109, 105, 110, 117, 116, 101], .sl false 12 1 0 2 2, .bool false]) :: bndH z y)) (fun i => z.l6.length - i) (fun i => i ≤ z.l6.length ∧ withinZ 0 59 false z.l6 = withinZ 0 59 false (z.l6.drop i)) 0 ?_ (⟨Nat.zero_le _, rfl⟩)) s_ s_ rfl rfl rfl
 rintro i ⟨hi, w1⟩ ih
 refine LP_round ?_; try dsimp only
 refine w_ ?_
 refine i_ ?_ ?_ <;> intro h
 · have h : i < z.l6.length := by omega
   rw [drop_getD h, withinZ] at w1
   refine w_ ?_
   rw [show 0 + (i : Int).toNat = i by omega]
   refine WL_call [12] (checkB_tri [98, 121, 109, 105, 110, 117, 116, 101] (z.l6.getD i 0) 0 59 (by omega) (by omega) false) rfl rfl rfl t_ t_ rfl rfl rfl rfl ?_; rintro _ _ _ ⟨rfl, rfl, hr⟩
   rcases hr with ⟨hin, rfl⟩ | ⟨hin, t, p, rfl⟩
   · rw [hin] at w1
     refine w_ ?_
     refine W_cond_false rfl ?_
     refine w_ ?_
     refine LP_ren [0, 1, 2, 3, 4, 5, 6, 7, 8, 9, 10, 11, 12, 13, 14, 15, 16, 17, 18, 19, 20] (ih (i + 1) (⟨by omega, w1⟩) (by omega)) s_ s_ rfl rfl rfl
   · rw [hin] at w1
     have w1 : withinZ 0 59 false z.l6 = false := w1
     have hr : rightZ z = false := by unfold rightZ; simp [w1]
     refine w_ ?_
     refine W_cond_true rfl ?_
     refine w_ ?_
     refine W_renG [0, 1, 2, 3, 4, 5, 6, 7, 8, 9] (n := 10) (tm' := [(2, .ifc t (.v p))]) (hp' := lstHp 142 z 0) ?_ s_ s_ rfl rfl rfl
     refine r_ ?_ ?_
     · exact s_
     · exact ⟨rfl, rfl, .inr ⟨hr, _, _, rfl⟩⟩
 have h : i = z.l6.length := by omega
 rw [h, List.drop_length] at w1
 have w1 : withinZ 0 59 false z.l6 = true := w1
 refine w_ ?_
 refine x_ ?_
 refine w_ ?_
 refine LP_renG [0, 1, 2, 3, 4, 5, 6, 7, 8, 9, 10, 11, 12, 13, 14, 15, 16, 17, 18, 19] (n := 20) (tm' := [(1, .ptr 10 0), (4, .fn (.func 199) [] []), (45, .sl false 19 4 0 8 8), (46, .int .i64 8), (47, .int .i64 2)]) (hp' := bndH z y) ?_ ?_ ?_ rfl rfl rfl
 rotate_left 1
 · exact s_
 · exact s_
 refine LP_round ?_; try dsimp only
 refine w_ ?_
 refine W_cond_true rfl ?_
 refine w_ ?_
 refine W_loop ?_; refine LP_ren [0, 1, 2, 3, 4, 5, 6, 7, 8, 9, 10, 11, 12, 13, 14, 15, 16, 17, 18, 19, 20] (LP_ind 21 (fun i : Nat => ([(1, .ptr 10 0), (4, .fn (.func 199) [] []), (45, .sl false 19 4 0 8 8), (46, .int .i64 8), (47, .int .i64 2), (6, .ptr 20 0), (52, slI y.y5 5 1 z.l5.length), (53, .int .i64 z.l5.length), (54, .int .i64 i)], (20, .cells 275 (some 4) [slI y.y5 5 1 z.l5.length, .str [98, 121, 104, 111, 117, 114], .sl false 13 1 0 2 2, .bool false]) :: bndH z y)) (fun i => z.l5.length - i) (fun i => i ≤ z.l5.length ∧ withinZ 0 23 false z.l5 = withinZ 0 23 false (z.l5.drop i)) 0 ?_ (⟨Nat.zero_le _, rfl⟩)) s_ s_ rfl rfl rfl
 rintro i ⟨hi, w2⟩ ih
 refine LP_round ?_; try dsimp only
 refine w_ ?_
 refine i_ ?_ ?_ <;> intro h
 · have h : i < z.l5.length := by omega
   rw [drop_getD h, withinZ] at w2
   refine w_ ?_
   rw [show 0 + (i : Int).toNat = i by omega]
   refine WL_call [13] (checkB_tri [98, 121, 104, 111, 117, 114] (z.l5.getD i 0) 0 23 (by omega) (by omega) false) rfl rfl rfl t_ t_ rfl rfl rfl rfl ?_; rintro _ _ _ ⟨rfl, rfl, hr⟩
   rcases hr with ⟨hin, rfl⟩ | ⟨hin, t, p, rfl⟩
   · rw [hin] at w2
     refine w_ ?_
     refine W_cond_false rfl ?_
     refine w_ ?_
     refine LP_ren [0, 1, 2, 3, 4, 5, 6, 7, 8, 9, 10, 11, 12, 13, 14, 15, 16, 17, 18, 19, 20] (ih (i + 1) (⟨by omega, w2⟩) (by omega)) s_ s_ rfl rfl rfl
   · rw [hin] at w2
     have w2 : withinZ 0 23 false z.l5 = false := w2
     have hr : rightZ z = false := by unfold rightZ; simp [w2]
     refine w_ ?_
     refine W_cond_true rfl ?_
     refine w_ ?_
     refine W_renG [0, 1, 2, 3, 4, 5, 6, 7, 8, 9] (n := 10) (tm' := [(2, .ifc t (.v p))]) (hp' := lstHp 142 z 0) ?_ s_ s_ rfl rfl rfl
     refine r_ ?_ ?_
     · exact s_
     · exact ⟨rfl, rfl, .inr ⟨hr, _, _, rfl⟩⟩
 have h : i = z.l5.length := by omega
 rw [h, List.drop_length] at w2
 have w2 : withinZ 0 23 false z.l5 = true := w2
 refine w_ ?_
 refine x_ ?_
 refine w_ ?_
 refine LP_renG [0, 1, 2, 3, 4, 5, 6, 7, 8, 9, 10, 11, 12, 13, 14, 15, 16, 17, 18, 19] (n := 20) (tm' := [(1, .ptr 10 0), (4, .fn (.func 199) [] []), (45, .sl false 19 4 0 8 8), (46, .int .i64 8), (47, .int .i64 3)]) (hp' := bndH z y) ?_ ?_ ?_ rfl rfl rfl
 rotate_left 1
 · exact s_
 · exact s_
 refine LP_round ?_; try dsimp only
 refine w_ ?_
 refine W_cond_true rfl ?_
 refine w_ ?_
 refine W_loop ?_; refine LP_ren [0, 1, 2, 3, 4, 5, 6, 7, 8, 9, 10, 11, 12, 13, 14, 15, 16, 17, 18, 19, 20] (LP_ind 21 (fun i : Nat => ([(1, .ptr 10 0), (4, .fn (.func 199) [] []), (45, .sl false 19 4 0 8 8), (46, .int .i64 8), (47, .int .i64 3), (6, .ptr 20 0), (52, slI y.y2 2 1 z.l2.length), (53, .int .i64 z.l2.length), (54, .int .i64 i)], (20, .cells 275 (some 4) [slI y.y2 2 1 z.l2.length, .str [98, 121, 109, 111, 110, 116, 104, 100, 97, 121], .sl false 14 1 0 2 2, .bool true]) :: bndH z y)) (fun i => z.l2.length - i) (fun i => i ≤ z.l2.length ∧ withinZ 1 31 true z.l2 = withinZ 1 31 true (z.l2.drop i)) 0 ?_ (⟨Nat.zero_le _, rfl⟩)) s_ s_ rfl rfl rfl
 rintro i ⟨hi, w3⟩ ih
 refine LP_round ?_; try dsimp only
 refine w_ ?_
 refine i_ ?_ ?_ <;> intro h
 · have h : i < z.l2.length := by omega
   rw [drop_getD h, withinZ] at w3
   refine w_ ?_
   rw [show 0 + (i : Int).toNat = i by omega]
   refine WL_call [14] (checkB_tri [98, 121, 109, 111, 110, 116, 104, 100, 97, 121] (z.l2.getD i 0) 1 31 (by omega) (by omega) true) rfl rfl rfl t_ t_ rfl rfl rfl rfl ?_; rintro _ _ _ ⟨rfl, rfl, hr⟩
   rcases hr with ⟨hin, rfl⟩ | ⟨hin, t, p, rfl⟩
   · rw [hin] at w3
     refine w_ ?_
     refine W_cond_false rfl ?_
     refine w_ ?_
     refine LP_ren [0, 1, 2, 3, 4, 5, 6, 7, 8, 9, 10, 11, 12, 13, 14, 15, 16, 17, 18, 19, 20] (ih (i + 1) (⟨by omega, w3⟩) (by omega)) s_ s_ rfl rfl rfl
   · rw [hin] at w3
     have w3 : withinZ 1 31 true z.l2 = false := w3
     have hr : rightZ z = false := by unfold rightZ; simp [w3]
     refine w_ ?_
     refine W_cond_true rfl ?_
     refine w_ ?_
     refine W_renG [0, 1, 2, 3, 4, 5, 6, 7, 8, 9] (n := 10) (tm' := [(2, .ifc t (.v p))]) (hp' := lstHp 142 z 0) ?_ s_ s_ rfl rfl rfl
     refine r_ ?_ ?_
     · exact s_
     · exact ⟨rfl, rfl, .inr ⟨hr, _, _, rfl⟩⟩
 have h : i = z.l2.length := by omega
 rw [h, List.drop_length] at w3
 have w3 : withinZ 1 31 true z.l2 = true := w3
 refine w_ ?_
 refine x_ ?_
 refine w_ ?_
 refine LP_renG [0, 1, 2, 3, 4, 5, 6, 7, 8, 9, 10, 11, 12, 13, 14, 15, 16, 17, 18, 19] (n := 20) (tm' := [(1, .ptr 10 0), (4, .fn (.func 199) [] []), (45, .sl false 19 4 0 8 8), (46, .int .i64 8), (47, .int .i64 4)]) (hp' := bndH z y) ?_ ?_ ?_ rfl rfl rfl
 rotate_left 1
 · exact s_
 · exact s_
 refine LP_round ?_; try dsimp only
 refine w_ ?_
 refine W_cond_true rfl ?_
 refine w_ ?_
 refine W_loop ?_; refine LP_ren [0, 1, 2, 3, 4, 5, 6, 7, 8, 9, 10, 11, 12, 13, 14, 15, 16, 17, 18, 19, 20] (LP_ind 21 (fun i : Nat => ([(1, .ptr 10 0), (4, .fn (.func 199) [] []), (45, .sl false 19 4 0 8 8), (46, .int .i64 8), (47, .int .i64 4), (6, .ptr 20 0), (52, slI y.y3 3 1 z.l3.length), (53, .int .i64 z.l3.length), (54, .int .i64 i)], (20, .cells 275 (some 4) [slI y.y3 3 1 z.l3.length, .str [98, 121, 121, 101, 97, 114, 100, 97, 121], .sl false 15 1 0 2 2, .bool true]) :: bndH z y)) (fun i => z.l3.length - i) (fun i => i ≤ z.l3.length ∧ withinZ 1 366 true z.l3 = withinZ 1 366 true (z.l3.drop i)) 0 ?_ (⟨Nat.zero_le _, rfl⟩)) s_ s_ rfl rfl rfl
 rintro i ⟨hi, w4⟩ ih
 refine LP_round ?_; try dsimp only
 refine w_ ?_
 refine i_ ?_ ?_ <;> intro h
 · have h : i < z.l3.length := by omega
   rw [drop_getD h, withinZ] at w4
   refine w_ ?_
   rw [show 0 + (i : Int).toNat = i by omega]
   refine WL_call [15] (checkB_tri [98, 121, 121, 101, 97, 114, 100, 97, 121] (z.l3.getD i 0) 1 366 (by omega) (by omega) true) rfl rfl rfl t_ t_ rfl rfl rfl rfl ?_; rintro _ _ _ ⟨rfl, rfl, hr⟩
   rcases hr with ⟨hin, rfl⟩ | ⟨hin, t, p, rfl⟩
   · rw [hin] at w4
     refine w_ ?_
     refine W_cond_false rfl ?_
     refine w_ ?_
     refine LP_ren [0, 1, 2, 3, 4, 5, 6, 7, 8, 9, 10, 11, 12, 13, 14, 15, 16, 17, 18, 19, 20] (ih (i + 1) (⟨by omega, w4⟩) (by omega)) s_ s_ rfl rfl rfl
   · rw [hin] at w4
     have w4 : withinZ 1 366 true z.l3 = false := w4
     have hr : rightZ z = false := by unfold rightZ; simp [w4]
     refine w_ ?_
     refine W_cond_true rfl ?_
     refine w_ ?_
     refine W_renG [0, 1, 2, 3, 4, 5, 6, 7, 8, 9] (n := 10) (tm' := [(2, .ifc t (.v p))]) (hp' := lstHp 142 z 0) ?_ s_ s_ rfl rfl rfl
     refine r_ ?_ ?_
     · exact s_
     · exact ⟨rfl, rfl, .inr ⟨hr, _, _, rfl⟩⟩
 have h : i = z.l3.length := by omega
 rw [h, List.drop_length] at w4
 have w4 : withinZ 1 366 true z.l3 = true := w4
 refine w_ ?_
 refine x_ ?_
 refine w_ ?_
 refine LP_renG [0, 1, 2, 3, 4, 5, 6, 7, 8, 9, 10, 11, 12, 13, 14, 15, 16, 17, 18, 19] (n := 20) (tm' := [(1, .ptr 10 0), (4, .fn (.func 199) [] []), (45, .sl false 19 4 0 8 8), (46, .int .i64 8), (47, .int .i64 5)]) (hp' := bndH z y) ?_ ?_ ?_ rfl rfl rfl
 rotate_left 1
 · exact s_
 · exact s_
 refine LP_round ?_; try dsimp only
 refine w_ ?_
 refine W_cond_true rfl ?_
 refine w_ ?_
 refine W_loop ?_; refine LP_ren [0, 1, 2, 3, 4, 5, 6, 7, 8, 9, 10, 11, 12, 13, 14, 15, 16, 17, 18, 19, 20] (LP_ind 21 (fun i : Nat => ([(1, .ptr 10 0), (4, .fn (.func 199) [] []), (45, .sl false 19 4 0 8 8), (46, .int .i64 8), (47, .int .i64 5), (6, .ptr 20 0), (52, slI y.y4 4 1 z.l4.length), (53, .int .i64 z.l4.length), (54, .int .i64 i)], (20, .cells 275 (some 4) [slI y.y4 4 1 z.l4.length, .str [98, 121, 119, 101, 101, 107, 110, 111], .sl false 16 1 0 2 2, .bool true]) :: bndH z y)) (fun i => z.l4.length - i) (fun i => i ≤ z.l4.length ∧ withinZ 1 53 true z.l4 = withinZ 1 53 true (z.l4.drop i)) 0 ?_ (⟨Nat.zero_le _, rfl⟩)) s_ s_ rfl rfl rfl
 rintro i ⟨hi, w5⟩ ih
 refine LP_round ?_; try dsimp only
 refine w_ ?_
 refine i_ ?_ ?_ <;> intro h
 · have h : i < z.l4.length := by omega
   rw [drop_getD h, withinZ] at w5
   refine w_ ?_
   rw [show 0 + (i : Int).toNat = i by omega]
   refine WL_call [16] (checkB_tri [98, 121, 119, 101, 101, 107, 110, 111] (z.l4.getD i 0) 1 53 (by omega) (by omega) true) rfl rfl rfl t_ t_ rfl rfl rfl rfl ?_; rintro _ _ _ ⟨rfl, rfl, hr⟩
   rcases hr with ⟨hin, rfl⟩ | ⟨hin, t, p, rfl⟩
   · rw [hin] at w5
     refine w_ ?_
     refine W_cond_false rfl ?_
     refine w_ ?_
     refine LP_ren [0, 1, 2, 3, 4, 5, 6, 7, 8, 9, 10, 11, 12, 13, 14, 15, 16, 17, 18, 19, 20] (ih (i + 1) (⟨by omega, w5⟩) (by omega)) s_ s_ rfl rfl rfl
   · rw [hin] at w5
     have w5 : withinZ 1 53 true z.l4 = false := w5
     have hr : rightZ z = false := by unfold rightZ; simp [w5]
     refine w_ ?_
     refine W_cond_true rfl ?_
     refine w_ ?_
     refine W_renG [0, 1, 2, 3, 4, 5, 6, 7, 8, 9] (n := 10) (tm' := [(2, .ifc t (.v p))]) (hp' := lstHp 142 z 0) ?_ s_ s_ rfl rfl rfl
     refine r_ ?_ ?_
     · exact s_
     · exact ⟨rfl, rfl, .inr ⟨hr, _, _, rfl⟩⟩
 have h : i = z.l4.length := by omega
 rw [h, List.drop_length] at w5
 have w5 : withinZ 1 53 true z.l4 = true := w5
 refine w_ ?_
 refine x_ ?_
 refine w_ ?_
 refine LP_renG [0, 1, 2, 3, 4, 5, 6, 7, 8, 9, 10, 11, 12, 13, 14, 15, 16, 17, 18, 19] (n := 20) (tm' := [(1, .ptr 10 0), (4, .fn (.func 199) [] []), (45, .sl false 19 4 0 8 8), (46, .int .i64 8), (47, .int .i64 6)]) (hp' := bndH z y) ?_ ?_ ?_ rfl rfl rfl
 rotate_left 1
 · exact s_
 · exact s_
 refine LP_round ?_; try dsimp only
 refine w_ ?_
 refine W_cond_true rfl ?_
 refine w_ ?_
 refine W_loop ?_; refine LP_ren [0, 1, 2, 3, 4, 5, 6, 7, 8, 9, 10, 11, 12, 13, 14, 15, 16, 17, 18, 19, 20] (LP_ind 21 (fun i : Nat => ([(1, .ptr 10 0), (4, .fn (.func 199) [] []), (45, .sl false 19 4 0 8 8), (46, .int .i64 8), (47, .int .i64 6), (6, .ptr 20 0), (52, slI y.y1 1 1 z.l1.length), (53, .int .i64 z.l1.length), (54, .int .i64 i)], (20, .cells 275 (some 4) [slI y.y1 1 1 z.l1.length, .str [98, 121, 109, 111, 110, 116, 104], .sl false 17 1 0 2 2, .bool false]) :: bndH z y)) (fun i => z.l1.length - i) (fun i => i ≤ z.l1.length ∧ withinZ 1 12 false z.l1 = withinZ 1 12 false (z.l1.drop i)) 0 ?_ (⟨Nat.zero_le _, rfl⟩)) s_ s_ rfl rfl rfl
 rintro i ⟨hi, w6⟩ ih
 refine LP_round ?_; try dsimp only
 refine w_ ?_
 refine i_ ?_ ?_ <;> intro h
 · have h : i < z.l1.length := by omega
   rw [drop_getD h, withinZ] at w6
   refine w_ ?_
   rw [show 0 + (i : Int).toNat = i by omega]
   refine WL_call [17] (checkB_tri [98, 121, 109, 111, 110, 116, 104] (z.l1.getD i 0) 1 12 (by omega) (by omega) false) rfl rfl rfl t_ t_ rfl rfl rfl rfl ?_; rintro _ _ _ ⟨rfl, rfl, hr⟩
   rcases hr with ⟨hin, rfl⟩ | ⟨hin, t, p, rfl⟩
   · rw [hin] at w6
     refine w_ ?_
     refine W_cond_false rfl ?_
     refine w_ ?_
     refine LP_ren [0, 1, 2, 3, 4, 5, 6, 7, 8, 9, 10, 11, 12, 13, 14, 15, 16, 17, 18, 19, 20] (ih (i + 1) (⟨by omega, w6⟩) (by omega)) s_ s_ rfl rfl rfl
   · rw [hin] at w6
     have w6 : withinZ 1 12 false z.l1 = false := w6
     have hr : rightZ z = false := by unfold rightZ; simp [w6]
     refine w_ ?_
     refine W_cond_true rfl ?_
     refine w_ ?_
     refine W_renG [0, 1, 2, 3, 4, 5, 6, 7, 8, 9] (n := 10) (tm' := [(2, .ifc t (.v p))]) (hp' := lstHp 142 z 0) ?_ s_ s_ rfl rfl rfl
     refine r_ ?_ ?_
     · exact s_
     · exact ⟨rfl, rfl, .inr ⟨hr, _, _, rfl⟩⟩
 have h : i = z.l1.length := by omega
 rw [h, List.drop_length] at w6
 have w6 : withinZ 1 12 false z.l1 = true := w6
 refine w_ ?_
 refine x_ ?_
 refine w_ ?_
 refine LP_renG [0, 1, 2, 3, 4, 5, 6, 7, 8, 9, 10, 11, 12, 13, 14, 15, 16, 17, 18, 19] (n := 20) (tm' := [(1, .ptr 10 0), (4, .fn (.func 199) [] []), (45, .sl false 19 4 0 8 8), (46, .int .i64 8), (47, .int .i64 7)]) (hp' := bndH z y) ?_ ?_ ?_ rfl rfl rfl
 rotate_left 1
 · exact s_
 · exact s_
 refine LP_round ?_; try dsimp only
 refine w_ ?_
 refine W_cond_true rfl ?_
 refine w_ ?_
 refine W_loop ?_; refine LP_ren [0, 1, 2, 3, 4, 5, 6, 7, 8, 9, 10, 11, 12, 13, 14, 15, 16, 17, 18, 19, 20] (LP_ind 21 (fun i : Nat => ([(1, .ptr 10 0), (4, .fn (.func 199) [] []), (45, .sl false 19 4 0 8 8), (46, .int .i64 8), (47, .int .i64 7), (6, .ptr 20 0), (52, slI y.y0 0 1 z.l0.length), (53, .int .i64 z.l0.length), (54, .int .i64 i)], (20, .cells 275 (some 4) [slI y.y0 0 1 z.l0.length, .str [98, 121, 115, 101, 116, 112, 111, 115], .sl false 18 1 0 2 2, .bool true]) :: bndH z y)) (fun i => z.l0.length - i) (fun i => i ≤ z.l0.length ∧ withinZ 1 366 true z.l0 = withinZ 1 366 true (z.l0.drop i)) 0 ?_ (⟨Nat.zero_le _, rfl⟩)) s_ s_ rfl rfl rfl
 rintro i ⟨hi, w7⟩ ih
 refine LP_round ?_; try dsimp only
 refine w_ ?_
 refine i_ ?_ ?_ <;> intro h
 · have h : i < z.l0.length := by omega
   rw [drop_getD h, withinZ] at w7
   refine w_ ?_
   rw [show 0 + (i : Int).toNat = i by omega]
   refine WL_call [18] (checkB_tri [98, 121, 115, 101, 116, 112, 111, 115] (z.l0.getD i 0) 1 366 (by omega) (by omega) true) rfl rfl rfl t_ t_ rfl rfl rfl rfl ?_; rintro _ _ _ ⟨rfl, rfl, hr⟩
   rcases hr with ⟨hin, rfl⟩ | ⟨hin, t, p, rfl⟩
   · rw [hin] at w7
     refine w_ ?_
     refine W_cond_false rfl ?_
     refine w_ ?_
     refine LP_ren [0, 1, 2, 3, 4, 5, 6, 7, 8, 9, 10, 11, 12, 13, 14, 15, 16, 17, 18, 19, 20] (ih (i + 1) (⟨by omega, w7⟩) (by omega)) s_ s_ rfl rfl rfl
   · rw [hin] at w7
     have w7 : withinZ 1 366 true z.l0 = false := w7
     have hr : rightZ z = false := by unfold rightZ; simp [w7]
     refine w_ ?_
     refine W_cond_true rfl ?_
     refine w_ ?_
     refine W_renG [0, 1, 2, 3, 4, 5, 6, 7, 8, 9] (n := 10) (tm' := [(2, .ifc t (.v p))]) (hp' := lstHp 142 z 0) ?_ s_ s_ rfl rfl rfl
     refine r_ ?_ ?_
     · exact s_
     · exact ⟨rfl, rfl, .inr ⟨hr, _, _, rfl⟩⟩
 have h : i = z.l0.length := by omega
 rw [h, List.drop_length] at w7
 have w7 : withinZ 1 366 true z.l0 = true := w7
 refine w_ ?_
 refine x_ ?_
 refine w_ ?_
 refine LP_renG [0, 1, 2, 3, 4, 5, 6, 7, 8, 9, 10, 11, 12, 13, 14, 15, 16, 17, 18, 19] (n := 20) (tm' := [(1, .ptr 10 0), (4, .fn (.func 199) [] []), (45, .sl false 19 4 0 8 8), (46, .int .i64 8), (47, .int .i64 8)]) (hp' := bndH z y) ?_ ?_ ?_ rfl rfl rfl
 rotate_left 1
 · exact s_
 · exact s_
 refine LP_round ?_; try dsimp only
 refine w_ ?_
 refine W_cond_false rfl ?_
 refine w_ ?_
 refine x_ ?_
 refine w_ ?_
 refine W_loop ?_; refine LP_ren [0, 1, 2, 3, 4, 5, 6, 7, 8, 9, 10] (LP_ind 11 (fun i : Nat => ([(1, .ptr 10 0), (73, .sl y.yd.1 9 2 0 z.dd.length y.yd.2), (74, .int .i64 z.dd.length), (75, .int .i64 i)], (10, .cells 145 (some 19) (cellsP z y 0)) :: lstHp 142 z 0)) (fun i => z.dd.length - i) (fun i => i ≤ z.dd.length ∧ daysOK z.dd = daysOK (z.dd.drop i)) 0 ?_ (⟨Nat.zero_le _, rfl⟩)) s_ s_ rfl rfl rfl
 rintro i ⟨hi, hc⟩ ih
 refine LP_round ?_; try dsimp only
 refine w_ ?_
 refine i_ ?_ ?_ <;> intro h
 · have h : i < z.dd.length := by omega
   have hml : (prs2 z.dd).length = z.dd.length := by simp
   rw [drop_getP h, daysOK] at hc
   refine w_ ?_
   rw [show 0 + (i : Int).toNat = i by omega]
   refine w_ ?_
   rw [prs2_get h]
   refine w_ ?_
   refine j_ 82 ?_ ?_ <;> intro h1
   · have h1 : (z.dd.getD i (0, 0)).2 > 53 := h1
     have hr : rightZ z = false := by unfold rightZ; rw [hc, decide_eq_true h1]; simp
     refine w_ ?_
     refine W_cond_true rfl ?_
     refine w_ ?_
     refine WL_call [] (errNew_tri _) rfl rfl rfl t_ t_ rfl rfl rfl rfl ?_; rintro _ _ _ ⟨rfl, rfl, t, p, rfl⟩
     refine w_ ?_
     refine W_renG [0, 1, 2, 3, 4, 5, 6, 7, 8, 9] (n := 10) (tm' := [(2, .ifc t (.v p))]) (hp' := lstHp 142 z 0) ?_ s_ s_ rfl rfl rfl
     refine r_ ?_ ?_
     · exact s_
     · exact ⟨rfl, rfl, .inr ⟨hr, _, _, rfl⟩⟩
   have h1 : ¬ (z.dd.getD i (0, 0)).2 > 53 := h1
   refine w_ ?_
   refine i_ ?_ ?_ <;> intro h2
   · have h2 : (z.dd.getD i (0, 0)).2 < -53 := h2
     have hr : rightZ z = false := by unfold rightZ; rw [hc, decide_eq_false h1, decide_eq_true h2]; rfl
     refine w_ ?_
     refine WL_call [] (errNew_tri _) rfl rfl rfl t_ t_ rfl rfl rfl rfl ?_; rintro _ _ _ ⟨rfl, rfl, t, p, rfl⟩
     refine w_ ?_
     refine W_renG [0, 1, 2, 3, 4, 5, 6, 7, 8, 9] (n := 10) (tm' := [(2, .ifc t (.v p))]) (hp' := lstHp 142 z 0) ?_ s_ s_ rfl rfl rfl
     refine r_ ?_ ?_
     · exact s_
     · exact ⟨rfl, rfl, .inr ⟨hr, _, _, rfl⟩⟩
   have h2 : ¬ (z.dd.getD i (0, 0)).2 < -53 := h2
   rw [decide_eq_false h1, decide_eq_false h2] at hc
   have hc : daysOK z.dd = daysOK (z.dd.drop (i + 1)) := hc
   refine w_ ?_
   refine LP_ren [0, 1, 2, 3, 4, 5, 6, 7, 8, 9, 10] (ih (i + 1) (⟨by omega, hc⟩) (by omega)) s_ s_ rfl rfl rfl
 have h : i = z.dd.length := by omega
 rw [h, List.drop_length] at hc
 have hc : daysOK z.dd = true := hc
 refine w_ ?_
 refine x_ ?_
 refine w_ ?_
 refine i_ ?_ ?_ <;> intro h0
 · have h0 : ¬ z.iv ≥ 0 := by omega
   have hr : rightZ z = false := by unfold rightZ; rw [decide_eq_false h0]; simp
   refine w_ ?_
   refine WL_call [] (errNew_tri _) rfl rfl rfl t_ t_ rfl rfl rfl rfl ?_; rintro _ _ _ ⟨rfl, rfl, t, p, rfl⟩
   refine w_ ?_
   refine W_renG [0, 1, 2, 3, 4, 5, 6, 7, 8, 9] (n := 10) (tm' := [(2, .ifc t (.v p))]) (hp' := lstHp 142 z 0) ?_ s_ s_ rfl rfl rfl
   refine r_ ?_ ?_
   · exact s_
   · exact ⟨rfl, rfl, .inr ⟨hr, _, _, rfl⟩⟩
 · have h0 : z.iv ≥ 0 := by omega
   have hr : rightZ z = true := by unfold rightZ; rw [hc, decide_eq_true h0, w0, w1, w2, w3, w4, w5, w6, w7]; rfl
   refine w_ ?_
   refine W_renG [0, 1, 2, 3, 4, 5, 6, 7, 8, 9] (n := 10) (tm' := [(2, .v .nilIface)]) (hp' := lstHp 142 z 0) ?_ s_ s_ rfl rfl rfl
   refine r_ ?_ ?_
   · exact s_
   · exact ⟨rfl, rfl, .inl ⟨hr, rfl⟩⟩
end Go.Eng
