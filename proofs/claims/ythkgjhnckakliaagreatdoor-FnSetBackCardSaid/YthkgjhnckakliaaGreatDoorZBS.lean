/- A part of the proof that the rows statement FnSetBack holds; no conditions. -/
import Derived.Test.YthkgjhnckakliaaGreatDoorZBR
set_option linter.unusedVariables false
set_option linter.unusedSimpArgs false
set_option linter.unusedSectionVars false
namespace Go.Eng
open Go.Proofs
attribute [local irreducible] W WL LP Then InBl Tri WS
def psX (s : SZ) (b : Nat) : Rs := fun k hp r => ∃ X y, sameS X (X.z.un != 0) (stS s) (s.z.un != 0) ∧ ZOK X ∧ SOK X y ∧ k = b + 13 ∧ hp = (b + 12, .cells 40 (some 22) (cellsT X y b)) :: setHp 110 X b ∧ r = .tup [.agg (cellsT X y b), .bool true]
theorem text_asc {s : SZ} (F : SF s) : asc (Lib.join (linesT s) [10]) := by
 intro b hb
 rcases mem_join hb with rfl | ⟨x, hx, hb⟩
 · decide
 · obtain ⟨k, v, rfl, h1, h2, h3, h4, h5, h6⟩ := lines_mem F hx
   have := LB_line (PL_LB h1) h3 b hb
   omega
set_option maxRecDepth 8192 in
set_option maxHeartbeats 16000000 in
theorem setBack_tri (s : SZ) (hs hu : Bool) (y : SY) (hy : SOK s y) (A : ARG s) : Tri C0 3 12 (setHp 95 s 0) [.agg (cellsH s hs hu y 0)] (fun k hp r => k = 12 ∧ hp = setHp 95 s 0 ∧ r = .bool true) := by
 refine Tri.keep (Tri.mk 82 [.tmp 2] Tryz.func3 rfl rfl rfl rfl cf3 ?_) t_ (fun r h => q_); intro w0 S T ρ0
 refine v_ ?_
 refine WL_callR [0, 1, 2, 3, 4, 5, 6, 7, 8, 9, 10, 11] (fits2_tri s hs hu y) rfl rfl rfl t_ t_ rfl rfl rfl rfl ?_; rintro _ ⟨b,hb,rfl⟩
 cases b with
 | false =>
   refine v_ ?_
   refine W_cond_true rfl ?_
   refine v_ ?_
   refine k_ ?_
   rfl
 | true =>
 refine v_ ?_
 refine W_cond_false rfl ?_
 refine v_ ?_
 refine WL_callR [0, 1, 2, 3, 4, 5, 6, 7, 8, 9, 10, 11] (textSet_tri s hs hu y hy (hb rfl)) rfl rfl rfl t_ t_ rfl rfl rfl rfl ?_; rintro _ ⟨b2,hb2,rfl⟩
 cases b2 with
 | false =>
   refine v_ ?_
   refine W_cond_true rfl ?_
   refine v_ ?_
   refine WL_callR [] (awake0) rfl rfl rfl t_ t_ rfl rfl rfl rfl ?_; rintro _ rfl
   refine v_ ?_
   refine k_ ?_
   rfl
 | true =>
 have T := hb2 rfl
 have G := T.good A
 obtain ⟨F, F2⟩ := SF_of T G
 obtain rfl := G.hs
 obtain rfl := G.hu
 refine v_ ?_
 refine WL_callR [0, 1, 2, 3, 4, 5, 6, 7, 8, 9] (easter_tri s.z y.y hy.1 (LEN_of G.f)) rfl rfl rfl t_ t_ rfl rfl rfl rfl ?_; rintro _ ⟨b3,rfl⟩
 cases b3 with
 | false =>
   refine v_ ?_
   refine W_cond_true rfl ?_
   refine v_ ?_
   refine WL_callR [] (awake0) rfl rfl rfl t_ t_ rfl rfl rfl rfl ?_; rintro _ rfl
   refine v_ ?_
   refine k_ ?_
   rfl
 | true =>
 refine v_ ?_
 refine WL_call [0, 1, 2, 3, 4, 5, 6, 7, 8, 9, 10, 11] (setLinesS_tri s y hy F F2) rfl rfl rfl t_ t_ rfl rfl rfl rfl ?_; rintro _ _ _ ⟨⟨q1,q2⟩, rfl, rfl, rfl, hq⟩
 refine v_ ?_
 refine i_ ?_ ?_ <;> intro h0
 · refine v_ ?_
   refine WL_callR [] (awake0) rfl rfl rfl t_ t_ rfl rfl rfl rfl ?_; rintro _ rfl
   refine v_ ?_
   refine k_ ?_
   rfl
 have h0 : linesT (stS s) ≠ [] := by
  intro e
  rw [e] at hq
  apply h0
  show (q2 : Int) = 0
  rw [show q2 = 0 from hq]; rfl
 clear hq
 refine v_ ?_
 have hO : linesZ true SZ.zero (linesT (stS s)) = (backZ (stS s), 0) := lines_all F2 G.ru
 have hLI := lines_LIM F2 (BND_of G.f (n := 0) (by unfold DateR; omega))
 have hZB := ZOK_back T G
 have GS := SETF_of T G
 have hsy : ∀ q : Bool × Nat, s.z.dd.length ≤ q.2 → SOK s { y with y := { y.y with yd := q } } := fun q hq => ⟨LOKd hy.1 hq, hy.2⟩
 refine WL_call [0, 1, 2, 3, 4, 5, 6, 7, 8, 9, 10, 11] (toSet_tri s y hy (LEN_of G.f)) rfl rfl rfl t_ t_ rfl rfl rfl rfl ?_; rintro _ _ _ ⟨qa, rfl, rfl, rfl, hqa⟩
 refine w_ ?_
 refine WL_call [14, 15, 16, 17, 18, 19, 20, 21, 22, 23, 24, 25] (setLinesI_tri s _ (hsy qa hqa) GS F2) rfl rfl rfl t_ t_ rfl rfl rfl rfl ?_; rintro _ _ _ ⟨⟨ya,ma⟩, rfl, rfl, rfl, hG⟩
 refine w_ ?_
 refine WL_call [0, 1, 2, 3, 4, 5, 6, 7, 8, 9, 10, 11] (toSet_tri s y hy (LEN_of G.f)) rfl rfl rfl t_ t_ rfl rfl rfl rfl ?_; rintro _ _ _ ⟨qb, rfl, rfl, rfl, hqb⟩
 refine w_ ?_
 refine WL_call [27, 28, 29, 30, 31, 32, 33, 34, 35, 36, 37, 38] (setText_tri s _ (hsy qb hqb) GS F2) rfl rfl rfl t_ t_ rfl rfl rfl rfl ?_; rintro _ _ _ ⟨_, rfl, rfl, rfl, _⟩
 refine w_ ?_
 have TP := parseLinesP_tri 9 ya.1 ya.2 (linesT (stS s)) hG.cap hLI (by rw [hO]; exact fun h => by cases h) (fun _ => by rw [hO]; exact hZB)
 rw [hO] at TP
 refine WL_imp (Imp_conv 26 (.strs 9 none (linesT (stS s))) rfl rfl rfl rfl (.inl rfl) ⟨[], by simp [AO.avs, AO.ren]⟩) ?_
 have TP := Tri.mono TP (R' := psX s 1) (by
  rintro k hp r (⟨_, st2, y2, hy2, h1, h2, h3⟩ | ⟨p1, _⟩)
  · exact ⟨_, y2, same_back T G st2, ZOK_told hZB st2, hy2, h1, h2, h3⟩
  · cases p1)
 refine WL_call [26] TP rfl rfl rfl s_ s_ rfl rfl rfl rfl ?_
 rintro _ _ _ ⟨X, y2, hX, zX, hy2, rfl, rfl, rfl⟩
 refine w_ ?_
 obtain ⟨x1, x2, x3⟩ := text_back F2 h0
 have TQ := parseSetP_tri (Lib.join (linesT (stS s)) [10]) (linesT (stS s)) (text_asc F2) (by have := text_len F2; omega) x1 x2 x3 hLI (by rw [hO]) (by rw [hO]; exact hZB)
 rw [hO] at TQ
 have TQ := Tri.mono TQ (R' := psX s 0) (by
  rintro k hp r ⟨st2, y2, hy2, h1, h2, h3⟩
  exact ⟨_, y2, same_back T G st2, ZOK_told hZB st2, hy2, h1, h2, h3⟩)
 refine WL_call [] TQ rfl rfl rfl s_ s_ rfl rfl rfl rfl ?_
 rintro _ _ _ ⟨Y, y3, hY, zY, hy3, rfl, rfl, rfl⟩
 refine w_ ?_
 refine WL_callR [0, 1, 2, 3, 4, 5, 6, 7, 8, 9, 10, 11] (setStart_tri s y) rfl rfl rfl t_ t_ rfl rfl rfl rfl ?_; rintro _ rfl
 refine w_ ?_
 clear TP TQ x1 x2 x3 hO hLI hZB
 refine W_renG [0, 1, 2, 3, 4, 5, 6, 7, 8, 9, 10, 11, 39, 40, 41, 42, 43, 44, 45, 46, 47, 48, 49, 50, 53, 54, 55, 56, 57, 58, 59, 60, 61, 62, 63, 64, 52, 66, 67] (n := 39) (tm' := [(4, .bool true), (6, .bool true), (8, .bool true), (10, .bool true), (7, .ptr 36 0), (9, .ptr 37 0), (11, .ptr 38 0)]) (hp' := (36, .cells 40 (some 22) (cellsT X y2 12)) :: (37, .cells 40 (some 22) (cellsT Y y3 24)) :: (38, .cells 28 (some 22) (cellsH (stS s) (s.z.st != 0) (s.z.un != 0) y 0)) :: (setHp 110 X 12 ++ setHp 110 Y 24 ++ setHp 95 s 0)) ?_ s_ s_ rfl rfl rfl
 refine W_draw [36, 37, 38] [] 26 mo0 (by kernel_rfl) (by kernel_rfl) (fun ρ1 hkl => ?_); refine d_ ?_
 refine WS_loud rfl ?_ hkl
 refine WL_callR [] (awake0) rfl rfl rfl t_ t_ rfl rfl rfl rfl ?_; rintro _ rfl
 refine WL_nil ?_; refine nq_walk ⟨fun _ => t_, ?_⟩; refine d_ ?_
 refine WS_loud rfl ?_ hkl
 refine WL_call [12, 13, 14, 15, 16, 17, 18, 19, 20, 21, 22, 23] (ofSet_tri X y2 hy2 zX.len) rfl rfl rfl s_ s_ rfl rfl rfl rfl ?_; rintro _ _ _ ⟨qc, rfl, rfl, rfl, hqc⟩
 refine WL_nil ?_; refine nq_walk ⟨fun _ => t_, ?_⟩; refine d_ ?_
 refine WS_loud rfl ?_ hkl
 refine WL_callR [39, 40, 41, 42, 43, 44, 45, 46, 47, 48, 49, 50, 0, 1, 2, 3, 4, 5, 6, 7, 8, 9, 10, 11] (sameSet_tri X (X.z.st != 0) (X.z.un != 0) { y2 with y := { y2.y with yd := qc } } (stS s) (s.z.st != 0) (s.z.un != 0) y ⟨LOKd hy2.1 hqc, hy2.2⟩ zX hy (ZOK_s T G)) rfl rfl rfl s_ s_ rfl rfl rfl rfl ?_; rintro _ rfl
 rw [decide_eq_true hX]
 refine WL_nil ?_; refine nq_walk ⟨fun _ => t_, ?_⟩; refine d_ ?_
 refine WS_loud rfl ?_ hkl
 refine WL_call [24, 25, 26, 27, 28, 29, 30, 31, 32, 33, 34, 35] (ofSet_tri Y y3 hy3 zY.len) rfl rfl rfl s_ s_ rfl rfl rfl rfl ?_; rintro _ _ _ ⟨qd, rfl, rfl, rfl, hqd⟩
 refine WL_nil ?_; refine nq_walk ⟨fun _ => t_, ?_⟩; refine d_ ?_
 refine WS_loud rfl ?_ hkl
 refine WL_callR [51, 52, 53, 54, 55, 56, 57, 58, 59, 60, 61, 62, 0, 1, 2, 3, 4, 5, 6, 7, 8, 9, 10, 11] (sameSet_tri Y (Y.z.st != 0) (Y.z.un != 0) { y3 with y := { y3.y with yd := qd } } (stS s) (s.z.st != 0) (s.z.un != 0) y ⟨LOKd hy3.1 hqd, hy3.2⟩ zY hy (ZOK_s T G)) rfl rfl rfl s_ s_ rfl rfl rfl rfl ?_; rintro _ rfl
 rw [decide_eq_true hY]
 refine WL_nil ?_
 refine nq_walk ⟨fun _ => s_, ?_⟩
 refine WS_val rfl rfl rfl rfl rfl trivial ?_
 refine WS_val rfl rfl rfl rfl rfl trivial ?_
 refine WS_nil ?_
 refine WL_nil ?_
 refine nq_walk ?_
 refine then_normal ?_
 refine W_ret ?_
 refine ⟨True, .bool true, ?_, ?_⟩
 · rfl
 refine ⟨trivial, ?_, rfl⟩
 exact s_
end Go.Eng
