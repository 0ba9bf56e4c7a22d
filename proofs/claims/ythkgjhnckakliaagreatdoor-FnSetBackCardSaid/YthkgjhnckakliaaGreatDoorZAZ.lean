/- A part of the proof that the rows statement FnSetBack holds; no conditions. -/
import Derived.Test.YthkgjhnckakliaaGreatDoorZAY
set_option linter.unusedVariables false
set_option linter.unusedSimpArgs false
set_option linter.unusedSectionVars false
namespace Go.Eng
open Go.Proofs
attribute [local irreducible] W WL LP Then InBl Tri WS
theorem trim_head {s : List UInt8} {c : UInt8} {l : List UInt8} (h : Lib.trimSpace s = c :: l) : Lib.isSp c = false := by
 unfold Lib.trimSpace at h
 have hd : ∀ (u : List UInt8) (c : UInt8) (l : List UInt8), u.dropWhile Lib.isSp = c :: l → Lib.isSp c = false := by
  intro u
  induction u with
  | nil => intro c l h; cases h
  | cons a u ih =>
    intro c l h
    rw [List.dropWhile_cons] at h
    split at h
    · exact ih c l h
    · rename_i h2; cases h; simpa using h2
 have hs : ∃ t, (s.dropWhile Lib.isSp).reverse = t ++ ((s.dropWhile Lib.isSp).reverse.dropWhile Lib.isSp) := ⟨_, (List.takeWhile_append_dropWhile ..).symm⟩
 obtain ⟨t, ht⟩ := hs
 have h2 := congrArg List.reverse h
 rw [List.reverse_reverse] at h2
 rw [h2] at ht
 have h3 := congrArg List.reverse ht
 rw [List.reverse_reverse, List.reverse_append, List.reverse_reverse, List.cons_append] at h3
 exact hd _ _ _ h3
theorem split_head {s d x : List UInt8} (h : splitB 10 (Lib.trimSpace s) = [d, x]) : ¬ d = [] := by
 intro hd
 subst hd
 cases hu : Lib.trimSpace s with
 | nil => rw [hu] at h; simp [splitB] at h
 | cons c l =>
   have hc := trim_head hu
   rw [hu] at h
   simp only [splitB] at h
   split at h
   · rename_i e; rw [e] at hc; exact absurd hc (by decide)
   · split at h
     · simp at h
     · simp at h
def optPR (o : RZ × Nat) : Rs := fun k hp r =>
 (o.2 = 0 ∧ ∃ y, LOK o.1 y ∧ k = 11 ∧ hp = (10, .cells 145 (some 19) (cellsP o.1 y 0)) :: lstHp 142 o.1 0 ∧ r = .tup [.ptr 10 0, .v .nilIface]) ∨
 (o.2 = 1 ∧ k = 0 ∧ hp = [] ∧ ∃ t p, r = .tup [.v (.pointer none), .ifc t (.v p)])
set_option maxHeartbeats 4000000 in
theorem strToROption_tri (s : List UInt8) (hs : s.length ≤ 536870912) (ha : asc s) (hop : (optZ s).2 ≠ 2) : Tri C0 170 0 [] [.str s, .agg []] (optPR (optZ s)) := by
 have htl := trim_le s
 have hmem := splitB_mem 10 (Lib.trimSpace s)
 have hcnt0 := splitB_count 10 (Lib.trimSpace s)
 have hhead := fun d x => split_head (s := s) (d := d) (x := x)
 unfold optZ at *
 refine Tri.mk 235 [.tmp 4, .tmp 5] Tryz.func170 rfl rfl rfl rfl cf170 ?_; intro w0 S T ρ0
 refine w_ ?_
 refine WL_call [] (trimSpace_tri s (by omega) ha) rfl rfl rfl t_ t_ rfl rfl rfl rfl ?_; rintro _ _ _ ⟨rfl, rfl, rfl⟩
 refine w_ ?_
 refine WL_call [] (split_str_tri 10 (Lib.trimSpace s) (by omega)) rfl rfl rfl (s_) (s_) rfl rfl rfl rfl ?_
 rintro _ _ _ ⟨cap, tt, hc1, hc2, rfl, rfl, rfl⟩
 have hne := splitB_ne 10 (Lib.trimSpace s)
 generalize splitB 10 (Lib.trimSpace s) = ls at *
 have hpos : 0 < ls.length := List.length_pos_iff.2 hne
 obtain ⟨O, hO⟩ : ∃ O, O = optL ls := ⟨_, rfl⟩
 rw [← hO] at hop ⊢
 refine w_ ?_
 refine W_midB (α := List UInt8 × List UInt8) (fun p => (2, [(3, .ptr 0 0), (6, .sl false 1 1 0 ls.length cap), (7, .str p.1), (8, .str p.2)], [(0, .cells 156 (some 0) []), (1, .strs 9 (some tt) ls)]))
  (fun p => p.1.length ≤ s.length ∧ p.2.length ≤ s.length ∧ asc p.1 ∧ asc p.2 ∧ (p.2 = [] ∧ O = partsZ RZ.zero p.1 ∨ ¬ p.2 = [] ∧ O = optL [p.2, p.1])) ?_ ?_
 · match ls, hne with
   | [x], _ =>
     have hx := hmem x (by simp)
     refine W_cond_true rfl ?_
     refine w_ ?_
     refine ⟨(x, []), ⟨by simp only; omega, Nat.zero_le _, fun b hb => asc_trim ha b (hx.2 b hb), fun b hb => (by cases hb), .inl ⟨rfl, hO⟩⟩, ?_⟩
     refine Imp_renG [0, 1] ?_ ?_ rfl rfl rfl
     · exact s_
     · exact s_
   | [d, x], _ =>
     have hx := hmem x (by simp)
     have hd := hmem d (by simp)
     have hc1 : 2 ≤ cap := hc1
     refine W_cond_false rfl ?_
     refine w_ ?_
     refine W_cond_true rfl ?_
     refine w_ ?_
     refine ⟨(x, d), ⟨by simp only; omega, by simp only; omega, fun b hb => asc_trim ha b (hx.2 b hb), fun b hb => asc_trim ha b (hd.2 b hb), .inr ⟨hhead d x rfl, hO⟩⟩, ?_⟩
     refine Imp_renG [0, 1] ?_ ?_ rfl rfl rfl
     · exact s_
     · exact s_
   | a :: b :: c :: l, _ =>
     have e1 : ¬ ((a :: b :: c :: l).length : Int) = 1 := by simp; omega
     have e2 : ¬ ((a :: b :: c :: l).length : Int) = 2 := by simp; omega
     have hO : O = (RZ.zero, 1) := hO
     refine i_ ?_ ?_ <;> intro g
     · exact absurd g e1
     refine w_ ?_
     refine i_ ?_ ?_ <;> intro g
     · exact absurd g e2
     refine w_ ?_
     refine WL_call [] (errNew_tri _) rfl rfl rfl t_ t_ rfl rfl rfl rfl ?_; rintro _ _ _ ⟨rfl, rfl, et, ep, rfl⟩
     refine w_ ?_
     refine W_renG [] (n := 0) (tm' := [(4, .v (.pointer none)), (5, .ifc et (.v ep))]) (hp' := []) ?_ s_ s_ rfl rfl rfl
     refine r_ ?_ ?_
     · exact s_
     · rw [hO]; exact .inr ⟨rfl, rfl, rfl, _, _, rfl⟩
 rintro ⟨x, d⟩ ⟨x1, d1, x2, d2, hO⟩
 simp only at x1 d1 x2 d2 hO
 refine w_ ?_
 refine W_imp (Imp_nils (show 0 < 22 by omega) (nils 142) (s_)) ?_
 refine W_imp (Imp_cells 2 (cellsP RZ.zero LY.zero 3) rfl (fun _ => rfl) (s_) (fun h => absurd (congrArg List.length h) (Nat.succ_ne_zero 18))) ?_
 refine W_mid (α := Int) (fun p => (12, [(3, .ptr 0 0), (7, .str x), (9, .ptr 1 0), (10, .bool false)], (0, .cells 156 (some 0) []) :: (1, .cells 145 (some 19) (cellsP { RZ.zero with st := p } LY.zero 2)) :: lstHp 142 { RZ.zero with st := p } 2))
  (fun p => O = partsZ { RZ.zero with st := p } x) ?_ ?_
 · refine i_ ?_ ?_ <;> intro hd0
   rotate_left 1
   · have hd0 : d = [] := hd0
     have hO : O = partsZ RZ.zero x := by
      rcases hO with h | h
      · exact h.2
      · exact absurd hd0 h.1
     refine w_ ?_
     refine ⟨0, hO, ?_⟩
     refine Imp_renG [0, 2, 3, 4, 5, 6, 7, 8, 9, 10, 11, 12] ?_ ?_ rfl rfl rfl
     · exact s_
     · exact s_
   · have hd0 : ¬ d = [] := hd0
     have hO : O = optL [d, x] := by
      rcases hO with h | h
      · exact absurd h.1 hd0
      · exact h.2
     simp only [optL] at hO
     refine w_ ?_
     refine WL_call [] (ruleName_tri d (by omega) d2) rfl rfl rfl t_ t_ rfl rfl rfl rfl ?_; rintro _ _ _ ⟨rfl, rfl, hr⟩
     rcases hr with ⟨n, hn, rfl⟩ | ⟨hn, _, ⟨t, p, rfl⟩, rfl⟩
     rotate_left 1
     · rw [hn] at hO
       have hO : O = (RZ.zero, 1) := hO
       refine w_ ?_
       refine W_cond_true rfl ?_
       refine w_ ?_
       refine WL_call [] (errNew_tri _) rfl rfl rfl t_ t_ rfl rfl rfl rfl ?_; rintro _ _ _ ⟨rfl, rfl, et, ep, rfl⟩
       refine w_ ?_
       refine W_renG [] (n := 0) (tm' := [(4, .v (.pointer none)), (5, .ifc et (.v ep))]) (hp' := []) ?_ s_ s_ rfl rfl rfl
       refine r_ ?_ ?_
       · exact s_
       · rw [hO]; exact .inr ⟨rfl, rfl, rfl, _, _, rfl⟩
     rw [hn] at hO
     dsimp only at hO
     have hnl := name_len hn
     refine w_ ?_
     refine W_cond_false rfl ?_
     refine w_ ?_
     refine i_ ?_ ?_ <;> intro hdt
     · have hdt : ¬ n = DTS := hdt
       rw [if_pos hdt] at hO
       refine w_ ?_
       refine WL_call [] (errNew_tri _) rfl rfl rfl t_ t_ rfl rfl rfl rfl ?_; rintro _ _ _ ⟨rfl, rfl, et, ep, rfl⟩
       refine w_ ?_
       refine W_renG [] (n := 0) (tm' := [(4, .v (.pointer none)), (5, .ifc et (.v ep))]) (hp' := []) ?_ s_ s_ rfl rfl rfl
       refine r_ ?_ ?_
       · exact s_
       · rw [hO]; exact .inr ⟨rfl, rfl, rfl, _, _, rfl⟩
     have hdt : n = DTS := hdt
     rw [if_neg (fun h => h hdt)] at hO
     have e1 : ((n.length : Int) + 1).toNat = n.length + 1 := by omega
     have hside : 0 ≤ ((n.length : Int) + 1) ∧ ((n.length : Int) + 1) ≤ (d.length : Int) := by omega
     have hso : (startZ (d.drop (n.length + 1))).2 ≠ 2 := by
      intro h2
      rw [if_neg (by omega)] at hO
      rw [hO] at hop; exact hop h2
     refine w_ ?_
     refine W_draw [0] [] 12 mo0 (by kernel_rfl) (by kernel_rfl) (fun ρ1 hkl => ?_); refine d_ ?_
     rw [e1]
     refine WS_loud rfl ?_ hkl; refine WL_call [] (dtStart_tri (d.drop (n.length + 1)) (by simp; omega) hso) rfl rfl rfl t_ t_ rfl rfl rfl rfl ?_; rintro _ _ _ ⟨rfl, rfl, hr⟩; refine WL_nil ?_; refine nq_walk ⟨fun _ => t_, ?_⟩; refine d_ ?_
     rcases hr with ⟨h1, rfl⟩ | ⟨h1, _, ⟨t, p, rfl⟩, rfl⟩
     · rw [if_pos h1] at hO
       refine d_ ?_
       refine WS_loud rfl ?_ hkl
       refine WL_store rfl rfl trivial ?_
       refine WL_nil ?_; refine nq_walk ⟨fun _ => t_, ?_⟩; refine d_ ?_
       refine w_ ?_
       refine W_cond_false rfl ?_
       refine w_ ?_
       refine ⟨_, hO, ?_⟩
       refine Imp_renG [0, 2, 3, 4, 5, 6, 7, 8, 9, 10, 11, 12] ?_ ?_ rfl rfl rfl
       · exact s_
       · exact s_
     · rw [if_neg (by omega), h1] at hO
       refine d_ ?_
       refine WS_loud rfl ?_ hkl
       refine WL_store rfl rfl trivial ?_
       refine WL_nil ?_; refine nq_walk ⟨fun _ => t_, ?_⟩; refine d_ ?_
       refine w_ ?_
       refine W_cond_true rfl ?_
       refine w_ ?_
       refine WL_call [] (errNew_tri _) rfl rfl rfl t_ t_ rfl rfl rfl rfl ?_; rintro _ _ _ ⟨rfl, rfl, et, ep, rfl⟩
       refine w_ ?_
       refine W_renG [] (n := 0) (tm' := [(4, .v (.pointer none)), (5, .ifc et (.v ep))]) (hp' := []) ?_ s_ s_ rfl rfl rfl
       refine r_ ?_ ?_
       · exact s_
       · rw [hO]; exact .inr ⟨rfl, rfl, rfl, _, _, rfl⟩
 intro p hO
 unfold partsZ bareZ at hO
 refine w_ ?_
 refine WL_call [] (trimPrefix_tri x RRU) rfl rfl rfl t_ t_ rfl rfl rfl rfl ?_; rintro _ _ _ ⟨rfl, rfl, rfl⟩
 obtain ⟨B, hB⟩ : ∃ B, B = Lib.trimPrefix x RRU := ⟨_, rfl⟩
 have hB2 : (if Lib.hasPrefix x RRU = true then x.drop 6 else x) = B := by rw [hB]; unfold Lib.trimPrefix; rfl
 have hBl : B.length ≤ x.length := by rw [← hB2]; split <;> simp
 rw [hB2] at hO
 rw [← hB]
 have hBa : asc B := by
  rw [← hB2]
  split
  · exact asc_drop x2 _
  · exact x2
 clear hB hB2
 refine w_ ?_
 refine WL_call [] (split_str_tri 59 B (by omega)) rfl rfl rfl (s_) (s_) rfl rfl rfl rfl ?_
 rintro _ _ _ ⟨cap2, tt2, hp1, hp2, rfl, rfl, rfl⟩
 have hmem2 := splitB_mem 59 B
 have hcnt := splitB_count 59 B
 generalize splitB 59 B = ps at *
 refine w_ ?_
 refine W_loop ?_
 refine LP_renG [0, 1, 2, 3, 4, 5, 6, 7, 8, 9, 10, 11, 12] (LP_ind 13 (fun q : Nat × RZ × LY × Bool => ([(3, .ptr 0 0), (9, .ptr 1 0), (10, .bool q.2.2.2), (70, .sl false 12 1 0 ps.length cap2), (71, .int .i64 ps.length), (72, .int .i64 q.1)], (0, .cells 156 (some 0) []) :: (1, .cells 145 (some 19) (cellsP q.2.1 q.2.2.1 2)) :: (12, .strs 9 (some tt2) ps) :: lstHp 142 q.2.1 2)) (fun q => ps.length - q.1)
  (fun q => q.1 ≤ ps.length ∧ LOK q.2.1 q.2.2.1 ∧ O = loopZ q.2.1 q.2.2.2 (ps.drop q.1)) (0, { RZ.zero with st := p }, LY.zero, false) ?_ ⟨Nat.zero_le _, LOK_zero _ rfl, hO⟩) ?_ ?_ rfl rfl rfl
 rotate_left 1
 · exact s_
 · exact s_
 rintro ⟨j, z, y, fq⟩ ⟨i1, i2, i3⟩ ih
 simp only at i1 i2 i3
 clear hO
 refine LP_round ?_; try dsimp only
 refine w_ ?_
 refine i_ ?_ ?_ <;> intro hj
 · have hj : j < ps.length := by omega
   rw [drop_getL hj, loopZ] at i3
   have hyl := (hmem2 _ (getD_mem hj)).1
   refine w_ ?_
   rw [show 0 + (j : Int).toNat = j by omega]
   have hm3 := splitB_mem 61 (ps.getD j [])
   have hne3 := splitB_ne 61 (ps.getD j [])
   refine WL_call [] (split_str_tri 61 (ps.getD j []) (by omega)) rfl rfl rfl (s_) (s_) rfl rfl rfl rfl ?_
   rintro _ _ _ ⟨cap3, tt3, hq1, hq2, rfl, rfl, rfl⟩
   generalize splitB 61 (ps.getD j []) = kv at *
   match kv, hne3 with
   | [k, v], _ =>
     have hq1 : 2 ≤ cap3 := hq1
     have hvl := (hm3 v (by simp)).1
     have hvl2 : v.length ≤ 536870912 := by omega
     have hkl := (hm3 k (by simp)).1
     dsimp only at i3
     refine w_ ?_
     refine W_cond_false rfl ?_
     refine w_ ?_
     refine W_draw [13] [] 8 mo0 (by kernel_rfl) (by kernel_rfl) (fun ρ1 hkl => ?_); refine d_ ?_
     refine w_ ?_
     refine i_ ?_ ?_ <;> intro hv
     · have hv : v = [] := List.length_eq_zero_iff.1 (by have hv : (v.length : Int) = 0 := hv; omega)
       rw [if_pos hv] at i3
       have hO := i3
       have hside : k.length + 20 ≤ 9223372036854775807 := by omega
       refine w_ ?_
       refine WL_call [] (errNew_tri _) rfl rfl rfl t_ t_ rfl rfl rfl rfl ?_; rintro _ _ _ ⟨rfl, rfl, et, ep, rfl⟩
       refine w_ ?_
       refine W_renG [] (n := 0) (tm' := [(4, .v (.pointer none)), (5, .ifc et (.v ep))]) (hp' := []) ?_ s_ s_ rfl rfl rfl
       refine r_ ?_ ?_
       · exact s_
       · rw [hO]; exact .inr ⟨rfl, rfl, rfl, _, _, rfl⟩
     have hv : ¬ v = [] := fun e => hv (show (v.length : Int) = 0 by rw [e]; rfl)
     rw [if_neg hv] at i3
     have hpo : (partZ z k v).2 ≠ 2 := by
      intro h2
      rw [if_neg (by omega)] at i3
      rw [i3] at hop; exact hop h2
     refine w_ ?_
     refine i_ ?_ ?_ <;> intro hk
     · have hk : k = [70, 82, 69, 81] := hk
       subst hk
       have hZ := partZ_FREQ z v
       have hfq : (fq || decide ([70, 82, 69, 81] = FRQ)) = true := by simp
       rw [hfq] at i3
       refine w_ ?_
       refine WL_call [] (strToFreq_tri v (by omega)) rfl rfl rfl t_ t_ rfl rfl rfl rfl ?_; rintro _ _ _ ⟨rfl, rfl, hr⟩
       rcases hr with ⟨f, hf, rfl⟩ | ⟨hf, f, t, p, rfl⟩
       · rw [hf] at hZ
         have hZ : partZ z [70, 82, 69, 81] v = ({ z with fr := f }, 0) := hZ
         rw [hZ] at i3
         have i3 : O = loopZ ({ z with fr := f }) true (ps.drop (j + 1)) := i3
         refine w_ ?_
         refine W_cond_false rfl ?_
         refine w_ ?_
         exact LP_renG [0, 1, 2, 3, 4, 5, 6, 7, 8, 9, 10, 11, 12] (ih (j + 1, { z with fr := f }, y, true) ⟨by omega, i2, i3⟩ (by simp only; omega)) s_ s_ rfl rfl rfl
       · rw [hf] at hZ
         have hZ : partZ z [70, 82, 69, 81] v = (z, 1) := hZ
         rw [hZ] at i3
         have hO : O = (RZ.zero, 1) := i3
         refine w_ ?_
         refine W_cond_true rfl ?_
         refine w_ ?_
         refine W_renG [] (n := 0) (tm' := [(4, .v (.pointer none)), (5, .ifc t (.v p))]) (hp' := []) ?_ s_ s_ rfl rfl rfl
         refine r_ ?_ ?_
         · exact s_
         · rw [hO]; exact .inr ⟨rfl, rfl, rfl, _, _, rfl⟩
     have hkFREQ : ¬ k = [70, 82, 69, 81] := hk
     refine w_ ?_
     refine i_ ?_ ?_ <;> intro hk
     · have hk : k = [68, 84, 83, 84, 65, 82, 84] := hk
       subst hk
       have hZ := partZ_DTSTART z v
       have hfq : (fq || decide ([68, 84, 83, 84, 65, 82, 84] = FRQ)) = fq := by simp
       rw [hfq] at i3
       refine w_ ?_
       have hmo : (momZ v).2 ≠ 2 := by
        intro h2; apply hpo; rw [hZ, if_neg (by omega)]; exact h2
       refine WL_call [] (timeIn_tri v (by omega) hmo) rfl rfl rfl t_ t_ rfl rfl rfl rfl ?_; rintro _ _ _ ⟨rfl, rfl, hr⟩
       rcases hr with ⟨r1, rfl⟩ | ⟨r1, _, ⟨t, p, rfl⟩, rfl⟩
       · rw [if_pos r1] at hZ
         rw [hZ] at i3
         have i3 : O = loopZ ({ z with st := (momZ v).1 }) fq (ps.drop (j + 1)) := i3
         refine w_ ?_
         refine W_cond_false rfl ?_
         refine w_ ?_
         exact LP_renG [0, 1, 2, 3, 4, 5, 6, 7, 8, 9, 10, 11, 12] (ih (j + 1, { z with st := (momZ v).1 }, y, fq) ⟨by omega, i2, i3⟩ (by simp only; omega)) s_ s_ rfl rfl rfl
       · rw [if_neg (by omega), r1] at hZ
         rw [hZ] at i3
         have hO : O = (RZ.zero, 1) := i3
         refine w_ ?_
         refine W_cond_true rfl ?_
         refine w_ ?_
         refine W_renG [] (n := 0) (tm' := [(4, .v (.pointer none)), (5, .ifc t (.v p))]) (hp' := []) ?_ s_ s_ rfl rfl rfl
         refine r_ ?_ ?_
         · exact s_
         · rw [hO]; exact .inr ⟨rfl, rfl, rfl, _, _, rfl⟩
     have hkDTSTART : ¬ k = [68, 84, 83, 84, 65, 82, 84] := hk
     refine w_ ?_
     refine i_ ?_ ?_ <;> intro hk
     · have hk : k = [73, 78, 84, 69, 82, 86, 65, 76] := hk
       subst hk
       have hZ := partZ_INTERVAL z v
       have hfq : (fq || decide ([73, 78, 84, 69, 82, 86, 65, 76] = FRQ)) = fq := by simp
       rw [hfq] at i3
       refine w_ ?_
       refine WL_call [] (atoi2_tri v (by omega)) rfl rfl rfl t_ t_ rfl rfl rfl rfl ?_; rintro _ _ _ ⟨rfl, rfl, hr⟩
       rcases hr with ⟨f, hf, rfl⟩ | ⟨hf, f, t, p, rfl⟩
       · rw [hf] at hZ
         have hZ : partZ z [73, 78, 84, 69, 82, 86, 65, 76] v = ({ z with iv := f }, 0) := hZ
         rw [hZ] at i3
         have i3 : O = loopZ ({ z with iv := f }) fq (ps.drop (j + 1)) := i3
         refine w_ ?_
         refine W_cond_false rfl ?_
         refine w_ ?_
         exact LP_renG [0, 1, 2, 3, 4, 5, 6, 7, 8, 9, 10, 11, 12] (ih (j + 1, { z with iv := f }, y, fq) ⟨by omega, i2, i3⟩ (by simp only; omega)) s_ s_ rfl rfl rfl
       · rw [hf] at hZ
         have hZ : partZ z [73, 78, 84, 69, 82, 86, 65, 76] v = (z, 1) := hZ
         rw [hZ] at i3
         have hO : O = (RZ.zero, 1) := i3
         refine w_ ?_
         refine W_cond_true rfl ?_
         refine w_ ?_
         refine W_renG [] (n := 0) (tm' := [(4, .v (.pointer none)), (5, .ifc t (.v p))]) (hp' := []) ?_ s_ s_ rfl rfl rfl
         refine r_ ?_ ?_
         · exact s_
         · rw [hO]; exact .inr ⟨rfl, rfl, rfl, _, _, rfl⟩
     have hkINTERVAL : ¬ k = [73, 78, 84, 69, 82, 86, 65, 76] := hk
     refine w_ ?_
     refine i_ ?_ ?_ <;> intro hk
     · have hk : k = [87, 75, 83, 84] := hk
       subst hk
       have hZ := partZ_WKST z v
       have hfq : (fq || decide ([87, 75, 83, 84] = FRQ)) = fq := by simp
       rw [hfq] at i3
       refine w_ ?_
       refine WL_call [] (strToWeekday_tri v (by omega)) rfl rfl rfl t_ t_ rfl rfl rfl rfl ?_; rintro _ _ _ ⟨rfl, rfl, hr⟩
       rcases hr with ⟨f, hf, rfl⟩ | ⟨hf, f, t, p, rfl⟩
       · rw [hf] at hZ
         have hf0 : f.2 = 0 := by
          by_cases h : f.2 = 0
          · exact h
          · exfalso; apply hpo; rw [hZ]; dsimp only; rw [if_neg h]
         dsimp only at hZ
         rw [if_pos hf0] at hZ
         obtain ⟨f1, f2⟩ := f
         simp only at hf0
         subst hf0
         have hZ : partZ z [87, 75, 83, 84] v = ({ z with wk := f1, wn := 0 }, 0) := hZ
         rw [hZ] at i3
         have i3 : O = loopZ ({ z with wk := f1, wn := 0 }) fq (ps.drop (j + 1)) := i3
         refine w_ ?_
         refine W_cond_false rfl ?_
         refine w_ ?_
         exact LP_renG [0, 1, 2, 3, 4, 5, 6, 7, 8, 9, 10, 11, 12] (ih (j + 1, { z with wk := f1, wn := 0 }, y, fq) ⟨by omega, i2, i3⟩ (by simp only; omega)) s_ s_ rfl rfl rfl
       · rw [hf] at hZ
         have hZ : partZ z [87, 75, 83, 84] v = (z, 1) := hZ
         rw [hZ] at i3
         have hO : O = (RZ.zero, 1) := i3
         refine w_ ?_
         refine W_cond_true rfl ?_
         refine w_ ?_
         refine W_renG [] (n := 0) (tm' := [(4, .v (.pointer none)), (5, .ifc t (.v p))]) (hp' := []) ?_ s_ s_ rfl rfl rfl
         refine r_ ?_ ?_
         · exact s_
         · rw [hO]; exact .inr ⟨rfl, rfl, rfl, _, _, rfl⟩
     have hkWKST : ¬ k = [87, 75, 83, 84] := hk
     refine w_ ?_
     refine i_ ?_ ?_ <;> intro hk
     · have hk : k = [67, 79, 85, 78, 84] := hk
       subst hk
       have hZ := partZ_COUNT z v
       have hfq : (fq || decide ([67, 79, 85, 78, 84] = FRQ)) = fq := by simp
       rw [hfq] at i3
       refine w_ ?_
       refine WL_call [] (atoi2_tri v (by omega)) rfl rfl rfl t_ t_ rfl rfl rfl rfl ?_; rintro _ _ _ ⟨rfl, rfl, hr⟩
       rcases hr with ⟨f, hf, rfl⟩ | ⟨hf, f, t, p, rfl⟩
       · rw [hf] at hZ
         have hZ : partZ z [67, 79, 85, 78, 84] v = ({ z with ct := f }, 0) := hZ
         rw [hZ] at i3
         have i3 : O = loopZ ({ z with ct := f }) fq (ps.drop (j + 1)) := i3
         refine w_ ?_
         refine W_cond_false rfl ?_
         refine w_ ?_
         exact LP_renG [0, 1, 2, 3, 4, 5, 6, 7, 8, 9, 10, 11, 12] (ih (j + 1, { z with ct := f }, y, fq) ⟨by omega, i2, i3⟩ (by simp only; omega)) s_ s_ rfl rfl rfl
       · rw [hf] at hZ
         have hZ : partZ z [67, 79, 85, 78, 84] v = (z, 1) := hZ
         rw [hZ] at i3
         have hO : O = (RZ.zero, 1) := i3
         refine w_ ?_
         refine W_cond_true rfl ?_
         refine w_ ?_
         refine W_renG [] (n := 0) (tm' := [(4, .v (.pointer none)), (5, .ifc t (.v p))]) (hp' := []) ?_ s_ s_ rfl rfl rfl
         refine r_ ?_ ?_
         · exact s_
         · rw [hO]; exact .inr ⟨rfl, rfl, rfl, _, _, rfl⟩
     have hkCOUNT : ¬ k = [67, 79, 85, 78, 84] := hk
     refine w_ ?_
     refine i_ ?_ ?_ <;> intro hk
     · have hk : k = [85, 78, 84, 73, 76] := hk
       subst hk
       have hZ := partZ_UNTIL z v
       have hfq : (fq || decide ([85, 78, 84, 73, 76] = FRQ)) = fq := by simp
       rw [hfq] at i3
       refine w_ ?_
       have hmo : (momZ v).2 ≠ 2 := by
        intro h2; apply hpo; rw [hZ, if_neg (by omega)]; exact h2
       refine WL_call [] (timeIn_tri v (by omega) hmo) rfl rfl rfl t_ t_ rfl rfl rfl rfl ?_; rintro _ _ _ ⟨rfl, rfl, hr⟩
       rcases hr with ⟨r1, rfl⟩ | ⟨r1, _, ⟨t, p, rfl⟩, rfl⟩
       · rw [if_pos r1] at hZ
         rw [hZ] at i3
         have i3 : O = loopZ ({ z with un := (momZ v).1 }) fq (ps.drop (j + 1)) := i3
         refine w_ ?_
         refine W_cond_false rfl ?_
         refine w_ ?_
         exact LP_renG [0, 1, 2, 3, 4, 5, 6, 7, 8, 9, 10, 11, 12] (ih (j + 1, { z with un := (momZ v).1 }, y, fq) ⟨by omega, i2, i3⟩ (by simp only; omega)) s_ s_ rfl rfl rfl
       · rw [if_neg (by omega), r1] at hZ
         rw [hZ] at i3
         have hO : O = (RZ.zero, 1) := i3
         refine w_ ?_
         refine W_cond_true rfl ?_
         refine w_ ?_
         refine W_renG [] (n := 0) (tm' := [(4, .v (.pointer none)), (5, .ifc t (.v p))]) (hp' := []) ?_ s_ s_ rfl rfl rfl
         refine r_ ?_ ?_
         · exact s_
         · rw [hO]; exact .inr ⟨rfl, rfl, rfl, _, _, rfl⟩
     have hkUNTIL : ¬ k = [85, 78, 84, 73, 76] := hk
     refine w_ ?_
     refine i_ ?_ ?_ <;> intro hk
     · have hk : k = [66, 89, 83, 69, 84, 80, 79, 83] := hk
       subst hk
       have hZ := partZ_BYSETPOS z v
       have hfq : (fq || decide ([66, 89, 83, 69, 84, 80, 79, 83] = FRQ)) = fq := by simp
       rw [hfq] at i3
       refine w_ ?_
       refine WL_call [] (strToInts_tri v (by omega)) rfl rfl rfl (s_) (s_) rfl rfl rfl rfl ?_
       rintro _ _ _ (⟨xs, cap4, h1, h2, h3, rfl, rfl, rfl⟩ | ⟨h1, rfl, rfl, t, p, rfl⟩)
       · rw [h1] at hZ
         have hZ : partZ z [66, 89, 83, 69, 84, 80, 79, 83] v = ({ z with l0 := xs }, 0) := hZ
         rw [hZ] at i3
         have i3 : O = loopZ ({ z with l0 := xs }) fq (ps.drop (j + 1)) := i3
         refine w_ ?_
         refine W_cond_false rfl ?_
         refine w_ ?_
         exact LP_renG [0, 1, 14, 3, 4, 5, 6, 7, 8, 9, 10, 11, 12] (ih (j + 1, { z with l0 := xs }, { y with y0 := (false, cap4) }, fq) ⟨by omega, ⟨h3, i2.2.1, i2.2.2.1, i2.2.2.2.1, i2.2.2.2.2.1, i2.2.2.2.2.2.1, i2.2.2.2.2.2.2.1, i2.2.2.2.2.2.2.2.1, i2.2.2.2.2.2.2.2.2.1, i2.2.2.2.2.2.2.2.2.2⟩, i3⟩ (by simp only; omega)) s_ s_ rfl rfl rfl
       · rw [h1] at hZ
         have hZ : partZ z [66, 89, 83, 69, 84, 80, 79, 83] v = (z, 1) := hZ
         rw [hZ] at i3
         have hO : O = (RZ.zero, 1) := i3
         refine w_ ?_
         refine W_cond_true rfl ?_
         refine w_ ?_
         refine W_renG [] (n := 0) (tm' := [(4, .v (.pointer none)), (5, .ifc t (.v p))]) (hp' := []) ?_ s_ s_ rfl rfl rfl
         refine r_ ?_ ?_
         · exact s_
         · rw [hO]; exact .inr ⟨rfl, rfl, rfl, _, _, rfl⟩
     have hkBYSETPOS : ¬ k = [66, 89, 83, 69, 84, 80, 79, 83] := hk
     refine w_ ?_
     refine i_ ?_ ?_ <;> intro hk
     · have hk : k = [66, 89, 77, 79, 78, 84, 72] := hk
       subst hk
       have hZ := partZ_BYMONTH z v
       have hfq : (fq || decide ([66, 89, 77, 79, 78, 84, 72] = FRQ)) = fq := by simp
       rw [hfq] at i3
       refine w_ ?_
       refine WL_call [] (strToInts_tri v (by omega)) rfl rfl rfl (s_) (s_) rfl rfl rfl rfl ?_
       rintro _ _ _ (⟨xs, cap4, h1, h2, h3, rfl, rfl, rfl⟩ | ⟨h1, rfl, rfl, t, p, rfl⟩)
       · rw [h1] at hZ
         have hZ : partZ z [66, 89, 77, 79, 78, 84, 72] v = ({ z with l1 := xs }, 0) := hZ
         rw [hZ] at i3
         have i3 : O = loopZ ({ z with l1 := xs }) fq (ps.drop (j + 1)) := i3
         refine w_ ?_
         refine W_cond_false rfl ?_
         refine w_ ?_
         exact LP_renG [0, 1, 2, 14, 4, 5, 6, 7, 8, 9, 10, 11, 12] (ih (j + 1, { z with l1 := xs }, { y with y1 := (false, cap4) }, fq) ⟨by omega, ⟨i2.1, h3, i2.2.2.1, i2.2.2.2.1, i2.2.2.2.2.1, i2.2.2.2.2.2.1, i2.2.2.2.2.2.2.1, i2.2.2.2.2.2.2.2.1, i2.2.2.2.2.2.2.2.2.1, i2.2.2.2.2.2.2.2.2.2⟩, i3⟩ (by simp only; omega)) s_ s_ rfl rfl rfl
       · rw [h1] at hZ
         have hZ : partZ z [66, 89, 77, 79, 78, 84, 72] v = (z, 1) := hZ
         rw [hZ] at i3
         have hO : O = (RZ.zero, 1) := i3
         refine w_ ?_
         refine W_cond_true rfl ?_
         refine w_ ?_
         refine W_renG [] (n := 0) (tm' := [(4, .v (.pointer none)), (5, .ifc t (.v p))]) (hp' := []) ?_ s_ s_ rfl rfl rfl
         refine r_ ?_ ?_
         · exact s_
         · rw [hO]; exact .inr ⟨rfl, rfl, rfl, _, _, rfl⟩
     have hkBYMONTH : ¬ k = [66, 89, 77, 79, 78, 84, 72] := hk
     refine w_ ?_
     refine i_ ?_ ?_ <;> intro hk
     · have hk : k = [66, 89, 77, 79, 78, 84, 72, 68, 65, 89] := hk
       subst hk
       have hZ := partZ_BYMONTHDAY z v
       have hfq : (fq || decide ([66, 89, 77, 79, 78, 84, 72, 68, 65, 89] = FRQ)) = fq := by simp
       rw [hfq] at i3
       refine w_ ?_
       refine WL_call [] (strToInts_tri v (by omega)) rfl rfl rfl (s_) (s_) rfl rfl rfl rfl ?_
       rintro _ _ _ (⟨xs, cap4, h1, h2, h3, rfl, rfl, rfl⟩ | ⟨h1, rfl, rfl, t, p, rfl⟩)
       · rw [h1] at hZ
         have hZ : partZ z [66, 89, 77, 79, 78, 84, 72, 68, 65, 89] v = ({ z with l2 := xs }, 0) := hZ
         rw [hZ] at i3
         have i3 : O = loopZ ({ z with l2 := xs }) fq (ps.drop (j + 1)) := i3
         refine w_ ?_
         refine W_cond_false rfl ?_
         refine w_ ?_
         exact LP_renG [0, 1, 2, 3, 14, 5, 6, 7, 8, 9, 10, 11, 12] (ih (j + 1, { z with l2 := xs }, { y with y2 := (false, cap4) }, fq) ⟨by omega, ⟨i2.1, i2.2.1, h3, i2.2.2.2.1, i2.2.2.2.2.1, i2.2.2.2.2.2.1, i2.2.2.2.2.2.2.1, i2.2.2.2.2.2.2.2.1, i2.2.2.2.2.2.2.2.2.1, i2.2.2.2.2.2.2.2.2.2⟩, i3⟩ (by simp only; omega)) s_ s_ rfl rfl rfl
       · rw [h1] at hZ
         have hZ : partZ z [66, 89, 77, 79, 78, 84, 72, 68, 65, 89] v = (z, 1) := hZ
         rw [hZ] at i3
         have hO : O = (RZ.zero, 1) := i3
         refine w_ ?_
         refine W_cond_true rfl ?_
         refine w_ ?_
         refine W_renG [] (n := 0) (tm' := [(4, .v (.pointer none)), (5, .ifc t (.v p))]) (hp' := []) ?_ s_ s_ rfl rfl rfl
         refine r_ ?_ ?_
         · exact s_
         · rw [hO]; exact .inr ⟨rfl, rfl, rfl, _, _, rfl⟩
     have hkBYMONTHDAY : ¬ k = [66, 89, 77, 79, 78, 84, 72, 68, 65, 89] := hk
     refine w_ ?_
     refine i_ ?_ ?_ <;> intro hk
     · have hk : k = [66, 89, 89, 69, 65, 82, 68, 65, 89] := hk
       subst hk
       have hZ := partZ_BYYEARDAY z v
       have hfq : (fq || decide ([66, 89, 89, 69, 65, 82, 68, 65, 89] = FRQ)) = fq := by simp
       rw [hfq] at i3
       refine w_ ?_
       refine WL_call [] (strToInts_tri v (by omega)) rfl rfl rfl (s_) (s_) rfl rfl rfl rfl ?_
       rintro _ _ _ (⟨xs, cap4, h1, h2, h3, rfl, rfl, rfl⟩ | ⟨h1, rfl, rfl, t, p, rfl⟩)
       · rw [h1] at hZ
         have hZ : partZ z [66, 89, 89, 69, 65, 82, 68, 65, 89] v = ({ z with l3 := xs }, 0) := hZ
         rw [hZ] at i3
         have i3 : O = loopZ ({ z with l3 := xs }) fq (ps.drop (j + 1)) := i3
         refine w_ ?_
         refine W_cond_false rfl ?_
         refine w_ ?_
         exact LP_renG [0, 1, 2, 3, 4, 14, 6, 7, 8, 9, 10, 11, 12] (ih (j + 1, { z with l3 := xs }, { y with y3 := (false, cap4) }, fq) ⟨by omega, ⟨i2.1, i2.2.1, i2.2.2.1, h3, i2.2.2.2.2.1, i2.2.2.2.2.2.1, i2.2.2.2.2.2.2.1, i2.2.2.2.2.2.2.2.1, i2.2.2.2.2.2.2.2.2.1, i2.2.2.2.2.2.2.2.2.2⟩, i3⟩ (by simp only; omega)) s_ s_ rfl rfl rfl
       · rw [h1] at hZ
         have hZ : partZ z [66, 89, 89, 69, 65, 82, 68, 65, 89] v = (z, 1) := hZ
         rw [hZ] at i3
         have hO : O = (RZ.zero, 1) := i3
         refine w_ ?_
         refine W_cond_true rfl ?_
         refine w_ ?_
         refine W_renG [] (n := 0) (tm' := [(4, .v (.pointer none)), (5, .ifc t (.v p))]) (hp' := []) ?_ s_ s_ rfl rfl rfl
         refine r_ ?_ ?_
         · exact s_
         · rw [hO]; exact .inr ⟨rfl, rfl, rfl, _, _, rfl⟩
     have hkBYYEARDAY : ¬ k = [66, 89, 89, 69, 65, 82, 68, 65, 89] := hk
     refine w_ ?_
     refine i_ ?_ ?_ <;> intro hk
     · have hk : k = [66, 89, 87, 69, 69, 75, 78, 79] := hk
       subst hk
       have hZ := partZ_BYWEEKNO z v
       have hfq : (fq || decide ([66, 89, 87, 69, 69, 75, 78, 79] = FRQ)) = fq := by simp
       rw [hfq] at i3
       refine w_ ?_
       refine WL_call [] (strToInts_tri v (by omega)) rfl rfl rfl (s_) (s_) rfl rfl rfl rfl ?_
       rintro _ _ _ (⟨xs, cap4, h1, h2, h3, rfl, rfl, rfl⟩ | ⟨h1, rfl, rfl, t, p, rfl⟩)
       · rw [h1] at hZ
         have hZ : partZ z [66, 89, 87, 69, 69, 75, 78, 79] v = ({ z with l4 := xs }, 0) := hZ
         rw [hZ] at i3
         have i3 : O = loopZ ({ z with l4 := xs }) fq (ps.drop (j + 1)) := i3
         refine w_ ?_
         refine W_cond_false rfl ?_
         refine w_ ?_
         exact LP_renG [0, 1, 2, 3, 4, 5, 14, 7, 8, 9, 10, 11, 12] (ih (j + 1, { z with l4 := xs }, { y with y4 := (false, cap4) }, fq) ⟨by omega, ⟨i2.1, i2.2.1, i2.2.2.1, i2.2.2.2.1, h3, i2.2.2.2.2.2.1, i2.2.2.2.2.2.2.1, i2.2.2.2.2.2.2.2.1, i2.2.2.2.2.2.2.2.2.1, i2.2.2.2.2.2.2.2.2.2⟩, i3⟩ (by simp only; omega)) s_ s_ rfl rfl rfl
       · rw [h1] at hZ
         have hZ : partZ z [66, 89, 87, 69, 69, 75, 78, 79] v = (z, 1) := hZ
         rw [hZ] at i3
         have hO : O = (RZ.zero, 1) := i3
         refine w_ ?_
         refine W_cond_true rfl ?_
         refine w_ ?_
         refine W_renG [] (n := 0) (tm' := [(4, .v (.pointer none)), (5, .ifc t (.v p))]) (hp' := []) ?_ s_ s_ rfl rfl rfl
         refine r_ ?_ ?_
         · exact s_
         · rw [hO]; exact .inr ⟨rfl, rfl, rfl, _, _, rfl⟩
     have hkBYWEEKNO : ¬ k = [66, 89, 87, 69, 69, 75, 78, 79] := hk
     refine w_ ?_
     refine i_ ?_ ?_ <;> intro hk
     · have hk : k = [66, 89, 68, 65, 89] := hk
       subst hk
       have hZ := partZ_BYDAY z v
       have hfq : (fq || decide ([66, 89, 68, 65, 89] = FRQ)) = fq := by simp
       rw [hfq] at i3
       refine w_ ?_
       refine WL_call [] (strToWeekdays_tri v (by omega)) rfl rfl rfl (s_) (s_) rfl rfl rfl rfl ?_
       rintro _ _ _ (⟨xs, cap4, h1, h2, h3, rfl, rfl, rfl⟩ | ⟨h1, rfl, rfl, t, p, rfl⟩)
       · rw [h1] at hZ
         have hZ : partZ z [66, 89, 68, 65, 89] v = ({ z with dd := xs }, 0) := hZ
         rw [hZ] at i3
         have i3 : O = loopZ ({ z with dd := xs }) fq (ps.drop (j + 1)) := i3
         refine w_ ?_
         refine W_cond_false rfl ?_
         refine w_ ?_
         exact LP_renG [0, 1, 2, 3, 4, 5, 6, 7, 8, 9, 10, 14, 12] (ih (j + 1, { z with dd := xs }, { y with yd := (false, cap4) }, fq) ⟨by omega, ⟨i2.1, i2.2.1, i2.2.2.1, i2.2.2.2.1, i2.2.2.2.2.1, i2.2.2.2.2.2.1, i2.2.2.2.2.2.2.1, i2.2.2.2.2.2.2.2.1, i2.2.2.2.2.2.2.2.2.1, h3⟩, i3⟩ (by simp only; omega)) s_ s_ rfl rfl rfl
       · rw [h1] at hZ
         have hZ : partZ z [66, 89, 68, 65, 89] v = (z, 1) := hZ
         rw [hZ] at i3
         have hO : O = (RZ.zero, 1) := i3
         refine w_ ?_
         refine W_cond_true rfl ?_
         refine w_ ?_
         refine W_renG [] (n := 0) (tm' := [(4, .v (.pointer none)), (5, .ifc t (.v p))]) (hp' := []) ?_ s_ s_ rfl rfl rfl
         refine r_ ?_ ?_
         · exact s_
         · rw [hO]; exact .inr ⟨rfl, rfl, rfl, _, _, rfl⟩
     have hkBYDAY : ¬ k = [66, 89, 68, 65, 89] := hk
     refine w_ ?_
     refine i_ ?_ ?_ <;> intro hk
     · have hk : k = [66, 89, 72, 79, 85, 82] := hk
       subst hk
       have hZ := partZ_BYHOUR z v
       have hfq : (fq || decide ([66, 89, 72, 79, 85, 82] = FRQ)) = fq := by simp
       rw [hfq] at i3
       refine w_ ?_
       refine WL_call [] (strToInts_tri v (by omega)) rfl rfl rfl (s_) (s_) rfl rfl rfl rfl ?_
       rintro _ _ _ (⟨xs, cap4, h1, h2, h3, rfl, rfl, rfl⟩ | ⟨h1, rfl, rfl, t, p, rfl⟩)
       · rw [h1] at hZ
         have hZ : partZ z [66, 89, 72, 79, 85, 82] v = ({ z with l5 := xs }, 0) := hZ
         rw [hZ] at i3
         have i3 : O = loopZ ({ z with l5 := xs }) fq (ps.drop (j + 1)) := i3
         refine w_ ?_
         refine W_cond_false rfl ?_
         refine w_ ?_
         exact LP_renG [0, 1, 2, 3, 4, 5, 6, 14, 8, 9, 10, 11, 12] (ih (j + 1, { z with l5 := xs }, { y with y5 := (false, cap4) }, fq) ⟨by omega, ⟨i2.1, i2.2.1, i2.2.2.1, i2.2.2.2.1, i2.2.2.2.2.1, h3, i2.2.2.2.2.2.2.1, i2.2.2.2.2.2.2.2.1, i2.2.2.2.2.2.2.2.2.1, i2.2.2.2.2.2.2.2.2.2⟩, i3⟩ (by simp only; omega)) s_ s_ rfl rfl rfl
       · rw [h1] at hZ
         have hZ : partZ z [66, 89, 72, 79, 85, 82] v = (z, 1) := hZ
         rw [hZ] at i3
         have hO : O = (RZ.zero, 1) := i3
         refine w_ ?_
         refine W_cond_true rfl ?_
         refine w_ ?_
         refine W_renG [] (n := 0) (tm' := [(4, .v (.pointer none)), (5, .ifc t (.v p))]) (hp' := []) ?_ s_ s_ rfl rfl rfl
         refine r_ ?_ ?_
         · exact s_
         · rw [hO]; exact .inr ⟨rfl, rfl, rfl, _, _, rfl⟩
     have hkBYHOUR : ¬ k = [66, 89, 72, 79, 85, 82] := hk
     refine w_ ?_
     refine i_ ?_ ?_ <;> intro hk
     · have hk : k = [66, 89, 77, 73, 78, 85, 84, 69] := hk
       subst hk
       have hZ := partZ_BYMINUTE z v
       have hfq : (fq || decide ([66, 89, 77, 73, 78, 85, 84, 69] = FRQ)) = fq := by simp
       rw [hfq] at i3
       refine w_ ?_
       refine WL_call [] (strToInts_tri v (by omega)) rfl rfl rfl (s_) (s_) rfl rfl rfl rfl ?_
       rintro _ _ _ (⟨xs, cap4, h1, h2, h3, rfl, rfl, rfl⟩ | ⟨h1, rfl, rfl, t, p, rfl⟩)
       · rw [h1] at hZ
         have hZ : partZ z [66, 89, 77, 73, 78, 85, 84, 69] v = ({ z with l6 := xs }, 0) := hZ
         rw [hZ] at i3
         have i3 : O = loopZ ({ z with l6 := xs }) fq (ps.drop (j + 1)) := i3
         refine w_ ?_
         refine W_cond_false rfl ?_
         refine w_ ?_
         exact LP_renG [0, 1, 2, 3, 4, 5, 6, 7, 14, 9, 10, 11, 12] (ih (j + 1, { z with l6 := xs }, { y with y6 := (false, cap4) }, fq) ⟨by omega, ⟨i2.1, i2.2.1, i2.2.2.1, i2.2.2.2.1, i2.2.2.2.2.1, i2.2.2.2.2.2.1, h3, i2.2.2.2.2.2.2.2.1, i2.2.2.2.2.2.2.2.2.1, i2.2.2.2.2.2.2.2.2.2⟩, i3⟩ (by simp only; omega)) s_ s_ rfl rfl rfl
       · rw [h1] at hZ
         have hZ : partZ z [66, 89, 77, 73, 78, 85, 84, 69] v = (z, 1) := hZ
         rw [hZ] at i3
         have hO : O = (RZ.zero, 1) := i3
         refine w_ ?_
         refine W_cond_true rfl ?_
         refine w_ ?_
         refine W_renG [] (n := 0) (tm' := [(4, .v (.pointer none)), (5, .ifc t (.v p))]) (hp' := []) ?_ s_ s_ rfl rfl rfl
         refine r_ ?_ ?_
         · exact s_
         · rw [hO]; exact .inr ⟨rfl, rfl, rfl, _, _, rfl⟩
     have hkBYMINUTE : ¬ k = [66, 89, 77, 73, 78, 85, 84, 69] := hk
     refine w_ ?_
     refine i_ ?_ ?_ <;> intro hk
     · have hk : k = [66, 89, 83, 69, 67, 79, 78, 68] := hk
       subst hk
       have hZ := partZ_BYSECOND z v
       have hfq : (fq || decide ([66, 89, 83, 69, 67, 79, 78, 68] = FRQ)) = fq := by simp
       rw [hfq] at i3
       refine w_ ?_
       refine WL_call [] (strToInts_tri v (by omega)) rfl rfl rfl (s_) (s_) rfl rfl rfl rfl ?_
       rintro _ _ _ (⟨xs, cap4, h1, h2, h3, rfl, rfl, rfl⟩ | ⟨h1, rfl, rfl, t, p, rfl⟩)
       · rw [h1] at hZ
         have hZ : partZ z [66, 89, 83, 69, 67, 79, 78, 68] v = ({ z with l7 := xs }, 0) := hZ
         rw [hZ] at i3
         have i3 : O = loopZ ({ z with l7 := xs }) fq (ps.drop (j + 1)) := i3
         refine w_ ?_
         refine W_cond_false rfl ?_
         refine w_ ?_
         exact LP_renG [0, 1, 2, 3, 4, 5, 6, 7, 8, 14, 10, 11, 12] (ih (j + 1, { z with l7 := xs }, { y with y7 := (false, cap4) }, fq) ⟨by omega, ⟨i2.1, i2.2.1, i2.2.2.1, i2.2.2.2.1, i2.2.2.2.2.1, i2.2.2.2.2.2.1, i2.2.2.2.2.2.2.1, h3, i2.2.2.2.2.2.2.2.2.1, i2.2.2.2.2.2.2.2.2.2⟩, i3⟩ (by simp only; omega)) s_ s_ rfl rfl rfl
       · rw [h1] at hZ
         have hZ : partZ z [66, 89, 83, 69, 67, 79, 78, 68] v = (z, 1) := hZ
         rw [hZ] at i3
         have hO : O = (RZ.zero, 1) := i3
         refine w_ ?_
         refine W_cond_true rfl ?_
         refine w_ ?_
         refine W_renG [] (n := 0) (tm' := [(4, .v (.pointer none)), (5, .ifc t (.v p))]) (hp' := []) ?_ s_ s_ rfl rfl rfl
         refine r_ ?_ ?_
         · exact s_
         · rw [hO]; exact .inr ⟨rfl, rfl, rfl, _, _, rfl⟩
     have hkBYSECOND : ¬ k = [66, 89, 83, 69, 67, 79, 78, 68] := hk
     refine w_ ?_
     refine i_ ?_ ?_ <;> intro hk
     · have hk : k = [66, 89, 69, 65, 83, 84, 69, 82] := hk
       subst hk
       have hZ := partZ_BYEASTER z v
       have hfq : (fq || decide ([66, 89, 69, 65, 83, 84, 69, 82] = FRQ)) = fq := by simp
       rw [hfq] at i3
       refine w_ ?_
       refine WL_call [] (strToInts_tri v (by omega)) rfl rfl rfl (s_) (s_) rfl rfl rfl rfl ?_
       rintro _ _ _ (⟨xs, cap4, h1, h2, h3, rfl, rfl, rfl⟩ | ⟨h1, rfl, rfl, t, p, rfl⟩)
       · rw [h1] at hZ
         have hZ : partZ z [66, 89, 69, 65, 83, 84, 69, 82] v = ({ z with l8 := xs }, 0) := hZ
         rw [hZ] at i3
         have i3 : O = loopZ ({ z with l8 := xs }) fq (ps.drop (j + 1)) := i3
         refine w_ ?_
         refine W_cond_false rfl ?_
         refine w_ ?_
         exact LP_renG [0, 1, 2, 3, 4, 5, 6, 7, 8, 9, 14, 11, 12] (ih (j + 1, { z with l8 := xs }, { y with y8 := (false, cap4) }, fq) ⟨by omega, ⟨i2.1, i2.2.1, i2.2.2.1, i2.2.2.2.1, i2.2.2.2.2.1, i2.2.2.2.2.2.1, i2.2.2.2.2.2.2.1, i2.2.2.2.2.2.2.2.1, h3, i2.2.2.2.2.2.2.2.2.2⟩, i3⟩ (by simp only; omega)) s_ s_ rfl rfl rfl
       · rw [h1] at hZ
         have hZ : partZ z [66, 89, 69, 65, 83, 84, 69, 82] v = (z, 1) := hZ
         rw [hZ] at i3
         have hO : O = (RZ.zero, 1) := i3
         refine w_ ?_
         refine W_cond_true rfl ?_
         refine w_ ?_
         refine W_renG [] (n := 0) (tm' := [(4, .v (.pointer none)), (5, .ifc t (.v p))]) (hp' := []) ?_ s_ s_ rfl rfl rfl
         refine r_ ?_ ?_
         · exact s_
         · rw [hO]; exact .inr ⟨rfl, rfl, rfl, _, _, rfl⟩
     have hkBYEASTER : ¬ k = [66, 89, 69, 65, 83, 84, 69, 82] := hk
     refine w_ ?_
     have hZ := partZ_other z k v hkFREQ hkDTSTART hkUNTIL hkINTERVAL hkCOUNT hkWKST hkBYDAY hkBYSETPOS hkBYMONTH hkBYMONTHDAY hkBYYEARDAY hkBYWEEKNO hkBYHOUR hkBYMINUTE hkBYSECOND hkBYEASTER
     rw [hZ] at i3
     have hO : O = (RZ.zero, 1) := i3
     have hside : 24 + k.length ≤ 9223372036854775807 := by omega
     refine w_ ?_
     refine WL_call [] (errNew_tri _) rfl rfl rfl t_ t_ rfl rfl rfl rfl ?_; rintro _ _ _ ⟨rfl, rfl, et, ep, rfl⟩
     refine w_ ?_
     refine W_renG [] (n := 0) (tm' := [(4, .v (.pointer none)), (5, .ifc et (.v ep))]) (hp' := []) ?_ s_ s_ rfl rfl rfl
     refine r_ ?_ ?_
     · exact s_
     · rw [hO]; exact .inr ⟨rfl, rfl, rfl, _, _, rfl⟩
   | [k], _ =>
     have hO : O = (RZ.zero, 1) := i3
     refine w_ ?_
     refine W_cond_true rfl ?_
     refine w_ ?_
     refine WL_call [] (errNew_tri _) rfl rfl rfl t_ t_ rfl rfl rfl rfl ?_; rintro _ _ _ ⟨rfl, rfl, et, ep, rfl⟩
     refine w_ ?_
     refine W_renG [] (n := 0) (tm' := [(4, .v (.pointer none)), (5, .ifc et (.v ep))]) (hp' := []) ?_ s_ s_ rfl rfl rfl
     refine r_ ?_ ?_
     · exact s_
     · rw [hO]; exact .inr ⟨rfl, rfl, rfl, _, _, rfl⟩
   | a :: b :: c :: l, _ =>
     have e1 : ¬ ((a :: b :: c :: l).length : Int) = 2 := by simp; omega
     have hO : O = (RZ.zero, 1) := i3
     refine w_ ?_
     refine i_ ?_ ?_ <;> intro g
     rotate_left 1
     · exact absurd g e1
     refine w_ ?_
     refine WL_call [] (errNew_tri _) rfl rfl rfl t_ t_ rfl rfl rfl rfl ?_; rintro _ _ _ ⟨rfl, rfl, et, ep, rfl⟩
     refine w_ ?_
     refine W_renG [] (n := 0) (tm' := [(4, .v (.pointer none)), (5, .ifc et (.v ep))]) (hp' := []) ?_ s_ s_ rfl rfl rfl
     refine r_ ?_ ?_
     · exact s_
     · rw [hO]; exact .inr ⟨rfl, rfl, rfl, _, _, rfl⟩
 · have hj : j = ps.length := by omega
   rw [hj, List.drop_length, loopZ] at i3
   cases fq
   · have hO : O = (RZ.zero, 1) := i3
     refine w_ ?_
     refine x_ ?_
     refine w_ ?_
     refine W_cond_true rfl ?_
     refine w_ ?_
     refine WL_call [] (errNew_tri _) rfl rfl rfl t_ t_ rfl rfl rfl rfl ?_; rintro _ _ _ ⟨rfl, rfl, et, ep, rfl⟩
     refine w_ ?_
     refine W_renG [] (n := 0) (tm' := [(4, .v (.pointer none)), (5, .ifc et (.v ep))]) (hp' := []) ?_ s_ s_ rfl rfl rfl
     refine r_ ?_ ?_
     · exact s_
     · rw [hO]; exact .inr ⟨rfl, rfl, rfl, _, _, rfl⟩
   · have hO : O = (z, 0) := i3
     refine w_ ?_
     refine x_ ?_
     refine w_ ?_
     refine W_cond_false rfl ?_
     refine w_ ?_
     refine W_renG [2, 3, 4, 5, 6, 7, 8, 9, 10, 11, 1] (n := 11) (tm' := [(4, .ptr 10 0), (5, .v .nilIface)]) (hp' := (10, .cells 145 (some 19) (cellsP z y 0)) :: lstHp 142 z 0) ?_ s_ s_ rfl rfl rfl
     refine r_ ?_ ?_
     · exact s_
     · rw [hO]; exact .inl ⟨rfl, y, i2, rfl, rfl, rfl⟩
end Go.Eng
