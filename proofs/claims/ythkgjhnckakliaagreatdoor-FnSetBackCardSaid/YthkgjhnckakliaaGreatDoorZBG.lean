/- A part of the proof that the rows statement FnSetBack holds; no conditions. -/
import Derived.Test.YthkgjhnckakliaaGreatDoorZBF
set_option linter.unusedVariables false
set_option linter.unusedSimpArgs false
set_option linter.unusedSectionVars false
namespace Go.Eng
open Go.Proofs
attribute [local irreducible] W WL LP Then InBl Tri WS
def ptP : Value → Option Addr
 | .pointer p => p
 | _ => none
structure PX where
 y : LY
 vs : Nat → Value
 st2 : Int
 yr : Bool × Nat
 ye : Bool × Nat
 mr : Option Nat
 me : Option Nat
def PX.zero : PX := ⟨LY.zero, fun _ => .nilIface, 0, (true, 0), (true, 0), none, none⟩
def rulH (hb : Bool) (z : RZ) (y : LY) (vs : Nat → Value) (b : Nat) : Hp := match hb with
 | true => (b + 10, .cells 152 (some 60) (cellsR z y b vs)) :: lstHp 142 z b
 | false => []
def setHpR (s : SZ) (q : PX) (b : Nat) : Hp := (b + 11, setO s.start (pQ s.has (b + 10)) (slI q.yr (b + 12) 2 s.rd.length) (slI q.ye (b + 13) 2 s.ex.length)) :: (b + 12, .recs 88 q.mr K2 (tms s.rd)) :: (b + 13, .recs 88 q.me K2 (tms s.ex)) :: rulH s.has { s.z with st := q.st2 } q.y q.vs b
structure POK (s : SZ) (q : PX) : Prop where
 lok : LOK s.z q.y
 gr : GOKR (tms s.rd) q.yr q.mr
 ge : GOKR (tms s.ex) q.ye q.me
theorem POK_zero (n : Int) : POK { SZ.zero with start := n } PX.zero := ⟨LOK_zero _ rfl, .inl ⟨rfl, rfl, rfl⟩, .inl ⟨rfl, rfl, rfl⟩⟩
def setPR (O : SZ × Nat) : Rs := fun k hp r =>
 (O.2 = 0 ∧ ∃ q, POK O.1 q ∧ k = 15 ∧ hp = setHpR O.1 q 1 ∧ r = .tup [.ptr 12 0, .v .nilIface]) ∨
 (O.2 = 1 ∧ k = 1 ∧ hp = [] ∧ ∃ t p, r = .tup [.v (.pointer none), .ifc t (.v p)])
theorem linesZ_open {f : Bool} {s : SZ} {l : List UInt8} {ls : List (List UInt8)} {O : SZ × Nat} (hO : O = linesZ f s (l :: ls)) (h : O.2 ≠ 2) : (lineZ f s l).2 ≠ 2 := by
 intro h2
 apply h
 rw [hO, linesZ, if_neg (by rw [h2]; exact Nat.succ_ne_zero 1)]
 exact h2
theorem lineZ_C {f : Bool} {s : SZ} {l : List UInt8} (h : (lineZ f s l).2 ≠ 2) : ascB l = true ∧ lineZ f s l = lineC f s l := by
 unfold lineZ at *
 split
 · rename_i h2
   rw [if_pos h2] at h
   exact absurd rfl h
 · rename_i h2
   refine ⟨?_, rfl⟩
   cases ha : ascB l with
   | true => rfl
   | false => exact absurd (.inl ha) h2
theorem nameLine_ne {s : SZ} {n x : List UInt8} (h : ¬ n = DTS) : nameLine true s n x = nameLine false s n x := by
 unfold nameLine
 rw [if_neg (show ¬ (true = true ∧ n = DTS) from fun h2 => h h2.2), if_neg (show ¬ (false = true ∧ n = DTS) from fun h2 => by cases h2.1)]
theorem lineZ_first {s : SZ} {l n : List UInt8} (hn : nameZ l = some n) (h : ¬ n = DTS) : lineZ true s l = lineZ false s l := by
 unfold lineZ lineC
 rw [hn]
 dsimp only
 rw [nameLine_ne h]
structure LIM (ls : List (List UInt8)) : Prop where
 n : ls.length ≤ 100
 l : ∀ l ∈ ls, l.length ≤ 100000
 b : ∀ l ∈ ls, nameZ l = some RRL → BND (optZ (l.drop 6)).1
theorem take_succ_getD {l : List Int} {i : Nat} (h : i < l.length) : l.take i ++ [l.getD i 0] = l.take (i + 1) := by
 rw [List.take_succ_eq_append_getElem h]; simp [List.getD, h]
set_option maxRecDepth 8192 in
set_option maxHeartbeats 4000000 in
theorem setInLoc_tri (ek : TypeId) (nl : Bool) (cap : Nat) (ls : List (List UInt8)) (hc : ls.length ≤ cap) (hL : LIM ls) (hop : (linesZ true SZ.zero ls).2 ≠ 2) :
 Tri C0 99 1 [(0, .strs ek none ls)] [.sl nl 0 1 0 ls.length cap, .agg []] (setPR (linesZ true SZ.zero ls)) := by
 obtain ⟨hn, hl, hbn⟩ := hL
 obtain ⟨O, hO⟩ : ∃ O, O = linesZ true SZ.zero ls := ⟨_, rfl⟩
 rw [← hO] at hop ⊢
 refine Tri.mk 131 [.tmp 4, .tmp 5] Tryz.func99 rfl rfl rfl rfl cf99 ?_; intro w0 S T ρ0
 refine w_ ?_
 refine i_ ?_ ?_ <;> intro h0
 · have h0 : ls = [] := List.length_eq_zero_iff.1 (by omega)
   subst h0
   refine w_ ?_
   refine W_imp (Imp_nils (show 0 < 22 by omega) [.recs 88 none K2 [], .recs 88 none K2 []] (s_)) ?_
   refine W_imp (Imp_cells 2 (cellsQ 0 (.v (.pointer none)) (slI (true, 0) 3 2 0) (slI (true, 0) 4 2 0)) rfl (fun _ => rfl) (s_) (fun h => absurd (congrArg List.length h) (Nat.succ_ne_zero 4))) ?_
   refine W_renG [0, 0, 0, 0, 0, 0, 0, 0, 0, 0, 0, 0, 2, 3, 4] (n := 15) (tm' := [(4, .ptr 12 0), (5, .v .nilIface)]) (hp' := setHpR SZ.zero PX.zero 1) ?_ s_ s_ rfl rfl rfl
   refine r_ ?_ ?_
   · exact s_
   · rw [hO]; exact .inl ⟨rfl, PX.zero, POK_zero 0, rfl, rfl, rfl⟩
 obtain ⟨l, ls', rfl⟩ : ∃ l ls', ls = l :: ls' := List.exists_cons_of_ne_nil (fun h => h0 (by rw [h]; rfl))
 clear h0
 have hll := hl l (by simp)
 obtain ⟨ha, hzc⟩ := lineZ_C (linesZ_open hO hop)
 have haa := ascB_iff.1 ha
 have hpos : 0 < (l :: ls').length := by simp
 refine w_ ?_
 rw [show (l :: ls').getD (0 + (0 : Int).toNat) [] = l from rfl]
 refine WL_call [] (ruleName_tri l (by omega) haa) rfl rfl rfl t_ t_ rfl rfl rfl rfl ?_; rintro _ _ _ ⟨rfl, rfl, hr⟩
 rcases hr with ⟨n, hnm, rfl⟩ | ⟨hnm, _, ⟨t, p, rfl⟩, rfl⟩
 rotate_left 1
 · have hz : lineZ true SZ.zero l = (SZ.zero, 1) := by rw [hzc]; unfold lineC; rw [hnm]
   have hO := linesZ_bad hO hz (Nat.succ_ne_zero _)
   refine w_ ?_
   refine W_cond_true rfl ?_
   refine w_ ?_
   refine W_renG [0] (n := 1) (tm' := [(4, .v (.pointer none)), (5, .ifc t (.v p))]) (hp' := []) ?_ s_ s_ rfl rfl rfl
   refine r_ ?_ ?_
   · exact s_
   · rw [hO]; exact .inr ⟨rfl, rfl, rfl, _, _, rfl⟩
 refine w_ ?_
 refine W_cond_false rfl ?_
 refine w_ ?_
 have hnl := name_len hnm
 have e1 : ((n.length : Int) + 1).toNat = n.length + 1 := by omega
 refine W_mid (α := Int × Nat × Bool × Nat × Nat) (fun p => (3, [(0, .sl p.2.2.1 0 1 p.2.2.2.1 ((l :: ls').length - p.2.1) p.2.2.2.2), (3, .ptr 1 0), (6, .ptr 2 0)], [(0, .strs ek none (l :: ls')), (1, .cells 156 (some 0) []), (2, setO p.1 (.v (.pointer none)) (.v (.slice none 0 0)) (.v (.slice none 0 0)))]))
  (fun p => (p.2.2.2.1 = p.2.1 ∨ (l :: ls').length - p.2.1 = 0) ∧ (l :: ls').length - p.2.1 ≤ p.2.2.2.2 ∧ p.2.1 ≤ 1 ∧ O = linesZ false { SZ.zero with start := p.1 } ((l :: ls').drop p.2.1) ∧ (-1000000000000 ≤ p.1 ∧ p.1 ≤ 1000000000000)) ?_ ?_
 · refine i_ ?_ ?_ <;> intro hd
   rotate_left 1
   · have hO : O = linesZ false SZ.zero (l :: ls') := by rw [hO, linesZ, linesZ, lineZ_first hnm hd]
     refine w_ ?_
     refine ⟨(0, 0, nl, 0, cap), ⟨.inl rfl, hc, Nat.zero_le _, hO, Z0⟩, Imp_renG [0, 1, 2] ?_ ?_ rfl rfl rfl⟩
     · exact s_
     · exact s_
   · have hd : n = DTS := hd
     have hz : lineZ true SZ.zero l = if (startZ (l.drop (n.length + 1))).2 = 0 then ({ SZ.zero with start := (startZ (l.drop (n.length + 1))).1 }, 0) else (SZ.zero, (startZ (l.drop (n.length + 1))).2) := by
      rw [hzc]; unfold lineC; rw [hnm]; dsimp only; unfold nameLine; rw [if_pos ⟨rfl, hd⟩]
     have hx2 : (startZ (l.drop (n.length + 1))).2 ≠ 2 := by
      intro h2
      have := linesZ_open hO hop
      rw [hz, if_neg (by rw [h2]; exact Nat.succ_ne_zero 1)] at this
      exact this h2
     have hxl : (l.drop (n.length + 1)).length ≤ 100000 := by rw [List.length_drop]; omega
     have hbd := startZ_bd (l.drop (n.length + 1))
     obtain ⟨x, hx⟩ : ∃ x, x = l.drop (n.length + 1) := ⟨_, rfl⟩
     rw [← hx] at hz hx2 hxl hbd
     repeat (refine W_seq ?_)
     refine W_drawX [0, 1] [] 15 12 mo0 (by kernel_rfl) (by kernel_rfl) (fun ρ1 hkl => ?_)
     have hside : 0 ≤ (n.length : Int) + 1 ∧ (n.length : Int) + 1 ≤ (((l :: ls').getD (0 + (0 : Int).toNat) []).length : Int) := by
      rw [show (l :: ls').getD (0 + (0 : Int).toNat) [] = l from rfl]; omega
     repeat (apply WSX_val; exact rfl; exact rfl; exact rfl; exact rfl; exact rfl; first | exact trivial | omega | exact hside | (simp only [rng]; omega))
     rw [show (l :: ls').getD (0 + (0 : Int).toNat) [] = l from rfl, e1, ← hx]
     repeat (apply WSX_val; exact rfl; exact rfl; exact rfl; exact rfl; exact rfl; first | exact trivial | omega | exact hside | (simp only [rng]; omega))
     refine WSX_loud rfl rfl rfl rfl ?_ ?_ hkl
     · refine WS_loud rfl ?_ hkl
       refine WL_new rfl rfl rfl ?_
       refine WL_nil ?_; refine nq_walk ⟨fun _ => t_, ?_⟩; refine d_ ?_
       refine WS_loud rfl ?_ hkl; refine WL_call [] (dtStart_tri x (by omega) hx2) rfl rfl rfl t_ t_ rfl rfl rfl rfl ?_; rintro _ _ _ ⟨rfl, rfl, hr⟩; refine WL_nil ?_; refine nq_walk ⟨fun _ => t_, ?_⟩; refine d_ ?_
       rcases hr with ⟨z0, rfl⟩ | ⟨z1, er, he, rfl⟩
       · refine d_ ?_
         refine WS_loud rfl ?_ hkl
         refine WL_store rfl rfl trivial ?_
         refine WL_nil ?_
         refine nq_walk ⟨fun h => (by cases h), ?_⟩
         refine d_ ?_
         have hz : lineZ true SZ.zero l = ({ SZ.zero with start := (startZ x).1 }, 0) := by rw [hz, if_pos z0]
         have hO := linesZ_ok hO hz
         refine w_ ?_
         refine W_cond_false rfl ?_
         refine w_ ?_
         refine WL_call [] (location_tri (startZ x).1 0) rfl rfl rfl t_ t_ rfl rfl rfl rfl ?_; rintro _ _ _ ⟨rfl, rfl, rfl⟩
         refine w_ ?_
         refine WL_call [2] (dtstartS_tri (startZ x).1) rfl rfl rfl (s_) (s_) rfl rfl rfl rfl ?_; rintro _ _ _ ⟨_, rfl, rfl, rfl, _⟩
         refine w_ ?_
         by_cases hcap : cap = 1
         · have hls : ls' = [] := by
            cases ls' with
            | nil => rfl
            | cons a b => simp only [List.length_cons] at hc; omega
           subst hls
           subst hcap
           refine WL_sliceE (cap := 1) rfl rfl rfl rfl rfl rfl rfl ⟨rfl, Nat.zero_lt_one⟩ ?_
           refine w_ ?_
           refine ⟨((startZ x).1, 1, false, 0, 0), ⟨.inr rfl, by simp only [List.length_cons] at hc ⊢; omega, Nat.le_refl _, hO, hbd⟩, Imp_renG [0, 1, 2] ?_ ?_ rfl rfl rfl⟩
           · exact s_
           · exact s_
         · have hcap2 : 1 < cap := by simp only [List.length_cons] at hc; omega
           have hcc : (1 : Int) ≤ ((l :: ls').length : Int) := by omega
           refine w_ ?_
           refine ⟨((startZ x).1, 1, nl, 1, cap - 1), ⟨.inl rfl, by simp only [List.length_cons] at hc ⊢; omega, Nat.le_refl _, hO, hbd⟩, Imp_renG [0, 1, 2] ?_ ?_ rfl rfl rfl⟩
           · exact s_
           · exact s_
       · refine d_ ?_
         refine WS_loud rfl ?_ hkl
         refine WL_store rfl rfl trivial ?_
         refine WL_nil ?_
         refine nq_walk ⟨fun h => (by cases h), ?_⟩
         refine d_ ?_
         have hz : lineZ true SZ.zero l = (SZ.zero, 1) := by rw [hz, if_neg (by rw [z1]; exact Nat.succ_ne_zero 0), z1]
         have hO := linesZ_bad hO hz (Nat.succ_ne_zero _)
         obtain ⟨et0, ep0, rfl⟩ := he
         refine w_ ?_
         refine W_cond_true rfl ?_
         refine w_ ?_
         refine WL_call [] (errNew_tri _) rfl rfl rfl t_ t_ rfl rfl rfl rfl ?_; rintro _ _ _ ⟨rfl, rfl, et, ep, rfl⟩
         refine w_ ?_
         refine W_renG [0] (n := 1) (tm' := [(4, .v (.pointer none)), (5, .ifc et (.v ep))]) (hp' := []) ?_ s_ s_ rfl rfl rfl
         refine r_ ?_ ?_
         · exact s_
         · rw [hO]; exact .inr ⟨rfl, rfl, rfl, _, _, rfl⟩
     · refine WL_call [] (dtStart_tri x (by omega) hx2) rfl rfl rfl (s_) (s_) rfl rfl rfl rfl ?_; rintro _ _ _ ⟨rfl, rfl, hr⟩
       refine WL_nil ?_
       refine nq_walk ⟨s_, ?_⟩
       rcases hr with ⟨z0, rfl⟩ | ⟨z1, er, he, rfl⟩
       · repeat (apply WSX_val; exact rfl; exact rfl; exact rfl; exact rfl; exact rfl; first | exact trivial | omega | exact hside | (simp only [rng]; omega))
         refine WSX_ax rfl rfl ?_
         refine WS_loud rfl ?_ hkl
         refine WL_new rfl rfl rfl ?_
         refine WL_nil ?_; refine nq_walk ⟨fun _ => t_, ?_⟩; refine d_ ?_
         refine WS_loud rfl ?_ hkl
         refine WL_store rfl rfl trivial ?_
         refine WL_nil ?_
         refine nq_walk ⟨fun h => (by cases h), ?_⟩
         refine d_ ?_
         have hz : lineZ true SZ.zero l = ({ SZ.zero with start := (startZ x).1 }, 0) := by rw [hz, if_pos z0]
         have hO := linesZ_ok hO hz
         refine w_ ?_
         refine W_cond_false rfl ?_
         refine w_ ?_
         refine WL_call [] (location_tri (startZ x).1 0) rfl rfl rfl t_ t_ rfl rfl rfl rfl ?_; rintro _ _ _ ⟨rfl, rfl, rfl⟩
         refine w_ ?_
         refine WL_call [2] (dtstartS_tri (startZ x).1) rfl rfl rfl (s_) (s_) rfl rfl rfl rfl ?_; rintro _ _ _ ⟨_, rfl, rfl, rfl, _⟩
         refine w_ ?_
         by_cases hcap : cap = 1
         · have hls : ls' = [] := by
            cases ls' with
            | nil => rfl
            | cons a b => simp only [List.length_cons] at hc; omega
           subst hls
           subst hcap
           refine WL_sliceE (cap := 1) rfl rfl rfl rfl rfl rfl rfl ⟨rfl, Nat.zero_lt_one⟩ ?_
           refine w_ ?_
           refine ⟨((startZ x).1, 1, false, 0, 0), ⟨.inr rfl, by simp only [List.length_cons] at hc ⊢; omega, Nat.le_refl _, hO, hbd⟩, Imp_renG [0, 1, 2] ?_ ?_ rfl rfl rfl⟩
           · exact s_
           · exact s_
         · have hcap2 : 1 < cap := by simp only [List.length_cons] at hc; omega
           have hcc : (1 : Int) ≤ ((l :: ls').length : Int) := by omega
           refine w_ ?_
           refine ⟨((startZ x).1, 1, nl, 1, cap - 1), ⟨.inl rfl, by simp only [List.length_cons] at hc ⊢; omega, Nat.le_refl _, hO, hbd⟩, Imp_renG [0, 1, 2] ?_ ?_ rfl rfl rfl⟩
           · exact s_
           · exact s_
       · repeat (apply WSX_val; exact rfl; exact rfl; exact rfl; exact rfl; exact rfl; first | exact trivial | omega | exact hside | (simp only [rng]; omega))
         refine WSX_ax rfl rfl ?_
         refine WS_loud rfl ?_ hkl
         refine WL_new rfl rfl rfl ?_
         refine WL_nil ?_; refine nq_walk ⟨fun _ => t_, ?_⟩; refine d_ ?_
         refine WS_loud rfl ?_ hkl
         refine WL_store rfl rfl trivial ?_
         refine WL_nil ?_
         refine nq_walk ⟨fun h => (by cases h), ?_⟩
         refine d_ ?_
         have hz : lineZ true SZ.zero l = (SZ.zero, 1) := by rw [hz, if_neg (by rw [z1]; exact Nat.succ_ne_zero 0), z1]
         have hO := linesZ_bad hO hz (Nat.succ_ne_zero _)
         obtain ⟨et0, ep0, rfl⟩ := he
         refine w_ ?_
         refine W_cond_true rfl ?_
         refine w_ ?_
         refine WL_call [] (errNew_tri _) rfl rfl rfl t_ t_ rfl rfl rfl rfl ?_; rintro _ _ _ ⟨rfl, rfl, et, ep, rfl⟩
         refine w_ ?_
         refine W_renG [0] (n := 1) (tm' := [(4, .v (.pointer none)), (5, .ifc et (.v ep))]) (hp' := []) ?_ s_ s_ rfl rfl rfl
         refine r_ ?_ ?_
         · exact s_
         · rw [hO]; exact .inr ⟨rfl, rfl, rfl, _, _, rfl⟩
 clear hzc haa ha hnm hnl e1 hll hpos n
 rintro ⟨st0, off, nl2, o2, cap2⟩ ⟨q1, q2, q3, hO, hbd0⟩
 simp only at q1 q2 q3 hO hbd0
 generalize (l :: ls') = ls at hc hn hl hbn q1 q2 hO ⊢
 obtain ⟨K, hK⟩ : ∃ K : Nat, K = 536870913 := ⟨_, rfl⟩
 refine w_ ?_
 refine W_loop ?_
 refine LP_imp (Imp_nils (show 0 < 22 by omega) [.recs 88 none K2 [], .recs 88 none K2 []] (s_)) ?_
 refine LP_imp (Imp_cells 2 (cellsQ st0 (.v (.pointer none)) (slI (true, 0) 3 2 0) (slI (true, 0) 4 2 0)) rfl (fun _ => rfl) (s_) (fun h => absurd (congrArg List.length h) (Nat.succ_ne_zero 4))) ?_
 refine LP_renG [0, 1, 0, 0, 0, 0, 0, 0, 0, 0, 0, 0, 0, 2, 3, 4] (LP_ind 16 (fun q : Nat × SZ × PX => ([(3, .ptr 1 0), (6, .ptr 13 0), (62, .sl nl2 0 1 o2 (ls.length - off) cap2), (63, .int .i64 ((ls.length - off : Nat) : Int)), (64, .int .i64 q.1)],
  (0, .strs ek none ls) :: (1, .cells 156 (some 0) []) :: setHpR q.2.1 q.2.2 2)) (fun q => ls.length - off - q.1)
  (fun q => q.1 ≤ ls.length - off ∧ POK q.2.1 q.2.2 ∧ q.2.1.rd.length ≤ q.1 * K ∧ q.2.1.ex.length ≤ q.1 * K ∧ (-1000000000000 ≤ q.2.1.start ∧ q.2.1.start ≤ 1000000000000) ∧ O = linesZ false q.2.1 (ls.drop (off + q.1)))
  (0, { SZ.zero with start := st0 }, PX.zero) ?_ ⟨Nat.zero_le _, POK_zero st0, Nat.zero_le _, Nat.zero_le _, hbd0, hO⟩) ?_ ?_ rfl rfl rfl
 rotate_left 1
 · exact s_
 · exact s_
 clear hO hbd0
 rintro ⟨j, s, q⟩ ⟨i1, i2, i3, i4, i5, i6⟩ ih
 simp only at i1 i2 i3 i4 i5 i6
 refine LP_round ?_; try dsimp only
 refine w_ ?_
 refine i_ ?_ ?_ <;> intro hj
 rotate_left 1
 · have hj : off + j = ls.length ∨ ls.length ≤ off + j := by omega
   rw [List.drop_eq_nil_of_le (by omega), linesZ] at i6
   rw [i6]
   refine w_ ?_
   refine x_ ?_
   refine w_ ?_
   clear ih i6
   obtain ⟨st, has, z, rd, ex⟩ := s
   obtain ⟨y, vs, st2, yr, ye, mr, me⟩ := q
   cases has with
   | false =>
     refine W_renG [0, 2, 3, 4, 5, 6, 7, 8, 9, 10, 11, 12, 13, 14, 15] (n := 15) (tm' := [(4, .ptr 12 0), (5, .v .nilIface)]) (hp' := setHpR ⟨st, false, z, rd, ex⟩ ⟨y, vs, st2, yr, ye, mr, me⟩ 1) ?_ s_ s_ rfl rfl rfl
     refine r_ ?_ ?_
     · exact s_
     · exact .inl ⟨rfl, _, i2, rfl, rfl, rfl⟩
   | true =>
     refine W_renG [0, 2, 3, 4, 5, 6, 7, 8, 9, 10, 11, 12, 13, 14, 15] (n := 15) (tm' := [(4, .ptr 12 0), (5, .v .nilIface)]) (hp' := setHpR ⟨st, true, z, rd, ex⟩ ⟨y, vs, st2, yr, ye, mr, me⟩ 1) ?_ s_ s_ rfl rfl rfl
     refine r_ ?_ ?_
     · exact s_
     · exact .inl ⟨rfl, _, i2, rfl, rfl, rfl⟩
 have hj : j < ls.length - off := by omega
 have ho : o2 = off := q1.resolve_right (by omega)
 subst ho
 have hKs : (j + 1) * K = j * K + K := Nat.succ_mul j K
 have hKb : j * K ≤ 100 * K := Nat.mul_le_mul_right K (by omega)
 rw [drop_getL (show o2 + j < ls.length by omega)] at i6
 have hll := hl _ (getD_mem (show o2 + j < ls.length by omega))
 have hlm := getD_mem (show o2 + j < ls.length by omega)
 obtain ⟨l, hle⟩ : ∃ l, l = ls.getD (o2 + j) [] := ⟨_, rfl⟩
 rw [← hle] at i6 hll hlm
 have hopl := linesZ_open i6 hop
 obtain ⟨ha, hzc⟩ := lineZ_C hopl
 have haa := ascB_iff.1 ha
 refine w_ ?_
 rw [show o2 + (j : Int).toNat = o2 + j by omega, ← hle]
 refine WL_call [] (ruleName_tri l (by omega) haa) rfl rfl rfl t_ t_ rfl rfl rfl rfl ?_; rintro _ _ _ ⟨rfl, rfl, hr⟩
 rcases hr with ⟨n, hnm, rfl⟩ | ⟨hnm, _, ⟨t, p, rfl⟩, rfl⟩
 rotate_left 1
 · have hz : lineZ false s l = (SZ.zero, 1) := by rw [hzc]; unfold lineC; rw [hnm]
   have hO := linesZ_bad i6 hz (Nat.succ_ne_zero _)
   refine w_ ?_
   refine W_cond_true rfl ?_
   refine w_ ?_
   refine W_renG [0] (n := 1) (tm' := [(4, .v (.pointer none)), (5, .ifc t (.v p))]) (hp' := []) ?_ s_ s_ rfl rfl rfl
   refine r_ ?_ ?_
   · exact s_
   · rw [hO]; exact .inr ⟨rfl, rfl, rfl, _, _, rfl⟩
 have hzn : lineZ false s l = nameLine false s n (l.drop (n.length + 1)) := by rw [hzc]; unfold lineC; rw [hnm]
 clear hzc
 have hnl := name_len hnm
 have e1 : ((n.length : Int) + 1).toNat = n.length + 1 := by omega
 obtain ⟨x, hx⟩ : ∃ x, x = l.drop (n.length + 1) := ⟨_, rfl⟩
 have hxl : x.length ≤ 100000 := by rw [hx, List.length_drop]; omega
 have hxa : asc x := by rw [hx]; exact asc_drop haa _
 rw [← hx] at hzn
 refine w_ ?_
 refine W_cond_false rfl ?_
 refine w_ ?_
 rw [e1, ← hx]
 refine w_ ?_
 refine i_ ?_ ?_ <;> intro hr
 · have hr : n = RRL := hr
   have hz : lineZ false s l = if (optZ x).2 = 0 then (if rightZ (optZ x).1 = true then (withRule s (optZ x).1, 0) else (SZ.zero, 1)) else (SZ.zero, (optZ x).2) := by
    rw [hzn]; unfold nameLine; rw [if_neg (show ¬ (false = true ∧ n = DTS) from fun h => by cases h.1), if_pos hr]
   have hx2 : (optZ x).2 ≠ 2 := by
    intro h2
    rw [hz, if_neg (by rw [h2]; exact Nat.succ_ne_zero 1)] at hopl
    exact hopl h2
   have hB : BND (optZ x).1 := by rw [hx, hr]; exact hbn l hlm (by rw [hnm, hr])
   refine w_ ?_
   refine WL_call [] (strToROption_tri x (by omega) hxa hx2) rfl rfl rfl (s_) (s_) rfl rfl rfl rfl ?_
   generalize optZ x = P at *
   rintro _ _ _ (⟨p0, y', hy', rfl, rfl, rfl⟩ | ⟨p1, rfl, rfl, t, p, rfl⟩)
   rotate_left 1
   · rw [if_neg (by rw [p1]; exact Nat.succ_ne_zero 0), p1] at hz
     have hO := linesZ_bad i6 hz (Nat.succ_ne_zero _)
     refine w_ ?_
     refine W_cond_true rfl ?_
     refine w_ ?_
     refine WL_call [] (errNew_tri _) rfl rfl rfl t_ t_ rfl rfl rfl rfl ?_; rintro _ _ _ ⟨rfl, rfl, et, ep, rfl⟩
     refine w_ ?_
     refine W_renG [0] (n := 1) (tm' := [(4, .v (.pointer none)), (5, .ifc et (.v ep))]) (hp' := []) ?_ s_ s_ rfl rfl rfl
     refine r_ ?_ ?_
     · exact s_
     · rw [hO]; exact .inr ⟨rfl, rfl, rfl, _, _, rfl⟩
   rw [if_pos p0] at hz
   refine w_ ?_
   refine W_cond_false rfl ?_
   refine w_ ?_
   refine WL_call [16, 17, 18, 19, 20, 21, 22, 23, 24, 25] (newRRule_tri P.1 y' hy' hB) rfl rfl rfl (s_) (s_) rfl rfl rfl rfl ?_
   rintro _ _ _ (⟨r1, vs, rfl, rfl, rfl⟩ | ⟨r0, rfl, rfl, t, p, rfl⟩)
   rotate_left 1
   · rw [if_neg (by rw [r0]; decide)] at hz
     have hO := linesZ_bad i6 hz (Nat.succ_ne_zero _)
     refine w_ ?_
     refine W_cond_true rfl ?_
     refine w_ ?_
     refine WL_call [] (errNew_tri _) rfl rfl rfl t_ t_ rfl rfl rfl rfl ?_; rintro _ _ _ ⟨rfl, rfl, et, ep, rfl⟩
     refine w_ ?_
     refine W_renG [0] (n := 1) (tm' := [(4, .v (.pointer none)), (5, .ifc et (.v ep))]) (hp' := []) ?_ s_ s_ rfl rfl rfl
     refine r_ ?_ ?_
     · exact s_
     · rw [hO]; exact .inr ⟨rfl, rfl, rfl, _, _, rfl⟩
   rw [if_pos r1] at hz
   have hO := linesZ_ok i6 hz
   refine w_ ?_
   refine W_cond_false rfl ?_
   refine w_ ?_
   refine WL_blurC 13 (fun v => cellsQ s.start (.v (.pointer (ptP (v 2)))) (slI q.yr 14 2 s.rd.length) (slI q.ye 15 2 s.ex.length)) rfl (fun ρ => by cases s.has <;> rfl) (fun _ => s_) (fun h => absurd (congrArg List.length h) (Nat.succ_ne_zero 4)) ?_
   intro vb
   have e2 : startW P.1 s.start = (withRule s P.1).start := by
    unfold startW withRule startOf
    by_cases h0 : P.1.st = 0
    · rw [if_pos h0, if_neg (fun h => h.2 h0)]
    · rw [if_neg h0, if_pos ⟨rfl, h0⟩]
   have hb2 : -1000000000000 ≤ (withRule s P.1).start ∧ (withRule s P.1).start ≤ 1000000000000 := by
    rw [← e2]; unfold startW; split
    · exact i5
    · exact hB.st
   refine WL_call [16, 17, 18, 19, 20, 21, 22, 23, 24, 25, 27, 13, 14, 15] (ruleS_tri P.1 y' hy' r1 hB s.start i5 vs (ptP (vb 2)) q.yr q.ye s.rd.length s.ex.length) rfl rfl rfl (s_) (s_) rfl rfl rfl rfl ?_; rintro _ _ _ ⟨⟨st9, vs9⟩, rfl, rfl, rfl, _⟩
   rw [e2]
   refine w_ ?_
   have ih9 := ih (j + 1, withRule s P.1, ⟨y', vs9, st9, q.yr, q.ye, q.mr, q.me⟩) ⟨by omega, ⟨hy', i2.gr, i2.ge⟩, by show s.rd.length ≤ (j + 1) * K; omega, by show s.ex.length ≤ (j + 1) * K; omega, hb2, hO⟩ (by simp only; omega)
   dsimp only at ih9
   exact LP_renG [0, 1, 16, 17, 18, 19, 20, 21, 22, 23, 24, 25, 27, 13, 14, 15] ih9 s_ s_ rfl rfl rfl
 refine w_ ?_
 refine i_ ?_ ?_ <;> intro hrd
 · have hrd : n = RDT := hrd
   have hz : lineZ false s l = if (datesZ x).2 = 0 then ({ s with rd := s.rd ++ (datesZ x).1 }, 0) else (SZ.zero, (datesZ x).2) := by
    rw [hzn]; unfold nameLine; rw [if_neg (show ¬ (false = true ∧ n = DTS) from fun h => by cases h.1), if_neg hr, if_pos hrd]
   have hx2 : (datesZ x).2 ≠ 2 := by
    intro h2
    rw [hz, if_neg (by rw [h2]; exact Nat.succ_ne_zero 1)] at hopl
    exact hopl h2
   have hpos := fun h => datesZ_pos (s := x) h (by omega)
   refine w_ ?_
   refine i_ ?_ ?_ <;> intro hrd2
   rotate_left 1
   · exact absurd hrd hrd2
   refine w_ ?_
   refine WL_call [] (dates_tri x (by omega) hx2) rfl rfl rfl (s_) (s_) rfl rfl rfl rfl ?_
   generalize datesZ x = D at *
   rintro _ _ _ (⟨p0, capd, ttd, d1, d2, rfl, rfl, rfl⟩ | ⟨p1, rfl, rfl, _, ⟨t, p, rfl⟩, rfl⟩)
   rotate_left 1
   · rw [if_neg (by rw [p1]; exact Nat.succ_ne_zero 0), p1] at hz
     have hO := linesZ_bad i6 hz (Nat.succ_ne_zero _)
     refine w_ ?_
     refine W_cond_true rfl ?_
     refine w_ ?_
     refine WL_call [] (errNew_tri _) rfl rfl rfl t_ t_ rfl rfl rfl rfl ?_; rintro _ _ _ ⟨rfl, rfl, et, ep, rfl⟩
     refine w_ ?_
     refine W_renG [0] (n := 1) (tm' := [(4, .v (.pointer none)), (5, .ifc et (.v ep))]) (hp' := []) ?_ s_ s_ rfl rfl rfl
     refine r_ ?_ ?_
     · exact s_
     · rw [hO]; exact .inr ⟨rfl, rfl, rfl, _, _, rfl⟩
   rw [if_pos p0] at hz
   have hO := linesZ_ok i6 hz
   have hpos := hpos p0
   refine w_ ?_
   refine W_cond_false rfl ?_
   refine w_ ?_
   obtain ⟨st, has, z, rd, ex⟩ := s
   obtain ⟨y, vs, st2, yr, ye, mr, me⟩ := q
   obtain ⟨g1, g2, g3⟩ := i2
   simp only at g1 g2 g3 i3 i4 i5 hO
   clear hz hopl hzn i6
   cases has with
   | false =>
     refine W_loop ?_
     refine LP_renG [0, 1, 2, 3, 4, 5, 6, 7, 8, 9, 10, 11, 12, 13, 14, 15, 16] (LP_ind 17 (fun p : Nat × List Int × (Bool × Nat) × Option Nat => ([(3, .ptr 1 0), (6, .ptr 13 0), (13, .str n), (62, .sl nl2 0 1 o2 (ls.length - o2) cap2), (63, .int .i64 ((ls.length - o2 : Nat) : Int)), (64, .int .i64 j), (117, .sl false 16 2 0 D.1.length capd), (118, .int .i64 D.1.length), (119, .int .i64 p.1)],
      (0, .strs ek none ls) :: (1, .cells 156 (some 0) []) :: (16, .recs 88 (some ttd) K2 (tms D.1)) :: setHpR ⟨st, false, z, p.2.1, ex⟩ ⟨y, vs, st2, p.2.2.1, ye, p.2.2.2, me⟩ 2)) (fun p => D.1.length - p.1)
      (fun p => p.1 ≤ D.1.length ∧ p.2.1 = rd ++ D.1.take p.1 ∧ GOKR (tms p.2.1) p.2.2.1 p.2.2.2) (0, rd, yr, mr) ?_ ⟨Nat.zero_le _, by simp, g2⟩) ?_ ?_ rfl rfl rfl
     rotate_left 1
     · exact s_
     · exact s_
     rintro ⟨i, l9, y9, m9⟩ ⟨u1, u2, u3⟩ ih2
     simp only at u1 u2 u3
     refine LP_round ?_; try dsimp only
     refine w_ ?_
     refine i_ ?_ ?_ <;> intro hi
     rotate_left 1
     · have hi : i = D.1.length := by omega
       rw [hi, List.take_length] at u2
       subst u2
       refine w_ ?_
       refine x_ ?_
       refine w_ ?_
       have ih9 := ih (j + 1, ⟨st, false, z, rd ++ D.1, ex⟩, ⟨y, vs, st2, y9, ye, m9, me⟩) ⟨by omega, ⟨g1, u3, g3⟩, by show (rd ++ D.1).length ≤ (j + 1) * K; rw [List.length_append]; omega, by show ex.length ≤ (j + 1) * K; omega, i5, hO⟩ (by simp only; omega)
       dsimp only at ih9
       exact LP_renG [0, 1, 2, 3, 4, 5, 6, 7, 8, 9, 10, 11, 12, 13, 14, 15] ih9 s_ s_ rfl rfl rfl
     have hi : i < D.1.length := by omega
     have hml : (tms D.1).length = D.1.length := by simp
     have hl9 : l9.length ≤ (j + 1) * K := by rw [u2, List.length_append, List.length_take]; omega
     refine w_ ?_
     rw [show 0 + (i : Int).toNat = i by omega, tms_get hi]
     refine w_ ?_
     refine i_ ?_ ?_ <;> intro h7
     · refine w_ ?_
       have u4 := u3
       rcases u3 with ⟨rfl, rfl, _⟩ | ⟨tt0, cap0, rfl, rfl, _, _⟩
       · refine WL_call [13, 14, 15, 12] (rdate_tri (D.1.getD i 0) st false l9 (by omega) _ _ u4 ye ex.length) rfl rfl rfl (s_) (s_) rfl rfl rfl rfl ?_; rintro _ _ _ ⟨⟨cap3, tt3⟩, rfl, rfl, rfl, hc3, hc4⟩
         refine w_ ?_
         have ih9 := ih2 (i + 1, l9 ++ [D.1.getD i 0], (false, cap3), some tt3) ⟨hi, by simp only; rw [u2, List.append_assoc, take_succ_getD hi], .inr ⟨tt3, cap3, rfl, rfl, by simp at hc3 ⊢; omega, hc4⟩⟩ (by simp only; omega)
         dsimp only at ih9
         unfold setHpR at ih9
         rw [show tms (l9 ++ [D.1.getD i 0]) = tms l9 ++ [[D.1.getD i 0, 0]] by simp, show (l9 ++ [D.1.getD i 0]).length = l9.length + 1 by simp] at ih9
         exact LP_renG [0, 1, 2, 3, 4, 5, 6, 7, 8, 9, 10, 11, 12, 13, 18, 15, 16] ih9 s_ s_ rfl rfl rfl
       · refine WL_call [13, 14, 15, 12] (rdate_tri (D.1.getD i 0) st false l9 (by omega) _ _ u4 ye ex.length) rfl rfl rfl (s_) (s_) rfl rfl rfl rfl ?_; rintro _ _ _ ⟨⟨cap3, tt3⟩, rfl, rfl, rfl, hc3, hc4⟩
         refine w_ ?_
         have ih9 := ih2 (i + 1, l9 ++ [D.1.getD i 0], (false, cap3), some tt3) ⟨hi, by simp only; rw [u2, List.append_assoc, take_succ_getD hi], .inr ⟨tt3, cap3, rfl, rfl, by simp at hc3 ⊢; omega, hc4⟩⟩ (by simp only; omega)
         dsimp only at ih9
         unfold setHpR at ih9
         rw [show tms (l9 ++ [D.1.getD i 0]) = tms l9 ++ [[D.1.getD i 0, 0]] by simp, show (l9 ++ [D.1.getD i 0]).length = l9.length + 1 by simp] at ih9
         exact LP_renG [0, 1, 2, 3, 4, 5, 6, 7, 8, 9, 10, 11, 12, 13, 18, 15, 16] ih9 s_ s_ rfl rfl rfl
     · exact absurd hrd h7
   | true =>
     refine W_loop ?_
     refine LP_renG [0, 1, 2, 3, 4, 5, 6, 7, 8, 9, 10, 11, 12, 13, 14, 15, 16] (LP_ind 17 (fun p : Nat × List Int × (Bool × Nat) × Option Nat => ([(3, .ptr 1 0), (6, .ptr 13 0), (13, .str n), (62, .sl nl2 0 1 o2 (ls.length - o2) cap2), (63, .int .i64 ((ls.length - o2 : Nat) : Int)), (64, .int .i64 j), (117, .sl false 16 2 0 D.1.length capd), (118, .int .i64 D.1.length), (119, .int .i64 p.1)],
      (0, .strs ek none ls) :: (1, .cells 156 (some 0) []) :: (16, .recs 88 (some ttd) K2 (tms D.1)) :: setHpR ⟨st, true, z, p.2.1, ex⟩ ⟨y, vs, st2, p.2.2.1, ye, p.2.2.2, me⟩ 2)) (fun p => D.1.length - p.1)
      (fun p => p.1 ≤ D.1.length ∧ p.2.1 = rd ++ D.1.take p.1 ∧ GOKR (tms p.2.1) p.2.2.1 p.2.2.2) (0, rd, yr, mr) ?_ ⟨Nat.zero_le _, by simp, g2⟩) ?_ ?_ rfl rfl rfl
     rotate_left 1
     · exact s_
     · exact s_
     rintro ⟨i, l9, y9, m9⟩ ⟨u1, u2, u3⟩ ih2
     simp only at u1 u2 u3
     refine LP_round ?_; try dsimp only
     refine w_ ?_
     refine i_ ?_ ?_ <;> intro hi
     rotate_left 1
     · have hi : i = D.1.length := by omega
       rw [hi, List.take_length] at u2
       subst u2
       refine w_ ?_
       refine x_ ?_
       refine w_ ?_
       have ih9 := ih (j + 1, ⟨st, true, z, rd ++ D.1, ex⟩, ⟨y, vs, st2, y9, ye, m9, me⟩) ⟨by omega, ⟨g1, u3, g3⟩, by show (rd ++ D.1).length ≤ (j + 1) * K; rw [List.length_append]; omega, by show ex.length ≤ (j + 1) * K; omega, i5, hO⟩ (by simp only; omega)
       dsimp only at ih9
       exact LP_renG [0, 1, 2, 3, 4, 5, 6, 7, 8, 9, 10, 11, 12, 13, 14, 15] ih9 s_ s_ rfl rfl rfl
     have hi : i < D.1.length := by omega
     have hml : (tms D.1).length = D.1.length := by simp
     have hl9 : l9.length ≤ (j + 1) * K := by rw [u2, List.length_append, List.length_take]; omega
     refine w_ ?_
     rw [show 0 + (i : Int).toNat = i by omega, tms_get hi]
     refine w_ ?_
     refine i_ ?_ ?_ <;> intro h7
     · refine w_ ?_
       have u4 := u3
       rcases u3 with ⟨rfl, rfl, _⟩ | ⟨tt0, cap0, rfl, rfl, _, _⟩
       · refine WL_call [13, 14, 15, 12] (rdate_tri (D.1.getD i 0) st true l9 (by omega) _ _ u4 ye ex.length) rfl rfl rfl (s_) (s_) rfl rfl rfl rfl ?_; rintro _ _ _ ⟨⟨cap3, tt3⟩, rfl, rfl, rfl, hc3, hc4⟩
         refine w_ ?_
         have ih9 := ih2 (i + 1, l9 ++ [D.1.getD i 0], (false, cap3), some tt3) ⟨hi, by simp only; rw [u2, List.append_assoc, take_succ_getD hi], .inr ⟨tt3, cap3, rfl, rfl, by simp at hc3 ⊢; omega, hc4⟩⟩ (by simp only; omega)
         dsimp only at ih9
         unfold setHpR at ih9
         rw [show tms (l9 ++ [D.1.getD i 0]) = tms l9 ++ [[D.1.getD i 0, 0]] by simp, show (l9 ++ [D.1.getD i 0]).length = l9.length + 1 by simp] at ih9
         exact LP_renG [0, 1, 2, 3, 4, 5, 6, 7, 8, 9, 10, 11, 12, 13, 18, 15, 16] ih9 s_ s_ rfl rfl rfl
       · refine WL_call [13, 14, 15, 12] (rdate_tri (D.1.getD i 0) st true l9 (by omega) _ _ u4 ye ex.length) rfl rfl rfl (s_) (s_) rfl rfl rfl rfl ?_; rintro _ _ _ ⟨⟨cap3, tt3⟩, rfl, rfl, rfl, hc3, hc4⟩
         refine w_ ?_
         have ih9 := ih2 (i + 1, l9 ++ [D.1.getD i 0], (false, cap3), some tt3) ⟨hi, by simp only; rw [u2, List.append_assoc, take_succ_getD hi], .inr ⟨tt3, cap3, rfl, rfl, by simp at hc3 ⊢; omega, hc4⟩⟩ (by simp only; omega)
         dsimp only at ih9
         unfold setHpR at ih9
         rw [show tms (l9 ++ [D.1.getD i 0]) = tms l9 ++ [[D.1.getD i 0, 0]] by simp, show (l9 ++ [D.1.getD i 0]).length = l9.length + 1 by simp] at ih9
         exact LP_renG [0, 1, 2, 3, 4, 5, 6, 7, 8, 9, 10, 11, 12, 13, 18, 15, 16] ih9 s_ s_ rfl rfl rfl
     · exact absurd hrd h7
 refine w_ ?_
 refine i_ ?_ ?_ <;> intro hex
 · have hex : n = EXT := hex
   have hz : lineZ false s l = if (datesZ x).2 = 0 then ({ s with ex := s.ex ++ (datesZ x).1 }, 0) else (SZ.zero, (datesZ x).2) := by
    rw [hzn]; unfold nameLine; rw [if_neg (show ¬ (false = true ∧ n = DTS) from fun h => by cases h.1), if_neg hr, if_neg hrd, if_pos hex]
   have hx2 : (datesZ x).2 ≠ 2 := by
    intro h2
    rw [hz, if_neg (by rw [h2]; exact Nat.succ_ne_zero 1)] at hopl
    exact hopl h2
   have hpos := fun h => datesZ_pos (s := x) h (by omega)
   refine w_ ?_
   refine WL_call [] (dates_tri x (by omega) hx2) rfl rfl rfl (s_) (s_) rfl rfl rfl rfl ?_
   generalize datesZ x = D at *
   rintro _ _ _ (⟨p0, capd, ttd, d1, d2, rfl, rfl, rfl⟩ | ⟨p1, rfl, rfl, _, ⟨t, p, rfl⟩, rfl⟩)
   rotate_left 1
   · rw [if_neg (by rw [p1]; exact Nat.succ_ne_zero 0), p1] at hz
     have hO := linesZ_bad i6 hz (Nat.succ_ne_zero _)
     refine w_ ?_
     refine W_cond_true rfl ?_
     refine w_ ?_
     refine WL_call [] (errNew_tri _) rfl rfl rfl t_ t_ rfl rfl rfl rfl ?_; rintro _ _ _ ⟨rfl, rfl, et, ep, rfl⟩
     refine w_ ?_
     refine W_renG [0] (n := 1) (tm' := [(4, .v (.pointer none)), (5, .ifc et (.v ep))]) (hp' := []) ?_ s_ s_ rfl rfl rfl
     refine r_ ?_ ?_
     · exact s_
     · rw [hO]; exact .inr ⟨rfl, rfl, rfl, _, _, rfl⟩
   rw [if_pos p0] at hz
   have hO := linesZ_ok i6 hz
   have hpos := hpos p0
   refine w_ ?_
   refine W_cond_false rfl ?_
   refine w_ ?_
   obtain ⟨st, has, z, rd, ex⟩ := s
   obtain ⟨y, vs, st2, yr, ye, mr, me⟩ := q
   obtain ⟨g1, g2, g3⟩ := i2
   simp only at g1 g2 g3 i3 i4 i5 hO
   clear hz hopl hzn i6
   cases has with
   | false =>
     refine W_loop ?_
     refine LP_renG [0, 1, 2, 3, 4, 5, 6, 7, 8, 9, 10, 11, 12, 13, 14, 15, 16] (LP_ind 17 (fun p : Nat × List Int × (Bool × Nat) × Option Nat => ([(3, .ptr 1 0), (6, .ptr 13 0), (13, .str n), (62, .sl nl2 0 1 o2 (ls.length - o2) cap2), (63, .int .i64 ((ls.length - o2 : Nat) : Int)), (64, .int .i64 j), (117, .sl false 16 2 0 D.1.length capd), (118, .int .i64 D.1.length), (119, .int .i64 p.1)],
      (0, .strs ek none ls) :: (1, .cells 156 (some 0) []) :: (16, .recs 88 (some ttd) K2 (tms D.1)) :: setHpR ⟨st, false, z, rd, p.2.1⟩ ⟨y, vs, st2, yr, p.2.2.1, mr, p.2.2.2⟩ 2)) (fun p => D.1.length - p.1)
      (fun p => p.1 ≤ D.1.length ∧ p.2.1 = ex ++ D.1.take p.1 ∧ GOKR (tms p.2.1) p.2.2.1 p.2.2.2) (0, ex, ye, me) ?_ ⟨Nat.zero_le _, by simp, g3⟩) ?_ ?_ rfl rfl rfl
     rotate_left 1
     · exact s_
     · exact s_
     rintro ⟨i, l9, y9, m9⟩ ⟨u1, u2, u3⟩ ih2
     simp only at u1 u2 u3
     refine LP_round ?_; try dsimp only
     refine w_ ?_
     refine i_ ?_ ?_ <;> intro hi
     rotate_left 1
     · have hi : i = D.1.length := by omega
       rw [hi, List.take_length] at u2
       subst u2
       refine w_ ?_
       refine x_ ?_
       refine w_ ?_
       have ih9 := ih (j + 1, ⟨st, false, z, rd, ex ++ D.1⟩, ⟨y, vs, st2, yr, y9, mr, m9⟩) ⟨by omega, ⟨g1, g2, u3⟩, by show rd.length ≤ (j + 1) * K; omega, by show (ex ++ D.1).length ≤ (j + 1) * K; rw [List.length_append]; omega, i5, hO⟩ (by simp only; omega)
       dsimp only at ih9
       exact LP_renG [0, 1, 2, 3, 4, 5, 6, 7, 8, 9, 10, 11, 12, 13, 14, 15] ih9 s_ s_ rfl rfl rfl
     have hi : i < D.1.length := by omega
     have hml : (tms D.1).length = D.1.length := by simp
     have hl9 : l9.length ≤ (j + 1) * K := by rw [u2, List.length_append, List.length_take]; omega
     refine w_ ?_
     rw [show 0 + (i : Int).toNat = i by omega, tms_get hi]
     refine w_ ?_
     refine i_ ?_ ?_ <;> intro h7
     · exact absurd h7 hrd
     · refine w_ ?_
       have u4 := u3
       rcases u3 with ⟨rfl, rfl, _⟩ | ⟨tt0, cap0, rfl, rfl, _, _⟩
       · refine WL_call [13, 15, 14, 12] (exdate_tri (D.1.getD i 0) st false l9 (by omega) _ _ u4 yr rd.length) rfl rfl rfl (s_) (s_) rfl rfl rfl rfl ?_; rintro _ _ _ ⟨⟨cap3, tt3⟩, rfl, rfl, rfl, hc3, hc4⟩
         refine w_ ?_
         have ih9 := ih2 (i + 1, l9 ++ [D.1.getD i 0], (false, cap3), some tt3) ⟨hi, by simp only; rw [u2, List.append_assoc, take_succ_getD hi], .inr ⟨tt3, cap3, rfl, rfl, by simp at hc3 ⊢; omega, hc4⟩⟩ (by simp only; omega)
         dsimp only at ih9
         unfold setHpR at ih9
         rw [show tms (l9 ++ [D.1.getD i 0]) = tms l9 ++ [[D.1.getD i 0, 0]] by simp, show (l9 ++ [D.1.getD i 0]).length = l9.length + 1 by simp] at ih9
         exact LP_renG [0, 1, 2, 3, 4, 5, 6, 7, 8, 9, 10, 11, 12, 13, 14, 18, 16] ih9 s_ s_ rfl rfl rfl
       · refine WL_call [13, 15, 14, 12] (exdate_tri (D.1.getD i 0) st false l9 (by omega) _ _ u4 yr rd.length) rfl rfl rfl (s_) (s_) rfl rfl rfl rfl ?_; rintro _ _ _ ⟨⟨cap3, tt3⟩, rfl, rfl, rfl, hc3, hc4⟩
         refine w_ ?_
         have ih9 := ih2 (i + 1, l9 ++ [D.1.getD i 0], (false, cap3), some tt3) ⟨hi, by simp only; rw [u2, List.append_assoc, take_succ_getD hi], .inr ⟨tt3, cap3, rfl, rfl, by simp at hc3 ⊢; omega, hc4⟩⟩ (by simp only; omega)
         dsimp only at ih9
         unfold setHpR at ih9
         rw [show tms (l9 ++ [D.1.getD i 0]) = tms l9 ++ [[D.1.getD i 0, 0]] by simp, show (l9 ++ [D.1.getD i 0]).length = l9.length + 1 by simp] at ih9
         exact LP_renG [0, 1, 2, 3, 4, 5, 6, 7, 8, 9, 10, 11, 12, 13, 14, 18, 16] ih9 s_ s_ rfl rfl rfl
   | true =>
     refine W_loop ?_
     refine LP_renG [0, 1, 2, 3, 4, 5, 6, 7, 8, 9, 10, 11, 12, 13, 14, 15, 16] (LP_ind 17 (fun p : Nat × List Int × (Bool × Nat) × Option Nat => ([(3, .ptr 1 0), (6, .ptr 13 0), (13, .str n), (62, .sl nl2 0 1 o2 (ls.length - o2) cap2), (63, .int .i64 ((ls.length - o2 : Nat) : Int)), (64, .int .i64 j), (117, .sl false 16 2 0 D.1.length capd), (118, .int .i64 D.1.length), (119, .int .i64 p.1)],
      (0, .strs ek none ls) :: (1, .cells 156 (some 0) []) :: (16, .recs 88 (some ttd) K2 (tms D.1)) :: setHpR ⟨st, true, z, rd, p.2.1⟩ ⟨y, vs, st2, yr, p.2.2.1, mr, p.2.2.2⟩ 2)) (fun p => D.1.length - p.1)
      (fun p => p.1 ≤ D.1.length ∧ p.2.1 = ex ++ D.1.take p.1 ∧ GOKR (tms p.2.1) p.2.2.1 p.2.2.2) (0, ex, ye, me) ?_ ⟨Nat.zero_le _, by simp, g3⟩) ?_ ?_ rfl rfl rfl
     rotate_left 1
     · exact s_
     · exact s_
     rintro ⟨i, l9, y9, m9⟩ ⟨u1, u2, u3⟩ ih2
     simp only at u1 u2 u3
     refine LP_round ?_; try dsimp only
     refine w_ ?_
     refine i_ ?_ ?_ <;> intro hi
     rotate_left 1
     · have hi : i = D.1.length := by omega
       rw [hi, List.take_length] at u2
       subst u2
       refine w_ ?_
       refine x_ ?_
       refine w_ ?_
       have ih9 := ih (j + 1, ⟨st, true, z, rd, ex ++ D.1⟩, ⟨y, vs, st2, yr, y9, mr, m9⟩) ⟨by omega, ⟨g1, g2, u3⟩, by show rd.length ≤ (j + 1) * K; omega, by show (ex ++ D.1).length ≤ (j + 1) * K; rw [List.length_append]; omega, i5, hO⟩ (by simp only; omega)
       dsimp only at ih9
       exact LP_renG [0, 1, 2, 3, 4, 5, 6, 7, 8, 9, 10, 11, 12, 13, 14, 15] ih9 s_ s_ rfl rfl rfl
     have hi : i < D.1.length := by omega
     have hml : (tms D.1).length = D.1.length := by simp
     have hl9 : l9.length ≤ (j + 1) * K := by rw [u2, List.length_append, List.length_take]; omega
     refine w_ ?_
     rw [show 0 + (i : Int).toNat = i by omega, tms_get hi]
     refine w_ ?_
     refine i_ ?_ ?_ <;> intro h7
     · exact absurd h7 hrd
     · refine w_ ?_
       have u4 := u3
       rcases u3 with ⟨rfl, rfl, _⟩ | ⟨tt0, cap0, rfl, rfl, _, _⟩
       · refine WL_call [13, 15, 14, 12] (exdate_tri (D.1.getD i 0) st true l9 (by omega) _ _ u4 yr rd.length) rfl rfl rfl (s_) (s_) rfl rfl rfl rfl ?_; rintro _ _ _ ⟨⟨cap3, tt3⟩, rfl, rfl, rfl, hc3, hc4⟩
         refine w_ ?_
         have ih9 := ih2 (i + 1, l9 ++ [D.1.getD i 0], (false, cap3), some tt3) ⟨hi, by simp only; rw [u2, List.append_assoc, take_succ_getD hi], .inr ⟨tt3, cap3, rfl, rfl, by simp at hc3 ⊢; omega, hc4⟩⟩ (by simp only; omega)
         dsimp only at ih9
         unfold setHpR at ih9
         rw [show tms (l9 ++ [D.1.getD i 0]) = tms l9 ++ [[D.1.getD i 0, 0]] by simp, show (l9 ++ [D.1.getD i 0]).length = l9.length + 1 by simp] at ih9
         exact LP_renG [0, 1, 2, 3, 4, 5, 6, 7, 8, 9, 10, 11, 12, 13, 14, 18, 16] ih9 s_ s_ rfl rfl rfl
       · refine WL_call [13, 15, 14, 12] (exdate_tri (D.1.getD i 0) st true l9 (by omega) _ _ u4 yr rd.length) rfl rfl rfl (s_) (s_) rfl rfl rfl rfl ?_; rintro _ _ _ ⟨⟨cap3, tt3⟩, rfl, rfl, rfl, hc3, hc4⟩
         refine w_ ?_
         have ih9 := ih2 (i + 1, l9 ++ [D.1.getD i 0], (false, cap3), some tt3) ⟨hi, by simp only; rw [u2, List.append_assoc, take_succ_getD hi], .inr ⟨tt3, cap3, rfl, rfl, by simp at hc3 ⊢; omega, hc4⟩⟩ (by simp only; omega)
         dsimp only at ih9
         unfold setHpR at ih9
         rw [show tms (l9 ++ [D.1.getD i 0]) = tms l9 ++ [[D.1.getD i 0, 0]] by simp, show (l9 ++ [D.1.getD i 0]).length = l9.length + 1 by simp] at ih9
         exact LP_renG [0, 1, 2, 3, 4, 5, 6, 7, 8, 9, 10, 11, 12, 13, 14, 18, 16] ih9 s_ s_ rfl rfl rfl
 · have hz : lineZ false s l = (s, 0) := by
    rw [hzn]; unfold nameLine; rw [if_neg (show ¬ (false = true ∧ n = DTS) from fun h => by cases h.1), if_neg hr, if_neg hrd, if_neg hex]
   have hO := linesZ_ok i6 hz
   refine w_ ?_
   obtain ⟨st, has, z, rd, ex⟩ := s
   obtain ⟨y, vs, st2, yr, ye, mr, me⟩ := q
   simp only at i3 i4 i5
   clear hz hopl hzn i6
   cases has with
   | false =>
     have ih9 := ih (j + 1, ⟨st, false, z, rd, ex⟩, ⟨y, vs, st2, yr, ye, mr, me⟩) ⟨by omega, i2, by show rd.length ≤ (j + 1) * K; omega, by show ex.length ≤ (j + 1) * K; omega, i5, hO⟩ (by simp only; omega)
     dsimp only at ih9
     exact LP_renG [0, 1, 2, 3, 4, 5, 6, 7, 8, 9, 10, 11, 12, 13, 14, 15] ih9 s_ s_ rfl rfl rfl
   | true =>
     have ih9 := ih (j + 1, ⟨st, true, z, rd, ex⟩, ⟨y, vs, st2, yr, ye, mr, me⟩) ⟨by omega, i2, by show rd.length ≤ (j + 1) * K; omega, by show ex.length ≤ (j + 1) * K; omega, i5, hO⟩ (by simp only; omega)
     dsimp only at ih9
     exact LP_renG [0, 1, 2, 3, 4, 5, 6, 7, 8, 9, 10, 11, 12, 13, 14, 15] ih9 s_ s_ rfl rfl rfl
end Go.Eng
