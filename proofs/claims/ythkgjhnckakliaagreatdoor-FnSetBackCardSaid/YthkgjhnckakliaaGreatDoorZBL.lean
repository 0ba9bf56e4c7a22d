/- A part of the proof that the rows statement FnSetBack holds; no conditions. -/
import Derived.Test.YthkgjhnckakliaaGreatDoorZBK
set_option linter.unusedVariables false
set_option linter.unusedSimpArgs false
set_option linter.unusedSectionVars false
namespace Go.Eng
open Go.Proofs
attribute [local irreducible] W WL LP Then InBl Tri WS
structure SF (s : SZ) : Prop where
 z : FMT s.z
 st : DateR s.start
 rd : ∀ n ∈ s.rd, DateR n
 ex : ∀ n ∈ s.ex, DateR n
 nr : s.rd.length ≤ 40
 ne : s.ex.length ≤ 40
def dtT (k : List UInt8) (n : Int) : List UInt8 := k ++ (58 :: stampZ n)
theorem dtT_len {k : List UInt8} {n : Int} (h : DateR n) : (dtT k n).length = k.length + 17 := by
 unfold dtT; rw [List.length_append, List.length_cons, stamp_len h]
def ln1 (s : SZ) : List (List UInt8) := if s.start = 0 then [] else [dtT DTS s.start]
def ln2 (s : SZ) : List (List UInt8) := if s.has = true then ln1 s ++ [[82, 82, 85, 76, 69, 58] ++ ruleT s.z] else ln1 s
def ln3 (s : SZ) (k : Nat) : List (List UInt8) := ln2 s ++ (s.rd.take k).map (dtT RDT)
def ln4 (s : SZ) (k : Nat) : List (List UInt8) := ln3 s s.rd.length ++ (s.ex.take k).map (dtT EXT)
def linesT (s : SZ) : List (List UInt8) := ln4 s s.ex.length
theorem ln_len (s : SZ) : (ln1 s).length ≤ 1 ∧ (ln2 s).length ≤ 2 ∧ (∀ k, (ln3 s k).length ≤ 2 + k) ∧ ∀ k, (ln4 s k).length ≤ 2 + s.rd.length + k := by
 have h1 : (ln1 s).length ≤ 1 := by unfold ln1; split <;> simp
 have h2 : (ln2 s).length ≤ 2 := by unfold ln2; split <;> (try rw [List.length_append]; simp only [List.length_cons, List.length_nil]) <;> omega
 have h3 : ∀ k, (ln3 s k).length ≤ 2 + k := by intro k; unfold ln3; simp only [List.length_append, List.length_map, List.length_take]; omega
 refine ⟨h1, h2, h3, fun k => ?_⟩
 have := h3 s.rd.length
 unfold ln4; simp only [List.length_append, List.length_map, List.length_take]; omega
theorem tmsG_get {ns : List Int} {i : Nat} (h : i < ns.length) : (tms ns).getD i [] = [ns.getD i 0, 0] := by
 simp [List.getD, h]
theorem ln3_succ {s : SZ} {k : Nat} (h : k < s.rd.length) : ln3 s k ++ [dtT RDT (s.rd.getD k 0)] = ln3 s (k + 1) := by
 unfold ln3; rw [take_succI h, List.map_append, List.append_assoc]; rfl
theorem ln4_succ {s : SZ} {k : Nat} (h : k < s.ex.length) : ln4 s k ++ [dtT EXT (s.ex.getD k 0)] = ln4 s (k + 1) := by
 unfold ln4; rw [take_succI h, List.map_append, List.append_assoc]; rfl
theorem FMT_st {z : RZ} (F : FMT z) (n : Int) : FMT { z with st := n } := by
 obtain ⟨a0, a1, a2, a3, a4, a5, a6, a7, a8, a9, b0, b1, b2, b3, b4, b5, b6, b7, b8, b9, c0, c1, c2, c3, c4, c5⟩ := F
 exact ⟨a0, a1, a2, a3, a4, a5, a6, a7, a8, a9, b0, b1, b2, b3, b4, b5, b6, b7, b8, b9, c0, c1, c2, c3, c4, c5⟩
abbrev dtO (id : Nat) (m : Option Nat) (xs : List Int) : Nat × AO := (id, .recs 88 m K2 (tms xs))
set_option maxRecDepth 8192 in
set_option maxHeartbeats 8000000 in
theorem recur_tri (s : SZ) (q : PX) (hq : LOK s.z q.y) (hyr : s.rd.length ≤ q.yr.2) (hye : s.ex.length ≤ q.ye.2) (F : SF s) : Tri C0 41 14 (setHpR s q 0) [.ptr 11 0]
 (Fin' (fun _ => 15) (fun p : (Bool × Nat) × Option Nat => [(14, .strs 9 p.2 (linesT s))]) (fun p => slI p.1 14 1 (linesT s).length) (fun p => GOK' 1 (linesT s) p.1 p.2)) := by
 refine Tri.renX ?_
 obtain ⟨st, has, z, rd, ex⟩ := s
 obtain ⟨y, vs, st2, yr, ye, mr, me⟩ := q
 obtain ⟨hF, hst, hrd, hex, hnr, hne⟩ := F
 simp only at hF hst hrd hex hnr hne hq hyr hye
 obtain ⟨s, hs⟩ : ∃ s : SZ, s = ⟨st, has, z, rd, ex⟩ := ⟨_, rfl⟩
 have e9 : linesT (⟨st, has, z, rd, ex⟩ : SZ) = linesT s := by rw [hs]
 rw [e9]
 obtain ⟨l1, l2, l3, l4⟩ := ln_len s
 have hR := ruleT_le hF
 have hmr : (tms rd).length = rd.length := by simp
 have hme : (tms ex).length = ex.length := by simp
 refine Tri.mk 72 [.tmp 2] Tryz.func41 rfl rfl rfl rfl cf41 ?_; intro w0 S T ρ0
 refine w_ ?_
 refine WL_call [] (isZero_tri st) rfl rfl rfl t_ t_ rfl rfl rfl rfl ?_; rintro _ _ _ ⟨rfl, rfl, rfl⟩
 refine w_ ?_
 refine W_mid (α := (Bool × Nat) × Option Nat) (fun p => (15, [(0, .ptr 11 0), (3, slI p.1 14 1 (ln1 s).length)], (14, .strs 9 p.2 (ln1 s)) :: (11, setO st (pQ has 10) (slI yr 12 2 rd.length) (slI ye 13 2 ex.length)) :: dtO 12 mr rd :: dtO 13 me ex :: rulH has { z with st := st2 } y vs 0)) (fun p => GOK' 1 (ln1 s) p.1 p.2) ?_ ?_
 · rw [hs]
   cases has
   all_goals
    refine i_ ?_ ?_ <;> intro h
    · have e : ∀ hs, ln1 (⟨st, hs, z, rd, ex⟩ : SZ) = [dtT DTS st] := fun _ => if_neg h
      rw [e]
      have hside : ([68, 84, 83, 84, 65, 82, 84] : List UInt8).length + (58 :: stampZ st).length ≤ 9223372036854775807 := by have := stamp_len hst; show 7 + ((stampZ st).length + 1) ≤ _; omega
      refine w_ ?_
      refine WL_call [] (rfcStr_tri st 0 hst) rfl rfl rfl t_ t_ rfl rfl rfl rfl ?_; rintro _ _ _ ⟨rfl, rfl, rfl⟩
      refine w_ ?_
      refine WL_appN (FamS 9) [dtT DTS st] rfl rfl rfl rfl rfl rfl rfl rfl rfl rfl rfl rfl rfl (Nat.le_of_ble_eq_true rfl) (Nat.le_refl _) ⟨Nat.le_of_ble_eq_true rfl, Nat.le_of_ble_eq_true rfl⟩ ?_
      intro cap' tt' h1 h2
      refine w_ ?_
      exact ⟨((false, cap'), some tt'), .inr ⟨tt', cap', rfl, rfl, h1, h2⟩, Imp_renG [0, 1, 2, 3, 4, 5, 6, 7, 8, 9, 10, 11, 12, 13, 15] s_ s_ rfl rfl rfl⟩
    · have e : ∀ hs, ln1 (⟨st, hs, z, rd, ex⟩ : SZ) = [] := fun _ => if_pos h
      rw [e]
      refine w_ ?_
      exact ⟨((true, 0), none), .inl ⟨rfl, rfl, rfl⟩, Imp_trans (Imp_nils (C := C0) (show 0 < 22 by omega) [.strs 9 none []] s_) (Imp_trans (Imp_tm 3 (slI (true, 0) 14 1 0) rfl (fun _ => rfl) s_) (Imp_renG [0, 1, 2, 3, 4, 5, 6, 7, 8, 9, 10, 11, 12, 13, 14] s_ s_ rfl rfl rfl))⟩
 rintro ⟨ya, ma⟩ hG
 simp only at hG
 refine W_seq ?_
 refine W_mid (α := (Bool × Nat) × Option Nat) (fun p => (15, [(0, .ptr 11 0), (3, slI p.1 14 1 (ln2 s).length)], (14, .strs 9 p.2 (ln2 s)) :: (11, setO st (pQ has 10) (slI yr 12 2 rd.length) (slI ye 13 2 ex.length)) :: dtO 12 mr rd :: dtO 13 me ex :: [])) (fun p => GOK' 1 (ln2 s) p.1 p.2) ?_ ?_
 · cases has with
   | false =>
     refine w_ ?_
     refine W_cond_false rfl ?_
     have e : ln2 s = ln1 s := by rw [hs]; rfl
     rw [e]
     refine w_ ?_
     exact ⟨(ya, ma), hG, Imp_renG [0, 1, 2, 3, 4, 5, 6, 7, 8, 9, 10, 11, 12, 13, 14] s_ s_ rfl rfl rfl⟩
   | true =>
     refine w_ ?_
     refine W_cond_true rfl ?_
     have e : ln1 s ++ [[82, 82, 85, 76, 69, 58] ++ ruleT z] = ln2 s := by rw [hs]; rfl
     have hside : ([82, 82, 85, 76, 69, 58] : List UInt8).length + (ruleT z).length ≤ 9223372036854775807 := by show 6 + _ ≤ _; omega
     refine w_ ?_
     refine WL_callR [0, 1, 2, 3, 4, 5, 6, 7, 8, 9, 10] (ruleT_tri { z with st := st2 } y hq (FMT_st hF st2) vs) rfl rfl rfl t_ t_ rfl rfl rfl rfl ?_; rintro _ rfl
     refine w_ ?_
     refine WL_appK (FamS 9) (fun m => .strs 9 m (ln1 s)) (ln1 s) ([[82, 82, 85, 76, 69, 58] ++ ruleT z]) (hG) (fun _ => rfl) rfl rfl rfl rfl rfl rfl rfl rfl rfl rfl rfl rfl rfl rfl rfl rfl (Nat.le_of_ble_eq_true rfl) (Nat.le_refl _) ?_ ?_
     · exact ⟨by show _ + 1 ≤ _; omega, by show (_ + 1) * 16 ≤ _; omega⟩
     intro cap tt hG
     rw [e] at hG ⊢
     refine w_ ?_
     exact ⟨((false, cap), some tt), hG, Imp_renG [0, 1, 2, 3, 4, 5, 6, 7, 8, 9, 10, 11, 12, 13, 16] s_ s_ rfl rfl rfl⟩
 clear hG ya ma
 rintro ⟨ya, ma⟩ hG
 simp only at hG
 refine W_blurC 11 (fun v => cellsQ st (.v (.pointer (ptP (v 2)))) (slI yr 12 2 rd.length) (slI ye 13 2 ex.length)) rfl (fun ρ => by cases has <;> rfl) (fun _ => s_) (fun h => absurd (congrArg List.length h) (Nat.succ_ne_zero 4)) ?_
 intro v
 replace hG : GOK' 1 (ln3 s 0) ya ma := by rw [show ln3 s 0 = ln2 s from List.append_nil _]; exact hG
 rw [show ln2 s = ln3 s 0 from (List.append_nil _).symm]
 refine w_ ?_
 refine W_loop ?_
 refine LP_renG [0, 1, 2, 3, 4, 5, 6, 7, 8, 9, 10, 11, 12, 13, 14] (LP_ind 15 (fun q : Nat × (Bool × Nat) × Option Nat => ([(0, .ptr 11 0), (3, slI q.2.1 14 1 (ln3 s q.1).length), (42, slI yr 12 2 rd.length), (43, .int .i64 rd.length), (44, .int .i64 q.1)], (14, .strs 9 q.2.2 (ln3 s q.1)) :: (11, setO st (.v (.pointer (ptP (v 2)))) (slI yr 12 2 rd.length) (slI ye 13 2 ex.length)) :: dtO 12 mr rd :: dtO 13 me ex :: [])) (fun q => rd.length - q.1)
  (fun q => q.1 ≤ rd.length ∧ GOK' 1 (ln3 s q.1) q.2.1 q.2.2) (0, ya, ma) ?_ ⟨Nat.zero_le _, hG⟩) s_ s_ rfl rfl rfl
 clear hG ya ma
 rintro ⟨k, ya, ma⟩ ⟨g1, hG⟩ ih
 simp only at g1 hG
 refine LP_round ?_; try dsimp only
 refine w_ ?_
 refine i_ ?_ ?_ <;> intro h
 rotate_left 1
 · have h : k = rd.length := by omega
   subst h
   refine w_ ?_
   refine x_ ?_
   have el : ln3 s rd.length = ln4 s 0 := by rw [hs]; exact (List.append_nil _).symm
   rw [el] at hG ⊢
   clear ih g1
   refine w_ ?_
   refine W_loop ?_
   refine LP_renG [0, 1, 2, 3, 4, 5, 6, 7, 8, 9, 10, 11, 12, 13, 14] (LP_ind 15 (fun q : Nat × (Bool × Nat) × Option Nat => ([(0, .ptr 11 0), (3, slI q.2.1 14 1 (ln4 s q.1).length), (58, slI ye 13 2 ex.length), (59, .int .i64 ex.length), (60, .int .i64 q.1)], (14, .strs 9 q.2.2 (ln4 s q.1)) :: (11, setO st (.v (.pointer (ptP (v 2)))) (slI yr 12 2 rd.length) (slI ye 13 2 ex.length)) :: dtO 12 mr rd :: dtO 13 me ex :: [])) (fun q => ex.length - q.1)
    (fun q => q.1 ≤ ex.length ∧ GOK' 1 (ln4 s q.1) q.2.1 q.2.2) (0, ya, ma) ?_ ⟨Nat.zero_le _, hG⟩) s_ s_ rfl rfl rfl
   clear hG ya ma
   rintro ⟨k, ya, ma⟩ ⟨g1, hG⟩ ih
   simp only at g1 hG
   refine LP_round ?_; try dsimp only
   refine w_ ?_
   refine i_ ?_ ?_ <;> intro h
   rotate_left 1
   · have h : k = ex.length := by omega
     subst h
     refine w_ ?_
     refine x_ ?_
     refine w_ ?_
     have el : ln4 s ex.length = linesT s := by rw [hs]; rfl
     rw [el] at hG ⊢
     refine W_ret ?_; (repeat (first | refine then_ret ?_ | refine inbl_ret ?_))
     exact ⟨_, _, rfl, s_, (ya, ma), [0, 1, 2, 3, 4, 5, 6, 7, 8, 9, 10, 11, 12, 13, 14], s_, rfl, rfl, rfl, rfl, s_, hG⟩
   have h : k < ex.length := by omega
   have hsu : ln4 s k ++ [dtT EXT (ex.getD k 0)] = ln4 s (k + 1) := by
    have := ln4_succ (s := s) (k := k) (by rw [hs]; exact h)
    rw [hs] at this ⊢; exact this
   have hk := hex _ (getDI_mem h)
   have hlen := l4 k
   have hns : s.rd.length ≤ 40 := by rw [hs]; exact hnr
   refine w_ ?_
   rw [show 0 + (k : Int).toNat = k by omega]
   refine w_ ?_
   rw [tmsG_get h]
   refine w_ ?_
   refine WL_call [] (rfcStr_tri (ex.getD k 0) 0 hk) rfl rfl rfl t_ t_ rfl rfl rfl rfl ?_; rintro _ _ _ ⟨rfl, rfl, rfl⟩
   have hside : (EXT).length + (58 :: stampZ (ex.getD k 0)).length ≤ 9223372036854775807 := by have := stamp_len hk; show 6 + ((stampZ (ex.getD k 0)).length + 1) ≤ _; omega
   refine w_ ?_
   refine WL_appK (FamS 9) (fun m => .strs 9 m (ln4 s k)) (ln4 s k) ([dtT EXT (ex.getD k 0)]) (hG) (fun _ => rfl) rfl rfl rfl rfl rfl rfl rfl rfl rfl rfl rfl rfl rfl rfl rfl rfl (Nat.le_of_ble_eq_true rfl) (Nat.le_refl _) ?_ ?_
   · exact ⟨by show _ + 1 ≤ _; omega, by show (_ + 1) * 16 ≤ _; omega⟩
   rw [hsu]
   intro cap tt hG
   refine w_ ?_
   exact LP_renG [0, 1, 2, 3, 4, 5, 6, 7, 8, 9, 10, 11, 12, 13, 17] (ih (k + 1, (false, cap), some tt) ⟨h, hG⟩ (by simp only; omega)) s_ s_ rfl rfl rfl
 have h : k < rd.length := by omega
 have hsu : ln3 s k ++ [dtT RDT (rd.getD k 0)] = ln3 s (k + 1) := by
  have := ln3_succ (s := s) (k := k) (by rw [hs]; exact h)
  rw [hs] at this ⊢; exact this
 have hk := hrd _ (getDI_mem h)
 have hlen := l3 k
 have hns : s.rd.length ≤ 40 := by rw [hs]; exact hnr
 refine w_ ?_
 rw [show 0 + (k : Int).toNat = k by omega]
 refine w_ ?_
 rw [tmsG_get h]
 refine w_ ?_
 refine WL_call [] (rfcStr_tri (rd.getD k 0) 0 hk) rfl rfl rfl t_ t_ rfl rfl rfl rfl ?_; rintro _ _ _ ⟨rfl, rfl, rfl⟩
 have hside : (RDT).length + (58 :: stampZ (rd.getD k 0)).length ≤ 9223372036854775807 := by have := stamp_len hk; show 5 + ((stampZ (rd.getD k 0)).length + 1) ≤ _; omega
 refine w_ ?_
 refine WL_appK (FamS 9) (fun m => .strs 9 m (ln3 s k)) (ln3 s k) ([dtT RDT (rd.getD k 0)]) (hG) (fun _ => rfl) rfl rfl rfl rfl rfl rfl rfl rfl rfl rfl rfl rfl rfl rfl rfl rfl (Nat.le_of_ble_eq_true rfl) (Nat.le_refl _) ?_ ?_
 · exact ⟨by show _ + 1 ≤ _; omega, by show (_ + 1) * 16 ≤ _; omega⟩
 rw [hsu]
 intro cap tt hG
 refine w_ ?_
 exact LP_renG [0, 1, 2, 3, 4, 5, 6, 7, 8, 9, 10, 11, 12, 13, 17] (ih (k + 1, (false, cap), some tt) ⟨h, hG⟩ (by simp only; omega)) s_ s_ rfl rfl rfl
end Go.Eng
namespace Go.Eng
open Go.Proofs
attribute [local irreducible] W WL LP Then InBl Tri WS
structure SETF (s : SZ) : Prop where
 b : BND s.z
 w : s.z.wn = 0
 f : 0 ≤ s.z.fr ∧ s.z.fr ≤ 6
 r : s.has = true → rightZ s.z = true
 st : -1000000000000 ≤ s.start ∧ s.start ≤ 1000000000000
 rd : s.rd.length ≤ 1000000
 ex : s.ex.length ≤ 1000000
theorem startW_of {st : Int} {z : RZ} {rd ex : List Int} : startW z st = startOf ⟨st, true, z, rd, ex⟩ := by
 unfold startW startOf
 by_cases h : z.st = 0 <;> simp [h, dst]
set_option maxRecDepth 8192 in
set_option maxHeartbeats 8000000 in
theorem set_tri (s : SZ) (y : SY) (hy : SOK s y) (F : SETF s) : Tri C0 40 12 (setHp 110 s 0) [.agg (cellsT s y 0)]
 (Fin' (fun _ => 26) (fun q : PX => setHpR { s with start := startOf s } q 12) (fun _ => .tup [.ptr 23 0, .bool true]) (fun q => POK { s with start := startOf s } q)) := by
 refine Tri.renX ?_
 obtain ⟨hB, hw, hf, hr, hst, hrd, hex⟩ := F
 obtain ⟨st, has, z, rd, ex⟩ := s
 obtain ⟨y, yr, ye⟩ := y
 obtain ⟨g1, g2, g3⟩ := hy
 simp only at hB hw hf hr hst hrd hex g1 g2 g3
 refine Tri.mk 42 [.tmp 2, .tmp 3] Tryz.func40 rfl rfl rfl rfl cf40 ?_; intro w0 S T ρ0
 refine w_ ?_
 refine W_mid (α := Unit) (fun _ => (14, [(1, .ptr 12 0), (4, .ptr 13 0)], (12, .cells 40 (some 22) (cellsT ⟨st, has, z, rd, ex⟩ ⟨y, yr, ye⟩ 0)) :: (13, setO st (.v (.pointer none)) (.v (.slice none 0 0)) (.v (.slice none 0 0))) :: setHp 110 ⟨st, has, z, rd, ex⟩ 0)) (fun _ => True) ?_ ?_
 · refine i_ ?_ ?_ <;> intro h
   · refine w_ ?_
     refine WL_call [] (of_tri st) rfl rfl rfl t_ t_ rfl rfl rfl rfl ?_; rintro _ _ _ ⟨rfl, rfl, rfl⟩
     refine w_ ?_
     refine WL_call [13] (dtstartS_tri st) rfl rfl rfl s_ s_ rfl rfl rfl rfl ?_; rintro _ _ _ ⟨_, rfl, rfl, rfl, _⟩
     refine w_ ?_
     exact ⟨(), trivial, Imp_renG [0, 1, 2, 3, 4, 5, 6, 7, 8, 9, 10, 11, 12, 13] s_ s_ rfl rfl rfl⟩
   · have h : st = 0 := by simpa using h
     subst h
     refine w_ ?_
     exact ⟨(), trivial, Imp_renG [0, 1, 2, 3, 4, 5, 6, 7, 8, 9, 10, 11, 12, 13] s_ s_ rfl rfl rfl⟩
 rintro - -
 refine w_ ?_
 refine W_mid (α := Int × LY × (Nat → Value)) (fun p => (25, [(1, .ptr 24 0), (4, .ptr 23 0)], (24, .cells 40 (some 22) (cellsT ⟨st, has, z, rd, ex⟩ ⟨y, yr, ye⟩ 0)) :: (23, setO (startOf ⟨st, has, z, rd, ex⟩) (pQ has 22) (.v (.slice none 0 0)) (.v (.slice none 0 0))) :: (setHp 110 ⟨st, has, z, rd, ex⟩ 0 ++ rulH has { z with st := p.1 } p.2.1 p.2.2 12))) (fun p => LOK z p.2.1) ?_ ?_
 · cases has with
   | false =>
     refine W_cond_false rfl ?_
     refine w_ ?_
     exact ⟨(0, y, fun _ => .nilIface), g1, Imp_renG [0, 1, 2, 3, 4, 5, 6, 7, 8, 9, 10, 11, 0, 0, 0, 0, 0, 0, 0, 0, 0, 0, 0, 13, 12] s_ s_ rfl rfl rfl⟩
   | true =>
     refine W_cond_true rfl ?_
     have hr := hr rfl
     refine w_ ?_
     refine WL_call [0, 1, 2, 3, 4, 5, 6, 7, 8, 9] (option_tri z y g1 hB.len hf hw) rfl rfl rfl s_ s_ rfl rfl rfl rfl ?_; rintro _ _ _ ⟨yq, rfl, rfl, rfl, hyq⟩
     refine w_ ?_
     have hy2 : LOK z { y with yd := yq } := LOKd g1 hyq
     refine WL_call [14, 15, 16, 17, 18, 19, 20, 21, 22, 23] (newRRule_tri z { y with yd := yq } hy2 hB) rfl rfl rfl s_ s_ rfl rfl rfl rfl ?_
     rintro _ _ _ (⟨_, vs, rfl, rfl, rfl⟩ | ⟨hn, _⟩)
     rotate_left 1
     · rw [hr] at hn; cases hn
     refine w_ ?_
     refine W_cond_false rfl ?_
     refine w_ ?_
     refine WL_imp (Imp_nils (show 0 < 22 by omega) [.recs 88 none K2 [], .recs 88 none K2 []] s_) ?_
     refine WL_imp (Imp_cells 13 (cellsQ st (.v (.pointer none)) (slI (true, 0) 25 2 0) (slI (true, 0) 26 2 0)) rfl (fun _ => rfl) s_ (fun h => absurd (congrArg List.length h) (Nat.succ_ne_zero 4))) ?_
     refine WL_call [14, 15, 16, 17, 18, 19, 20, 21, 22, 23, 24, 13, 25, 26] (ruleS_tri z { y with yd := yq } hy2 hr hB st hst vs none (true, 0) (true, 0) 0 0) rfl rfl rfl s_ s_ rfl rfl rfl rfl ?_; rintro _ _ _ ⟨⟨st2, vs2⟩, rfl, rfl, rfl, _⟩
     refine w_ ?_
     exact ⟨(st2, { y with yd := yq }, vs2), hy2, Imp_trans (Imp_cells 13 (cellsQ (startW z st) (.ptr 24 0) (.v (.slice none 0 0)) (.v (.slice none 0 0))) rfl (fun _ => rfl) s_ (fun h => absurd (congrArg List.length h) (Nat.succ_ne_zero 4))) (by rw [startW_of (rd := rd) (ex := ex)]; exact Imp_renG [0, 1, 2, 3, 4, 5, 6, 7, 8, 9, 10, 11, 14, 15, 16, 17, 18, 19, 20, 21, 22, 23, 24, 13, 12] s_ s_ rfl rfl rfl)⟩
 rintro ⟨st2, y2, vs⟩ hy2
 simp only at hy2
 clear hB hw hf hr hst g1
 generalize startOf ⟨st, has, z, rd, ex⟩ = S0 at *
 cases has with
 | false =>
   refine w_ ?_
   refine WL_call [10] (moments_tri rd hrd yr g2) rfl rfl rfl t_ t_ rfl rfl rfl rfl ?_; rintro _ _ _ ⟨⟨yr2,mr2⟩, rfl, rfl, rfl, hr2⟩
   refine w_ ?_
   refine WL_imp (Imp_conv 25 (.recs 88 none K2 (tms rd)) rfl rfl rfl rfl (.inl rfl) ⟨[], by simp [AO.avs, AO.ren]⟩) ?_
   refine WL_call [23, 25, 21, 22] (setRD_tri S0 false rd hrd none yr2 (by have := hr2.cap; simpa using this)) rfl rfl rfl t_ t_ rfl rfl rfl rfl ?_; rintro _ _ _ ⟨⟨yr3,mr3⟩, rfl, rfl, rfl, hr3⟩
   refine w_ ?_
   refine WL_call [11] (moments_tri ex hex ye g3) rfl rfl rfl t_ t_ rfl rfl rfl rfl ?_; rintro _ _ _ ⟨⟨ye2,me2⟩, rfl, rfl, rfl, he2⟩
   refine w_ ?_
   refine WL_imp (Imp_conv 27 (.recs 88 none K2 (tms ex)) rfl rfl rfl rfl (.inl rfl) ⟨[], by simp [AO.avs, AO.ren]⟩) ?_
   refine WL_call [23, 27, 26, 22] (setEX_tri S0 false yr3 rd.length ex hex none ye2 (by have := he2.cap; simpa using this)) rfl rfl rfl t_ t_ rfl rfl rfl rfl ?_; rintro _ _ _ ⟨⟨ye3,me3⟩, rfl, rfl, rfl, he3⟩
   refine w_ ?_
   refine W_ret ?_; (repeat (first | refine then_ret ?_ | refine inbl_ret ?_))
   exact ⟨_, _, rfl, s_, ⟨y2, vs, st2, yr3, ye3, mr3, me3⟩, [0, 1, 2, 3, 4, 5, 6, 7, 8, 9, 10, 11, 12, 13, 14, 15, 16, 17, 18, 19, 20, 21, 22, 23, 26, 28], s_, rfl, rfl, rfl, rfl, s_, ⟨hy2, hr3, he3⟩⟩
 | true =>
   refine w_ ?_
   refine WL_call [10] (moments_tri rd hrd yr g2) rfl rfl rfl t_ t_ rfl rfl rfl rfl ?_; rintro _ _ _ ⟨⟨yr2,mr2⟩, rfl, rfl, rfl, hr2⟩
   refine w_ ?_
   refine WL_imp (Imp_conv 25 (.recs 88 none K2 (tms rd)) rfl rfl rfl rfl (.inl rfl) ⟨[], by simp [AO.avs, AO.ren]⟩) ?_
   refine WL_call [23, 25, 21, 22] (setRD_tri S0 true rd hrd none yr2 (by have := hr2.cap; simpa using this)) rfl rfl rfl t_ t_ rfl rfl rfl rfl ?_; rintro _ _ _ ⟨⟨yr3,mr3⟩, rfl, rfl, rfl, hr3⟩
   refine w_ ?_
   refine WL_call [11] (moments_tri ex hex ye g3) rfl rfl rfl t_ t_ rfl rfl rfl rfl ?_; rintro _ _ _ ⟨⟨ye2,me2⟩, rfl, rfl, rfl, he2⟩
   refine w_ ?_
   refine WL_imp (Imp_conv 27 (.recs 88 none K2 (tms ex)) rfl rfl rfl rfl (.inl rfl) ⟨[], by simp [AO.avs, AO.ren]⟩) ?_
   refine WL_call [23, 27, 26, 22] (setEX_tri S0 true yr3 rd.length ex hex none ye2 (by have := he2.cap; simpa using this)) rfl rfl rfl t_ t_ rfl rfl rfl rfl ?_; rintro _ _ _ ⟨⟨ye3,me3⟩, rfl, rfl, rfl, he3⟩
   refine w_ ?_
   refine W_ret ?_; (repeat (first | refine then_ret ?_ | refine inbl_ret ?_))
   exact ⟨_, _, rfl, s_, ⟨y2, vs, st2, yr3, ye3, mr3, me3⟩, [0, 1, 2, 3, 4, 5, 6, 7, 8, 9, 10, 11, 12, 13, 14, 15, 16, 17, 18, 19, 20, 21, 22, 23, 26, 28], s_, rfl, rfl, rfl, rfl, s_, ⟨hy2, hr3, he3⟩⟩
end Go.Eng
namespace Go.Eng
abbrev plainB (b : UInt8) : Prop := b.toNat = 43 ∨ b.toNat = 45 ∨ (48 ≤ b.toNat ∧ b.toNat ≤ 57) ∨ (65 ≤ b.toNat ∧ b.toNat ≤ 90)
abbrev PL (l : List UInt8) : Prop := ∀ b ∈ l, plainB b
theorem PL_app {l m : List UInt8} (h : PL l) (h' : PL m) : PL (l ++ m) := fun b hb => (List.mem_append.1 hb).elim (h b) (h' b)
theorem PL_not {l : List UInt8} (h : PL l) {c : UInt8} (hc : ¬ plainB c) : c ∉ l := fun hm => hc (h c hm)
theorem digit_nat {u : Nat} (h : u < 10) : (UInt8.ofNat (48 + u)).toNat = 48 + u := by
 rw [UInt8.toNat_ofNat']; omega
theorem dec_mem : ∀ (u : Nat), ∀ b ∈ Lib.decDigits u, 48 ≤ b.toNat ∧ b.toNat ≤ 57 := by
 intro u
 induction u using Nat.strongRecOn with
 | _ u ih =>
   intro b hb
   by_cases h : u < 10
   · rw [decDigits_lt h, List.mem_singleton] at hb
     subst hb; rw [digit_nat h]; omega
   · rw [decDigits_ge h] at hb
     rcases List.mem_append.1 hb with hb | hb
     · exact ih (u / 10) (by omega) b hb
     · rw [List.mem_singleton] at hb; subst hb; rw [digit_nat (Nat.mod_lt _ (by omega))]; have := Nat.mod_lt u (show 10 > 0 by omega); omega
theorem dec_ne (u : Nat) : Lib.decDigits u ≠ [] := by
 by_cases h : u < 10
 · rw [decDigits_lt h]; simp
 · rw [decDigits_ge h]; simp
theorem parse_dec : ∀ (u : Nat), u < 18446744073709551616 → ∀ r, Lib.parseUint10 0 (Lib.decDigits u ++ r) = Lib.parseUint10 u r := by
 intro u
 induction u using Nat.strongRecOn with
 | _ u ih =>
   intro hu r
   by_cases h : u < 10
   · rw [decDigits_lt h]
     simp only [List.cons_append, List.nil_append, Lib.parseUint10, digit_nat h]
     rw [if_pos (by omega), if_neg (by omega), if_neg (by omega)]
     congr 1; omega
   · have hm : u % 10 < 10 := Nat.mod_lt _ (by omega)
     rw [decDigits_ge h, List.append_assoc, ih (u / 10) (by omega) (by omega)]
     simp only [List.cons_append, List.nil_append, Lib.parseUint10, digit_nat hm]
     rw [if_pos (by omega), if_neg (by omega), if_neg (by omega)]
     congr 1; omega
theorem parseMag_dec {u : Nat} (hu : u < 18446744073709551616) : Lib.parseMag (Lib.decDigits u) = .ok u := by
 unfold Lib.parseMag
 rw [if_neg (dec_ne u)]
 have := parse_dec u hu []
 rw [List.append_nil] at this
 rw [this]; rfl
theorem atoi_itoa {n : Int} (h : I64 n) : Lib.atoiAll (Lib.itoa n) = .ok n := by
 unfold I64 at h
 by_cases hn : n < 0
 · have hp := parseMag_dec (u := n.natAbs) (by omega)
   rw [show Lib.itoa n = 45 :: Lib.decDigits n.natAbs from if_pos hn]
   unfold Lib.atoiAll
   simp only [show (45 : UInt8).toNat = 45 from rfl, or_true, if_true, hp, not_true, false_and, if_false, true_and]
   rw [if_neg (by omega)]
   congr 1; omega
 · have hp := parseMag_dec (u := n.toNat) (by omega)
   rw [show Lib.itoa n = Lib.decDigits n.toNat from if_neg hn]
   have hm := dec_mem n.toNat
   have hne := dec_ne n.toNat
   generalize Lib.decDigits n.toNat = l at *
   cases l with
   | nil => exact absurd rfl hne
   | cons c r =>
     have := hm c (by simp)
     unfold Lib.atoiAll
     dsimp only
     rw [if_neg (by omega), hp]
     dsimp only
     rw [if_neg (by omega), if_neg (by omega), if_neg (by omega)]
     congr 1; omega
theorem intZ_itoa {n : Int} (h : I64 n) : intZ (Lib.itoa n) = some n := by
 unfold intZ; rw [atoi_itoa h]
theorem intZ_sign {n : Int} (h : I64 n) : intZ (signZ n) = some n := by
 by_cases hn : n < 0
 · rw [show signZ n = Lib.itoa n from if_pos hn]; exact intZ_itoa h
 · rw [show signZ n = 43 :: Lib.itoa n from if_neg hn, show Lib.itoa n = Lib.decDigits n.toNat from if_neg hn]
   unfold I64 at h
   have hp := parseMag_dec (u := n.toNat) (by omega)
   have : Lib.atoiAll (43 :: Lib.decDigits n.toNat) = .ok n := by
    unfold Lib.atoiAll
    simp only [show (43 : UInt8).toNat = 43 from rfl, true_or, if_true, hp, show ¬ (43 = 45) by omega, false_and, if_false, not_false_eq_true, true_and]
    rw [if_neg (by omega)]
    congr 1; omega
   unfold intZ; rw [this]
theorem itoa_PL (n : Int) : PL (Lib.itoa n) := by
 intro b hb
 unfold Lib.itoa at hb
 split at hb
 · rcases List.mem_cons.1 hb with rfl | hb
   · exact .inr (.inl rfl)
   · exact .inr (.inr (.inl (dec_mem _ b hb)))
 · exact .inr (.inr (.inl (dec_mem _ b hb)))
theorem itoa_ne (n : Int) : Lib.itoa n ≠ [] := by
 unfold Lib.itoa; split
 · simp
 · exact dec_ne _
theorem signZ_PL (n : Int) : PL (signZ n) := by
 unfold signZ; split
 · exact itoa_PL n
 · intro b hb
   rcases List.mem_cons.1 hb with rfl | hb
   · exact .inl rfl
   · exact itoa_PL n b hb
theorem signZ_ne (n : Int) : signZ n ≠ [] := by
 unfold signZ; split
 · exact itoa_ne n
 · simp
theorem wdN_PL (w : Int) : PL (wdN w) := by unfold wdN; (repeat' split) <;> decide
theorem wdZ_PL (w n : Int) : PL (wdZ w n) := by
 unfold wdZ; split
 · exact wdN_PL w
 · exact PL_app (signZ_PL n) (wdN_PL w)
theorem freqN_PL (f : Int) : PL (freqN f) := by unfold freqN; (repeat' split) <;> decide
theorem wdayZ_N {w : Int} (h : 0 ≤ w ∧ w ≤ 6) : wdayZ (wdN w) = some w := by
 obtain rfl | rfl | rfl | rfl | rfl | rfl | rfl : w = 0 ∨ w = 1 ∨ w = 2 ∨ w = 3 ∨ w = 4 ∨ w = 5 ∨ w = 6 := by omega
 all_goals rfl
theorem freqZ_N {f : Int} (h : 0 ≤ f ∧ f ≤ 6) : freqZ (freqN f) = some f := by
 obtain rfl | rfl | rfl | rfl | rfl | rfl | rfl : f = 0 ∨ f = 1 ∨ f = 2 ∨ f = 3 ∨ f = 4 ∨ f = 5 ∨ f = 6 := by omega
 all_goals rfl
theorem dayZ_wd {w n : Int} (hw : 0 ≤ w ∧ w ≤ 6) (hn : I64 n) : dayZ (wdZ w n) = some (w, n) := by
 have h2 := wdN_len w
 unfold wdZ
 split
 · rename_i h0
   subst h0
   unfold dayZ
   rw [h2, if_neg (by omega), show 2 - 2 = 0 from rfl, List.drop_zero, wdayZ_N hw]
   dsimp only
   rw [if_pos rfl]
 · have hl : (signZ n).length ≠ 0 := by have := signZ_ne n; simpa using this
   unfold dayZ
   rw [List.length_append, h2, if_neg (by omega), Nat.add_sub_cancel, List.drop_left, List.take_left, wdayZ_N hw]
   dsimp only
   rw [if_neg (by omega), intZ_sign hn]; rfl
theorem splitB_o1 {c : UInt8} : ∀ {l : List UInt8}, c ∉ l → splitB c l = [l]
 | [], _ => rfl
 | b :: l, h => by
   have hb : ¬ b = c := fun e => h (by simp [e])
   simp only [splitB, if_neg hb, splitB_o1 (l := l) (fun hm => h (List.mem_cons_of_mem _ hm))]
theorem splitB_app {c : UInt8} (r : List UInt8) : ∀ {l : List UInt8}, c ∉ l → splitB c (l ++ c :: r) = l :: splitB c r
 | [], _ => by simp [splitB]
 | b :: l, h => by
   have hb : ¬ b = c := fun e => h (by simp [e])
   simp only [List.cons_append, splitB, if_neg hb, splitB_app r (l := l) (fun hm => h (List.mem_cons_of_mem _ hm))]
theorem join_cc (x y : List UInt8) (l : List (List UInt8)) (c : UInt8) : Lib.join (x :: y :: l) [c] = x ++ c :: Lib.join (y :: l) [c] := by
 rw [Lib.join_cons, Lib.join_cons]; simp [Lib.joinTail]
theorem splitB_join {c : UInt8} : ∀ {xs : List (List UInt8)}, xs ≠ [] → (∀ x ∈ xs, c ∉ x) → splitB c (Lib.join xs [c]) = xs
 | [], h, _ => absurd rfl h
 | [x], _, h => by rw [Lib.join_one]; exact splitB_o1 (h x (by simp))
 | x :: y :: l, _, h => by
   rw [join_cc, splitB_app _ (h x (by simp)), splitB_join (by simp) fun z hz => h z (List.mem_cons_of_mem _ hz)]
theorem mem_join {c b : UInt8} : ∀ {xs : List (List UInt8)}, b ∈ Lib.join xs [c] → b = c ∨ ∃ x ∈ xs, b ∈ x
 | [], h => by cases h
 | [x], h => by rw [Lib.join_one] at h; exact .inr ⟨x, by simp, h⟩
 | x :: y :: l, h => by
   rw [join_cc] at h
   rcases List.mem_append.1 h with h | h
   · exact .inr ⟨x, by simp, h⟩
   · rcases List.mem_cons.1 h with h | h
     · exact .inl h
     · rcases mem_join h with h | ⟨z, hz, h⟩
       · exact .inl h
       · exact .inr ⟨z, List.mem_cons_of_mem _ hz, h⟩
theorem mapZ_map {α β : Type} {f : List UInt8 → Option α} {g : α → List UInt8} : ∀ {xs : List α}, (∀ x ∈ xs, f (g x) = some x) → mapZ f (xs.map g) = some xs
 | [], _ => rfl
 | x :: l, h => by
   rw [List.map_cons, mapZ_some (h x (by simp)), mapZ_map (β := β) fun y hy => h y (List.mem_cons_of_mem _ hy)]; rfl
theorem nums_back {xs : List Int} (hne : xs ≠ []) (h : ∀ x ∈ xs, I64 x) : mapZ intZ (splitB 44 (numsZ xs)) = some xs := by
 unfold numsZ
 rw [splitB_join (by simpa using hne) (by
  intro x hx
  obtain ⟨n, _, rfl⟩ := List.mem_map.1 hx
  exact PL_not (itoa_PL n) (by decide))]
 exact mapZ_map (β := Int) fun x hx => intZ_itoa (h x hx)
theorem days_back {l : List (Int × Int)} (hne : l ≠ []) (h : ∀ p ∈ l, (0 ≤ p.1 ∧ p.1 ≤ 6) ∧ I64 p.2) : mapZ dayZ (splitB 44 (daysT l)) = some l := by
 unfold daysT
 rw [splitB_join (by simpa using hne) (by
  intro x hx
  obtain ⟨p, _, rfl⟩ := List.mem_map.1 hx
  exact PL_not (wdZ_PL p.1 p.2) (by decide))]
 exact mapZ_map (β := Int × Int) fun p hp => dayZ_wd (h p hp).1 (h p hp).2
abbrev CL (l : List UInt8) : Prop := ∀ b ∈ l, b.toNat = 44 ∨ plainB b
theorem CL_join {xs : List (List UInt8)} (h : ∀ x ∈ xs, PL x) : CL (Lib.join xs [44]) := by
 intro b hb
 rcases mem_join hb with rfl | ⟨x, hx, hb⟩
 · exact .inl rfl
 · exact .inr (h x hx b hb)
theorem nums_CL (xs : List Int) : CL (numsZ xs) := CL_join fun x hx => by obtain ⟨n, _, rfl⟩ := List.mem_map.1 hx; exact itoa_PL n
theorem days_CL (l : List (Int × Int)) : CL (daysT l) := CL_join fun x hx => by obtain ⟨p, _, rfl⟩ := List.mem_map.1 hx; exact wdZ_PL p.1 p.2
theorem join_ne {xs : List (List UInt8)} {c : UInt8} (h : ∃ x l, xs = x :: l ∧ x ≠ []) : Lib.join xs [c] ≠ [] := by
 obtain ⟨x, l, rfl, hx⟩ := h
 rw [Lib.join_cons]
 intro e
 exact hx (List.append_eq_nil_iff.1 e).1
theorem nums_ne {xs : List Int} (h : xs ≠ []) : numsZ xs ≠ [] := by
 cases xs with
 | nil => exact absurd rfl h
 | cons x l => exact join_ne ⟨_, _, rfl, itoa_ne x⟩
theorem wdZ_ne (w n : Int) : wdZ w n ≠ [] := by
 intro e
 have h2 := wdN_len w
 unfold wdZ at e
 split at e
 · rw [e] at h2; cases h2
 · exact signZ_ne n (List.append_eq_nil_iff.1 e).1
theorem daysT_ne {l : List (Int × Int)} (h : l ≠ []) : daysT l ≠ [] := by
 cases l with
 | nil => exact absurd rfl h
 | cons x l => exact join_ne ⟨_, _, rfl, wdZ_ne x.1 x.2⟩
theorem dig_PL : ∀ (w n : Nat), PL (dig w n)
 | 0, _ => by intro b hb; cases hb
 | w + 1, n => by
   rw [dig]
   refine PL_app (dig_PL w _) fun b hb => ?_
   rw [List.mem_singleton] at hb; subst hb
   have e := digit_nat (Nat.mod_lt n (show 10 > 0 by omega))
   have := Nat.mod_lt n (show 10 > 0 by omega)
   exact .inr (.inr (.inl (by rw [e]; omega)))
theorem stamp_PL {s : Int} (h : DateR s) : PL (stampZ s) := by
 obtain ⟨y, m, d, hh, mi, x, e, _⟩ := fmt_dig h
 unfold stampZ
 rw [e]
 refine PL_app (PL_app (dig_PL _ _) (PL_app (dig_PL _ _) (PL_app (dig_PL _ _) ?_))) (by decide)
 intro b hb
 rcases List.mem_cons.1 hb with rfl | hb
 · exact .inr (.inr (.inr (by decide)))
 · exact PL_app (dig_PL _ _) (PL_app (dig_PL _ _) (dig_PL _ _)) b hb
theorem stamp_ne {s : Int} (h : DateR s) : stampZ s ≠ [] := by
 intro e
 have := stamp_len h
 rw [e] at this; cases this
end Go.Eng
