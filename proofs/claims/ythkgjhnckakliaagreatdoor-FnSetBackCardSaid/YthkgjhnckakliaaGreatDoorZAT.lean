/- A part of the proof that the rows statement FnSetBack holds; no conditions. -/
import Derived.Test.YthkgjhnckakliaaGreatDoorZAS
set_option linter.unusedVariables false
set_option linter.unusedSimpArgs false
set_option linter.unusedSectionVars false
namespace Go.Eng
open Go.Proofs
attribute [local irreducible] W WL LP Then InBl Tri WS
theorem parseIn8_tri (s : List UInt8) (hs : s.length = 8) : Tri C0 266 0 [] [.str [50, 48, 48, 54, 48, 49, 48, 50], .str s, .agg []] (fun k hp r => k = 0 ∧ hp = [] ∧ momR s r) := by
 refine Tri.keep ?_ trivial (fun r h => momR_lt h 0)
 refine Tri.mk 13 [.cell 6 88, .tmp 7] Tryz.func266 rfl rfl rfl rfl cf266 ?_; intro w0 S T ρ0
 refine w_ ?_
 refine WL_call [] (parse8_tri s hs) rfl rfl rfl t_ t_ rfl rfl rfl rfl ?_; rintro _ _ _ ⟨rfl, rfl, hr⟩
 rcases hr with ⟨h1, rfl⟩ | ⟨h1, _, ⟨t, p, rfl⟩, rfl⟩
 · refine w_ ?_
   refine k_ ?_
   exact .inl ⟨h1, rfl⟩
 · refine w_ ?_
   refine k_ ?_
   exact .inr ⟨h1, _, ⟨t, p, rfl⟩, rfl⟩
theorem parseIn15_tri (s : List UInt8) (hs : s.length = 15) : Tri C0 266 0 [] [.str [50, 48, 48, 54, 48, 49, 48, 50, 84, 49, 53, 48, 52, 48, 53], .str s, .agg []] (fun k hp r => k = 0 ∧ hp = [] ∧ momR s r) := by
 refine Tri.keep ?_ trivial (fun r h => momR_lt h 0)
 refine Tri.mk 13 [.cell 6 88, .tmp 7] Tryz.func266 rfl rfl rfl rfl cf266 ?_; intro w0 S T ρ0
 refine w_ ?_
 refine WL_call [] (parse15_tri s hs) rfl rfl rfl t_ t_ rfl rfl rfl rfl ?_; rintro _ _ _ ⟨rfl, rfl, hr⟩
 rcases hr with ⟨h1, rfl⟩ | ⟨h1, _, ⟨t, p, rfl⟩, rfl⟩
 · refine w_ ?_
   refine k_ ?_
   exact .inl ⟨h1, rfl⟩
 · refine w_ ?_
   refine k_ ?_
   exact .inr ⟨h1, _, ⟨t, p, rfl⟩, rfl⟩
theorem timeIn_tri (s : List UInt8) (hl : s.length ≤ 1073741824) (hopen : (momZ s).2 ≠ 2) : Tri C0 217 0 [] [.str s, .agg []] (fun k hp r => k = 0 ∧ hp = [] ∧ momR s r) := by
 refine Tri.keep ?_ trivial (fun r h => momR_lt h 0)
 refine Tri.mk 26 [.cell 4 88, .tmp 5] Tryz.func217 rfl rfl rfl rfl cf217 ?_; intro w0 S T ρ0
 refine w_ ?_
 refine i_ ?_ ?_ <;> intro h8
 · refine w_ ?_
   refine WL_call [] (parseIn8_tri s (by omega)) rfl rfl rfl t_ t_ rfl rfl rfl rfl ?_; rintro _ _ _ ⟨rfl, rfl, hr⟩
   rcases hr with ⟨h1, rfl⟩ | ⟨h1, _, ⟨t, p, rfl⟩, rfl⟩
   · refine w_ ?_
     refine k_ ?_
     exact .inl ⟨h1, rfl⟩
   · refine w_ ?_
     refine k_ ?_
     exact .inr ⟨h1, _, ⟨t, p, rfl⟩, rfl⟩
 refine w_ ?_
 refine i_ ?_ ?_ <;> intro h15
 · refine w_ ?_
   refine WL_call [] (parseIn15_tri s (by omega)) rfl rfl rfl t_ t_ rfl rfl rfl rfl ?_; rintro _ _ _ ⟨rfl, rfl, hr⟩
   rcases hr with ⟨h1, rfl⟩ | ⟨h1, _, ⟨t, p, rfl⟩, rfl⟩
   · refine w_ ?_
     refine k_ ?_
     exact .inl ⟨h1, rfl⟩
   · refine w_ ?_
     refine k_ ?_
     exact .inr ⟨h1, _, ⟨t, p, rfl⟩, rfl⟩
 refine w_ ?_
 refine WL_call [] (parse16_tri s hl (by omega) (by omega) hopen) rfl rfl rfl t_ t_ rfl rfl rfl rfl ?_; rintro _ _ _ ⟨rfl, rfl, hr⟩
 rcases hr with ⟨h1, rfl⟩ | ⟨h1, _, ⟨t, p, rfl⟩, rfl⟩
 · refine w_ ?_
   refine k_ ?_
   exact .inl ⟨h1, rfl⟩
 · refine w_ ?_
   refine k_ ?_
   exact .inr ⟨h1, _, ⟨t, p, rfl⟩, rfl⟩
theorem dropWhile_sub {α : Type} (p : α → Bool) (l : List α) : ∀ x ∈ l.dropWhile p, x ∈ l := fun x h => (List.dropWhile_sublist p).subset h
theorem asc_trim {l : List UInt8} (h : asc l) : asc (Lib.trimSpace l) := by
 intro b hb
 simp only [Lib.trimSpace, List.mem_reverse] at hb
 have := dropWhile_sub _ _ _ hb
 rw [List.mem_reverse] at this
 exact h b (dropWhile_sub _ _ _ this)
theorem trim_le (l : List UInt8) : (Lib.trimSpace l).length ≤ l.length := by
 simp only [Lib.trimSpace, List.length_reverse]
 have h1 := (List.dropWhile_sublist Lib.isSp (l := (l.dropWhile Lib.isSp).reverse)).length_le
 have h2 := (List.dropWhile_sublist Lib.isSp (l := l)).length_le
 rw [List.length_reverse] at h1
 omega
theorem asc_upper {l : List UInt8} (h : asc l) : asc (Lib.toUpperA l) := by
 intro b hb
 simp only [Lib.toUpperA, List.mem_map] at hb
 obtain ⟨c, hc, rfl⟩ := hb
 have := h c hc
 simp only [Lib.upperB]
 split
 · rename_i hl
   simp only [Lib.isLowerB, Bool.and_eq_true, decide_eq_true_eq] at hl
   have h1 : (97 : UInt8).toNat ≤ c.toNat := hl.1
   have h2 : (c - 32).toNat = c.toNat - 32 := UInt8.toNat_sub_of_le _ _ (by show (32 : UInt8).toNat ≤ c.toNat; have : (97 : UInt8).toNat = 97 := rfl; have : (32 : UInt8).toNat = 32 := rfl; omega)
   omega
 · exact this
theorem asc_take {l : List UInt8} (h : asc l) (n : Nat) : asc (l.take n) := fun b hb => h b (List.mem_of_mem_take hb)
theorem asc_drop {l : List UInt8} (h : asc l) (n : Nat) : asc (l.drop n) := fun b hb => h b (List.mem_of_mem_drop hb)
def nameU (u : List UInt8) : Option (List UInt8) :=
 if u = [] then none else
 if ¬ cutL [59, 58] u < u.length ∨ cutL [59, 58] u = 0 then none else
 if 0 < cutL [61] (u.take (cutL [59, 58] u)) ∧ cutL [61] (u.take (cutL [59, 58] u)) < (u.take (cutL [59, 58] u)).length then none else some (u.take (cutL [59, 58] u))
def nameZ (s : List UInt8) : Option (List UInt8) := nameU (Lib.toUpperA (Lib.trimSpace s))
def nameR (o : Option (List UInt8)) (r : AV) : Prop := (∃ n, o = some n ∧ r = .tup [.str n, .v .nilIface]) ∨ (o = none ∧ ∃ e, isE e ∧ r = .tup [.str [], e])
theorem nameR_lt {o : Option (List UInt8)} {r : AV} (h : nameR o r) (n : Nat) : r.lt n := by
 rcases h with ⟨_, _, rfl⟩ | ⟨_, e, he, rfl⟩
 · exact ⟨trivial, trivial, trivial⟩
 · exact ⟨trivial, isE_lt he n, trivial⟩
theorem ruleName_tri (s : List UInt8) (hl : s.length ≤ 1073741824) (ha : asc s) : Tri C0 168 0 [] [.str s] (fun k hp r => k = 0 ∧ hp = [] ∧ nameR (nameZ s) r) := by
 refine Tri.keep ?_ trivial (fun r h => nameR_lt h 0)
 obtain ⟨u, hu⟩ : ∃ u, u = Lib.toUpperA (Lib.trimSpace s) := ⟨_, rfl⟩
 have hua : asc u := by rw [hu]; exact asc_upper (asc_trim ha)
 have hul : u.length ≤ 1073741824 := by rw [hu]; simp only [Lib.toUpperA, List.length_map]; have := trim_le s; omega
 have htl := trim_le s
 have hn : nameZ s = nameU u := by rw [hu]; rfl
 rw [hn]
 have hcl := cutL_le [59, 58] u
 refine Tri.mk 25 [.tmp 2, .tmp 3] Tryz.func168 rfl rfl rfl rfl cf168 ?_; intro w0 S T ρ0
 refine w_ ?_
 refine WL_call [] (trimSpace_tri s (by omega) ha) rfl rfl rfl t_ t_ rfl rfl rfl rfl ?_; rintro _ _ _ ⟨rfl, rfl, rfl⟩
 refine w_ ?_
 refine WL_call [] (toUpper_tri (Lib.trimSpace s) (by omega) (asc_trim ha)) rfl rfl rfl t_ t_ rfl rfl rfl rfl ?_; rintro _ _ _ ⟨rfl, rfl, rfl⟩
 rw [← hu]
 refine w_ ?_
 refine i_ ?_ ?_ <;> intro h0
 · have h0 : u = [] := h0
   have bad : nameU u = none := by simp only [nameU, if_pos h0]
   refine w_ ?_
   refine WL_call [] (errNew_tri _) rfl rfl rfl t_ t_ rfl rfl rfl rfl ?_; rintro _ _ _ ⟨rfl, rfl, et, ep, rfl⟩
   refine w_ ?_
   refine k_ ?_
   exact .inr ⟨bad, _, ⟨_, _, rfl⟩, rfl⟩
 have h0 : ¬ u = [] := h0
 refine w_ ?_
 refine WL_call [] (indexAny_tri u [59, 58] (by omega) (by decide) hua (by unfold asc; decide)) rfl rfl rfl t_ t_ rfl rfl rfl rfl ?_; rintro _ _ _ ⟨rfl, rfl, rfl⟩
 refine w_ ?_
 refine i_ ?_ ?_ <;> intro h1
 · have bad : nameU u = none := by
    simp only [nameU, if_neg h0]
    rw [if_pos]
    split at h1 <;> omega
   refine w_ ?_
   refine WL_call [] (errNew_tri _) rfl rfl rfl t_ t_ rfl rfl rfl rfl ?_; rintro _ _ _ ⟨rfl, rfl, et, ep, rfl⟩
   refine w_ ?_
   refine k_ ?_
   exact .inr ⟨bad, _, ⟨_, _, rfl⟩, rfl⟩
 have h2 : cutL [59, 58] u < u.length := Nat.lt_of_not_le fun h => by rw [if_neg (by omega)] at h1; omega
 rw [if_pos h2] at h1 ⊢
 refine w_ ?_
 have e1 : ((cutL [59, 58] u : Int)).toNat = cutL [59, 58] u := by simp
 rw [e1]
 have hcl2 := cutL_le [61] (u.take (cutL [59, 58] u))
 refine WL_call [] (indexAny_tri (u.take (cutL [59, 58] u)) [61] (by simp; omega) (by decide) (asc_take hua _) (by unfold asc; decide)) rfl rfl rfl t_ t_ rfl rfl rfl rfl ?_; rintro _ _ _ ⟨rfl, rfl, rfl⟩
 refine w_ ?_
 have hnu : nameU u = if 0 < cutL [61] (u.take (cutL [59, 58] u)) ∧ cutL [61] (u.take (cutL [59, 58] u)) < (u.take (cutL [59, 58] u)).length then none else some (u.take (cutL [59, 58] u)) := by
  simp only [nameU, if_neg h0]; rw [if_neg (by omega)]
 refine i_ ?_ ?_ <;> intro h3
 · have bad : nameU u = none := by
    rw [hnu, if_pos]
    split at h3 <;> omega
   refine w_ ?_
   refine WL_call [] (errNew_tri _) rfl rfl rfl t_ t_ rfl rfl rfl rfl ?_; rintro _ _ _ ⟨rfl, rfl, et, ep, rfl⟩
   refine w_ ?_
   refine k_ ?_
   exact .inr ⟨bad, _, ⟨_, _, rfl⟩, rfl⟩
 · have good : nameU u = some (u.take (cutL [59, 58] u)) := by
    rw [hnu, if_neg]
    split at h3 <;> omega
   refine w_ ?_
   refine k_ ?_
   exact .inl ⟨_, good, rfl⟩
end Go.Eng
namespace Go.Eng
open Go.Proofs
attribute [local irreducible] W WL LP Then InBl Tri WS
theorem splitB_mem (c : UInt8) : ∀ (l x : List UInt8), x ∈ splitB c l → x.length ≤ l.length ∧ ∀ b ∈ x, b ∈ l
 | [], x, h => by simp only [splitB, List.mem_singleton] at h; subst h; simp
 | b :: l, x, h => by
   simp only [splitB] at h
   split at h
   · rcases List.mem_cons.1 h with rfl | h
     · simp
     · have := splitB_mem c l x h
       exact ⟨by simp; omega, fun y hy => List.mem_cons_of_mem _ (this.2 y hy)⟩
   · split at h
     · simp only [List.mem_singleton] at h; subst h; simp
     · rename_i y ys e
       rcases List.mem_cons.1 h with rfl | h
       · have := splitB_mem c l y (by rw [e]; simp)
         refine ⟨by simp; omega, fun z hz => ?_⟩
         rcases List.mem_cons.1 hz with rfl | hz
         · simp
         · exact List.mem_cons_of_mem _ (this.2 z hz)
       · have := splitB_mem c l x (by rw [e]; simp [h])
         exact ⟨by simp; omega, fun y hy => List.mem_cons_of_mem _ (this.2 y hy)⟩
abbrev TZ : List UInt8 := [84, 90, 73, 68, 61]
abbrev TZU : List UInt8 := [84, 90, 73, 68, 61, 85, 84, 67]
def startZ (s : List UInt8) : Int × Nat :=
 match splitB 58 s with
 | [x] => momZ x
 | [p, x] => if ¬ Lib.hasPrefix p TZ = true then (0, 1) else if ¬ p = TZU then (0, 2) else momZ x
 | _ => (0, 1)
def outR (z : Int × Nat) (r : AV) : Prop := (z.2 = 0 ∧ r = .tup [tsec z.1 0, .v .nilIface]) ∨ (z.2 = 1 ∧ ∃ e, isE e ∧ r = .tup [tsec 0 0, e])
theorem outR_lt {z : Int × Nat} {r : AV} (h : outR z r) (n : Nat) : r.lt n := by
 rcases h with ⟨_, rfl⟩ | ⟨_, e, he, rfl⟩
 · exact ⟨⟨trivial, trivial, trivial⟩, trivial, trivial⟩
 · exact ⟨⟨trivial, trivial, trivial⟩, isE_lt he n, trivial⟩
theorem outR_bad (t : TypeId) (p : Value) : outR (0, 1) (.tup [tsec 0 0, .ifc t (.v p)]) := .inr ⟨rfl, _, ⟨_, _, rfl⟩, rfl⟩
theorem dtStart_tri (s : List UInt8) (hl : s.length ≤ 1073741824) (hopen : (startZ s).2 ≠ 2) : Tri C0 169 0 [] [.str s, .agg []] (fun k hp r => k = 0 ∧ hp = [] ∧ outR (startZ s) r) := by
 refine Tri.keep ?_ trivial (fun r h => outR_lt h 0)
 have hmem := splitB_mem 58 s
 unfold startZ at *
 refine Tri.mk 49 [.cell 4 88, .tmp 5] Tryz.func169 rfl rfl rfl rfl cf169 ?_; intro w0 S T ρ0
 refine w_ ?_
 refine WL_call [] (split_str_tri 58 s hl) rfl rfl rfl (s_) (s_) rfl rfl rfl rfl ?_
 rintro _ _ _ ⟨cap, tt, hc1, hc2, rfl, rfl, rfl⟩
 have hne := splitB_ne 58 s
 generalize splitB 58 s = l at *
 match l, hne with
 | [x], _ =>
   have hc1 : 1 ≤ cap := hc1
   refine w_ ?_
   refine W_cond_false rfl ?_
   refine w_ ?_
   refine W_cond_false rfl ?_
   refine w_ ?_
   refine W_draw [0, 2] [] 7 mo0 (by kernel_rfl) (by kernel_rfl) (fun ρ1 hkl => ?_); refine d_ ?_
   refine WS_loud rfl ?_ hkl; refine WL_call [] (timeIn_tri x (by have := (hmem x (by simp)).1; omega) hopen) rfl rfl rfl t_ t_ rfl rfl rfl rfl ?_; rintro _ _ _ ⟨rfl, rfl, hr⟩; refine WL_nil ?_; refine nq_walk ⟨fun _ => t_, ?_⟩; refine d_ ?_
   rcases hr with ⟨h1, rfl⟩ | ⟨h1, _, ⟨t, p, rfl⟩, rfl⟩
   · refine d_ ?_
     refine w_ ?_
     refine k_ ?_
     exact .inl ⟨h1, rfl⟩
   · refine d_ ?_
     refine w_ ?_
     refine k_ ?_
     exact .inr ⟨h1, _, ⟨t, p, rfl⟩, rfl⟩
 | [p, x], _ =>
   have hc1 : 2 ≤ cap := hc1
   dsimp only at hopen ⊢
   refine w_ ?_
   refine W_cond_false rfl ?_
   refine w_ ?_
   refine W_cond_true rfl ?_
   refine w_ ?_
   by_cases h1 : Lib.hasPrefix p TZ = true
   · have hp : p = TZU := by
      by_cases h2 : p = TZU
      · exact h2
      · rw [if_neg (fun h => h h1), if_pos h2] at hopen; exact absurd rfl hopen
     subst hp
     rw [if_neg (fun h => h h1), if_neg (fun h => h rfl)] at hopen ⊢
     refine WL_call [] (tzid_utc) rfl rfl rfl t_ t_ rfl rfl rfl rfl ?_; rintro _ _ _ ⟨rfl, rfl, rfl⟩
     refine w_ ?_
     refine W_cond_false rfl ?_
     refine w_ ?_
     refine W_draw [2, 3] [] 7 mo0 (by kernel_rfl) (by kernel_rfl) (fun ρ1 hkl => ?_); refine d_ ?_
     refine WS_loud rfl ?_ hkl; refine WL_call [] (timeIn_tri x (by have := (hmem x (by simp)).1; omega) hopen) rfl rfl rfl t_ t_ rfl rfl rfl rfl ?_; rintro _ _ _ ⟨rfl, rfl, hr⟩; refine WL_nil ?_; refine nq_walk ⟨fun _ => t_, ?_⟩; refine d_ ?_
     rcases hr with ⟨h1, rfl⟩ | ⟨h1, _, ⟨t, p, rfl⟩, rfl⟩
     · refine d_ ?_
       refine w_ ?_
       refine k_ ?_
       exact .inl ⟨h1, rfl⟩
     · refine d_ ?_
       refine w_ ?_
       refine k_ ?_
       exact .inr ⟨h1, _, ⟨t, p, rfl⟩, rfl⟩
   · rw [if_pos h1] at hopen ⊢
     refine WL_call [] (tzid_err p h1) rfl rfl rfl t_ t_ rfl rfl rfl rfl ?_; rintro _ _ _ ⟨rfl, rfl, z, ⟨t,p,rfl⟩, rfl⟩
     refine w_ ?_
     refine W_cond_true rfl ?_
     refine w_ ?_
     refine k_ ?_
     exact outR_bad _ _
 | a :: b :: c :: l, _ =>
   have e : ((a :: b :: c :: l).length : Int) > 2 := by simp; omega
   refine w_ ?_
   refine WL_split (t := 14) rfl (fun h => ?_) (fun h => absurd (of_decide_eq_false h) (by simpa using e))
   refine w_ ?_
   refine W_cond_true rfl ?_
   refine w_ ?_
   refine WL_call [] (errNew_tri _) rfl rfl rfl t_ t_ rfl rfl rfl rfl ?_; rintro _ _ _ ⟨rfl, rfl, et, ep, rfl⟩
   refine w_ ?_
   refine k_ ?_
   exact outR_bad _ _
end Go.Eng
namespace Go.Eng
open Go.Proofs
attribute [local irreducible] W WL LP Then InBl Tri WS
abbrev VDT : List UInt8 := [86, 65, 76, 85, 69, 61, 68, 65, 84, 69, 45, 84, 73, 77, 69]
abbrev VD : List UInt8 := [86, 65, 76, 85, 69, 61, 68, 65, 84, 69]
def parsZ : List (List UInt8) → Nat
 | [] => 0
 | q :: l => if q = TZU ∨ q = VDT ∨ q = VD then parsZ l else if Lib.hasPrefix q TZ = true then 2 else 1
def momsZ : List (List UInt8) → List Int × Nat
 | [] => ([], 0)
 | x :: l => if (momZ x).2 = 0 then (if (momsZ l).2 = 0 then ((momZ x).1 :: (momsZ l).1, 0) else ([], (momsZ l).2)) else ([], (momZ x).2)
def datesZ (s : List UInt8) : List Int × Nat :=
 match splitB 58 s with
 | [x] => momsZ (splitB 44 x)
 | [p, x] => if parsZ (splitB 59 p) = 0 then momsZ (splitB 44 x) else ([], parsZ (splitB 59 p))
 | _ => ([], 1)
def datesR (z : List Int × Nat) : Rs := fun k hp r =>
 (z.2 = 0 ∧ ∃ cap tt, z.1.length ≤ cap ∧ cap * 2 ≤ tt ∧ k = 1 ∧ hp = [(0, .recs 88 (some tt) K2 (tms z.1))] ∧ r = .tup [.sl false 0 2 0 z.1.length cap, .v .nilIface]) ∨
 (z.2 = 1 ∧ k = 0 ∧ hp = [] ∧ ∃ e, isE e ∧ r = .tup [.v (.slice none 0 0), e])
theorem getD_mem {l : List (List UInt8)} {i : Nat} (h : i < l.length) : l.getD i [] ∈ l := by
 have : l.getD i [] = l[i] := by simp [List.getD, h]
 rw [this]; exact List.getElem_mem h
theorem drop_getL {l : List (List UInt8)} {i : Nat} (h : i < l.length) : l.drop i = l.getD i [] :: l.drop (i + 1) := by
 rw [List.drop_eq_getElem_cons h]; simp [List.getD, h]
theorem splitB_count (c : UInt8) : ∀ l, (splitB c l).length ≤ l.length + 1
 | [] => by simp [splitB]
 | b :: l => by
   have := splitB_count c l
   simp only [splitB]
   split
   · simp; omega
   · split
     · simp
     · rename_i e; rw [e] at this; simp at *; omega
theorem momsZ_open {y : List UInt8} {l : List (List UInt8)} (h : (momsZ (y :: l)).2 ≠ 2) : (momZ y).2 ≠ 2 ∧ ((momZ y).2 = 0 → (momsZ l).2 ≠ 2) := by
 simp only [momsZ] at h
 split at h
 · rename_i e
   refine ⟨by omega, fun _ h2 => ?_⟩
   rw [if_neg (by omega)] at h; exact h h2
 · rename_i e; exact ⟨h, fun h0 => absurd h0 e⟩
theorem momsZ_ok {y : List UInt8} {l : List (List UInt8)} (h : (momZ y).2 = 0) : (momsZ (y :: l)).2 = (momsZ l).2 ∧ ((momsZ (y :: l)).2 = 0 → (momsZ (y :: l)).1 = (momZ y).1 :: (momsZ l).1) := by
 simp only [momsZ, if_pos h]
 split
 · rename_i e; exact ⟨e.symm, fun _ => rfl⟩
 · rename_i e; exact ⟨rfl, fun h => absurd h e⟩
theorem momsZ_bad {y : List UInt8} {l : List (List UInt8)} (h : (momZ y).2 = 1) : (momsZ (y :: l)).2 = 1 := by
 simp only [momsZ]; rw [if_neg (by omega)]; exact h
theorem dates_tri (s : List UInt8) (hl : s.length ≤ 536870912) (hopen : (datesZ s).2 ≠ 2) : Tri C0 171 0 [] [.str s, .agg []] (datesR (datesZ s)) := by
 have hmem := splitB_mem 58 s
 unfold datesZ at *
 refine Tri.mk 78 [.tmp 4, .tmp 5] Tryz.func171 rfl rfl rfl rfl cf171 ?_; intro w0 S T ρ0
 refine w_ ?_
 refine WL_call [] (split_str_tri 58 s (by omega)) rfl rfl rfl (s_) (s_) rfl rfl rfl rfl ?_
 rintro _ _ _ ⟨cap, tt, hc1, hc2, rfl, rfl, rfl⟩
 have hne := splitB_ne 58 s
 generalize splitB 58 s = l at *
 match l, hne with
 | [x], _ =>
   have hc1 : 1 ≤ cap := hc1
   dsimp only at hopen ⊢
   refine w_ ?_
   refine W_cond_false rfl ?_
   refine w_ ?_
   refine W_cond_false rfl ?_
   refine w_ ?_
   refine WL_ren [2] (n := 1) (tm' := [(4, .v (.slice none 0 0)), (5, .v .nilIface), (7, .ptr 0 0), (57, .str x)]) (hp' := [(0, .cells 156 (some 0) [])]) ?_ s_ s_ rfl rfl rfl
   have hx := (hmem x (by simp)).1
   refine WL_call [] (split_str_tri 44 x (by omega)) rfl rfl rfl (s_) (s_) rfl rfl rfl rfl ?_
   rintro _ _ _ ⟨cap2, tt2, hd1, hd2, rfl, rfl, rfl⟩
   have hm2 := splitB_mem 44 x
   have hne2 := splitB_ne 44 x
   have hcnt := splitB_count 44 x
   generalize splitB 44 x = ds at *
   have hpos : 0 < ds.length := List.length_pos_iff.2 hne2
   refine w_ ?_
   refine W_loop ?_
   refine LP_round ?_
   refine w_ ?_
   refine i_ ?_ ?_ <;> intro hj
   rotate_left 1
   · exfalso; omega
   have hdr : ds = ds.getD 0 [] :: ds.drop 1 := by have := drop_getL hpos; simpa using this
   have ho1 := hopen
   rw [hdr] at ho1
   have ho2 := momsZ_open ho1
   have hyl := (hm2 _ (getD_mem hpos)).1
   refine w_ ?_
   refine WL_call [] (timeIn_tri (ds.getD 0 []) (by omega) ho2.1) rfl rfl rfl t_ t_ rfl rfl rfl rfl ?_; rintro _ _ _ ⟨rfl, rfl, hr⟩
   rcases hr with ⟨r1, rfl⟩ | ⟨r1, _, ⟨t, p, rfl⟩, rfl⟩
   rotate_left 1
   · have hbad : (momsZ ds).2 = 1 := by rw [hdr]; exact momsZ_bad r1
     refine w_ ?_
     refine W_cond_true rfl ?_
     refine w_ ?_
     refine WL_call [] (errNew_tri _) rfl rfl rfl t_ t_ rfl rfl rfl rfl ?_; rintro _ _ _ ⟨rfl, rfl, et, ep, rfl⟩
     refine w_ ?_
     refine W_ren [] (n := 0) (tm' := [(4, .v (.slice none 0 0)), (5, .ifc et (.v ep))]) (hp' := []) ?_ s_ s_ rfl rfl rfl
     refine r_ ?_ ?_
     · exact s_
     · exact .inr ⟨hbad, rfl, rfl, _, ⟨_, _, rfl⟩, rfl⟩
   have hk := momsZ_ok (l := ds.drop 1) r1
   rw [← hdr] at hk
   have ho3 := ho2.2 r1
   refine w_ ?_
   refine W_cond_false rfl ?_
   refine w_ ?_
   refine WL_app0 (FamR 88 K2) ([(momZ (ds.getD 0 [])).1, 0]) rfl rfl rfl rfl rfl rfl rfl rfl rfl rfl rfl rfl rfl (by decide) ?_
   intro cap3 tt3 hc3 hc4
   refine w_ ?_
   refine LP_ren [0, 1, 4] (LP_ind 3 (fun q : Nat × List Int × Nat × Nat => ([(4, .sl false 2 2 0 q.2.1.length q.2.2.1), (5, .v .nilIface), (7, .ptr 0 0), (58, .sl false 1 1 0 ds.length cap2), (59, .int .i64 ds.length), (60, .int .i64 q.1)], [(0, .cells 156 (some 0) []), (1, .strs 9 (some tt2) ds), (2, .recs 88 (some q.2.2.2) K2 (tms q.2.1))])) (fun q => ds.length - q.1)
    (fun q => q.1 ≤ ds.length ∧ q.2.1.length = q.1 ∧ q.2.1.length ≤ q.2.2.1 ∧ q.2.2.1 * 2 ≤ q.2.2.2 ∧ (momsZ (ds.drop q.1)).2 ≠ 2 ∧ (momsZ ds).2 = (momsZ (ds.drop q.1)).2 ∧ ((momsZ ds).2 = 0 → (momsZ ds).1 = q.2.1 ++ (momsZ (ds.drop q.1)).1)) (1, [(momZ (ds.getD 0 [])).1], cap3, tt3) ?_ ⟨by simp only; omega, rfl, hc3, hc4, ho3, hk.1, hk.2⟩) ?_ ?_ rfl rfl rfl
   rotate_left 1
   · exact s_
   · exact s_
   rintro ⟨j, acc, cap3, tt3⟩ ⟨i1, i2, i3, i4, i5, i6, i7⟩ ih
   simp only at i1 i2 i3 i4 i5 i6 i7
   refine LP_round ?_; try dsimp only
   refine w_ ?_
   refine i_ ?_ ?_ <;> intro hj
   · have hj : j < ds.length := by omega
     have hdr := drop_getL hj
     rw [hdr] at i5 i6 i7
     have ho2 := momsZ_open i5
     have hyl := (hm2 _ (getD_mem hj)).1
     refine w_ ?_
     rw [show 0 + (j : Int).toNat = j by omega]
     refine WL_call [] (timeIn_tri (ds.getD j []) (by omega) ho2.1) rfl rfl rfl t_ t_ rfl rfl rfl rfl ?_; rintro _ _ _ ⟨rfl, rfl, hr⟩
     rcases hr with ⟨r1, rfl⟩ | ⟨r1, _, ⟨t, p, rfl⟩, rfl⟩
     rotate_left 1
     · have hbad : (momsZ ds).2 = 1 := by rw [i6]; exact momsZ_bad r1
       refine w_ ?_
       refine W_cond_true rfl ?_
       refine w_ ?_
       refine WL_call [] (errNew_tri _) rfl rfl rfl t_ t_ rfl rfl rfl rfl ?_; rintro _ _ _ ⟨rfl, rfl, et, ep, rfl⟩
       refine w_ ?_
       refine W_ren [] (n := 0) (tm' := [(4, .v (.slice none 0 0)), (5, .ifc et (.v ep))]) (hp' := []) ?_ s_ s_ rfl rfl rfl
       refine r_ ?_ ?_
       · exact s_
       · exact .inr ⟨hbad, rfl, rfl, _, ⟨_, _, rfl⟩, rfl⟩
     have hk := momsZ_ok (l := ds.drop (j + 1)) r1
     have ho3 := ho2.2 r1
     have htl : (tms acc).length = acc.length := by simp
     refine w_ ?_
     refine W_cond_false rfl ?_
     refine w_ ?_
     rw [← htl]
     refine WL_app1 (FamR 88 K2) (tms acc) ([(momZ (ds.getD j [])).1, 0]) rfl rfl rfl rfl rfl rfl rfl rfl rfl rfl rfl rfl rfl rfl ?_ ?_ ?_
     · exact ⟨by omega, i4⟩
     · exact ⟨by omega, by show ((tms acc).length + 1) * 16 ≤ _; omega⟩
     intro cap4 tt4 hc3 hc4 _
     refine w_ ?_
     have ih2 := ih (j + 1, acc ++ [(momZ (ds.getD j [])).1], cap4, tt4) ⟨by omega, by simp; omega, by simp at hc3 ⊢; omega, hc4, ho3, by rw [i6]; exact hk.1, fun h => by rw [i7 h]; rw [i6] at h; rw [hk.2 h]; simp⟩ (by simp only; omega)
     dsimp only at ih2
     rw [show (acc ++ [(momZ (ds.getD j [])).1]).length = (tms acc).length + 1 by simp, show tms (acc ++ [(momZ (ds.getD j [])).1]) = tms acc ++ [[(momZ (ds.getD j [])).1, 0]] by simp] at ih2
     refine LP_ren [0, 1, 5] ih2 ?_ ?_ rfl rfl rfl
     · exact s_
     · exact s_
   · have hj : j = ds.length := by omega
     rw [hj, List.drop_length] at i6 i7
     have i7 := i7 i6
     simp only [momsZ, List.append_nil] at i7
     refine w_ ?_
     refine x_ ?_
     refine w_ ?_
     refine W_ren [2] (n := 1) (tm' := [(4, .sl false 0 2 0 acc.length cap3), (5, .v .nilIface)]) (hp' := [(0, .recs 88 (some tt3) K2 (tms acc))]) ?_ s_ s_ rfl rfl rfl
     refine r_ ?_ ?_
     · exact s_
     · exact .inl ⟨i6, cap3, tt3, by rw [i7]; exact i3, i4, rfl, by rw [i7], by rw [i7]⟩
 | [p, x], _ =>
   have hc1 : 2 ≤ cap := hc1
   dsimp only at hopen ⊢
   have hp := (hmem p (by simp)).1
   have hx := (hmem x (by simp)).1
   refine w_ ?_
   refine W_cond_false rfl ?_
   refine w_ ?_
   refine W_cond_true rfl ?_
   refine w_ ?_
   refine WL_call [] (split_str_tri 59 p (by omega)) rfl rfl rfl (s_) (s_) rfl rfl rfl rfl ?_
   rintro _ _ _ ⟨cap1, tt1, hp1, hp2, rfl, rfl, rfl⟩
   have hmp := splitB_mem 59 p
   have hcp := splitB_count 59 p
   generalize splitB 59 p = ps at *
   refine w_ ?_
   refine W_loop ?_; refine LP_ren [1, 2, 3] (LP_ind 3 (fun j : Nat => ([(4, .v (.slice none 0 0)), (5, .v .nilIface), (6, .sl false 0 1 0 2 cap), (7, .ptr 1 0), (29, .sl false 2 1 0 ps.length cap1), (30, .int .i64 ps.length), (31, .int .i64 j)], [(0, .strs 9 (some tt) [p, x]), (1, .cells 156 (some 0) []), (2, .strs 9 (some tt1) ps)])) (fun j => ps.length - j) (fun j => j ≤ ps.length ∧ parsZ ps = parsZ (ps.drop j)) 0 ?_ (⟨Nat.zero_le _, rfl⟩)) s_ s_ rfl rfl rfl
   rintro j ⟨i1, i2⟩ ih
   refine LP_round ?_; try dsimp only
   refine w_ ?_
   refine i_ ?_ ?_ <;> intro hj
   · have hj : j < ps.length := by omega
     have hpo : parsZ ps ≠ 2 := by
      intro h2; rw [if_neg (by omega)] at hopen; exact hopen h2
     have hpb : parsZ ps = 1 → (if parsZ ps = 0 then momsZ (splitB 44 x) else ([], parsZ ps)).2 = 1 := fun h2 => by rw [if_neg (by omega)]; exact h2
     rw [drop_getL hj] at i2
     refine w_ ?_
     rw [show 0 + (j : Int).toNat = j by omega]
     obtain ⟨q, hq⟩ : ∃ q, q = ps.getD j [] := ⟨_, rfl⟩
     rw [← hq] at i2 ⊢
     refine WL_call [] (hasPrefix_tri q TZ) rfl rfl rfl t_ t_ rfl rfl rfl rfl ?_; rintro _ _ _ ⟨rfl, rfl, rfl⟩
     rw [parsZ] at i2
     by_cases h1 : q = TZU
     · subst h1
       rw [if_pos (.inl rfl)] at i2
       refine w_ ?_
       refine W_cond_true rfl ?_
       refine w_ ?_
       refine WL_call [] (tzid_utc) rfl rfl rfl t_ t_ rfl rfl rfl rfl ?_; rintro _ _ _ ⟨rfl, rfl, rfl⟩
       refine w_ ?_
       refine W_cond_false rfl ?_
       refine w_ ?_
       refine LP_ren [0, 1, 2] (ih (j + 1) (⟨by omega, i2⟩) (by omega)) s_ s_ rfl rfl rfl
     · by_cases h2 : Lib.hasPrefix q TZ = true
       · exfalso
         by_cases h3 : q = VDT
         · subst h3; exact absurd h2 (by decide)
         · by_cases h4 : q = VD
           · subst h4; exact absurd h2 (by decide)
           · rw [if_neg (by simp [h1, h3, h4]), if_pos h2] at i2; exact hpo i2
       · have h2' : Lib.hasPrefix q TZ = false := by simpa using h2
         rw [h2']
         refine w_ ?_
         refine W_cond_false rfl ?_
         refine w_ ?_
         refine j_ 44 ?_ ?_ <;> intro h3
         · have h3 : ¬ q = VDT := h3
           refine w_ ?_
           refine i_ ?_ ?_ <;> intro h4
           · have h4 : ¬ q = VD := h4
             rw [if_neg (by simp [h1, h3, h4]), if_neg h2] at i2
             refine w_ ?_
             refine WL_call [] (errNew_tri _) rfl rfl rfl t_ t_ rfl rfl rfl rfl ?_; rintro _ _ _ ⟨rfl, rfl, et, ep, rfl⟩
             refine w_ ?_
             refine W_cond_true rfl ?_
             refine w_ ?_
             refine WL_call [] (errNew_tri _) rfl rfl rfl t_ t_ rfl rfl rfl rfl ?_; rintro _ _ _ ⟨rfl, rfl, et, ep, rfl⟩
             refine w_ ?_
             refine W_ren [] (n := 0) (tm' := [(4, .v (.slice none 0 0)), (5, .ifc et (.v ep))]) (hp' := []) ?_ s_ s_ rfl rfl rfl
             refine r_ ?_ ?_
             · exact s_
             · exact .inr ⟨hpb i2, rfl, rfl, _, ⟨_, _, rfl⟩, rfl⟩
           · have h4 : q = VD := h4
             rw [if_pos (.inr (.inr h4))] at i2
             refine w_ ?_
             refine W_cond_false rfl ?_
             refine w_ ?_
             refine LP_ren [0, 1, 2] (ih (j + 1) (⟨by omega, i2⟩) (by omega)) s_ s_ rfl rfl rfl
         · have h3 : q = VDT := h3
           rw [if_pos (.inr (.inl h3))] at i2
           refine w_ ?_
           refine W_cond_false rfl ?_
           refine w_ ?_
           refine W_cond_false rfl ?_
           refine w_ ?_
           refine LP_ren [0, 1, 2] (ih (j + 1) (⟨by omega, i2⟩) (by omega)) s_ s_ rfl rfl rfl
   · have hj : j = ps.length := by omega
     rw [hj, List.drop_length] at i2
     have i2 : parsZ ps = 0 := i2
     rw [if_pos i2] at hopen ⊢
     refine w_ ?_
     refine x_ ?_
     refine w_ ?_
     refine WL_ren [1] (n := 1) (tm' := [(4, .v (.slice none 0 0)), (5, .v .nilIface), (7, .ptr 0 0), (57, .str x)]) (hp' := [(0, .cells 156 (some 0) [])]) ?_ s_ s_ rfl rfl rfl
     refine WL_call [] (split_str_tri 44 x (by omega)) rfl rfl rfl (s_) (s_) rfl rfl rfl rfl ?_
     rintro _ _ _ ⟨cap2, tt2, hd1, hd2, rfl, rfl, rfl⟩
     have hm2 := splitB_mem 44 x
     have hne2 := splitB_ne 44 x
     have hcnt := splitB_count 44 x
     generalize splitB 44 x = ds at *
     have hpos : 0 < ds.length := List.length_pos_iff.2 hne2
     refine w_ ?_
     refine W_loop ?_
     refine LP_round ?_
     refine w_ ?_
     refine i_ ?_ ?_ <;> intro hj
     rotate_left 1
     · exfalso; omega
     have hdr : ds = ds.getD 0 [] :: ds.drop 1 := by have := drop_getL hpos; simpa using this
     have ho1 := hopen
     rw [hdr] at ho1
     have ho2 := momsZ_open ho1
     have hyl := (hm2 _ (getD_mem hpos)).1
     refine w_ ?_
     refine WL_call [] (timeIn_tri (ds.getD 0 []) (by omega) ho2.1) rfl rfl rfl t_ t_ rfl rfl rfl rfl ?_; rintro _ _ _ ⟨rfl, rfl, hr⟩
     rcases hr with ⟨r1, rfl⟩ | ⟨r1, _, ⟨t, p, rfl⟩, rfl⟩
     rotate_left 1
     · have hbad : (momsZ ds).2 = 1 := by rw [hdr]; exact momsZ_bad r1
       refine w_ ?_
       refine W_cond_true rfl ?_
       refine w_ ?_
       refine WL_call [] (errNew_tri _) rfl rfl rfl t_ t_ rfl rfl rfl rfl ?_; rintro _ _ _ ⟨rfl, rfl, et, ep, rfl⟩
       refine w_ ?_
       refine W_ren [] (n := 0) (tm' := [(4, .v (.slice none 0 0)), (5, .ifc et (.v ep))]) (hp' := []) ?_ s_ s_ rfl rfl rfl
       refine r_ ?_ ?_
       · exact s_
       · exact .inr ⟨hbad, rfl, rfl, _, ⟨_, _, rfl⟩, rfl⟩
     have hk := momsZ_ok (l := ds.drop 1) r1
     rw [← hdr] at hk
     have ho3 := ho2.2 r1
     refine w_ ?_
     refine W_cond_false rfl ?_
     refine w_ ?_
     refine WL_app0 (FamR 88 K2) ([(momZ (ds.getD 0 [])).1, 0]) rfl rfl rfl rfl rfl rfl rfl rfl rfl rfl rfl rfl rfl (by decide) ?_
     intro cap3 tt3 hc3 hc4
     refine w_ ?_
     refine LP_ren [0, 1, 4] (LP_ind 3 (fun q : Nat × List Int × Nat × Nat => ([(4, .sl false 2 2 0 q.2.1.length q.2.2.1), (5, .v .nilIface), (7, .ptr 0 0), (58, .sl false 1 1 0 ds.length cap2), (59, .int .i64 ds.length), (60, .int .i64 q.1)], [(0, .cells 156 (some 0) []), (1, .strs 9 (some tt2) ds), (2, .recs 88 (some q.2.2.2) K2 (tms q.2.1))])) (fun q => ds.length - q.1)
      (fun q => q.1 ≤ ds.length ∧ q.2.1.length = q.1 ∧ q.2.1.length ≤ q.2.2.1 ∧ q.2.2.1 * 2 ≤ q.2.2.2 ∧ (momsZ (ds.drop q.1)).2 ≠ 2 ∧ (momsZ ds).2 = (momsZ (ds.drop q.1)).2 ∧ ((momsZ ds).2 = 0 → (momsZ ds).1 = q.2.1 ++ (momsZ (ds.drop q.1)).1)) (1, [(momZ (ds.getD 0 [])).1], cap3, tt3) ?_ ⟨by simp only; omega, rfl, hc3, hc4, ho3, hk.1, hk.2⟩) ?_ ?_ rfl rfl rfl
     rotate_left 1
     · exact s_
     · exact s_
     rintro ⟨j, acc, cap3, tt3⟩ ⟨i1, i2, i3, i4, i5, i6, i7⟩ ih
     simp only at i1 i2 i3 i4 i5 i6 i7
     refine LP_round ?_; try dsimp only
     refine w_ ?_
     refine i_ ?_ ?_ <;> intro hj
     · have hj : j < ds.length := by omega
       have hdr := drop_getL hj
       rw [hdr] at i5 i6 i7
       have ho2 := momsZ_open i5
       have hyl := (hm2 _ (getD_mem hj)).1
       refine w_ ?_
       rw [show 0 + (j : Int).toNat = j by omega]
       refine WL_call [] (timeIn_tri (ds.getD j []) (by omega) ho2.1) rfl rfl rfl t_ t_ rfl rfl rfl rfl ?_; rintro _ _ _ ⟨rfl, rfl, hr⟩
       rcases hr with ⟨r1, rfl⟩ | ⟨r1, _, ⟨t, p, rfl⟩, rfl⟩
       rotate_left 1
       · have hbad : (momsZ ds).2 = 1 := by rw [i6]; exact momsZ_bad r1
         refine w_ ?_
         refine W_cond_true rfl ?_
         refine w_ ?_
         refine WL_call [] (errNew_tri _) rfl rfl rfl t_ t_ rfl rfl rfl rfl ?_; rintro _ _ _ ⟨rfl, rfl, et, ep, rfl⟩
         refine w_ ?_
         refine W_ren [] (n := 0) (tm' := [(4, .v (.slice none 0 0)), (5, .ifc et (.v ep))]) (hp' := []) ?_ s_ s_ rfl rfl rfl
         refine r_ ?_ ?_
         · exact s_
         · exact .inr ⟨hbad, rfl, rfl, _, ⟨_, _, rfl⟩, rfl⟩
       have hk := momsZ_ok (l := ds.drop (j + 1)) r1
       have ho3 := ho2.2 r1
       have htl : (tms acc).length = acc.length := by simp
       refine w_ ?_
       refine W_cond_false rfl ?_
       refine w_ ?_
       rw [← htl]
       refine WL_app1 (FamR 88 K2) (tms acc) ([(momZ (ds.getD j [])).1, 0]) rfl rfl rfl rfl rfl rfl rfl rfl rfl rfl rfl rfl rfl rfl ?_ ?_ ?_
       · exact ⟨by omega, i4⟩
       · exact ⟨by omega, by show ((tms acc).length + 1) * 16 ≤ _; omega⟩
       intro cap4 tt4 hc3 hc4 _
       refine w_ ?_
       have ih2 := ih (j + 1, acc ++ [(momZ (ds.getD j [])).1], cap4, tt4) ⟨by omega, by simp; omega, by simp at hc3 ⊢; omega, hc4, ho3, by rw [i6]; exact hk.1, fun h => by rw [i7 h]; rw [i6] at h; rw [hk.2 h]; simp⟩ (by simp only; omega)
       dsimp only at ih2
       rw [show (acc ++ [(momZ (ds.getD j [])).1]).length = (tms acc).length + 1 by simp, show tms (acc ++ [(momZ (ds.getD j [])).1]) = tms acc ++ [[(momZ (ds.getD j [])).1, 0]] by simp] at ih2
       refine LP_ren [0, 1, 5] ih2 ?_ ?_ rfl rfl rfl
       · exact s_
       · exact s_
     · have hj : j = ds.length := by omega
       rw [hj, List.drop_length] at i6 i7
       have i7 := i7 i6
       simp only [momsZ, List.append_nil] at i7
       refine w_ ?_
       refine x_ ?_
       refine w_ ?_
       refine W_ren [2] (n := 1) (tm' := [(4, .sl false 0 2 0 acc.length cap3), (5, .v .nilIface)]) (hp' := [(0, .recs 88 (some tt3) K2 (tms acc))]) ?_ s_ s_ rfl rfl rfl
       refine r_ ?_ ?_
       · exact s_
       · exact .inl ⟨i6, cap3, tt3, by rw [i7]; exact i3, i4, rfl, by rw [i7], by rw [i7]⟩
 | a :: b :: c :: l, _ =>
   have e : ((a :: b :: c :: l).length : Int) > 2 := by simp; omega
   refine w_ ?_
   refine W_cond rfl (fun h => ?_) (fun h => absurd (of_decide_eq_false h) (by simpa using e))
   refine w_ ?_
   refine WL_call [] (errNew_tri _) rfl rfl rfl t_ t_ rfl rfl rfl rfl ?_; rintro _ _ _ ⟨rfl, rfl, et, ep, rfl⟩
   refine w_ ?_
   refine W_ren [] (n := 0) (tm' := [(4, .v (.slice none 0 0)), (5, .ifc et (.v ep))]) (hp' := []) ?_ s_ s_ rfl rfl rfl
   refine r_ ?_ ?_
   · exact s_
   · exact .inr ⟨rfl, rfl, rfl, _, ⟨_, _, rfl⟩, rfl⟩
end Go.Eng
namespace Go.Eng
open Go.Proofs
attribute [local irreducible] W WL LP Then InBl Tri WS
def ascB : List UInt8 → Bool
 | [] => true
 | b :: l => if (b.toNat : Int) ≥ 128 then false else ascB l
theorem ascB_iff : ∀ {l : List UInt8}, ascB l = true ↔ asc l
 | [] => by simp [ascB, asc]
 | b :: l => by
   simp only [ascB]
   have ih := ascB_iff (l := l)
   constructor
   · intro h
     split at h
     · cases h
     · intro x hx
       rcases List.mem_cons.1 hx with rfl | hx
       · omega
       · exact ih.1 h x hx
   · intro h
     have h1 := h b (by simp)
     rw [if_neg (by omega)]
     exact ih.2 fun x hx => h x (List.mem_cons_of_mem _ hx)
end Go.Eng
namespace Go.Eng
open Go.Proofs
attribute [local irreducible] W WL LP Then InBl Tri WS
theorem leapB_iff (y : Int) : leapB y = true ↔ (y % 4 = 0 ∧ (¬ y % 100 = 0 ∨ y % 400 = 0)) := by simp [leapB]
def tDays (y m d : Int) : Int :=
 y / 400 * 146097 + ((y - y / 400 * 400) * 365 + (y - y / 400 * 400) / 4 - (y - y / 400 * 400) / 100 + ((153 * ((m + 9) % 12) + 2) / 5 + d - 1)) - 306
theorem mdays_ne (m y : Int) (h : ¬ m = 2) : mdays m y = if m = 4 ∨ m = 6 ∨ m = 9 ∨ m = 11 then 30 else 31 := by simp only [mdays, if_neg h]
theorem mdays_two (y : Int) : mdays 2 y = if leapB y = true then 29 else 28 := by simp only [mdays, if_true]
theorem mdSum_eq (y : Int) : mdSum y 0 = 0 ∧ mdSum y 1 = 31 ∧ mdSum y 2 = 31 + mdays 2 y ∧ mdSum y 3 = 62 + mdays 2 y ∧ mdSum y 4 = 92 + mdays 2 y ∧ mdSum y 5 = 123 + mdays 2 y ∧ mdSum y 6 = 153 + mdays 2 y ∧ mdSum y 7 = 184 + mdays 2 y ∧ mdSum y 8 = 215 + mdays 2 y ∧ mdSum y 9 = 245 + mdays 2 y ∧ mdSum y 10 = 276 + mdays 2 y ∧ mdSum y 11 = 306 + mdays 2 y := by
 have e : ∀ k : Nat, mdSum y (k + 1) = mdSum y k + mdays ((k + 1 : Nat) : Int) y := fun k => by simp [mdSum]
 have h0 : mdSum y 0 = 0 := rfl
 have h1 := e 0
 have h2 := e 1
 have h3 := e 2
 have h4 := e 3
 have h5 := e 4
 have h6 := e 5
 have h7 := e 6
 have h8 := e 7
 have h9 := e 8
 have h10 := e 9
 have h11 := e 10
 rw [mdays_ne _ _ (by decide), if_neg (by decide)] at h1 h3 h5 h7 h8 h10
 rw [mdays_ne _ _ (by decide), if_pos (by decide)] at h4 h6 h9 h11
 have h2' : mdSum y 2 = mdSum y 1 + mdays 2 y := h2
 simp only [Nat.reduceAdd] at *
 refine ⟨h0, ?_, ?_, ?_, ?_, ?_, ?_, ?_, ?_, ?_, ?_, ?_⟩ <;> omega
def NZ (y : Int) : Int := 365 * y + y / 4 - y / 100 + y / 400
theorem NZ_era (y : Int) : y / 400 * 146097 + ((y - y / 400 * 400) * 365 + (y - y / 400 * 400) / 4 - (y - y / 400 * 400) / 100) = NZ y := by
 have h1 : (y - y / 400 * 400) / 4 = y / 4 - 100 * (y / 400) := by omega
 have h2 : (y - y / 400 * 400) / 100 = y / 100 - 4 * (y / 400) := by omega
 rw [h1, h2, NZ]; omega
theorem NZ_succ (y : Int) : NZ y = NZ (y - 1) + 365 + (if leapB y = true then 1 else 0) := by
 have hl := leapB_iff y
 have h4 : y / 4 - (y - 1) / 4 = if y % 4 = 0 then 1 else 0 := by split <;> omega
 have h100 : y / 100 - (y - 1) / 100 = if y % 100 = 0 then 1 else 0 := by split <;> omega
 have h400 : y / 400 - (y - 1) / 400 = if y % 400 = 0 then 1 else 0 := by split <;> omega
 simp only [NZ]
 by_cases h : leapB y = true
 · rw [if_pos h]
   have hl := hl.1 h
   rw [if_pos hl.1] at h4
   rcases hl.2 with h2 | h2
   · rw [if_neg h2] at h100
     rw [if_neg (by omega)] at h400
     omega
   · rw [if_pos (by omega)] at h100
     rw [if_pos h2] at h400
     omega
 · rw [if_neg h]
   have hl := fun e => h (hl.2 e)
   by_cases a : y % 4 = 0
   · have b : y % 100 = 0 := by
      by_cases b : y % 100 = 0
      · exact b
      · exact absurd ⟨a, .inl b⟩ hl
     have c : ¬ y % 400 = 0 := fun c => hl ⟨a, .inr c⟩
     rw [if_pos a] at h4
     rw [if_pos b] at h100
     rw [if_neg c] at h400
     omega
   · rw [if_neg a] at h4
     rw [if_neg (by omega)] at h100
     rw [if_neg (by omega)] at h400
     omega
theorem tDays_NZ (y m d : Int) : tDays y m d = NZ y + ((153 * ((m + 9) % 12) + 2) / 5 + d - 1) - 306 := by
 rw [← NZ_era, tDays]
 generalize (153 * ((m + 9) % 12) + 2) / 5 + d - 1 = k
 generalize (y - y / 400 * 400) * 365 + (y - y / 400 * 400) / 4 - (y - y / 400 * 400) / 100 = z
 generalize y / 400 * 146097 = u
 omega
theorem dateZ_tDays (y m d : Int) (hm : 1 ≤ m ∧ m ≤ 12) : dateZ y m d = tDays (if m ≤ 2 then y - 1 else y) m d := by
 have e1 : (m - 1) / 12 = 0 := by omega
 have e2 : (m - 1) % 12 = m - 1 := by omega
 have e3 : daysToZ y = NZ (y - 1) := rfl
 rw [dateZ, e1, e2, Int.add_zero, tDays_NZ, e3]
 obtain ⟨s0, s1, s2, s3, s4, s5, s6, s7, s8, s9, s10, s11⟩ := mdSum_eq y
 have ht := mdays_two y
 have hN := NZ_succ y
 have ht2 : mdays 2 y = 28 + (if leapB y = true then 1 else 0) := by rw [ht]; split <;> rfl
 rw [ht2] at s2 s3 s4 s5 s6 s7 s8 s9 s10 s11
 generalize (if leapB y = true then (1 : Int) else 0) = L at *
 clear ht ht2
 have hc : m = 1 ∨ m = 2 ∨ m = 3 ∨ m = 4 ∨ m = 5 ∨ m = 6 ∨ m = 7 ∨ m = 8 ∨ m = 9 ∨ m = 10 ∨ m = 11 ∨ m = 12 := by omega
 rcases hc with rfl | rfl | rfl | rfl | rfl | rfl | rfl | rfl | rfl | rfl | rfl | rfl
 · rw [if_pos (by omega), show ((1 : Int) - 1).toNat = 0 from rfl, s0, show (153 * (((1 : Int) + 9) % 12) + 2) / 5 = 306 from rfl]; omega
 · rw [if_pos (by omega), show ((2 : Int) - 1).toNat = 1 from rfl, s1, show (153 * (((2 : Int) + 9) % 12) + 2) / 5 = 337 from rfl]; omega
 · rw [if_neg (by omega), show ((3 : Int) - 1).toNat = 2 from rfl, s2, show (153 * (((3 : Int) + 9) % 12) + 2) / 5 = 0 from rfl]; omega
 · rw [if_neg (by omega), show ((4 : Int) - 1).toNat = 3 from rfl, s3, show (153 * (((4 : Int) + 9) % 12) + 2) / 5 = 31 from rfl]; omega
 · rw [if_neg (by omega), show ((5 : Int) - 1).toNat = 4 from rfl, s4, show (153 * (((5 : Int) + 9) % 12) + 2) / 5 = 61 from rfl]; omega
 · rw [if_neg (by omega), show ((6 : Int) - 1).toNat = 5 from rfl, s5, show (153 * (((6 : Int) + 9) % 12) + 2) / 5 = 92 from rfl]; omega
 · rw [if_neg (by omega), show ((7 : Int) - 1).toNat = 6 from rfl, s6, show (153 * (((7 : Int) + 9) % 12) + 2) / 5 = 122 from rfl]; omega
 · rw [if_neg (by omega), show ((8 : Int) - 1).toNat = 7 from rfl, s7, show (153 * (((8 : Int) + 9) % 12) + 2) / 5 = 153 from rfl]; omega
 · rw [if_neg (by omega), show ((9 : Int) - 1).toNat = 8 from rfl, s8, show (153 * (((9 : Int) + 9) % 12) + 2) / 5 = 184 from rfl]; omega
 · rw [if_neg (by omega), show ((10 : Int) - 1).toNat = 9 from rfl, s9, show (153 * (((10 : Int) + 9) % 12) + 2) / 5 = 214 from rfl]; omega
 · rw [if_neg (by omega), show ((11 : Int) - 1).toNat = 10 from rfl, s10, show (153 * (((11 : Int) + 9) % 12) + 2) / 5 = 245 from rfl]; omega
 · rw [if_neg (by omega), show ((12 : Int) - 1).toNat = 11 from rfl, s11, show (153 * (((12 : Int) + 9) % 12) + 2) / 5 = 275 from rfl]; omega
end Go.Eng
