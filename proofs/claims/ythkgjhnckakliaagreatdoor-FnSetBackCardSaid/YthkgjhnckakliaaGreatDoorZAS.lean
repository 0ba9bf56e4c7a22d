/- A part of the proof that the rows statement FnSetBack holds; no conditions. -/
import Derived.Test.YthkgjhnckakliaaGreatDoorZAR
set_option linter.unusedVariables false
set_option linter.unusedSimpArgs false
set_option linter.unusedSectionVars false
namespace Go.Eng
open Go.Proofs
attribute [local irreducible] W WL LP Then InBl Tri WS
theorem digAcc_le : ∀ (l : List UInt8) (a v : Int) (B : Int), digAcc l a = some v → 0 ≤ a → a < B → 0 ≤ v ∧ v < B * 10 ^ l.length
 | [], a, v, B, h, h0, h1 => by simp only [digAcc, Option.some.injEq] at h; subst h; simp; omega
 | b :: l, a, v, B, h, h0, h1 => by
   simp only [digAcc] at h
   split at h
   · cases h
   · have := digAcc_le l _ v (B * 10) h (by omega) (by omega)
     refine ⟨this.1, ?_⟩
     rw [List.length_cons, Int.pow_succ]
     have e : B * (10 ^ l.length * 10) = B * 10 * 10 ^ l.length := by rw [Int.mul_comm (10 ^ l.length), Int.mul_assoc]
     rw [e]; exact this.2
theorem digZ_le {s : List UInt8} {n : Nat} {v : Int} (h : digZ s n = some v) : 0 ≤ v ∧ v < 10 ^ n ∧ n ≤ s.length := by
 simp only [digZ] at h
 split at h
 · cases h
 · rename_i hn
   have := digAcc_le _ _ _ 1 h (by omega) (by omega)
   rw [List.length_take, Nat.min_eq_left (by omega)] at this
   exact ⟨this.1, by simpa using this.2, by omega⟩
theorem digZ_le2 {s : List UInt8} {v : Int} (h : digZ s 2 = some v) : 0 ≤ v ∧ v ≤ 99 ∧ 2 ≤ s.length := by have := digZ_le h; omega
theorem digZ_le4 {s : List UInt8} {v : Int} (h : digZ s 4 = some v) : 0 ≤ v ∧ v ≤ 9999 ∧ 4 ≤ s.length := by have := digZ_le h; omega
def momT (s : List UInt8) (D : Int) : Int × Nat :=
 match digZ (s.drop 9) 2, digZ (s.drop 11) 2, digZ (s.drop 13) 2 with
 | some h, some n, some x =>
   if ¬ s.getD 8 0 = 84 ∨ h > 23 ∨ n > 59 ∨ x > 59 then (0, 1) else
   if s.length = 15 ∨ (s.length = 16 ∧ s.getD 15 0 = 90) then (D + h * 3600 + n * 60 + x, 0)
   else if s.getD 15 0 = 46 ∨ s.getD 15 0 = 44 then (0, 2) else (0, 1)
 | _, _, _ => (0, 1)
def momZ (s : List UInt8) : Int × Nat :=
 match digZ s 4, digZ (s.drop 4) 2, digZ (s.drop 6) 2 with
 | some y, some m, some d =>
   if m < 1 ∨ m > 12 ∨ d < 1 ∨ d > mdays m y then (0, 1) else
   if s.length = 8 then (dateZ y m d * 86400 + 0 * 3600 + 0 * 60 + 0, 0) else momT s (dateZ y m d * 86400)
 | _, _, _ => (0, 1)
theorem momZ_T {s : List UInt8} {y m d : Int} (hy : digZ s 4 = some y) (hm : digZ (s.drop 4) 2 = some m) (hd : digZ (s.drop 6) 2 = some d) (hs : ¬ s.length = 8) :
 momZ s = if m < 1 ∨ m > 12 ∨ d < 1 ∨ d > mdays m y then (0, 1) else momT s (dateZ y m d * 86400) := by
 simp only [momZ, hy, hm, hd]; rw [if_neg hs]
theorem momZ_badT {s : List UInt8} {y m d : Int} (hy : digZ s 4 = some y) (hm : digZ (s.drop 4) 2 = some m) (hd : digZ (s.drop 6) 2 = some d) (hs : ¬ s.length = 8) (h : ∀ D, momT s D = (0, 1)) : momZ s = (0, 1) := by
 rw [momZ_T hy hm hd hs, h]; split <;> rfl
def momR (s : List UInt8) (r : AV) : Prop := ((momZ s).2 = 0 ∧ r = .tup [tsec (momZ s).1 0, .v .nilIface]) ∨ ((momZ s).2 = 1 ∧ ∃ e, isE e ∧ r = .tup [tsec 0 0, e])
theorem momR_lt {s : List UInt8} {r : AV} (h : momR s r) (n : Nat) : r.lt n := by
 rcases h with ⟨_, rfl⟩ | ⟨_, e, he, rfl⟩
 · exact ⟨⟨trivial, trivial, trivial⟩, trivial, trivial⟩
 · exact ⟨⟨trivial, trivial, trivial⟩, isE_lt he n, trivial⟩
theorem momR_bad {s : List UInt8} (h : momZ s = (0, 1)) (t : TypeId) (p : Value) : momR s (.tup [tsec 0 0, .ifc t (.v p)]) := .inr ⟨by rw [h], _, ⟨_, _, rfl⟩, rfl⟩
theorem dateOf0_tri (y m d h mi s : Int) (hy : -1000000000 ≤ y ∧ y ≤ 1000000000) (hm : -1000000000 ≤ m ∧ m ≤ 1000000000) (hd : -1000000000 ≤ d ∧ d ≤ 1000000000) (hh : -1000000000 ≤ h ∧ h ≤ 1000000000)
 (hmi : -1000000000 ≤ mi ∧ mi ≤ 1000000000) (hs : -1000000000 ≤ s ∧ s ≤ 1000000000) :
 Tri C0 207 0 [] [.int .i64 y, .int .i64 m, .int .i64 d, .int .i64 h, .int .i64 mi, .int .i64 s, .int .i64 0, .agg []]
 (fun k hp r => k = 0 ∧ hp = [] ∧ r = tsec (dateZ y m d * 86400 + h * 3600 + mi * 60 + s) 0) := by
 refine (dateOf_tri y m d h mi s 0 hy hm hd hh hmi hs (by omega)).mono ?_
 rintro n hp r ⟨rfl, rfl, rfl⟩
 refine ⟨rfl, rfl, ?_⟩
 have e1 : dateZ y m d * 86400 + h * 3600 + mi * 60 + s + 0 / 1000000000 = dateZ y m d * 86400 + h * 3600 + mi * 60 + s := by omega
 rw [e1]; rfl
theorem bt_drop (s : List UInt8) (k : Nat) : bt (s.drop k) 0 = ((s.getD k 0).toNat : Int) := by
 simp [bt, List.getD, List.getElem?_drop]
theorem parse8_tri (s : List UInt8) (hs : s.length = 8) : Tri C0 267 0 [] [.str [50, 48, 48, 54, 48, 49, 48, 50], .str s] (fun k hp r => k = 0 ∧ hp = [] ∧ momR s r) := by
 refine Tri.keep ?_ trivial (fun r h => momR_lt h 0)
 refine Tri.mk 195 [.cell 4 88, .tmp 5] Tryz.func267 rfl rfl rfl rfl cf267 ?_; intro w0 S T ρ0
 refine w_ ?_
 refine WL_call [] (errNew_tri _) rfl rfl rfl t_ t_ rfl rfl rfl rfl ?_; rintro _ _ _ ⟨rfl, rfl, t0, p0, rfl⟩
 refine w_ ?_
 refine WL_call [] (digits_tri s 4 (by omega) (by omega)) rfl rfl rfl t_ t_ rfl rfl rfl rfl ?_; rintro _ _ _ ⟨rfl, rfl, rfl⟩
 cases hy : digZ s 4 with
 | none =>
   have bad : momZ s = (0, 1) := by simp [momZ, hy]
   refine w_ ?_
   refine W_cond_true rfl ?_
   refine w_ ?_
   refine k_ ?_
   exact momR_bad bad _ _
 | some y =>
 have by1 := digZ_le4 hy
 refine w_ ?_
 refine W_cond_false rfl ?_
 refine w_ ?_
 refine WL_call [] (digits_tri (s.drop 4) 2 (by simp; omega) (by omega)) rfl rfl rfl t_ t_ rfl rfl rfl rfl ?_; rintro _ _ _ ⟨rfl, rfl, rfl⟩
 have e6 : (s.drop 4).drop 2 = s.drop 6 := by simp
 rw [e6]
 cases hm : digZ (s.drop 4) 2 with
 | none =>
   have bad : momZ s = (0, 1) := by simp [momZ, hy, hm]
   refine w_ ?_
   refine W_cond_true rfl ?_
   refine w_ ?_
   refine k_ ?_
   exact momR_bad bad _ _
 | some m =>
 have bm1 := digZ_le2 hm
 refine w_ ?_
 refine j_ 40 ?_ ?_ <;> intro hm1
 · have bad : momZ s = (0, 1) := by simp only [momZ, hy, hm]; cases digZ (s.drop 6) 2 with | none => rfl | some d => exact if_pos (by omega)
   refine w_ ?_
   refine W_cond_true rfl ?_
   refine w_ ?_
   refine k_ ?_
   exact momR_bad bad _ _
 refine w_ ?_
 refine i_ ?_ ?_ <;> intro hm2
 · have bad : momZ s = (0, 1) := by simp only [momZ, hy, hm]; cases digZ (s.drop 6) 2 with | none => rfl | some d => exact if_pos (by omega)
   refine w_ ?_
   refine k_ ?_
   exact momR_bad bad _ _
 refine w_ ?_
 refine WL_call [] (digits_tri (s.drop 6) 2 (by simp; omega) (by omega)) rfl rfl rfl t_ t_ rfl rfl rfl rfl ?_; rintro _ _ _ ⟨rfl, rfl, rfl⟩
 have e8 : (s.drop 6).drop 2 = s.drop 8 := by simp
 rw [e8]
 cases hd : digZ (s.drop 6) 2 with
 | none =>
   have bad : momZ s = (0, 1) := by simp [momZ, hy, hm, hd]
   refine w_ ?_
   refine W_cond_true rfl ?_
   refine w_ ?_
   refine k_ ?_
   exact momR_bad bad _ _
 | some d =>
 have bd1 := digZ_le2 hd
 refine w_ ?_
 refine W_cond_false rfl ?_
 refine w_ ?_
 refine W_cond_false rfl ?_
 have el : s.drop 8 = [] := List.drop_of_length_le (by omega)
 rw [el]
 refine w_ ?_
 refine j_ 177 ?_ ?_ <;> intro hd1
 · have bad : momZ s = (0, 1) := by simp only [momZ, hy, hm, hd]; rw [if_pos (by omega)]
   refine w_ ?_
   refine W_cond_true rfl ?_
   refine w_ ?_
   refine k_ ?_
   exact momR_bad bad _ _
 refine w_ ?_
 refine WL_call [] (monthDays_tri m y) rfl rfl rfl t_ t_ rfl rfl rfl rfl ?_; rintro _ _ _ ⟨rfl, rfl, rfl⟩
 refine w_ ?_
 refine i_ ?_ ?_ <;> intro hd2
 · have bad : momZ s = (0, 1) := by simp only [momZ, hy, hm, hd]; rw [if_pos (by omega)]
   refine w_ ?_
   refine k_ ?_
   exact momR_bad bad _ _
 refine w_ ?_
 refine WL_call [] (dateOf0_tri y m d 0 0 0 (by omega) (by omega) (by omega) (by omega) (by omega) (by omega)) rfl rfl rfl t_ t_ rfl rfl rfl rfl ?_; rintro _ _ _ ⟨rfl, rfl, rfl⟩
 refine w_ ?_
 refine k_ ?_
 refine .inl ?_
 have good : momZ s = (dateZ y m d * 86400 + 0 * 3600 + 0 * 60 + 0, 0) := by simp only [momZ, hy, hm, hd]; rw [if_neg (by omega), if_pos hs]
 rw [good]
 exact ⟨rfl, rfl⟩
theorem parse15_tri (s : List UInt8) (hl : s.length = 15) : Tri C0 267 0 [] [.str [50, 48, 48, 54, 48, 49, 48, 50, 84, 49, 53, 48, 52, 48, 53], .str s] (fun k hp r => k = 0 ∧ hp = [] ∧ momR s r) := by
 have hs : ¬ s.length = 8 := by omega
 refine Tri.keep ?_ trivial (fun r h => momR_lt h 0)
 refine Tri.mk 195 [.cell 4 88, .tmp 5] Tryz.func267 rfl rfl rfl rfl cf267 ?_; intro w0 S T ρ0
 refine w_ ?_
 refine WL_call [] (errNew_tri _) rfl rfl rfl t_ t_ rfl rfl rfl rfl ?_; rintro _ _ _ ⟨rfl, rfl, t0, p0, rfl⟩
 refine w_ ?_
 refine WL_call [] (digits_tri s 4 (by omega) (by omega)) rfl rfl rfl t_ t_ rfl rfl rfl rfl ?_; rintro _ _ _ ⟨rfl, rfl, rfl⟩
 cases hy : digZ s 4 with
 | none =>
   have bad : momZ s = (0, 1) := by simp [momZ, hy]
   refine w_ ?_
   refine W_cond_true rfl ?_
   refine w_ ?_
   refine k_ ?_
   exact momR_bad bad _ _
 | some y =>
 have by1 := digZ_le4 hy
 refine w_ ?_
 refine W_cond_false rfl ?_
 refine w_ ?_
 refine WL_call [] (digits_tri (s.drop 4) 2 (by simp; omega) (by omega)) rfl rfl rfl t_ t_ rfl rfl rfl rfl ?_; rintro _ _ _ ⟨rfl, rfl, rfl⟩
 have e6 : (s.drop 4).drop 2 = s.drop 6 := by simp
 rw [e6]
 cases hm : digZ (s.drop 4) 2 with
 | none =>
   have bad : momZ s = (0, 1) := by simp [momZ, hy, hm]
   refine w_ ?_
   refine W_cond_true rfl ?_
   refine w_ ?_
   refine k_ ?_
   exact momR_bad bad _ _
 | some m =>
 have bm1 := digZ_le2 hm
 refine w_ ?_
 refine j_ 40 ?_ ?_ <;> intro hm1
 · have bad : momZ s = (0, 1) := by simp only [momZ, hy, hm]; cases digZ (s.drop 6) 2 with | none => rfl | some d => exact if_pos (by omega)
   refine w_ ?_
   refine W_cond_true rfl ?_
   refine w_ ?_
   refine k_ ?_
   exact momR_bad bad _ _
 refine w_ ?_
 refine i_ ?_ ?_ <;> intro hm2
 · have bad : momZ s = (0, 1) := by simp only [momZ, hy, hm]; cases digZ (s.drop 6) 2 with | none => rfl | some d => exact if_pos (by omega)
   refine w_ ?_
   refine k_ ?_
   exact momR_bad bad _ _
 refine w_ ?_
 refine WL_call [] (digits_tri (s.drop 6) 2 (by simp; omega) (by omega)) rfl rfl rfl t_ t_ rfl rfl rfl rfl ?_; rintro _ _ _ ⟨rfl, rfl, rfl⟩
 have e8 : (s.drop 6).drop 2 = s.drop 8 := by simp
 rw [e8]
 cases hd : digZ (s.drop 6) 2 with
 | none =>
   have bad : momZ s = (0, 1) := by simp [momZ, hy, hm, hd]
   refine w_ ?_
   refine W_cond_true rfl ?_
   refine w_ ?_
   refine k_ ?_
   exact momR_bad bad _ _
 | some d =>
 have bd1 := digZ_le2 hd
 refine w_ ?_
 refine W_cond_false rfl ?_
 refine w_ ?_
 refine W_cond_true rfl ?_
 rw [List.length_drop] at bm1 bd1
 refine w_ ?_
 refine j_ 63 ?_ ?_ <;> intro hz
 · exfalso; rw [List.length_drop] at hz; omega
 refine w_ ?_
 refine i_ ?_ ?_ <;> intro h8
 · have h8 : ¬ s.getD 8 0 = 84 := fun e => h8 (by rw [bt_drop, e]; rfl)
   have bad : momZ s = (0, 1) := momZ_badT hy hm hd hs (by
    intro D; unfold momT
    cases digZ (s.drop 9) 2 with
    | none => rfl
    | some h => cases digZ (s.drop 11) 2 with
      | none => rfl
      | some n => cases digZ (s.drop 13) 2 with
        | none => rfl
        | some x => exact if_pos (.inl h8))
   refine w_ ?_
   refine k_ ?_
   exact momR_bad bad _ _
 have h8 : s.getD 8 0 = 84 := by rw [bt_drop] at h8; exact UInt8.toNat_inj.1 (by show _ = 84; omega)
 have e9 : (s.drop 8).drop 1 = s.drop 9 := by simp
 refine w_ ?_
 rw [show (s.drop 8).drop (1 : Int).toNat = s.drop 9 from e9]
 refine w_ ?_
 refine WL_call [] (digits_tri (s.drop 9) 2 (by simp; omega) (by omega)) rfl rfl rfl t_ t_ rfl rfl rfl rfl ?_; rintro _ _ _ ⟨rfl, rfl, rfl⟩
 have e11 : (s.drop 9).drop 2 = s.drop 11 := by simp
 rw [e11]
 cases hh : digZ (s.drop 9) 2 with
 | none =>
   have bad : momZ s = (0, 1) := momZ_badT hy hm hd hs (by intro D; unfold momT; rw [hh])
   refine w_ ?_
   refine W_cond_true rfl ?_
   refine w_ ?_
   refine k_ ?_
   exact momR_bad bad _ _
 | some h =>
 have bh1 := digZ_le2 hh
 refine w_ ?_
 refine i_ ?_ ?_ <;> intro hh1
 · have bad : momZ s = (0, 1) := momZ_badT hy hm hd hs (by
    intro D; unfold momT; rw [hh]
    cases digZ (s.drop 11) 2 with
    | none => rfl
    | some n => cases digZ (s.drop 13) 2 with
      | none => rfl
      | some x => exact if_pos (.inr (.inl hh1)))
   refine w_ ?_
   refine k_ ?_
   exact momR_bad bad _ _
 refine w_ ?_
 refine WL_call [] (digits_tri (s.drop 11) 2 (by simp; omega) (by omega)) rfl rfl rfl t_ t_ rfl rfl rfl rfl ?_; rintro _ _ _ ⟨rfl, rfl, rfl⟩
 have e13 : (s.drop 11).drop 2 = s.drop 13 := by simp
 rw [e13]
 cases hn : digZ (s.drop 11) 2 with
 | none =>
   have bad : momZ s = (0, 1) := momZ_badT hy hm hd hs (by intro D; unfold momT; rw [hh, hn])
   refine w_ ?_
   refine W_cond_true rfl ?_
   refine w_ ?_
   refine k_ ?_
   exact momR_bad bad _ _
 | some n =>
 have bn1 := digZ_le2 hn
 refine w_ ?_
 refine i_ ?_ ?_ <;> intro hn1
 · have bad : momZ s = (0, 1) := momZ_badT hy hm hd hs (by
    intro D; unfold momT; rw [hh, hn]
    cases digZ (s.drop 13) 2 with
    | none => rfl
    | some x => exact if_pos (.inr (.inr (.inl hn1))))
   refine w_ ?_
   refine k_ ?_
   exact momR_bad bad _ _
 refine w_ ?_
 refine WL_call [] (digits_tri (s.drop 13) 2 (by simp; omega) (by omega)) rfl rfl rfl t_ t_ rfl rfl rfl rfl ?_; rintro _ _ _ ⟨rfl, rfl, rfl⟩
 have e15 : (s.drop 13).drop 2 = s.drop 15 := by simp
 rw [e15]
 cases hx : digZ (s.drop 13) 2 with
 | none =>
   have bad : momZ s = (0, 1) := momZ_badT hy hm hd hs (by intro D; unfold momT; rw [hh, hn, hx])
   refine w_ ?_
   refine W_cond_true rfl ?_
   refine w_ ?_
   refine k_ ?_
   exact momR_bad bad _ _
 | some x =>
 have bx1 := digZ_le2 hx
 refine w_ ?_
 refine i_ ?_ ?_ <;> intro hx1
 · have bad : momZ s = (0, 1) := momZ_badT hy hm hd hs (by
    intro D; unfold momT; rw [hh, hn, hx]
    exact if_pos (.inr (.inr (.inr hx1))))
   refine w_ ?_
   refine k_ ?_
   exact momR_bad bad _ _
 have hmom : momZ s = if m < 1 ∨ m > 12 ∨ d < 1 ∨ d > mdays m y then (0, 1) else if s.length = 15 ∨ (s.length = 16 ∧ s.getD 15 0 = 90) then (dateZ y m d * 86400 + h * 3600 + n * 60 + x, 0)
  else if s.getD 15 0 = 46 ∨ s.getD 15 0 = 44 then (0, 2) else (0, 1) := by
  rw [momZ_T hy hm hd hs]
  unfold momT; rw [hh, hn, hx]
  dsimp only
  rw [if_neg (show ¬ (¬ s.getD 8 0 = 84 ∨ h > 23 ∨ n > 59 ∨ x > 59) by intro e; rcases e with e | e | e | e; exact e h8; exact hh1 e; exact hn1 e; exact hx1 e)]
 rw [List.length_drop] at bh1 bn1 bx1
 have hl15 : 15 ≤ s.length := by omega
 have el : s.drop 15 = [] := List.drop_of_length_le (by omega)
 rw [el]
 rw [if_pos (show s.length = 15 ∨ (s.length = 16 ∧ s.getD 15 0 = 90) from .inl hl)] at hmom
 refine w_ ?_
 refine W_cond_false rfl ?_
 refine w_ ?_
 refine j_ 177 ?_ ?_ <;> intro hd1
 · have bad : momZ s = (0, 1) := by rw [hmom, if_pos (by omega)]
   refine w_ ?_
   refine W_cond_true rfl ?_
   refine w_ ?_
   refine k_ ?_
   exact momR_bad bad _ _
 refine w_ ?_
 refine WL_call [] (monthDays_tri m y) rfl rfl rfl t_ t_ rfl rfl rfl rfl ?_; rintro _ _ _ ⟨rfl, rfl, rfl⟩
 refine w_ ?_
 refine i_ ?_ ?_ <;> intro hd2
 · have bad : momZ s = (0, 1) := by rw [hmom, if_pos (by omega)]
   refine w_ ?_
   refine k_ ?_
   exact momR_bad bad _ _
 refine w_ ?_
 refine WL_call [] (dateOf0_tri y m d h n x (by omega) (by omega) (by omega) (by omega) (by omega) (by omega)) rfl rfl rfl t_ t_ rfl rfl rfl rfl ?_; rintro _ _ _ ⟨rfl, rfl, rfl⟩
 refine w_ ?_
 refine k_ ?_
 refine .inl ?_
 rw [if_neg (by omega)] at hmom
 rw [hmom]
 exact ⟨rfl, rfl⟩
theorem drop_eq90 {s : List UInt8} (hl : 15 ≤ s.length) : s.drop 15 = [90] ↔ s.length = 16 ∧ s.getD 15 0 = 90 := by
 constructor
 · intro h
   have h1 := congrArg List.length h
   rw [List.length_drop] at h1
   simp only [List.length_cons, List.length_nil] at h1
   refine ⟨by omega, ?_⟩
   rw [drop_getB (by omega)] at h
   exact (List.cons.inj h).1
 · rintro ⟨h1, h2⟩
   rw [drop_getB (by omega), h2, List.drop_of_length_le (by omega)]
set_option maxHeartbeats 2000000 in
theorem parse16_tri (s : List UInt8) (hlen : s.length ≤ 1073741824) (hs : ¬ s.length = 8) (hn15 : ¬ s.length = 15) (hopen : (momZ s).2 ≠ 2) : Tri C0 267 0 [] [.str [50, 48, 48, 54, 48, 49, 48, 50, 84, 49, 53, 48, 52, 48, 53, 90], .str s] (fun k hp r => k = 0 ∧ hp = [] ∧ momR s r) := by
 refine Tri.keep ?_ trivial (fun r h => momR_lt h 0)
 refine Tri.mk 195 [.cell 4 88, .tmp 5] Tryz.func267 rfl rfl rfl rfl cf267 ?_; intro w0 S T ρ0
 refine w_ ?_
 refine WL_call [] (errNew_tri _) rfl rfl rfl t_ t_ rfl rfl rfl rfl ?_; rintro _ _ _ ⟨rfl, rfl, t0, p0, rfl⟩
 refine w_ ?_
 refine WL_call [] (digits_tri s 4 (by omega) (by omega)) rfl rfl rfl t_ t_ rfl rfl rfl rfl ?_; rintro _ _ _ ⟨rfl, rfl, rfl⟩
 cases hy : digZ s 4 with
 | none =>
   have bad : momZ s = (0, 1) := by simp [momZ, hy]
   refine w_ ?_
   refine W_cond_true rfl ?_
   refine w_ ?_
   refine k_ ?_
   exact momR_bad bad _ _
 | some y =>
 have by1 := digZ_le4 hy
 refine w_ ?_
 refine W_cond_false rfl ?_
 refine w_ ?_
 refine WL_call [] (digits_tri (s.drop 4) 2 (by simp; omega) (by omega)) rfl rfl rfl t_ t_ rfl rfl rfl rfl ?_; rintro _ _ _ ⟨rfl, rfl, rfl⟩
 have e6 : (s.drop 4).drop 2 = s.drop 6 := by simp
 rw [e6]
 cases hm : digZ (s.drop 4) 2 with
 | none =>
   have bad : momZ s = (0, 1) := by simp [momZ, hy, hm]
   refine w_ ?_
   refine W_cond_true rfl ?_
   refine w_ ?_
   refine k_ ?_
   exact momR_bad bad _ _
 | some m =>
 have bm1 := digZ_le2 hm
 refine w_ ?_
 refine j_ 40 ?_ ?_ <;> intro hm1
 · have bad : momZ s = (0, 1) := by simp only [momZ, hy, hm]; cases digZ (s.drop 6) 2 with | none => rfl | some d => exact if_pos (by omega)
   refine w_ ?_
   refine W_cond_true rfl ?_
   refine w_ ?_
   refine k_ ?_
   exact momR_bad bad _ _
 refine w_ ?_
 refine i_ ?_ ?_ <;> intro hm2
 · have bad : momZ s = (0, 1) := by simp only [momZ, hy, hm]; cases digZ (s.drop 6) 2 with | none => rfl | some d => exact if_pos (by omega)
   refine w_ ?_
   refine k_ ?_
   exact momR_bad bad _ _
 refine w_ ?_
 refine WL_call [] (digits_tri (s.drop 6) 2 (by simp; omega) (by omega)) rfl rfl rfl t_ t_ rfl rfl rfl rfl ?_; rintro _ _ _ ⟨rfl, rfl, rfl⟩
 have e8 : (s.drop 6).drop 2 = s.drop 8 := by simp
 rw [e8]
 cases hd : digZ (s.drop 6) 2 with
 | none =>
   have bad : momZ s = (0, 1) := by simp [momZ, hy, hm, hd]
   refine w_ ?_
   refine W_cond_true rfl ?_
   refine w_ ?_
   refine k_ ?_
   exact momR_bad bad _ _
 | some d =>
 have bd1 := digZ_le2 hd
 refine w_ ?_
 refine W_cond_false rfl ?_
 refine w_ ?_
 refine W_cond_true rfl ?_
 rw [List.length_drop] at bm1 bd1
 refine w_ ?_
 refine j_ 63 ?_ ?_ <;> intro hz
 · exfalso; rw [List.length_drop] at hz; omega
 refine w_ ?_
 refine i_ ?_ ?_ <;> intro h8
 · have h8 : ¬ s.getD 8 0 = 84 := fun e => h8 (by rw [bt_drop, e]; rfl)
   have bad : momZ s = (0, 1) := momZ_badT hy hm hd hs (by
    intro D; unfold momT
    cases digZ (s.drop 9) 2 with
    | none => rfl
    | some h => cases digZ (s.drop 11) 2 with
      | none => rfl
      | some n => cases digZ (s.drop 13) 2 with
        | none => rfl
        | some x => exact if_pos (.inl h8))
   refine w_ ?_
   refine k_ ?_
   exact momR_bad bad _ _
 have h8 : s.getD 8 0 = 84 := by rw [bt_drop] at h8; exact UInt8.toNat_inj.1 (by show _ = 84; omega)
 have e9 : (s.drop 8).drop 1 = s.drop 9 := by simp
 refine w_ ?_
 rw [show (s.drop 8).drop (1 : Int).toNat = s.drop 9 from e9]
 refine w_ ?_
 refine WL_call [] (digits_tri (s.drop 9) 2 (by simp; omega) (by omega)) rfl rfl rfl t_ t_ rfl rfl rfl rfl ?_; rintro _ _ _ ⟨rfl, rfl, rfl⟩
 have e11 : (s.drop 9).drop 2 = s.drop 11 := by simp
 rw [e11]
 cases hh : digZ (s.drop 9) 2 with
 | none =>
   have bad : momZ s = (0, 1) := momZ_badT hy hm hd hs (by intro D; unfold momT; rw [hh])
   refine w_ ?_
   refine W_cond_true rfl ?_
   refine w_ ?_
   refine k_ ?_
   exact momR_bad bad _ _
 | some h =>
 have bh1 := digZ_le2 hh
 refine w_ ?_
 refine i_ ?_ ?_ <;> intro hh1
 · have bad : momZ s = (0, 1) := momZ_badT hy hm hd hs (by
    intro D; unfold momT; rw [hh]
    cases digZ (s.drop 11) 2 with
    | none => rfl
    | some n => cases digZ (s.drop 13) 2 with
      | none => rfl
      | some x => exact if_pos (.inr (.inl hh1)))
   refine w_ ?_
   refine k_ ?_
   exact momR_bad bad _ _
 refine w_ ?_
 refine WL_call [] (digits_tri (s.drop 11) 2 (by simp; omega) (by omega)) rfl rfl rfl t_ t_ rfl rfl rfl rfl ?_; rintro _ _ _ ⟨rfl, rfl, rfl⟩
 have e13 : (s.drop 11).drop 2 = s.drop 13 := by simp
 rw [e13]
 cases hn : digZ (s.drop 11) 2 with
 | none =>
   have bad : momZ s = (0, 1) := momZ_badT hy hm hd hs (by intro D; unfold momT; rw [hh, hn])
   refine w_ ?_
   refine W_cond_true rfl ?_
   refine w_ ?_
   refine k_ ?_
   exact momR_bad bad _ _
 | some n =>
 have bn1 := digZ_le2 hn
 refine w_ ?_
 refine i_ ?_ ?_ <;> intro hn1
 · have bad : momZ s = (0, 1) := momZ_badT hy hm hd hs (by
    intro D; unfold momT; rw [hh, hn]
    cases digZ (s.drop 13) 2 with
    | none => rfl
    | some x => exact if_pos (.inr (.inr (.inl hn1))))
   refine w_ ?_
   refine k_ ?_
   exact momR_bad bad _ _
 refine w_ ?_
 refine WL_call [] (digits_tri (s.drop 13) 2 (by simp; omega) (by omega)) rfl rfl rfl t_ t_ rfl rfl rfl rfl ?_; rintro _ _ _ ⟨rfl, rfl, rfl⟩
 have e15 : (s.drop 13).drop 2 = s.drop 15 := by simp
 rw [e15]
 cases hx : digZ (s.drop 13) 2 with
 | none =>
   have bad : momZ s = (0, 1) := momZ_badT hy hm hd hs (by intro D; unfold momT; rw [hh, hn, hx])
   refine w_ ?_
   refine W_cond_true rfl ?_
   refine w_ ?_
   refine k_ ?_
   exact momR_bad bad _ _
 | some x =>
 have bx1 := digZ_le2 hx
 refine w_ ?_
 refine i_ ?_ ?_ <;> intro hx1
 · have bad : momZ s = (0, 1) := momZ_badT hy hm hd hs (by
    intro D; unfold momT; rw [hh, hn, hx]
    exact if_pos (.inr (.inr (.inr hx1))))
   refine w_ ?_
   refine k_ ?_
   exact momR_bad bad _ _
 have hmom : momZ s = if m < 1 ∨ m > 12 ∨ d < 1 ∨ d > mdays m y then (0, 1) else if s.length = 15 ∨ (s.length = 16 ∧ s.getD 15 0 = 90) then (dateZ y m d * 86400 + h * 3600 + n * 60 + x, 0)
  else if s.getD 15 0 = 46 ∨ s.getD 15 0 = 44 then (0, 2) else (0, 1) := by
  rw [momZ_T hy hm hd hs]
  unfold momT; rw [hh, hn, hx]
  dsimp only
  rw [if_neg (show ¬ (¬ s.getD 8 0 = 84 ∨ h > 23 ∨ n > 59 ∨ x > 59) by intro e; rcases e with e | e | e | e; exact e h8; exact hh1 e; exact hn1 e; exact hx1 e)]
 rw [List.length_drop] at bh1 bn1 bx1
 have hl15 : 15 ≤ s.length := by omega
 have bad1 : ¬ s.drop 15 = [90] → momZ s = (0, 1) := by
  intro hq
  rw [drop_eq90 hl15] at hq
  rw [hmom] at hopen ⊢
  split
  · rfl
  · rename_i hda
    rw [if_neg hda] at hopen
    have hq2 : ¬ (s.length = 15 ∨ (s.length = 16 ∧ s.getD 15 0 = 90)) := fun e => e.elim hn15 hq
    rw [if_neg hq2] at hopen ⊢
    split
    · rename_i h46; rw [if_pos h46] at hopen; exact absurd rfl hopen
    · rfl
 refine w_ ?_
 refine j_ 116 ?_ ?_ <;> intro hl2
 · refine w_ ?_
   have hfr : s.getD 15 0 = 46 ∨ s.getD 15 0 = 44 → d < 1 ∨ d > mdays m y := by
    intro h46
    rw [hmom] at hopen
    rw [List.length_drop] at hl2
    rcases Decidable.em (m < 1 ∨ m > 12 ∨ d < 1 ∨ d > mdays m y) with hda | hda
    · omega
    · have hq2 : ¬ (s.length = 15 ∨ (s.length = 16 ∧ s.getD 15 0 = 90)) := fun e => e.elim hn15 (fun e => by omega)
      rw [if_neg hda, if_neg hq2, if_pos h46] at hopen; exact absurd rfl hopen
   refine j_ 120 ?_ ?_ <;> intro hc1
   · have hda := hfr (.inl (by rw [bt_drop] at hc1; exact UInt8.toNat_inj.1 (by show _ = 46; omega)))
     refine w_ ?_
     refine j_ 131 ?_ ?_ <;> intro hk1
     · refine w_ ?_
       refine i_ ?_ ?_ <;> intro hk2
       · have bad : momZ s = (0, 1) := by rw [hmom, if_pos (by omega)]
         have hdl : (s.drop 15).length ≤ 1073741824 := by rw [List.length_drop]; omega
         refine w_ ?_
         refine W_loop ?_; refine LP_ren [0] (LP_ind 1 (fun p : Nat × Int × Int => ([(0, .str [84, 49, 53, 48, 52, 48, 53, 90]), (1, .str (s.drop 15)), (4, .ptr 0 0), (5, .v .nilIface), (6, .ifc t0 (.v p0)), (7, .int .i64 y), (9, .int .i64 m), (10, .int .i64 d), (14, .int .i64 p.2.1), (15, .int .i64 p.1), (16, .int .i64 p.2.2)], [(0, .cells 88 (some 2) [.int .i64 0, .int .i64 0])])) (fun p => (s.drop 15).length - p.1) (fun p => p.1 ≤ (s.drop 15).length ∧ 0 ≤ p.2.1 ∧ 0 ≤ p.2.2 ∧ p.2.1 ≤ 1000000000 - 10 * p.2.2) (1, 0, 100000000) ?_ (⟨by simp only; omega, by simp, by simp, by simp⟩)) s_ s_ rfl rfl rfl
         rintro ⟨j, na, u⟩ ⟨j1, j2, j3, j4⟩ ihj
         simp only at j1 j2 j3 j4
         have hu : u.tdiv 10 = u / 10 := Int.tdiv_eq_ediv_of_nonneg j3
         refine LP_round ?_; try dsimp only
         refine w_ ?_
         refine j_ 140 ?_ ?_ <;> intro hj
         · refine w_ ?_
           refine j_ 146 ?_ ?_ <;> intro hj2
           · refine w_ ?_
             refine i_ ?_ ?_ <;> intro hj3
             · have hq1 : 0 ≤ (bt (s.drop 15) j - 48) * u := Int.mul_nonneg (by omega) j3
               have hq2 : (bt (s.drop 15) j - 48) * u ≤ 9 * u := Int.mul_le_mul_of_nonneg_right (by omega) j3
               refine w_ ?_
               rw [hu]
               refine w_ ?_
               refine LP_ren [0] (ihj (j + 1, na + (bt (s.drop 15) j - 48) * u, u / 10) ⟨by simp only; omega, by simp only; omega, by simp only; omega, by simp only; omega⟩ (by simp only; omega)) ?_ ?_ rfl rfl rfl
               · exact s_
               · exact s_
             refine w_ ?_
             refine x_ ?_
             refine w_ ?_
             refine j_ 173 ?_ ?_ <;> intro hq
             · refine w_ ?_
               refine W_cond_true rfl ?_
               refine w_ ?_
               refine k_ ?_
               exact momR_bad bad _ _
             refine w_ ?_
             refine j_ 177 ?_ ?_ <;> intro hd1
             · refine w_ ?_
               refine W_cond_true rfl ?_
               refine w_ ?_
               refine k_ ?_
               exact momR_bad bad _ _
             refine w_ ?_
             refine WL_call [] (monthDays_tri m y) rfl rfl rfl t_ t_ rfl rfl rfl rfl ?_; rintro _ _ _ ⟨rfl, rfl, rfl⟩
             refine w_ ?_
             refine i_ ?_ ?_ <;> intro hd2
             · refine w_ ?_
               refine k_ ?_
               exact momR_bad bad _ _
             exfalso; omega
           · refine w_ ?_
             refine W_cond_false rfl ?_
             refine w_ ?_
             refine x_ ?_
             refine w_ ?_
             refine j_ 173 ?_ ?_ <;> intro hq
             · refine w_ ?_
               refine W_cond_true rfl ?_
               refine w_ ?_
               refine k_ ?_
               exact momR_bad bad _ _
             refine w_ ?_
             refine j_ 177 ?_ ?_ <;> intro hd1
             · refine w_ ?_
               refine W_cond_true rfl ?_
               refine w_ ?_
               refine k_ ?_
               exact momR_bad bad _ _
             refine w_ ?_
             refine WL_call [] (monthDays_tri m y) rfl rfl rfl t_ t_ rfl rfl rfl rfl ?_; rintro _ _ _ ⟨rfl, rfl, rfl⟩
             refine w_ ?_
             refine i_ ?_ ?_ <;> intro hd2
             · refine w_ ?_
               refine k_ ?_
               exact momR_bad bad _ _
             exfalso; omega
         · refine w_ ?_
           refine W_cond_false rfl ?_
           refine w_ ?_
           refine x_ ?_
           refine w_ ?_
           refine j_ 173 ?_ ?_ <;> intro hq
           · refine w_ ?_
             refine W_cond_true rfl ?_
             refine w_ ?_
             refine k_ ?_
             exact momR_bad bad _ _
           refine w_ ?_
           refine j_ 177 ?_ ?_ <;> intro hd1
           · refine w_ ?_
             refine W_cond_true rfl ?_
             refine w_ ?_
             refine k_ ?_
             exact momR_bad bad _ _
           refine w_ ?_
           refine WL_call [] (monthDays_tri m y) rfl rfl rfl t_ t_ rfl rfl rfl rfl ?_; rintro _ _ _ ⟨rfl, rfl, rfl⟩
           refine w_ ?_
           refine i_ ?_ ?_ <;> intro hd2
           · refine w_ ?_
             refine k_ ?_
             exact momR_bad bad _ _
           exfalso; omega
       · refine w_ ?_
         refine j_ 173 ?_ ?_ <;> intro hq
         · have bad : momZ s = (0, 1) := bad1 hq
           refine w_ ?_
           refine W_cond_true rfl ?_
           refine w_ ?_
           refine k_ ?_
           exact momR_bad bad _ _
         refine w_ ?_
         refine j_ 177 ?_ ?_ <;> intro hd1
         · have bad : momZ s = (0, 1) := by rw [hmom, if_pos (by omega)]
           refine w_ ?_
           refine W_cond_true rfl ?_
           refine w_ ?_
           refine k_ ?_
           exact momR_bad bad _ _
         refine w_ ?_
         refine WL_call [] (monthDays_tri m y) rfl rfl rfl t_ t_ rfl rfl rfl rfl ?_; rintro _ _ _ ⟨rfl, rfl, rfl⟩
         refine w_ ?_
         refine i_ ?_ ?_ <;> intro hd2
         · have bad : momZ s = (0, 1) := by rw [hmom, if_pos (by omega)]
           refine w_ ?_
           refine k_ ?_
           exact momR_bad bad _ _
         have h16 := (drop_eq90 hl15).1 hq
         rw [if_pos (show s.length = 15 ∨ (s.length = 16 ∧ s.getD 15 0 = 90) from .inr h16), if_neg (by omega)] at hmom
         refine w_ ?_
         refine WL_call [] (dateOf0_tri y m d h n x (by omega) (by omega) (by omega) (by omega) (by omega) (by omega)) rfl rfl rfl t_ t_ rfl rfl rfl rfl ?_; rintro _ _ _ ⟨rfl, rfl, rfl⟩
         refine w_ ?_
         refine k_ ?_
         refine .inl ?_
         rw [hmom]
         exact ⟨rfl, rfl⟩
     · refine w_ ?_
       refine W_cond_false rfl ?_
       refine w_ ?_
       refine j_ 173 ?_ ?_ <;> intro hq
       · have bad : momZ s = (0, 1) := bad1 hq
         refine w_ ?_
         refine W_cond_true rfl ?_
         refine w_ ?_
         refine k_ ?_
         exact momR_bad bad _ _
       refine w_ ?_
       refine j_ 177 ?_ ?_ <;> intro hd1
       · have bad : momZ s = (0, 1) := by rw [hmom, if_pos (by omega)]
         refine w_ ?_
         refine W_cond_true rfl ?_
         refine w_ ?_
         refine k_ ?_
         exact momR_bad bad _ _
       refine w_ ?_
       refine WL_call [] (monthDays_tri m y) rfl rfl rfl t_ t_ rfl rfl rfl rfl ?_; rintro _ _ _ ⟨rfl, rfl, rfl⟩
       refine w_ ?_
       refine i_ ?_ ?_ <;> intro hd2
       · have bad : momZ s = (0, 1) := by rw [hmom, if_pos (by omega)]
         refine w_ ?_
         refine k_ ?_
         exact momR_bad bad _ _
       have h16 := (drop_eq90 hl15).1 hq
       rw [if_pos (show s.length = 15 ∨ (s.length = 16 ∧ s.getD 15 0 = 90) from .inr h16), if_neg (by omega)] at hmom
       refine w_ ?_
       refine WL_call [] (dateOf0_tri y m d h n x (by omega) (by omega) (by omega) (by omega) (by omega) (by omega)) rfl rfl rfl t_ t_ rfl rfl rfl rfl ?_; rintro _ _ _ ⟨rfl, rfl, rfl⟩
       refine w_ ?_
       refine k_ ?_
       refine .inl ?_
       rw [hmom]
       exact ⟨rfl, rfl⟩
   · refine w_ ?_
     refine j_ 126 ?_ ?_ <;> intro hc2
     · have hda := hfr (.inr (by rw [bt_drop] at hc2; exact UInt8.toNat_inj.1 (by show _ = 44; omega)))
       refine w_ ?_
       refine j_ 131 ?_ ?_ <;> intro hk1
       · refine w_ ?_
         refine i_ ?_ ?_ <;> intro hk2
         · have bad : momZ s = (0, 1) := by rw [hmom, if_pos (by omega)]
           have hdl : (s.drop 15).length ≤ 1073741824 := by rw [List.length_drop]; omega
           refine w_ ?_
           refine W_loop ?_; refine LP_ren [0] (LP_ind 1 (fun p : Nat × Int × Int => ([(0, .str [84, 49, 53, 48, 52, 48, 53, 90]), (1, .str (s.drop 15)), (4, .ptr 0 0), (5, .v .nilIface), (6, .ifc t0 (.v p0)), (7, .int .i64 y), (9, .int .i64 m), (10, .int .i64 d), (14, .int .i64 p.2.1), (15, .int .i64 p.1), (16, .int .i64 p.2.2)], [(0, .cells 88 (some 2) [.int .i64 0, .int .i64 0])])) (fun p => (s.drop 15).length - p.1) (fun p => p.1 ≤ (s.drop 15).length ∧ 0 ≤ p.2.1 ∧ 0 ≤ p.2.2 ∧ p.2.1 ≤ 1000000000 - 10 * p.2.2) (1, 0, 100000000) ?_ (⟨by simp only; omega, by simp, by simp, by simp⟩)) s_ s_ rfl rfl rfl
           rintro ⟨j, na, u⟩ ⟨j1, j2, j3, j4⟩ ihj
           simp only at j1 j2 j3 j4
           have hu : u.tdiv 10 = u / 10 := Int.tdiv_eq_ediv_of_nonneg j3
           refine LP_round ?_; try dsimp only
           refine w_ ?_
           refine j_ 140 ?_ ?_ <;> intro hj
           · refine w_ ?_
             refine j_ 146 ?_ ?_ <;> intro hj2
             · refine w_ ?_
               refine i_ ?_ ?_ <;> intro hj3
               · have hq1 : 0 ≤ (bt (s.drop 15) j - 48) * u := Int.mul_nonneg (by omega) j3
                 have hq2 : (bt (s.drop 15) j - 48) * u ≤ 9 * u := Int.mul_le_mul_of_nonneg_right (by omega) j3
                 refine w_ ?_
                 rw [hu]
                 refine w_ ?_
                 refine LP_ren [0] (ihj (j + 1, na + (bt (s.drop 15) j - 48) * u, u / 10) ⟨by simp only; omega, by simp only; omega, by simp only; omega, by simp only; omega⟩ (by simp only; omega)) ?_ ?_ rfl rfl rfl
                 · exact s_
                 · exact s_
               refine w_ ?_
               refine x_ ?_
               refine w_ ?_
               refine j_ 173 ?_ ?_ <;> intro hq
               · refine w_ ?_
                 refine W_cond_true rfl ?_
                 refine w_ ?_
                 refine k_ ?_
                 exact momR_bad bad _ _
               refine w_ ?_
               refine j_ 177 ?_ ?_ <;> intro hd1
               · refine w_ ?_
                 refine W_cond_true rfl ?_
                 refine w_ ?_
                 refine k_ ?_
                 exact momR_bad bad _ _
               refine w_ ?_
               refine WL_call [] (monthDays_tri m y) rfl rfl rfl t_ t_ rfl rfl rfl rfl ?_; rintro _ _ _ ⟨rfl, rfl, rfl⟩
               refine w_ ?_
               refine i_ ?_ ?_ <;> intro hd2
               · refine w_ ?_
                 refine k_ ?_
                 exact momR_bad bad _ _
               exfalso; omega
             · refine w_ ?_
               refine W_cond_false rfl ?_
               refine w_ ?_
               refine x_ ?_
               refine w_ ?_
               refine j_ 173 ?_ ?_ <;> intro hq
               · refine w_ ?_
                 refine W_cond_true rfl ?_
                 refine w_ ?_
                 refine k_ ?_
                 exact momR_bad bad _ _
               refine w_ ?_
               refine j_ 177 ?_ ?_ <;> intro hd1
               · refine w_ ?_
                 refine W_cond_true rfl ?_
                 refine w_ ?_
                 refine k_ ?_
                 exact momR_bad bad _ _
               refine w_ ?_
               refine WL_call [] (monthDays_tri m y) rfl rfl rfl t_ t_ rfl rfl rfl rfl ?_; rintro _ _ _ ⟨rfl, rfl, rfl⟩
               refine w_ ?_
               refine i_ ?_ ?_ <;> intro hd2
               · refine w_ ?_
                 refine k_ ?_
                 exact momR_bad bad _ _
               exfalso; omega
           · refine w_ ?_
             refine W_cond_false rfl ?_
             refine w_ ?_
             refine x_ ?_
             refine w_ ?_
             refine j_ 173 ?_ ?_ <;> intro hq
             · refine w_ ?_
               refine W_cond_true rfl ?_
               refine w_ ?_
               refine k_ ?_
               exact momR_bad bad _ _
             refine w_ ?_
             refine j_ 177 ?_ ?_ <;> intro hd1
             · refine w_ ?_
               refine W_cond_true rfl ?_
               refine w_ ?_
               refine k_ ?_
               exact momR_bad bad _ _
             refine w_ ?_
             refine WL_call [] (monthDays_tri m y) rfl rfl rfl t_ t_ rfl rfl rfl rfl ?_; rintro _ _ _ ⟨rfl, rfl, rfl⟩
             refine w_ ?_
             refine i_ ?_ ?_ <;> intro hd2
             · refine w_ ?_
               refine k_ ?_
               exact momR_bad bad _ _
             exfalso; omega
         · refine w_ ?_
           refine j_ 173 ?_ ?_ <;> intro hq
           · have bad : momZ s = (0, 1) := bad1 hq
             refine w_ ?_
             refine W_cond_true rfl ?_
             refine w_ ?_
             refine k_ ?_
             exact momR_bad bad _ _
           refine w_ ?_
           refine j_ 177 ?_ ?_ <;> intro hd1
           · have bad : momZ s = (0, 1) := by rw [hmom, if_pos (by omega)]
             refine w_ ?_
             refine W_cond_true rfl ?_
             refine w_ ?_
             refine k_ ?_
             exact momR_bad bad _ _
           refine w_ ?_
           refine WL_call [] (monthDays_tri m y) rfl rfl rfl t_ t_ rfl rfl rfl rfl ?_; rintro _ _ _ ⟨rfl, rfl, rfl⟩
           refine w_ ?_
           refine i_ ?_ ?_ <;> intro hd2
           · have bad : momZ s = (0, 1) := by rw [hmom, if_pos (by omega)]
             refine w_ ?_
             refine k_ ?_
             exact momR_bad bad _ _
           have h16 := (drop_eq90 hl15).1 hq
           rw [if_pos (show s.length = 15 ∨ (s.length = 16 ∧ s.getD 15 0 = 90) from .inr h16), if_neg (by omega)] at hmom
           refine w_ ?_
           refine WL_call [] (dateOf0_tri y m d h n x (by omega) (by omega) (by omega) (by omega) (by omega) (by omega)) rfl rfl rfl t_ t_ rfl rfl rfl rfl ?_; rintro _ _ _ ⟨rfl, rfl, rfl⟩
           refine w_ ?_
           refine k_ ?_
           refine .inl ?_
           rw [hmom]
           exact ⟨rfl, rfl⟩
       · refine w_ ?_
         refine W_cond_false rfl ?_
         refine w_ ?_
         refine j_ 173 ?_ ?_ <;> intro hq
         · have bad : momZ s = (0, 1) := bad1 hq
           refine w_ ?_
           refine W_cond_true rfl ?_
           refine w_ ?_
           refine k_ ?_
           exact momR_bad bad _ _
         refine w_ ?_
         refine j_ 177 ?_ ?_ <;> intro hd1
         · have bad : momZ s = (0, 1) := by rw [hmom, if_pos (by omega)]
           refine w_ ?_
           refine W_cond_true rfl ?_
           refine w_ ?_
           refine k_ ?_
           exact momR_bad bad _ _
         refine w_ ?_
         refine WL_call [] (monthDays_tri m y) rfl rfl rfl t_ t_ rfl rfl rfl rfl ?_; rintro _ _ _ ⟨rfl, rfl, rfl⟩
         refine w_ ?_
         refine i_ ?_ ?_ <;> intro hd2
         · have bad : momZ s = (0, 1) := by rw [hmom, if_pos (by omega)]
           refine w_ ?_
           refine k_ ?_
           exact momR_bad bad _ _
         have h16 := (drop_eq90 hl15).1 hq
         rw [if_pos (show s.length = 15 ∨ (s.length = 16 ∧ s.getD 15 0 = 90) from .inr h16), if_neg (by omega)] at hmom
         refine w_ ?_
         refine WL_call [] (dateOf0_tri y m d h n x (by omega) (by omega) (by omega) (by omega) (by omega) (by omega)) rfl rfl rfl t_ t_ rfl rfl rfl rfl ?_; rintro _ _ _ ⟨rfl, rfl, rfl⟩
         refine w_ ?_
         refine k_ ?_
         refine .inl ?_
         rw [hmom]
         exact ⟨rfl, rfl⟩
     · refine w_ ?_
       refine W_cond_false rfl ?_
       refine w_ ?_
       refine j_ 173 ?_ ?_ <;> intro hq
       · have bad : momZ s = (0, 1) := bad1 hq
         refine w_ ?_
         refine W_cond_true rfl ?_
         refine w_ ?_
         refine k_ ?_
         exact momR_bad bad _ _
       refine w_ ?_
       refine j_ 177 ?_ ?_ <;> intro hd1
       · have bad : momZ s = (0, 1) := by rw [hmom, if_pos (by omega)]
         refine w_ ?_
         refine W_cond_true rfl ?_
         refine w_ ?_
         refine k_ ?_
         exact momR_bad bad _ _
       refine w_ ?_
       refine WL_call [] (monthDays_tri m y) rfl rfl rfl t_ t_ rfl rfl rfl rfl ?_; rintro _ _ _ ⟨rfl, rfl, rfl⟩
       refine w_ ?_
       refine i_ ?_ ?_ <;> intro hd2
       · have bad : momZ s = (0, 1) := by rw [hmom, if_pos (by omega)]
         refine w_ ?_
         refine k_ ?_
         exact momR_bad bad _ _
       have h16 := (drop_eq90 hl15).1 hq
       rw [if_pos (show s.length = 15 ∨ (s.length = 16 ∧ s.getD 15 0 = 90) from .inr h16), if_neg (by omega)] at hmom
       refine w_ ?_
       refine WL_call [] (dateOf0_tri y m d h n x (by omega) (by omega) (by omega) (by omega) (by omega) (by omega)) rfl rfl rfl t_ t_ rfl rfl rfl rfl ?_; rintro _ _ _ ⟨rfl, rfl, rfl⟩
       refine w_ ?_
       refine k_ ?_
       refine .inl ?_
       rw [hmom]
       exact ⟨rfl, rfl⟩
 · refine w_ ?_
   refine W_cond_false rfl ?_
   refine w_ ?_
   refine j_ 173 ?_ ?_ <;> intro hq
   · have bad : momZ s = (0, 1) := bad1 hq
     refine w_ ?_
     refine W_cond_true rfl ?_
     refine w_ ?_
     refine k_ ?_
     exact momR_bad bad _ _
   refine w_ ?_
   refine j_ 177 ?_ ?_ <;> intro hd1
   · have bad : momZ s = (0, 1) := by rw [hmom, if_pos (by omega)]
     refine w_ ?_
     refine W_cond_true rfl ?_
     refine w_ ?_
     refine k_ ?_
     exact momR_bad bad _ _
   refine w_ ?_
   refine WL_call [] (monthDays_tri m y) rfl rfl rfl t_ t_ rfl rfl rfl rfl ?_; rintro _ _ _ ⟨rfl, rfl, rfl⟩
   refine w_ ?_
   refine i_ ?_ ?_ <;> intro hd2
   · have bad : momZ s = (0, 1) := by rw [hmom, if_pos (by omega)]
     refine w_ ?_
     refine k_ ?_
     exact momR_bad bad _ _
   have h16 := (drop_eq90 hl15).1 hq
   rw [if_pos (show s.length = 15 ∨ (s.length = 16 ∧ s.getD 15 0 = 90) from .inr h16), if_neg (by omega)] at hmom
   refine w_ ?_
   refine WL_call [] (dateOf0_tri y m d h n x (by omega) (by omega) (by omega) (by omega) (by omega) (by omega)) rfl rfl rfl t_ t_ rfl rfl rfl rfl ?_; rintro _ _ _ ⟨rfl, rfl, rfl⟩
   refine w_ ?_
   refine k_ ?_
   refine .inl ?_
   rw [hmom]
   exact ⟨rfl, rfl⟩
end Go.Eng
