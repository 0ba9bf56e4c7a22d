/- A part of the proof that the rows statement FnSetBack holds; no conditions. -/
import Derived.Test.YthkgjhnckakliaaGreatDoorZAO
set_option linter.unusedVariables false
set_option linter.unusedSimpArgs false
set_option linter.unusedSectionVars false
namespace Go.Eng
open Go.Proofs
attribute [local irreducible] W WL LP Then InBl Tri
abbrev tsec (s n : Int) : AV := .agg [.int .i64 s, .int .i64 n]
theorem clock_tri (s n : Int) (hs : -4000000000000000000 ≤ s ∧ s ≤ 4000000000000000000) : Tri C0 183 0 [] [tsec s n]
 (fun k hp r => k = 0 ∧ hp = [] ∧ r = .tup [.int .i64 ((s - s / 86400 * 86400) / 3600), .int .i64 ((s - s / 86400 * 86400) / 60 % 60), .int .i64 ((s - s / 86400 * 86400) % 60)]) := by
 obtain ⟨x, hx⟩ : ∃ x, x = s - s / 86400 * 86400 := ⟨_, rfl⟩
 have hb : 0 ≤ x ∧ x < 86400 := by omega
 have t1 : x.tdiv 3600 = x / 3600 := Int.tdiv_eq_ediv_of_nonneg hb.1
 have t2 : x.tdiv 60 = x / 60 := Int.tdiv_eq_ediv_of_nonneg hb.1
 have t3 : (x / 60).tmod 60 = x / 60 % 60 := Int.tmod_eq_emod_of_nonneg (by omega)
 have t4 : x.tmod 60 = x % 60 := Int.tmod_eq_emod_of_nonneg hb.1
 rw [← hx]
 refine Tri.keep (Tri.mk 21 [.tmp 2, .tmp 3, .tmp 4] Tryz.func183 rfl rfl rfl rfl cf183 ?_) t_ (fun r h => q_); intro w0 S T ρ0
 refine w_ ?_
 refine WL_call [] (split_tri s n hs) rfl rfl rfl t_ t_ rfl rfl rfl rfl ?_; rintro _ _ _ ⟨rfl, rfl, rfl⟩
 rw [← hx]
 refine w_ ?_
 rw [t1]
 refine w_ ?_
 rw [t2]
 refine w_ ?_
 rw [t3]
 refine w_ ?_
 rw [t4]
 refine w_ ?_
 refine k_ ?_
 rfl
def mo (y : Int) : Nat → Int → Int → Int × Int
 | 0, m, d => (m, d)
 | k + 1, m, d => if mdays m y ≤ d then mo y k (m + 1) (d - mdays m y) else (m, d)
def moF (d0 : Int) : Int × Int := mo (splitY d0).1 14 1 (splitY d0).2
theorem splitY_le (d0 : Int) : 0 ≤ (splitY d0).2 ∧ (splitY d0).2 ≤ 365 := by
 simp only [splitY]; split <;> split <;> omega
theorem date_tri (s n : Int) (hs : -4000000000000000000 ≤ s ∧ s ≤ 4000000000000000000) : Tri C0 182 0 [] [tsec s n]
 (fun k hp r => k = 0 ∧ hp = [] ∧ r = .tup [.int .i64 (splitY (s / 86400)).1, .int .i64 (moF (s / 86400)).1, .int .i64 ((moF (s / 86400)).2 + 1)]) := by
 have hd := splitY_le (s / 86400)
 unfold moF
 obtain ⟨y, hy⟩ : ∃ y, y = (splitY (s / 86400)).1 := ⟨_, rfl⟩
 obtain ⟨d, hdd⟩ : ∃ d, d = (splitY (s / 86400)).2 := ⟨_, rfl⟩
 rw [← hdd] at hd
 rw [← hy, ← hdd]
 refine Tri.keep (Tri.mk 31 [.tmp 2, .tmp 3, .tmp 4] Tryz.func182 rfl rfl rfl rfl cf182 ?_) t_ (fun r h => q_); intro w0 S T ρ0
 refine w_ ?_
 refine WL_call [] (split_tri s n hs) rfl rfl rfl t_ t_ rfl rfl rfl rfl ?_; rintro _ _ _ ⟨rfl, rfl, rfl⟩
 rw [← hy, ← hdd]
 refine w_ ?_
 refine W_loop ?_; refine LP_ren [] (LP_ind 0 (fun p : Nat × Int × Int => ([(5, .int .i64 y), (6, .int .i64 p.2.2), (8, .int .i64 p.2.1)], [])) (fun p => p.1) (fun p => mo y 14 1 d = mo y p.1 p.2.1 p.2.2 ∧ 0 ≤ p.2.2 ∧ p.2.2 ≤ 365 ∧ p.2.2 < 28 * p.1 ∧ p.2.1 + p.1 = 15 ∧ 1 ≤ p.2.1) (14, 1, d) ?_ (⟨rfl, hd.1, hd.2, by simp; omega, rfl, by simp⟩)) s_ s_ rfl rfl rfl
 rintro ⟨k, m, e⟩ ⟨h1, h2, h3, h4, h5, h6⟩ ih
 simp only at h1 h2 h3 h4 h5 h6
 have hm := mdays_le m y
 refine LP_round ?_
 refine w_ ?_
 refine WL_call [] (monthDays_tri m y) rfl rfl rfl t_ t_ rfl rfl rfl rfl ?_; rintro _ _ _ ⟨rfl, rfl, rfl⟩
 refine w_ ?_
 refine i_ ?_ ?_ <;> intro h
 · obtain ⟨k, rfl⟩ : ∃ k', k = k' + 1 := ⟨k - 1, by omega⟩
   have h : mdays m y ≤ e := h
   have e1 : mo y (k + 1) m e = mo y k (m + 1) (e - mdays m y) := by rw [mo, if_pos h]
   rw [e1] at h1
   refine w_ ?_
   refine WL_call [] (monthDays_tri m y) rfl rfl rfl t_ t_ rfl rfl rfl rfl ?_; rintro _ _ _ ⟨rfl, rfl, rfl⟩
   refine w_ ?_
   refine LP_ren [] (ih (k, m + 1, e - mdays m y) (⟨h1, by simp only; omega, by simp only; omega, by simp only; omega, by simp only; omega, by simp only; omega⟩) (by simp)) s_ s_ rfl rfl rfl
 · have h : ¬ mdays m y ≤ e := h
   have h1 : mo y 14 1 d = (m, e) := by
    rw [h1]
    cases k with
    | zero => rfl
    | succ k => rw [mo, if_neg h]
   rw [h1]
   refine w_ ?_
   refine x_ ?_
   refine w_ ?_
   refine k_ ?_
   rfl
theorem weekday_tri (s n : Int) (hs : -4000000000000000000 ≤ s ∧ s ≤ 4000000000000000000) : Tri C0 185 0 [] [tsec s n] (fun k hp r => k = 0 ∧ hp = [] ∧ r = .int .i64 ((s / 86400 + 1) % 7)) := by
 refine Tri.keep (Tri.mk 13 [.tmp 2] Tryz.func185 rfl rfl rfl rfl cf185 ?_) t_ (fun r h => q_); intro w0 S T ρ0
 refine w_ ?_
 refine WL_call [] (floor_tri s 86400 (by omega) (by omega) (by omega)) rfl rfl rfl t_ t_ rfl rfl rfl rfl ?_; rintro _ _ _ ⟨rfl, rfl, rfl⟩
 refine w_ ?_
 refine WL_call [] (floor_tri (s / 86400 + 1) 7 (by omega) (by omega) (by omega)) rfl rfl rfl t_ t_ rfl rfl rfl rfl ?_; rintro _ _ _ ⟨rfl, rfl, rfl⟩
 refine w_ ?_
 refine k_ ?_
 have : (s / 86400 + 1) % 7 = s / 86400 + 1 - 7 * ((s / 86400 + 1) / 7) := by omega
 rw [this]
theorem month_tri (s n : Int) (hs : -4000000000000000000 ≤ s ∧ s ≤ 4000000000000000000) : Tri C0 202 0 [] [tsec s n] (fun k hp r => k = 0 ∧ hp = [] ∧ r = .int .i64 (moF (s / 86400)).1) := by
 refine Tri.keep (Tri.mk 13 [.tmp 2] Tryz.func202 rfl rfl rfl rfl cf202 ?_) t_ (fun r h => q_); intro w0 S T ρ0
 refine w_ ?_
 refine WL_call [] (date_tri s n hs) rfl rfl rfl t_ t_ rfl rfl rfl rfl ?_; rintro _ _ _ ⟨rfl, rfl, rfl⟩
 refine w_ ?_
 refine k_ ?_
 rfl
theorem day_tri (s n : Int) (hs : -4000000000000000000 ≤ s ∧ s ≤ 4000000000000000000) : Tri C0 203 0 [] [tsec s n] (fun k hp r => k = 0 ∧ hp = [] ∧ r = .int .i64 ((moF (s / 86400)).2 + 1)) := by
 refine Tri.keep (Tri.mk 13 [.tmp 2] Tryz.func203 rfl rfl rfl rfl cf203 ?_) t_ (fun r h => q_); intro w0 S T ρ0
 refine w_ ?_
 refine WL_call [] (date_tri s n hs) rfl rfl rfl t_ t_ rfl rfl rfl rfl ?_; rintro _ _ _ ⟨rfl, rfl, rfl⟩
 refine w_ ?_
 refine k_ ?_
 rfl
theorem hour_tri (s n : Int) (hs : -4000000000000000000 ≤ s ∧ s ≤ 4000000000000000000) : Tri C0 204 0 [] [tsec s n] (fun k hp r => k = 0 ∧ hp = [] ∧ r = .int .i64 ((s - s / 86400 * 86400) / 3600)) := by
 refine Tri.keep (Tri.mk 13 [.tmp 2] Tryz.func204 rfl rfl rfl rfl cf204 ?_) t_ (fun r h => q_); intro w0 S T ρ0
 refine w_ ?_
 refine WL_call [] (clock_tri s n hs) rfl rfl rfl t_ t_ rfl rfl rfl rfl ?_; rintro _ _ _ ⟨rfl, rfl, rfl⟩
 refine w_ ?_
 refine k_ ?_
 rfl
theorem minute_tri (s n : Int) (hs : -4000000000000000000 ≤ s ∧ s ≤ 4000000000000000000) : Tri C0 205 0 [] [tsec s n] (fun k hp r => k = 0 ∧ hp = [] ∧ r = .int .i64 ((s - s / 86400 * 86400) / 60 % 60)) := by
 refine Tri.keep (Tri.mk 13 [.tmp 2] Tryz.func205 rfl rfl rfl rfl cf205 ?_) t_ (fun r h => q_); intro w0 S T ρ0
 refine w_ ?_
 refine WL_call [] (clock_tri s n hs) rfl rfl rfl t_ t_ rfl rfl rfl rfl ?_; rintro _ _ _ ⟨rfl, rfl, rfl⟩
 refine w_ ?_
 refine k_ ?_
 rfl
theorem second_tri (s n : Int) (hs : -4000000000000000000 ≤ s ∧ s ≤ 4000000000000000000) : Tri C0 206 0 [] [tsec s n] (fun k hp r => k = 0 ∧ hp = [] ∧ r = .int .i64 ((s - s / 86400 * 86400) % 60)) := by
 refine Tri.keep (Tri.mk 13 [.tmp 2] Tryz.func206 rfl rfl rfl rfl cf206 ?_) t_ (fun r h => q_); intro w0 S T ρ0
 refine w_ ?_
 refine WL_call [] (clock_tri s n hs) rfl rfl rfl t_ t_ rfl rfl rfl rfl ?_; rintro _ _ _ ⟨rfl, rfl, rfl⟩
 refine w_ ?_
 refine k_ ?_
 rfl
theorem before_tri (s t : Int) : Tri C0 118 0 [] [tsec s 0, tsec t 0] (fun k hp r => k = 0 ∧ hp = [] ∧ r = .bool (decide (s < t))) := by
 refine Tri.keep (Tri.mk 24 [.tmp 4] Tryz.func118 rfl rfl rfl rfl cf118 ?_) t_ (fun r h => q_); intro w0 S T ρ0
 refine w_ ?_
 refine j_ 10 ?_ ?_ <;> intro h
 · refine w_ ?_
   refine k_ ?_
   first | exact rfl | (simp [h]; done) | (simp [h]; rfl)
 · refine w_ ?_
   refine j_ 16 ?_ ?_ <;> intro h2
   · refine w_ ?_
     refine k_ ?_
     first | exact rfl | (simp [h]; done) | (simp [h]; rfl)
   · refine w_ ?_
     refine k_ ?_
     first | exact rfl | (simp [h]; done) | (simp [h]; rfl)
def mdSum (y : Int) : Nat → Int
 | 0 => 0
 | k + 1 => mdSum y k + mdays (k + 1) y
theorem mdSum_le (y : Int) : ∀ k, 0 ≤ mdSum y k ∧ mdSum y k ≤ 31 * k
 | 0 => by simp [mdSum]
 | k + 1 => by have := mdSum_le y k; have := mdays_le (k + 1) y; simp only [mdSum]; omega
def dateZ (y m d : Int) : Int := daysToZ (y + (m - 1) / 12) + d - 1 + mdSum (y + (m - 1) / 12) ((m - 1) % 12).toNat
theorem dateOf_tri (y m d h mi s n : Int) (hy : -1000000000 ≤ y ∧ y ≤ 1000000000) (hm : -1000000000 ≤ m ∧ m ≤ 1000000000) (hd : -1000000000 ≤ d ∧ d ≤ 1000000000) (hh : -1000000000 ≤ h ∧ h ≤ 1000000000)
 (hmi : -1000000000 ≤ mi ∧ mi ≤ 1000000000) (hs : -1000000000 ≤ s ∧ s ≤ 1000000000) (hn : -1000000000 ≤ n ∧ n ≤ 1000000000) :
 Tri C0 207 0 [] [.int .i64 y, .int .i64 m, .int .i64 d, .int .i64 h, .int .i64 mi, .int .i64 s, .int .i64 n, .agg []]
 (fun k hp r => k = 0 ∧ hp = [] ∧ r = tsec (dateZ y m d * 86400 + h * 3600 + mi * 60 + s + n / 1000000000) (n - n / 1000000000 * 1000000000)) := by
 obtain ⟨yy, hyy⟩ : ∃ yy, yy = y + (m - 1) / 12 := ⟨_, rfl⟩
 obtain ⟨mm, hmm⟩ : ∃ mm, mm = m - 1 - 12 * ((m - 1) / 12) := ⟨_, rfl⟩
 have hmm2 : (m - 1) % 12 = mm := by omega
 have hmb : 0 ≤ mm ∧ mm < 12 := by omega
 have hdz : dateZ y m d = daysToZ yy + d - 1 + mdSum yy mm.toNat := by simp only [dateZ, ← hyy, hmm2]
 rw [hdz]
 have hbz : -1000000000000 ≤ daysToZ yy ∧ daysToZ yy ≤ 1000000000000 := by simp only [daysToZ]; omega
 refine Tri.keep (Tri.mk 71 [.cell 16 88] Tryz.func207 rfl rfl rfl rfl cf207 ?_) t_ (fun r h => q_); intro w0 S T ρ0
 refine w_ ?_
 refine WL_call [] (floor_tri (m - 1) 12 (by omega) (by omega) (by omega)) rfl rfl rfl t_ t_ rfl rfl rfl rfl ?_; rintro _ _ _ ⟨rfl, rfl, rfl⟩
 refine w_ ?_
 rw [← hyy]
 refine w_ ?_
 refine WL_call [] (floor_tri (m - 1) 12 (by omega) (by omega) (by omega)) rfl rfl rfl t_ t_ rfl rfl rfl rfl ?_; rintro _ _ _ ⟨rfl, rfl, rfl⟩
 refine w_ ?_
 rw [← hmm]
 refine w_ ?_
 refine WL_call [] (daysTo_tri yy (by omega)) rfl rfl rfl t_ t_ rfl rfl rfl rfl ?_; rintro _ _ _ ⟨rfl, rfl, rfl⟩
 refine w_ ?_
 refine W_loop ?_; refine LP_ren [1] (LP_ind 1 (fun p : Nat × Int => ([(16, .ptr 0 0), (17, .int .i64 mm), (18, .int .i64 yy), (19, .int .i64 p.2), (20, .int .i64 (p.1 + 1)), (3, .int .i64 h), (4, .int .i64 mi), (5, .int .i64 s), (6, .int .i64 n)], [(0, .cells 88 (some 2) [.int .i64 0, .int .i64 0])])) (fun p => 12 - p.1) (fun p => p.1 ≤ mm.toNat ∧ p.2 = daysToZ yy + d - 1 + mdSum yy p.1) (0, daysToZ yy + d - 1) ?_ (⟨Nat.zero_le _, by simp [mdSum]⟩)) s_ s_ rfl rfl rfl
 rintro ⟨i, v⟩ ⟨hi, hv⟩ ih
 simp only at hi hv
 have hmd := mdays_le (i + 1) yy
 have hms := mdSum_le yy i
 refine LP_round ?_
 refine w_ ?_
 refine i_ ?_ ?_ <;> intro h
 · simp only at h
   refine w_ ?_
   refine WL_call [] (monthDays_tri (i + 1) yy) rfl rfl rfl t_ t_ rfl rfl rfl rfl ?_; rintro _ _ _ ⟨rfl, rfl, rfl⟩
   refine w_ ?_
   refine LP_ren [0] (ih (i + 1, v + mdays (i + 1) yy) (⟨by omega, by simp only [mdSum]; omega⟩) (by omega)) s_ s_ rfl rfl rfl
 · have hi : i = mm.toNat := by simp only at h; omega
   subst hi
   refine w_ ?_
   refine x_ ?_
   refine w_ ?_
   refine WL_call [] (floor_tri n 1000000000 (by omega) (by omega) (by omega)) rfl rfl rfl t_ t_ rfl rfl rfl rfl ?_; rintro _ _ _ ⟨rfl, rfl, rfl⟩
   refine w_ ?_
   refine k_ ?_
   rw [hv]; rfl
end Go.Eng
namespace Go.Eng
open Go.Proofs
attribute [local irreducible] W WL LP Then InBl Tri WS
theorem mo0 : C0.P.follows .mixedOrders = true := by kernel_rfl
theorem errNew_tri (s : List UInt8) : Tri C0 108 0 [] [.str s] (fun k hp r => k = 0 ∧ hp = [] ∧ isE r) := by
 refine Tri.keep (Tri.mk 7 [.tmp 2] Tryz.func108 rfl rfl rfl rfl cf108 ?_) trivial (fun r h => isE_lt h 0)
 intro w0 S T ρ0
 refine w_ ?_
 refine W_blur 2 isE rfl (blur_err _ _) ?_
 rintro _ ⟨t, p, rfl⟩
 refine k_ ?_
 exact ⟨t, p, rfl⟩
theorem loadLoc_utc : Tri C0 265 0 [] [.str [85, 84, 67]] (fun k hp r => k = 0 ∧ hp = [] ∧ r = .tup [.agg [], .v .nilIface]) := by
 refine Tri.keep (Tri.mk 11 [.cell 2 156, .tmp 3] Tryz.func265 rfl rfl rfl rfl cf265 ?_) t_ (fun r h => q_); intro w0 S T ρ0
 refine w_ ?_
 refine W_cond_false rfl ?_
 refine w_ ?_
 refine k_ ?_
 rfl
def digAcc : List UInt8 → Int → Option Int
 | [], a => some a
 | b :: l, a => if (b.toNat : Int) < 48 ∨ (b.toNat : Int) > 57 then none else digAcc l (10 * a + ((b.toNat : Int) - 48))
def digZ (s : List UInt8) (n : Nat) : Option Int := if s.length < n then none else digAcc (s.take n) 0
theorem digAcc_step {s : List UInt8} {n i : Nat} (hi : i < n) (hn : n ≤ s.length) (a : Int) : digAcc ((s.take n).drop i) a =
 if bt s i < 48 ∨ bt s i > 57 then none else digAcc ((s.take n).drop (i + 1)) (10 * a + (bt s i - 48)) := by
 have h1 : i < (s.take n).length := by simp; omega
 rw [List.drop_eq_getElem_cons h1, digAcc]
 have h2 : (((s.take n)[i]'h1).toNat : Int) = bt s i := by
  have : i < s.length := by omega
  simp [bt, List.getD, this]
 rw [h2]
theorem digits_tri (s : List UInt8) (n : Nat) (hs : s.length ≤ 4611686018427387904) (hn : n ≤ 4) : Tri C0 305 0 [] [.str s, .int .i64 n]
 (fun k hp r => k = 0 ∧ hp = [] ∧ r = match digZ s n with | some v => .tup [.int .i64 v, .str (s.drop n), .bool true] | none => .tup [.int .i64 0, .str s, .bool false]) := by
 refine Tri.keep (Tri.mk 42 [.tmp 4, .tmp 5, .tmp 6] Tryz.func305 rfl rfl rfl rfl cf305 ?_) t_ (fun r h => q_); intro w0 S T ρ0
 refine w_ ?_
 refine i_ ?_ ?_ <;> intro h
 · refine w_ ?_
   refine k_ ?_
   have h : s.length < n := by omega
   simp only [digZ, if_pos h]; rfl
 have h : ¬ s.length < n := by omega
 have hz : digZ s n = digAcc (s.take n) 0 := by simp only [digZ, if_neg h]
 rw [hz]
 refine w_ ?_
 refine W_loop ?_; refine LP_ren [] (LP_ind 0 (fun p : Nat × Int => ([(0, .str s), (1, .int .i64 n), (7, .int .i64 p.2), (8, .int .i64 p.1)], [])) (fun p => n - p.1) (fun p => p.1 ≤ n ∧ digAcc (s.take n) 0 = digAcc ((s.take n).drop p.1) p.2 ∧ 0 ≤ p.2 ∧ p.2 < ((10 ^ p.1 : Nat) : Int)) (0, 0) ?_ (⟨Nat.zero_le _, rfl, by simp, by simp⟩)) s_ s_ rfl rfl rfl
 rintro ⟨i, v⟩ ⟨hi, hv, hv0, hv1⟩ ih
 simp only at hi hv hv0 hv1
 have hp : 10 ^ i ≤ 10 ^ 4 := Nat.pow_le_pow_right (by omega) (by omega)
 have hp2 : 10 ^ (i + 1) = 10 ^ i * 10 := Nat.pow_succ ..
 refine LP_round ?_; try dsimp only
 refine w_ ?_
 refine i_ ?_ ?_ <;> intro h2
 · have h2 : i < n := by omega
   rw [digAcc_step h2 (by omega)] at hv
   refine w_ ?_
   refine j_ 23 ?_ ?_ <;> intro h3
   · rw [if_pos (.inl h3)] at hv
     rw [hv]
     refine w_ ?_
     refine W_cond_true rfl ?_
     refine w_ ?_
     refine k_ ?_
     rfl
   · refine w_ ?_
     refine i_ ?_ ?_ <;> intro h4
     · rw [if_pos (.inr h4)] at hv
       rw [hv]
       refine w_ ?_
       refine k_ ?_
       rfl
     · rw [if_neg (by omega)] at hv
       refine w_ ?_
       refine LP_ren [] (ih (i + 1, 10 * v + (bt s i - 48)) (⟨by omega, hv, by simp only; omega, by simp only; omega⟩) (by omega)) s_ s_ rfl rfl rfl
 · have h2 : i = n := by omega
   subst h2
   rw [List.drop_of_length_le (by simp; omega)] at hv
   rw [hv]
   refine w_ ?_
   refine x_ ?_
   refine w_ ?_
   refine W_draw [] [] 7 mo0 (by kernel_rfl) (by kernel_rfl) (fun ρ1 hkl => ?_)
   refine d_ ?_
   refine w_ ?_
   refine k_ ?_
   rfl
end Go.Eng
namespace Go.Eng
variable {C : Cy} {E : En} {ops : Array Oper} {rest : List Oper} {nx : Nat} {tm : Tm} {hp : Hp} {Q : Po}
structure Fam (e : TypeId) (n : Nat) (α : Type) where
 ob : Nat → List α → AO
 cf : α → List AV
 arr : ∀ k xs, isArr (ob k xs) = true
 tot : ∀ k xs, (ob k xs).tot = some k
 elem : ∀ k xs, (ob k xs).elem = e
 avs : ∀ k xs, (ob k xs).avs = xs.flatMap cf
 len : ∀ a, (cf a).length = n
 plain : ∀ a, ∀ v ∈ cf a, v.plain1 = true
theorem Fam.total {e : TypeId} {n : Nat} {α : Type} (F : Fam e n α) (k : Nat) (xs : List α) : (F.ob k xs).avs.length = xs.length * n := by
 rw [F.avs]
 induction xs with
 | nil => simp
 | cons a l ih => simp only [List.flatMap_cons, List.length_append, List.length_cons, F.len, ih]; rw [Nat.add_mul]; omega
theorem WL_app1 {α : Type} {e : TypeId} {n : Nat} (F : Fam e n α) (xs : List α) (v : α) {d : Nat} {x y : Operand} {t : TypeId} {ty : TypeId} {pos : String} {af : Array Edge} {g : Option (Nat × Bool)} {s te : TS} {z : Value}
 {id sid cap tt : Nat} {so : AO}
 (hx : ev tm x = some (.sl false id n 0 xs.length cap)) (hid : lk hp id = some (F.ob tt xs)) (hy : ev tm y = some (.sl false sid n 0 1 1)) (hsid : lk hp sid = some so)
 (hsa : isArr so = true) (hsv : so.avs = F.cf v)
 (hs : C.ti t = some s) (hsd : s.desc = .slice e) (hte : C.ti e = some te) (hsz : te.size = n)
 (hz : te.zero = some z) (hzc : Nat.beq z.cells.size te.size = true) (hg : wanted ops tm g = some true) (hd : Nat.blt d E.nt = true)
 (hcap : xs.length ≤ cap ∧ cap * n ≤ tt) (hb : xs.length < 140737488355328 ∧ (xs.length + 1) * te.bytes ≤ 140737488355328)
 (h : ∀ cap' tt', xs.length + 1 ≤ cap' → cap' * n ≤ tt' → (xs.length < cap → cap' = cap) → WL C E ops rest (nx + 1) ((d, .sl false nx n 0 (xs.length + 1) cap') :: tm) ((nx, F.ob tt' (xs ++ [v])) :: (id, .dead) :: hp) Q) :
 WL C E ops (⟨some d, .call ⟨.builtin .append, #[x, y], #[t, t]⟩, ty, pos, af, g⟩ :: rest) nx tm hp Q := by
 subst hsz
 have hso : (so.avs.drop (0 * te.size)).take (1 * te.size) = F.cf v := by rw [hsv]; simp [← F.len v]
 have hda : dstA hp te.size (.sl false id te.size 0 xs.length cap) = some (xs.length * te.size ≤ (F.ob tt xs).avs.length ∧ cap * te.size ≤ tt ∧ xs.length ≤ cap, xs.length, (F.ob tt xs).avs.take (xs.length * te.size), some id) := by
  simp [dstA, hid, F.arr, F.tot]
 refine WL_append (fun k => F.ob k (xs ++ [v])) hx hy hs hsd hte hz hzc hg hd hda ⟨by rw [F.total]; exact Nat.le_refl _, hcap.2, hcap.1⟩ hsid hsa (by rw [hsv, F.len]; simp) (by omega) (by omega) ⟨by omega, hb.2⟩ ?_ ?_ ?_ ?_
 · intro k
   refine ⟨F.arr _ _, F.tot _ _, F.elem _ _, ?_⟩
   rw [hso, ← F.total tt xs, List.take_length, F.avs, F.avs]; simp
 · rw [hso]; exact F.plain v
 · intro id' o e1 e2; cases e1; rw [hid] at e2; cases e2; exact F.elem _ _
 · intro cap' tt' h1 h2 h3
   exact h cap' tt' h1 h2 (fun h4 => h3 cap rfl h4)
theorem WL_app0 {α : Type} {e : TypeId} {n : Nat} (F : Fam e n α) (v : α) {d : Nat} {x y : Operand} {t : TypeId} {ty : TypeId} {pos : String} {af : Array Edge} {g : Option (Nat × Bool)} {s te : TS} {z : Value}
 {sid : Nat} {so : AO}
 (hx : ev tm x = some (.v (.slice none 0 0))) (hy : ev tm y = some (.sl false sid n 0 1 1)) (hsid : lk hp sid = some so)
 (hsa : isArr so = true) (hsv : so.avs = F.cf v)
 (hs : C.ti t = some s) (hsd : s.desc = .slice e) (hte : C.ti e = some te) (hsz : te.size = n)
 (hz : te.zero = some z) (hzc : Nat.beq z.cells.size te.size = true) (hg : wanted ops tm g = some true) (hd : Nat.blt d E.nt = true)
 (hb : te.bytes ≤ 140737488355328)
 (h : ∀ cap' tt', 1 ≤ cap' → cap' * n ≤ tt' → WL C E ops rest (nx + 1) ((d, .sl false nx n 0 1 cap') :: tm) ((nx, F.ob tt' [v]) :: hp) Q) :
 WL C E ops (⟨some d, .call ⟨.builtin .append, #[x, y], #[t, t]⟩, ty, pos, af, g⟩ :: rest) nx tm hp Q := by
 subst hsz
 have hso : (so.avs.drop (0 * te.size)).take (1 * te.size) = F.cf v := by rw [hsv]; simp [← F.len v]
 have hda : dstA hp te.size (.v (.slice none 0 0)) = some (True, 0, [], none) := by simp [dstA]
 refine WL_append (fun k => F.ob k [v]) hx hy hs hsd hte hz hzc hg hd hda trivial hsid hsa (by rw [hsv, F.len]; simp) (by omega) (by omega) ⟨by omega, by omega⟩ ?_ ?_ ?_ ?_
 · intro k
   refine ⟨F.arr _ _, F.tot _ _, F.elem _ _, ?_⟩
   rw [hso, F.avs]; simp
 · rw [hso]; exact F.plain v
 · intro id' o e1 e2; cases e1
 · intro cap' tt' h1 h2 h3
   exact h cap' tt' (by omega) h2
theorem flatMap_single {α : Type} (f : α → AV) (xs : List α) : xs.flatMap (fun a => [f a]) = xs.map f := by induction xs <;> simp_all
def FamS (e : TypeId) : Fam e 1 (List UInt8) := {
 ob k xs := .strs e (some k) xs
 cf s := [.str s]
 arr _ _ := rfl
 tot _ _ := rfl
 elem _ _ := rfl
 avs _ xs := (flatMap_single _ xs).symm
 len _ := rfl
 plain a v h := by simp at h; subst h; rfl }
def FamI (e : TypeId) (k : IntKind) : Fam e 1 Int := {
 ob m xs := .ints e (some m) k xs
 cf s := [.int k s]
 arr _ _ := rfl
 tot _ _ := rfl
 elem _ _ := rfl
 avs _ xs := (flatMap_single _ xs).symm
 len _ := rfl
 plain a v h := by simp at h; subst h; rfl }
theorem rowA_plain : ∀ (ks : List CK) (r : List Int), ∀ v ∈ rowA ks r, v.plain1 = true
 | [], _, v, h => by cases h
 | k :: ks, r, v, h => by
   rcases List.mem_cons.1 h with rfl | h
   · cases k <;> rfl
   · exact rowA_plain ks _ v h
def FamR (e : TypeId) (ks : List CK) : Fam e ks.length (List Int) := {
 ob m xs := .recs e (some m) ks xs
 cf := rowA ks
 arr _ _ := rfl
 tot _ _ := rfl
 elem _ _ := rfl
 avs _ xs := rfl
 len r := rowA_length ks r
 plain := rowA_plain ks }
abbrev K2 : List CK := [.int .i64, .int .i64]
end Go.Eng
namespace Go.Eng
open Go.Proofs
attribute [local irreducible] W WL LP Then InBl Tri WS
abbrev tms (ns : List Int) : List (List Int) := ns.map fun n => [n, 0]
def cutB (c : UInt8) : List UInt8 → Nat
 | [] => 0
 | b :: l => if b = c then 0 else cutB c l + 1
def splitB (c : UInt8) : List UInt8 → List (List UInt8)
 | [] => [[]]
 | b :: l => if b = c then [] :: splitB c l else match splitB c l with | [] => [[b]] | x :: xs => (b :: x) :: xs
theorem splitB_ne (c : UInt8) : ∀ l, splitB c l ≠ []
 | [] => by simp [splitB]
 | b :: l => by
   simp only [splitB]
   split
   · simp
   · split <;> simp
theorem cutB_le (c : UInt8) : ∀ l, cutB c l ≤ l.length
 | [] => by simp [cutB]
 | b :: l => by have := cutB_le c l; simp only [cutB]; split <;> simp <;> omega
theorem splitB_cut (c : UInt8) : ∀ l, splitB c l = if cutB c l < l.length then l.take (cutB c l) :: splitB c (l.drop (cutB c l + 1)) else [l]
 | [] => by simp [splitB, cutB]
 | b :: l => by
   by_cases h : b = c
   · simp [splitB, cutB, h]
   · have ih := splitB_cut c l
     simp only [splitB, cutB, if_neg h]
     by_cases h2 : cutB c l < l.length
     · rw [if_pos h2] at ih
       rw [if_pos (by simp; omega), ih]; simp
     · rw [if_neg h2] at ih
       rw [if_neg (by simp; omega), ih]
theorem drop_getB {l : List UInt8} {i : Nat} (h : i < l.length) : l.drop i = l.getD i 0 :: l.drop (i + 1) := by
 rw [List.drop_eq_getElem_cons h]; simp [List.getD, h]
theorem take_drop1 {l : List UInt8} {i : Nat} (h : i < l.length) : (l.take (i + 1)).drop i = [l.getD i 0] := by
 rw [List.drop_take, drop_getB h]; simp
theorem index_tri (c : UInt8) (s : List UInt8) (hs : s.length ≤ 4611686018427387904) : Tri C0 179 0 [] [.str s, .str [c]] (fun k hp r => k = 0 ∧ hp = [] ∧ r = .int .i64 (if cutB c s < s.length then (cutB c s : Int) else -1)) := by
 refine Tri.keep (Tri.mk 25 [.tmp 4] Tryz.func179 rfl rfl rfl rfl cf179 ?_) t_ (fun r h => q_); intro w0 S T ρ0
 refine w_ ?_
 refine W_loop ?_; refine LP_ren [] (LP_ind 0 (fun i : Nat => ([(0, .str s), (1, .str [c]), (5, .int .i64 i)], [])) (fun i => s.length - i) (fun i => i ≤ s.length ∧ cutB c s = i + cutB c (s.drop i)) 0 ?_ (⟨Nat.zero_le _, by simp⟩)) s_ s_ rfl rfl rfl
 rintro i ⟨hi, hc⟩ ih
 refine LP_round ?_; try dsimp only
 refine w_ ?_
 refine i_ ?_ ?_ <;> intro h
 · have h : i < s.length := by simp at h; omega
   have e : ((i : Int) + ([c].length : Int)).toNat = i + 1 := by simp
   have e1 : (s.take (i + 1)).drop i = [s.getD i 0] := take_drop1 h
   rw [drop_getB h, cutB] at hc
   refine w_ ?_
   refine i_ ?_ ?_ <;> intro h3
   · have h3 : s.getD i 0 = c := by
      have h4 : (s.take ((i : Int) + ([c].length : Int)).toNat).drop (i : Int).toNat = [c] := h3
      rw [e, Int.toNat_natCast, e1] at h4; simpa using h4
     rw [if_pos h3] at hc
     rw [hc, if_pos (by omega)]
     refine w_ ?_
     refine k_ ?_
     rfl
   · have h3 : ¬ s.getD i 0 = c := by
      intro h5
      apply h3
      show (s.take ((i : Int) + ([c].length : Int)).toNat).drop (i : Int).toNat = [c]
      rw [e, Int.toNat_natCast, e1, h5]
     rw [if_neg h3] at hc
     refine w_ ?_
     refine LP_ren [] (ih (i + 1) (⟨by omega, by omega⟩) (by omega)) s_ s_ rfl rfl rfl
 · have h : i = s.length := by simp at h; omega
   rw [h, List.drop_length, cutB] at hc
   rw [hc, if_neg (by omega)]
   refine w_ ?_
   refine x_ ?_
   refine w_ ?_
   refine k_ ?_
   rfl
theorem split_str_tri (c : UInt8) (s : List UInt8) (hs : s.length ≤ 1073741824) : Tri C0 109 0 [] [.str s, .str [c]] (fun k hp r => ∃ cap tt, (splitB c s).length ≤ cap ∧ cap ≤ tt ∧ k = 1 ∧ hp = [(0, .strs 9 (some tt) (splitB c s))] ∧ r = .sl false 0 1 0 (splitB c s).length cap) := by
 refine Tri.mk 58 [.tmp 4] Tryz.func109 rfl rfl rfl rfl cf109 ?_; intro w0 S T ρ0
 refine w_ ?_
 refine W_cond_false rfl ?_
 refine w_ ?_
 refine W_loop ?_
 refine LP_round ?_; try dsimp only
 refine w_ ?_
 refine WL_call [] (index_tri c s (by omega)) rfl rfl rfl t_ t_ rfl rfl rfl rfl ?_; rintro _ _ _ ⟨rfl, rfl, rfl⟩
 refine w_ ?_
 have hle := cutB_le c s
 refine i_ ?_ ?_ <;> intro h
 · have hn : ¬ cutB c s < s.length := by
    intro h2; rw [if_pos h2] at h; omega
   have hz : splitB c s = [s] := by rw [splitB_cut, if_neg hn]
   rw [hz]
   refine w_ ?_
   refine WL_app0 (FamS 9) (s) rfl rfl rfl rfl rfl rfl rfl rfl rfl rfl rfl rfl rfl (by decide) ?_
   intro cap tt h1 h2
   refine w_ ?_
   refine W_ren [1] (n := 1) (tm' := [(4, .sl false 0 1 0 1 cap)]) (hp' := [(0, .strs 9 (some tt) [s])]) ?_ s_ s_ rfl rfl rfl
   refine r_ ?_ ?_
   · trivial
   · exact ⟨cap, tt, h1, by omega, rfl, rfl, rfl⟩
 · have hn : cutB c s < s.length := Nat.lt_of_not_le fun h2 => by rw [if_neg (by omega)] at h; omega
   have hz : splitB c s = s.take (cutB c s) :: splitB c (s.drop (cutB c s + 1)) := by rw [splitB_cut, if_pos hn]
   rw [hz, if_pos hn]
   refine w_ ?_
   refine WL_app0 (FamS 9) (s.take (cutB c s)) rfl rfl rfl rfl rfl rfl rfl rfl rfl rfl rfl rfl rfl (by decide) ?_
   intro cap tt h1 h2
   have e : ((cutB c s : Int) + ([c].length : Int)).toNat = cutB c s + 1 := by simp
   refine w_ ?_
   rw [e]
   refine w_ ?_
   refine LP_ren [1] (LP_ind 1 (fun p : List UInt8 × List (List UInt8) × Nat × Nat => ([(0, .str p.1), (1, .str [c]), (5, .sl false 0 1 0 p.2.1.length p.2.2.1)], [(0, .strs 9 (some p.2.2.2) p.2.1)])) (fun p => p.1.length)
    (fun p => s.take (cutB c s) :: splitB c (s.drop (cutB c s + 1)) = p.2.1 ++ splitB c p.1 ∧ p.2.1.length + p.1.length ≤ s.length ∧ p.2.1.length ≤ p.2.2.1 ∧ p.2.2.1 ≤ p.2.2.2) (s.drop (cutB c s + 1), [s.take (cutB c s)], cap, tt) ?_ ⟨rfl, by simp; omega, h1, by simp only; omega⟩) ?_ ?_ rfl rfl rfl
   rotate_left 1
   · exact s_
   · exact s_
   rintro ⟨x, out, cap, tt⟩ ⟨i1, i2, i3, i4⟩ ih
   simp only at i1 i2 i3 i4
   have hle := cutB_le c x
   rw [i1]
   refine LP_round ?_; try dsimp only
   refine w_ ?_
   refine WL_call [] (index_tri c x (by omega)) rfl rfl rfl t_ t_ rfl rfl rfl rfl ?_; rintro _ _ _ ⟨rfl, rfl, rfl⟩
   refine w_ ?_
   refine i_ ?_ ?_ <;> intro h
   · have hn : ¬ cutB c x < x.length := by
      intro h2; rw [if_pos h2] at h; omega
     have hz : splitB c x = [x] := by rw [splitB_cut, if_neg hn]
     rw [hz]
     refine w_ ?_
     refine WL_app1 (FamS 9) (out) (x) rfl rfl rfl rfl rfl rfl rfl rfl rfl rfl rfl rfl rfl rfl ?_ ?_ ?_
     · exact ⟨i3, by omega⟩
     · exact ⟨by omega, by show (out.length + 1) * 16 ≤ _; omega⟩
     intro cap' tt' h1 h2 _
     refine w_ ?_
     refine W_ren [2] (n := 1) (tm' := [(4, .sl false 0 1 0 (out.length + 1) cap')]) (hp' := [(0, .strs 9 (some tt') (out ++ [x]))]) ?_ s_ s_ rfl rfl rfl
     refine r_ ?_ ?_
     · trivial
     · exact ⟨cap', tt', by simpa using h1, by omega, rfl, rfl, by simp⟩
   · have hn : cutB c x < x.length := Nat.lt_of_not_le fun h2 => by rw [if_neg (by omega)] at h; omega
     have hz : splitB c x = x.take (cutB c x) :: splitB c (x.drop (cutB c x + 1)) := by rw [splitB_cut, if_pos hn]
     rw [if_pos hn]
     refine w_ ?_
     refine WL_app1 (FamS 9) (out) (x.take (cutB c x)) rfl rfl rfl rfl rfl rfl rfl rfl rfl rfl rfl rfl rfl rfl ?_ ?_ ?_
     · exact ⟨i3, by omega⟩
     · exact ⟨by omega, by show (out.length + 1) * 16 ≤ _; omega⟩
     intro cap' tt' h1 h2 _
     have e : ((cutB c x : Int) + ([c].length : Int)).toNat = cutB c x + 1 := by simp
     refine w_ ?_
     rw [e]
     refine w_ ?_
     have ih2 := ih (x.drop (cutB c x + 1), out ++ [x.take (cutB c x)], cap', tt') ⟨by rw [i1, hz]; simp, by simp; omega, by simpa using h1, by simp only; omega⟩ (by simp; omega)
     rw [i1] at ih2
     dsimp only at ih2
     rw [List.length_append] at ih2
     refine LP_ren [2] ih2 ?_ ?_ rfl rfl rfl
     · exact s_
     · exact s_
end Go.Eng
