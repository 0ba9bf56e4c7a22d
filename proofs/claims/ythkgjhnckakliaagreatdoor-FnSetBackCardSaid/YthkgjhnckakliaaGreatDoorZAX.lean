/- A part of the proof that the rows statement FnSetBack holds; no conditions. -/
import Derived.Test.YthkgjhnckakliaaGreatDoorZAW
set_option linter.unusedVariables false
set_option linter.unusedSimpArgs false
set_option linter.unusedSectionVars false
namespace Go.Eng
open Go.Proofs
attribute [local irreducible] W WL LP Then InBl Tri WS
abbrev txr (B : Nat) (r : AV) : Prop := ∃ t : List UInt8, t.length ≤ B ∧ r = .str t
theorem txr_lt {B n : Nat} : ∀ r, txr B r → r.lt n := by rintro r ⟨t, _, rfl⟩; trivial
theorem textInts_tri (xs : List Int) (y : Bool × Nat) (hy : xs.length ≤ y.2) (hn : xs.length ≤ 40) (hx : ∀ x ∈ xs, -9223372036854775808 ≤ x ∧ x ≤ 9223372036854775807) :
 Tri C0 150 1 [(0, isl xs)] [slI y 0 1 xs.length] (fun k hp r => k = 1 ∧ hp = [(0, isl xs)] ∧ txr 2040 r) := by
 refine Tri.keep ?_ s_ txr_lt
 refine Tri.mk 23 [.tmp 2] Tryz.func150 rfl rfl rfl rfl cf150 ?_; intro w0 S T ρ0
 refine v_ ?_
 refine W_loop ?_; refine LP_ren [0] (LP_ind 1 (fun q : Nat × List UInt8 => ([(3, .str q.2), (6, slI y 0 1 xs.length), (7, .int .i64 xs.length), (8, .int .i64 q.1)], [(0, isl xs)])) (fun q => xs.length - q.1) (fun q => q.1 ≤ xs.length ∧ q.2.length ≤ q.1 * 51) (0, []) ?_ (⟨Nat.zero_le _, Nat.le_refl _⟩)) s_ s_ rfl rfl rfl
 rintro ⟨i, t⟩ ⟨g1, g2⟩ ih
 simp only at g1 g2
 refine LP_round ?_; try dsimp only
 refine v_ ?_
 refine i_ ?_ ?_ <;> intro h
 rotate_left 1
 · refine v_ ?_
   refine x_ ?_
   refine v_ ?_
   refine W_ret ?_; (repeat (first | refine then_ret ?_ | refine inbl_ret ?_))
   exact ⟨_, _, rfl, s_, s_, t, by omega, rfl⟩
 have h : i < xs.length := by omega
 refine v_ ?_
 rw [show 0 + (i : Int).toNat = i by omega]
 refine v_ ?_
 refine W_mid (α := List UInt8) (fun t => (1, [(3, .str t), (5, .int .i64 (xs.getD i 0)), (6, slI y 0 1 xs.length), (7, .int .i64 xs.length), (8, .int .i64 i)], [(0, isl xs)])) (fun t => t.length ≤ i * 51 + 1) ?_ ?_
 · refine i_ ?_ ?_ <;> intro h2
   · have hside : t.length + ([44] : List UInt8).length ≤ 9223372036854775807 := by show _ + 1 ≤ _; omega
     refine v_ ?_
     exact ⟨t ++ [44], by rw [List.length_append]; show _ + 1 ≤ _; omega, Imp_renG [0] s_ s_ rfl rfl rfl⟩
   · refine v_ ?_
     exact ⟨t, by omega, Imp_renG [0] s_ s_ rfl rfl rfl⟩
 intro t2 g3
 refine v_ ?_
 refine WL_callR [] (textNumber_tri (xs.getD i 0) (hx _ (by simp [List.getD, h]))) rfl rfl rfl t_ t_ rfl rfl rfl rfl ?_; rintro _ ⟨t3,h3,rfl⟩
 have hside : t2.length + t3.length ≤ 9223372036854775807 := by omega
 refine v_ ?_
 exact LP_renG [0] (ih (i + 1, t2 ++ t3) ⟨h, by show (t2 ++ t3).length ≤ _; rw [List.length_append]; omega⟩ (by simp only; omega)) s_ s_ rfl rfl rfl
theorem i7 {f : Int} (h : 0 ≤ f ∧ f ≤ 6) : f = 0 ∨ f = 1 ∨ f = 2 ∨ f = 3 ∨ f = 4 ∨ f = 5 ∨ f = 6 := by omega
theorem freqName_tri (f : Int) (h : 0 ≤ f ∧ f ≤ 6) : Tri C0 147 0 [] [.int .u8 f] (TX 8) := by
 refine Tri.keep ?_ trivial TX_lt
 rcases i7 h with rfl | rfl | rfl | rfl | rfl | rfl | rfl
 all_goals
  refine Tri.mk 6 [.tmp 2] Tryz.func147 rfl rfl rfl rfl cf147 ?_; intro w0 S T ρ0
  refine v_ ?_
  refine W_ret ?_; (repeat (first | refine then_ret ?_ | refine inbl_ret ?_))
  exact ⟨_, _, rfl, s_, s_, _, Nat.le_of_ble_eq_true rfl, rfl⟩
set_option maxHeartbeats 4000000 in
theorem dayName_tri (w n : Int) (hw : 0 ≤ w ∧ w ≤ 6) (hn : -9223372036854775808 ≤ n ∧ n ≤ 9223372036854775807) : Tri C0 151 0 [] [.agg [.int .i64 w, .int .i64 n]] (TX 60) := by
 refine Tri.keep ?_ trivial TX_lt
 rcases i7 hw with rfl | rfl | rfl | rfl | rfl | rfl | rfl
 all_goals
  refine Tri.mk 32 [.tmp 2] Tryz.func151 rfl rfl rfl rfl cf151 ?_; intro w0 S T ρ0
  refine v_ ?_
  refine i_ ?_ ?_ <;> intro h
  · refine v_ ?_
    refine W_draw [0] [] 10 mo0 (by kernel_rfl) (by kernel_rfl) (fun ρ1 hkl => ?_); refine d_ ?_
    refine WS_loud rfl ?_ hkl
    refine WL_callR [] (textNumber_tri n hn) rfl rfl rfl t_ t_ rfl rfl rfl rfl ?_; rintro _ ⟨t,ht,rfl⟩
    have hside : ([43] : List UInt8).length + t.length ≤ 9223372036854775807 := by show 1 + _ ≤ _; omega
    refine WL_nil ?_
    refine nq_walk ⟨fun _ => s_, ?_⟩
    refine dv_ ?_
    refine W_ret ?_; (repeat (first | refine then_ret ?_ | refine inbl_ret ?_))
    exact ⟨_, _, rfl, s_, s_, _, by rw [List.length_append, List.length_append]; show 1 + _ + 2 ≤ 60; omega, rfl⟩
  refine v_ ?_
  refine i_ ?_ ?_ <;> intro h2
  · refine v_ ?_
    refine W_draw [0] [] 9 mo0 (by kernel_rfl) (by kernel_rfl) (fun ρ1 hkl => ?_); refine d_ ?_
    refine WS_loud rfl ?_ hkl
    refine WL_callR [] (textNumber_tri n hn) rfl rfl rfl t_ t_ rfl rfl rfl rfl ?_; rintro _ ⟨t,ht,rfl⟩
    refine WL_nil ?_
    refine nq_walk ⟨fun _ => s_, ?_⟩
    refine dv_ ?_
    refine W_ret ?_; (repeat (first | refine then_ret ?_ | refine inbl_ret ?_))
    exact ⟨_, _, rfl, s_, s_, _, by rw [List.length_append]; show _ + 2 ≤ 60; omega, rfl⟩
  · refine v_ ?_
    refine W_ret ?_; (repeat (first | refine then_ret ?_ | refine inbl_ret ?_))
    exact ⟨_, _, rfl, s_, s_, _, Nat.le_of_ble_eq_true rfl, rfl⟩
end Go.Eng
namespace Go.Eng
open Go.Proofs
def dig : Nat → Nat → List UInt8
 | 0, _ => []
 | w + 1, n => dig w (n / 10) ++ [UInt8.ofNat (48 + n % 10)]
theorem dig_len : ∀ (w n : Nat), (dig w n).length = w
 | 0, _ => rfl
 | w + 1, n => by rw [dig, List.length_append, dig_len w]; rfl
theorem dig_zero : ∀ w : Nat, dig w 0 = List.replicate w 48
 | 0 => rfl
 | w + 1 => by rw [dig, Nat.zero_div, dig_zero w, List.replicate_succ']; rfl
theorem decDigits_lt {u : Nat} (h : u < 10) : Lib.decDigits u = [UInt8.ofNat (48 + u)] := by rw [Lib.decDigits, dif_pos h]
theorem decDigits_ge {u : Nat} (h : ¬ u < 10) : Lib.decDigits u = Lib.decDigits (u / 10) ++ [UInt8.ofNat (48 + u % 10)] := by rw [Lib.decDigits, dif_neg h]
theorem pad_dig : ∀ (w n : Nat), n < 10 ^ (w + 1) → List.replicate (w + 1 - (Lib.decDigits n).length) 48 ++ Lib.decDigits n = dig (w + 1) n := by
 intro w
 induction w with
 | zero =>
   intro n h
   have h : n < 10 := by simpa using h
   rw [decDigits_lt h, dig, dig, Nat.mod_eq_of_lt h]; rfl
 | succ w ih =>
   intro n h
   by_cases h1 : n < 10
   · rw [decDigits_lt h1, dig, Nat.div_eq_of_lt h1, dig_zero, Nat.mod_eq_of_lt h1]; rfl
   · have h2 : n / 10 < 10 ^ (w + 1) := by rw [Nat.pow_succ] at h; omega
     have := ih (n / 10) h2
     rw [decDigits_ge h1, dig, ← this, List.length_append]
     rw [show w + 1 + 1 - ((Lib.decDigits (n / 10)).length + [UInt8.ofNat (48 + n % 10)].length) = w + 1 - (Lib.decDigits (n / 10)).length by simp]
     rw [List.append_assoc]
theorem padZ_dig {n : Int} {w : Nat} (h0 : 0 ≤ n) (h1 : n < 10 ^ (w + 1)) : padZ n (w + 1) = dig (w + 1) n.toNat := by
 obtain ⟨u, rfl⟩ : ∃ u : Nat, n = u := ⟨n.toNat, by omega⟩
 unfold padZ
 rw [Lib.itoa_nonneg]
 exact pad_dig w u (by exact_mod_cast h1)
theorem digAcc_app : ∀ (l r : List UInt8) (a : Int), digAcc (l ++ r) a = (digAcc l a).bind fun b => digAcc r b
 | [], r, a => rfl
 | b :: l, r, a => by
   simp only [List.cons_append, digAcc]
   split
   · rfl
   · exact digAcc_app l r _
theorem dig_b (n : Nat) : ((UInt8.ofNat (48 + n % 10)).toNat : Int) = 48 + ((n % 10 : Nat) : Int) := by
 have : (UInt8.ofNat (48 + n % 10)).toNat = 48 + n % 10 := by
  rw [UInt8.toNat_ofNat']; omega
 rw [this]; omega
theorem digAcc_dig : ∀ (w n : Nat), n < 10 ^ w → digAcc (dig w n) 0 = some (n : Int)
 | 0, n, h => by
   have : n = 0 := by simpa using h
   subst this; rfl
 | w + 1, n, h => by
   rw [dig, digAcc_app, digAcc_dig w (n / 10) (by rw [Nat.pow_succ] at h; omega)]
   simp only [Option.bind_some, digAcc, dig_b]
   rw [if_neg (by omega)]
   congr 1; omega
theorem digZ_dig (w n : Nat) (r : List UInt8) (h : n < 10 ^ w) : digZ (dig w n ++ r) w = some (n : Int) := by
 unfold digZ
 rw [if_neg (by rw [List.length_append, dig_len]; omega), List.take_left' (dig_len w n), digAcc_dig w n h]
theorem drop_dig (w n : Nat) (r : List UInt8) : (dig w n ++ r).drop w = r := List.drop_left' (dig_len w n)
theorem fmt_dig {s : Int} (hs : -31622400 ≤ s ∧ s ≤ 315537897599) : ∃ y m d h mi x : Nat, fmtZ s = dig 4 y ++ (dig 2 m ++ (dig 2 d ++ (84 :: (dig 2 h ++ (dig 2 mi ++ dig 2 x))))) ∧
 y ≤ 9999 ∧ 1 ≤ m ∧ m ≤ 12 ∧ 1 ≤ d ∧ (d : Int) ≤ mdays m y ∧ h ≤ 23 ∧ mi ≤ 59 ∧ x ≤ 59 ∧ dateZ y m d * 86400 + h * 3600 + mi * 60 + x = s := by
 obtain ⟨m, m1, m2, m3, e0, e1, e2⟩ := moF_law (s / 86400)
 have hy := splitY_rng (d0 := s / 86400) (by omega)
 have hml := mdays_le m (splitY (s / 86400)).1
 obtain ⟨y, hyy⟩ : ∃ y : Nat, (splitY (s / 86400)).1 = y := ⟨(splitY (s / 86400)).1.toNat, by omega⟩
 obtain ⟨e, hee⟩ : ∃ e : Nat, (moF (s / 86400)).2 = e := ⟨(moF (s / 86400)).2.toNat, by omega⟩
 obtain ⟨x, hx⟩ : ∃ x, x = s - s / 86400 * 86400 := ⟨_, rfl⟩
 have hb : 0 ≤ x ∧ x < 86400 := by omega
 unfold fmtZ
 rw [m3, hyy, hee, ← hx]
 rw [hyy] at hy e1 e2 hml
 rw [hee] at e0 e1 e2
 refine ⟨y, m, e + 1, (x / 3600).toNat, (x / 60 % 60).toNat, (x % 60).toNat, ?_, by omega, m1, m2, by omega, by omega, by omega, by omega, by omega, ?_⟩
 · rw [padZ_dig (w := 3) (by omega) (by omega), padZ_dig (w := 1) (by omega) (by omega), padZ_dig (w := 1) (by omega) (by omega), padZ_dig (w := 1) (by omega) (by omega), padZ_dig (w := 1) (by omega) (by omega), padZ_dig (w := 1) (by omega) (by omega)]
   simp only [List.append_assoc, List.singleton_append, List.cons_append, List.nil_append]
   rfl
 · have em : ((m : Int) - 1) / 12 = 0 := by omega
   have em2 : (((m : Int) - 1) % 12).toNat = m - 1 := by omega
   simp only [dateZ, em, em2, Int.add_zero]
   rw [show daysToZ (y : Int) + ((e + 1 : Nat) : Int) - 1 + mdSum y (m - 1) = s / 86400 by omega]
   omega
theorem fmt_len {s : Int} (hs : -31622400 ≤ s ∧ s ≤ 315537897599) : (fmtZ s).length = 15 := by
 obtain ⟨y, m, d, h, mi, x, e, _⟩ := fmt_dig hs
 rw [e]; simp [dig_len]
theorem momZ_fmt {s : Int} (hs : -31622400 ≤ s ∧ s ≤ 315537897599) : momZ (fmtZ s ++ [90]) = (s, 0) := by
 obtain ⟨y, m, d, h, mi, x, e, b1, b2, b3, b4, b5, b6, b7, b8, b9⟩ := fmt_dig hs
 have hl := fmt_len hs
 have hd := mdays_le m y
 have E : fmtZ s ++ [90] = dig 4 y ++ (dig 2 m ++ (dig 2 d ++ (84 :: (dig 2 h ++ (dig 2 mi ++ (dig 2 x ++ [90])))))) := by
  rw [e]; simp only [List.append_assoc, List.cons_append]
 have L : (fmtZ s ++ [90]).length = 16 := by rw [List.length_append, hl]; rfl
 have d4 : (fmtZ s ++ [90]).drop 4 = dig 2 m ++ (dig 2 d ++ (84 :: (dig 2 h ++ (dig 2 mi ++ (dig 2 x ++ [90]))))) := by rw [E, drop_dig]
 have d6 : (fmtZ s ++ [90]).drop 6 = dig 2 d ++ (84 :: (dig 2 h ++ (dig 2 mi ++ (dig 2 x ++ [90])))) := by
  rw [show 6 = 4 + 2 from rfl, ← List.drop_drop, d4, drop_dig]
 have d8 : (fmtZ s ++ [90]).drop 8 = 84 :: (dig 2 h ++ (dig 2 mi ++ (dig 2 x ++ [90]))) := by
  rw [show 8 = 6 + 2 from rfl, ← List.drop_drop, d6, drop_dig]
 have d9 : (fmtZ s ++ [90]).drop 9 = dig 2 h ++ (dig 2 mi ++ (dig 2 x ++ [90])) := by
  rw [show 9 = 8 + 1 from rfl, ← List.drop_drop, d8]; rfl
 have d11 : (fmtZ s ++ [90]).drop 11 = dig 2 mi ++ (dig 2 x ++ [90]) := by
  rw [show 11 = 9 + 2 from rfl, ← List.drop_drop, d9, drop_dig]
 have d13 : (fmtZ s ++ [90]).drop 13 = dig 2 x ++ [90] := by
  rw [show 13 = 11 + 2 from rfl, ← List.drop_drop, d11, drop_dig]
 have d15 : (fmtZ s ++ [90]).drop 15 = [90] := by
  rw [show 15 = 13 + 2 from rfl, ← List.drop_drop, d13, drop_dig]
 have g8 : (fmtZ s ++ [90]).getD 8 0 = 84 := by
  have := congrArg (fun l => l.getD 0 0) d8
  simpa [List.getD, List.getElem?_drop] using this
 have g15 : (fmtZ s ++ [90]).getD 15 0 = 90 := by
  have := congrArg (fun l => l.getD 0 0) d15
  simpa [List.getD, List.getElem?_drop] using this
 rw [momZ_T (y := y) (m := m) (d := d) (by rw [E]; exact digZ_dig 4 y _ (by omega)) (by rw [d4]; exact digZ_dig 2 m _ (by omega)) (by rw [d6]; exact digZ_dig 2 d _ (by omega)) (by omega)]
 rw [if_neg (by omega)]
 unfold momT
 rw [d9, d11, d13, digZ_dig 2 h _ (by omega), digZ_dig 2 mi _ (by omega), digZ_dig 2 x _ (by omega)]
 simp only [g8, g15, L]
 rw [if_neg (by simp; omega), if_pos (by simp), b9]
end Go.Eng
namespace Go.Eng
open Go.Proofs
attribute [local irreducible] W WL LP Then InBl Tri WS
abbrev DateR (s : Int) : Prop := -31622400 ≤ s ∧ s ≤ 315537897599
theorem format_tri (s n : Int) (lay : List UInt8) (hs : DateR s) (hl : 15 ≤ lay.length ∧ lay.length ≤ 100) : Tri C0 159 0 [] [tsec s n, .str lay] (fun k hp r => k = 0 ∧ hp = [] ∧ r = .str (fmtZ s ++ lay.drop 15)) := by
 obtain ⟨m, m1, m2, m3, e0, e1, e2⟩ := moF_law (s / 86400)
 have hy := splitY_rng (d0 := s / 86400) (by omega)
 have hml := mdays_le m (splitY (s / 86400)).1
 have hD := date_tri s n (by omega)
 have hC := clock_tri s n (by omega)
 unfold fmtZ
 rw [m3] at hD ⊢
 generalize (splitY (s / 86400)).1 = y at *
 generalize (moF (s / 86400)).2 = e at *
 obtain ⟨x, hx⟩ : ∃ x, x = s - s / 86400 * 86400 := ⟨_, rfl⟩
 have hb : 0 ≤ x ∧ x < 86400 := by omega
 rw [← hx] at hC ⊢
 have t1 : 0 ≤ x / 3600 ∧ x / 3600 ≤ 23 := by omega
 have t2 : 0 ≤ x / 60 % 60 ∧ x / 60 % 60 ≤ 59 := by omega
 have t3 : 0 ≤ x % 60 ∧ x % 60 ≤ 59 := by omega
 generalize x / 3600 = h at *
 generalize x / 60 % 60 = mi at *
 generalize x % 60 = se at *
 have p1 := padZ_le (n := y) (w := 4) (by omega) (by omega)
 have p2 := padZ_le (n := m) (w := 2) (by omega) (by omega)
 have p3 := padZ_le (n := e + 1) (w := 2) (by omega) (by omega)
 have p4 := padZ_le (n := h) (w := 2) (by omega) (by omega)
 have p5 := padZ_le (n := mi) (w := 2) (by omega) (by omega)
 have p6 := padZ_le (n := se) (w := 2) (by omega) (by omega)
 have T1 := pad_tri y 4 (by omega) (by omega)
 have T2 := pad_tri m 2 (by omega) (by omega)
 have T3 := pad_tri (e + 1) 2 (by omega) (by omega)
 have T4 := pad_tri h 2 (by omega) (by omega)
 have T5 := pad_tri mi 2 (by omega) (by omega)
 have T6 := pad_tri se 2 (by omega) (by omega)
 generalize padZ y 4 = q1 at *
 generalize padZ m 2 = q2 at *
 generalize padZ (e + 1) 2 = q3 at *
 generalize padZ h 2 = q4 at *
 generalize padZ mi 2 = q5 at *
 generalize padZ se 2 = q6 at *
 have l2 : (q1 ++ q2).length ≤ 100 := by rw [List.length_append]; omega
 have l3 : (q1 ++ q2 ++ q3).length ≤ 200 := by rw [List.length_append]; omega
 have l4 : (q1 ++ q2 ++ q3 ++ [84]).length ≤ 201 := by rw [List.length_append]; simp only [List.length_cons, List.length_nil]; omega
 have l5 : (q1 ++ q2 ++ q3 ++ [84] ++ q4).length ≤ 300 := by rw [List.length_append]; omega
 have l6 : (q1 ++ q2 ++ q3 ++ [84] ++ q4 ++ q5).length ≤ 400 := by rw [List.length_append]; omega
 have l7 : (q1 ++ q2 ++ q3 ++ [84] ++ q4 ++ q5 ++ q6).length ≤ 500 := by rw [List.length_append]; omega
 have l8 : (lay.drop 15).length ≤ 100 := by rw [List.length_drop]; omega
 refine Tri.keep (Tri.mk 44 [.tmp 4] Tryz.func159 rfl rfl rfl rfl cf159 ?_) t_ (fun r h => q_); intro w0 S T ρ0
 refine w_ ?_
 refine WL_call [] (hD) rfl rfl rfl t_ t_ rfl rfl rfl rfl ?_; rintro _ _ _ ⟨rfl, rfl, rfl⟩
 refine w_ ?_
 refine WL_call [] (hC) rfl rfl rfl t_ t_ rfl rfl rfl rfl ?_; rintro _ _ _ ⟨rfl, rfl, rfl⟩
 refine w_ ?_
 refine W_draw [] [] 21 mo0 (by kernel_rfl) (by kernel_rfl) (fun ρ1 hkl => ?_); refine d_ ?_
 refine WS_loud rfl ?_ hkl; refine WL_call [] (T1) rfl rfl rfl t_ t_ rfl rfl rfl rfl ?_; rintro _ _ _ ⟨rfl, rfl, rfl⟩; refine WL_nil ?_; refine nq_walk ⟨fun _ => t_, ?_⟩; refine d_ ?_
 refine WS_loud rfl ?_ hkl; refine WL_call [] (T2) rfl rfl rfl t_ t_ rfl rfl rfl rfl ?_; rintro _ _ _ ⟨rfl, rfl, rfl⟩; refine WL_nil ?_; refine nq_walk ⟨fun _ => t_, ?_⟩; refine d_ ?_
 refine WS_loud rfl ?_ hkl; refine WL_call [] (T3) rfl rfl rfl t_ t_ rfl rfl rfl rfl ?_; rintro _ _ _ ⟨rfl, rfl, rfl⟩; refine WL_nil ?_; refine nq_walk ⟨fun _ => t_, ?_⟩; refine d_ ?_
 refine WS_loud rfl ?_ hkl; refine WL_call [] (T4) rfl rfl rfl t_ t_ rfl rfl rfl rfl ?_; rintro _ _ _ ⟨rfl, rfl, rfl⟩; refine WL_nil ?_; refine nq_walk ⟨fun _ => t_, ?_⟩; refine d_ ?_
 refine WS_loud rfl ?_ hkl; refine WL_call [] (T5) rfl rfl rfl t_ t_ rfl rfl rfl rfl ?_; rintro _ _ _ ⟨rfl, rfl, rfl⟩; refine WL_nil ?_; refine nq_walk ⟨fun _ => t_, ?_⟩; refine d_ ?_
 have hside : (q1 ++ q2 ++ q3 ++ [84] ++ q4 ++ q5 ++ q6).length + (lay.drop (15 : Int).toNat).length ≤ 9223372036854775807 := by
  rw [show ((15 : Int).toNat) = 15 from rfl]; omega
 refine WS_loud rfl ?_ hkl; refine WL_call [] (T6) rfl rfl rfl t_ t_ rfl rfl rfl rfl ?_; rintro _ _ _ ⟨rfl, rfl, rfl⟩; refine WL_nil ?_; refine nq_walk ⟨fun _ => t_, ?_⟩; refine d_ ?_
 refine w_ ?_
 refine k_ ?_
 rfl
def stampZ (s : Int) : List UInt8 := fmtZ s ++ [90]
theorem stamp_len {s : Int} (h : DateR s) : (stampZ s).length = 16 := by rw [stampZ, List.length_append, fmt_len h]; rfl
theorem locStr_tri : Tri C0 158 0 [] [.agg []] (fun k hp r => k = 0 ∧ hp = [] ∧ r = .str [85, 84, 67]) := by
 refine Tri.keep (Tri.mk 3 [.tmp 2] Tryz.func158 rfl rfl rfl rfl cf158 ?_) t_ (fun r h => q_); intro w0 S T ρ0
 refine w_ ?_
 refine k_ ?_
 rfl
theorem rfcStr_tri (s n : Int) (hs : DateR s) : Tri C0 96 0 [] [tsec s n] (fun k hp r => k = 0 ∧ hp = [] ∧ r = .str (58 :: stampZ s)) := by
 have hl := fmt_len hs
 refine Tri.keep (Tri.mk 18 [.tmp 2] Tryz.func96 rfl rfl rfl rfl cf96 ?_) t_ (fun r h => q_); intro w0 S T ρ0
 refine w_ ?_
 refine WL_call [] (location_tri s n) rfl rfl rfl t_ t_ rfl rfl rfl rfl ?_; rintro _ _ _ ⟨rfl, rfl, rfl⟩
 refine w_ ?_
 refine WL_call [] (locStr_tri) rfl rfl rfl t_ t_ rfl rfl rfl rfl ?_; rintro _ _ _ ⟨rfl, rfl, rfl⟩
 refine w_ ?_
 refine W_cond_false rfl ?_
 refine w_ ?_
 refine WL_call [] (format_tri s n [50, 48, 48, 54, 48, 49, 48, 50, 84, 49, 53, 48, 52, 48, 53, 90] hs (by decide)) rfl rfl rfl t_ t_ rfl rfl rfl rfl ?_; rintro _ _ _ ⟨rfl, rfl, rfl⟩
 have hside : [(58 : UInt8)].length + (fmtZ s ++ ([50, 48, 48, 54, 48, 49, 48, 50, 84, 49, 53, 48, 52, 48, 53, 90] : List UInt8).drop 15).length ≤ 9223372036854775807 := by rw [List.length_append, hl]; decide
 refine w_ ?_
 refine k_ ?_
 rfl
theorem utcT_tri (s n : Int) : Tri C0 211 0 [] [tsec s n] (fun k hp r => k = 0 ∧ hp = [] ∧ r = tsec s n) := by
 refine Tri.keep (Tri.mk 4 [.cell 2 88] Tryz.func211 rfl rfl rfl rfl cf211 ?_) t_ (fun r h => q_); intro w0 S T ρ0
 refine w_ ?_
 refine k_ ?_
 rfl
theorem timeStr_tri (s n : Int) (hs : DateR s) : Tri C0 163 0 [] [tsec s n] (fun k hp r => k = 0 ∧ hp = [] ∧ r = .str (stampZ s)) := by
 refine Tri.keep (Tri.mk 6 [.tmp 2] Tryz.func163 rfl rfl rfl rfl cf163 ?_) t_ (fun r h => q_); intro w0 S T ρ0
 refine w_ ?_
 refine WL_call [] (utcT_tri s n) rfl rfl rfl t_ t_ rfl rfl rfl rfl ?_; rintro _ _ _ ⟨rfl, rfl, rfl⟩
 refine w_ ?_
 refine WL_call [] (format_tri s n [50, 48, 48, 54, 48, 49, 48, 50, 84, 49, 53, 48, 52, 48, 53, 90] hs (by decide)) rfl rfl rfl t_ t_ rfl rfl rfl rfl ?_; rintro _ _ _ ⟨rfl, rfl, rfl⟩
 refine w_ ?_
 refine k_ ?_
 rfl
def freqN (f : Int) : List UInt8 := if f = 0 then [89, 69, 65, 82, 76, 89] else if f = 1 then [77, 79, 78, 84, 72, 76, 89] else if f = 2 then [87, 69, 69, 75, 76, 89] else if f = 3 then [68, 65, 73, 76, 89] else if f = 4 then [72, 79, 85, 82, 76, 89] else if f = 5 then [77, 73, 78, 85, 84, 69, 76, 89] else [83, 69, 67, 79, 78, 68, 76, 89]
theorem freqStr_tri (f : Int) (h : 0 ≤ f ∧ f ≤ 6) : Tri C0 160 0 [] [.int .i64 f] (fun k hp r => k = 0 ∧ hp = [] ∧ r = .str (freqN f)) := by
 obtain h | h | h | h | h | h | h : f = 0 ∨ f = 1 ∨ f = 2 ∨ f = 3 ∨ f = 4 ∨ f = 5 ∨ f = 6 := by omega
 all_goals
  subst h
  refine Tri.keep (Tri.mk 6 [.tmp 2] Tryz.func160 rfl rfl rfl rfl cf160 ?_) t_ (fun r h => q_); intro w0 S T ρ0
  refine w_ ?_
  refine k_ ?_
  rfl
def signZ (n : Int) : List UInt8 := if n < 0 then Lib.itoa n else 43 :: Lib.itoa n
theorem signed_tri (n : Int) (hn : -1000000000 ≤ n ∧ n ≤ 1000000000) : Tri C0 210 0 [] [.int .i64 n] (fun k hp r => k = 0 ∧ hp = [] ∧ r = .str (signZ n)) := by
 have hd := itoa_le (n := n) (by omega) (by omega)
 unfold signZ
 refine Tri.keep (Tri.mk 10 [.tmp 2] Tryz.func210 rfl rfl rfl rfl cf210 ?_) t_ (fun r h => q_); intro w0 S T ρ0
 refine w_ ?_
 refine i_ ?_ ?_ <;> intro h
 · rw [if_pos h]
   refine w_ ?_
   refine WL_call [] (itoa_tri n (by omega) (by omega)) rfl rfl rfl t_ t_ rfl rfl rfl rfl ?_; rintro _ _ _ ⟨rfl, rfl, rfl⟩
   refine w_ ?_
   refine k_ ?_
   rfl
 · rw [if_neg h]
   refine w_ ?_
   refine WL_call [] (itoa_tri n (by omega) (by omega)) rfl rfl rfl t_ t_ rfl rfl rfl rfl ?_; rintro _ _ _ ⟨rfl, rfl, rfl⟩
   have hside : [(43 : UInt8)].length + (Lib.itoa n).length ≤ 9223372036854775807 := by simp only [List.length_cons, List.length_nil]; omega
   refine w_ ?_
   refine k_ ?_
   rfl
def wdN (w : Int) : List UInt8 := if w = 0 then [77, 79] else if w = 1 then [84, 85] else if w = 2 then [87, 69] else if w = 3 then [84, 72] else if w = 4 then [70, 82] else if w = 5 then [83, 65] else [83, 85]
def wdZ (w n : Int) : List UInt8 := if n = 0 then wdN w else signZ n ++ wdN w
theorem signZ_le {n : Int} (hn : -1000000000 ≤ n ∧ n ≤ 1000000000) : (signZ n).length ≤ 22 := by
 have hd := itoa_le (n := n) (by omega) (by omega)
 unfold signZ; split
 · omega
 · simp only [List.length_cons]; omega
theorem wdayStr_tri (w n : Int) (hw : 0 ≤ w ∧ w ≤ 6) (hn : -1000000000 ≤ n ∧ n ≤ 1000000000) : Tri C0 162 0 [] [.agg [.int .i64 w, .int .i64 n]] (fun k hp r => k = 0 ∧ hp = [] ∧ r = .str (wdZ w n)) := by
 have hd := signZ_le hn
 unfold wdZ
 obtain h | h | h | h | h | h | h : w = 0 ∨ w = 1 ∨ w = 2 ∨ w = 3 ∨ w = 4 ∨ w = 5 ∨ w = 6 := by omega
 all_goals
  subst h
  refine Tri.keep (Tri.mk 17 [.tmp 2] Tryz.func162 rfl rfl rfl rfl cf162 ?_) t_ (fun r h => q_); intro w0 S T ρ0
  refine w_ ?_
  refine i_ ?_ ?_ <;> intro h0
  · rw [if_pos h0]
    refine w_ ?_
    refine k_ ?_
    rfl
  · rw [if_neg h0]
    refine w_ ?_
    refine WL_call [] (signed_tri n hn) rfl rfl rfl t_ t_ rfl rfl rfl rfl ?_; rintro _ _ _ ⟨rfl, rfl, rfl⟩
    refine w_ ?_
    refine k_ ?_
    rfl
end Go.Eng
namespace Go.Eng
open Go.Proofs
attribute [local irreducible] W WL LP Then InBl Tri WS
abbrev DTS : List UInt8 := [68, 84, 83, 84, 65, 82, 84]
abbrev RRU : List UInt8 := [82, 82, 85, 76, 69, 58]
abbrev FRQ : List UInt8 := [70, 82, 69, 81]
def loopZ : RZ → Bool → List (List UInt8) → RZ × Nat
 | z, fq, [] => if fq = true then (z, 0) else (RZ.zero, 1)
 | z, fq, p :: l => match splitB 61 p with
   | [k, v] => if v = [] then (RZ.zero, 1) else if (partZ z k v).2 = 0 then loopZ (partZ z k v).1 (fq || decide (k = FRQ)) l else (RZ.zero, (partZ z k v).2)
   | _ => (RZ.zero, 1)
def bareZ (x : List UInt8) : List UInt8 := if Lib.hasPrefix x RRU = true then x.drop 6 else x
def partsZ (z : RZ) (x : List UInt8) : RZ × Nat := loopZ z false (splitB 59 (bareZ x))
def optL : List (List UInt8) → RZ × Nat
 | [x] => partsZ RZ.zero x
 | [d, x] => match nameZ d with
   | none => (RZ.zero, 1)
   | some n => if ¬ n = DTS then (RZ.zero, 1) else if (startZ (d.drop (n.length + 1))).2 = 0 then partsZ { RZ.zero with st := (startZ (d.drop (n.length + 1))).1 } x else (RZ.zero, (startZ (d.drop (n.length + 1))).2)
 | _ => (RZ.zero, 1)
def optZ (s : List UInt8) : RZ × Nat := optL (splitB 10 (Lib.trimSpace s))
def zcS : List AV := [.int .u8 0, .bool false, .int .i64 0, .int .i64 0, .int .i64 0, .int .i64 0, .bool false, .int .i64 0, .v (.slice none 0 0), .v (.slice none 0 0), .v (.slice none 0 0), .v (.slice none 0 0), .v (.slice none 0 0), .v (.slice none 0 0), .v (.slice none 0 0), .v (.slice none 0 0), .v (.slice none 0 0), .v (.slice none 0 0)]
def nils (e : TypeId) : List AO := [isl [], isl [], isl [], isl [], isl [], isl [], isl [], isl [], isl [], .recs e none K2 []]
theorem LOK_zero (z : RZ) (h : z = { RZ.zero with st := z.st }) : LOK z LY.zero := by rw [h]; exact ⟨Nat.le_refl _, Nat.le_refl _, Nat.le_refl _, Nat.le_refl _, Nat.le_refl _, Nat.le_refl _, Nat.le_refl _, Nat.le_refl _, Nat.le_refl _, Nat.le_refl _⟩
theorem name_len {s n : List UInt8} (h : nameZ s = some n) : n.length + 1 ≤ s.length := by
 unfold nameZ nameU at h
 have h1 := trim_le s
 have h2 : (Lib.toUpperA (Lib.trimSpace s)).length = (Lib.trimSpace s).length := by simp [Lib.toUpperA]
 generalize Lib.toUpperA (Lib.trimSpace s) = u at *
 split at h
 · cases h
 · split at h
   · cases h
   · split at h
     · cases h
     · cases h
       simp only [List.length_take]
       rename_i h3 _
       omega
end Go.Eng
namespace Go.Eng
open Go.Proofs
attribute [local irreducible] W WL LP Then InBl Tri
theorem drop_getD {xs : List Int} {i : Nat} (h : i < xs.length) : xs.drop i = xs.getD i 0 :: xs.drop (i + 1) := by
 rw [List.drop_eq_getElem_cons h]; simp [List.getD, h]
end Go.Eng
namespace Go.Eng
open Go.Proofs
attribute [local irreducible] W WL LP Then InBl Tri WS
def inOne (lo up : Int) (both : Bool) (n : Int) : Bool := !((decide (n < lo) || decide (n > up)) && !(both && (decide (n ≤ 0 - lo) && decide (n ≥ 0 - up))))
def withinZ (lo up : Int) (both : Bool) : List Int → Bool
 | [] => true
 | n :: l => inOne lo up both n && withinZ lo up both l
theorem within_false (lo up : Int) (hlo : -1000 ≤ lo ∧ lo ≤ 1000) (hup : -1000 ≤ up ∧ up ≤ 1000) (nl : Bool) (xs : List Int) (cap : Nat) (hl : xs.length ≤ cap) (hb : xs.length ≤ 4294967296) :
 Tri C0 82 1 [(0, isl xs)] [.sl nl 0 1 0 xs.length cap, .int .i64 lo, .int .i64 up, .bool false] (fun k hp r => k = 1 ∧ hp = [(0, isl xs)] ∧ r = .bool (withinZ lo up false xs)) := by
 refine Tri.keep (Tri.mk 42 [.tmp 8] Tryz.func82 rfl rfl rfl rfl cf82 ?_) t_ (fun r h => q_); intro w0 S T ρ0
 refine w_ ?_
 refine W_loop ?_; refine LP_ren [0] (LP_ind 1 (fun i : Nat => ([(1, .int .i64 lo), (2, .int .i64 up), (3, .bool false), (11, .sl nl 0 1 0 xs.length cap), (12, .int .i64 xs.length), (13, .int .i64 i)], [(0, isl xs)])) (fun i => xs.length - i) (fun i => i ≤ xs.length ∧ withinZ lo up false xs = withinZ lo up false (xs.drop i)) 0 ?_ (⟨Nat.zero_le _, rfl⟩)) s_ s_ rfl rfl rfl
 rintro i ⟨hi, hc⟩ ih
 refine LP_round ?_; try dsimp only
 refine w_ ?_
 refine i_ ?_ ?_ <;> intro h
 · have h : i < xs.length := by omega
   rw [drop_getD h, withinZ] at hc
   refine w_ ?_
   rw [show 0 + (i : Int).toNat = i by omega]
   obtain ⟨n, hn⟩ : ∃ n, n = xs.getD i 0 := ⟨_, rfl⟩
   rw [← hn] at hc ⊢
   refine j_ 20 ?_ ?_ <;> intro h1
   · have hout : (inOne lo up false n && withinZ lo up false (xs.drop (i + 1))) = false := by simp [inOne, h1]
     rw [hout] at hc
     rw [hc]
     refine w_ ?_
     refine W_cond_true rfl ?_
     refine w_ ?_
     refine k_ ?_
     rfl
   refine w_ ?_
   refine j_ 25 ?_ ?_ <;> intro h2
   · have hout : (inOne lo up false n && withinZ lo up false (xs.drop (i + 1))) = false := by
      have h2 : up < n := h2
      simp [inOne, h2]
     rw [hout] at hc
     rw [hc]
     refine w_ ?_
     refine W_cond_true rfl ?_
     refine w_ ?_
     refine k_ ?_
     rfl
   have hin : (inOne lo up false n && withinZ lo up false (xs.drop (i + 1))) = withinZ lo up false (xs.drop (i + 1)) := by
    have h2 : ¬ up < n := h2
    simp [inOne, h1, h2]
   refine w_ ?_
   refine W_cond_false rfl ?_
   rw [hin] at hc
   refine w_ ?_
   refine LP_ren [0] (ih (i + 1) (⟨by omega, hc⟩) (by omega)) s_ s_ rfl rfl rfl
 · have h : i = xs.length := by omega
   rw [h, List.drop_length, withinZ] at hc
   rw [hc]
   refine w_ ?_
   refine x_ ?_
   refine w_ ?_
   refine k_ ?_
   rfl
theorem within_true (lo up : Int) (hlo : -1000 ≤ lo ∧ lo ≤ 1000) (hup : -1000 ≤ up ∧ up ≤ 1000) (nl : Bool) (xs : List Int) (cap : Nat) (hl : xs.length ≤ cap) (hb : xs.length ≤ 4294967296) :
 Tri C0 82 1 [(0, isl xs)] [.sl nl 0 1 0 xs.length cap, .int .i64 lo, .int .i64 up, .bool true] (fun k hp r => k = 1 ∧ hp = [(0, isl xs)] ∧ r = .bool (withinZ lo up true xs)) := by
 refine Tri.keep (Tri.mk 42 [.tmp 8] Tryz.func82 rfl rfl rfl rfl cf82 ?_) t_ (fun r h => q_); intro w0 S T ρ0
 refine w_ ?_
 refine W_loop ?_; refine LP_ren [0] (LP_ind 1 (fun i : Nat => ([(1, .int .i64 lo), (2, .int .i64 up), (3, .bool true), (11, .sl nl 0 1 0 xs.length cap), (12, .int .i64 xs.length), (13, .int .i64 i)], [(0, isl xs)])) (fun i => xs.length - i) (fun i => i ≤ xs.length ∧ withinZ lo up true xs = withinZ lo up true (xs.drop i)) 0 ?_ (⟨Nat.zero_le _, rfl⟩)) s_ s_ rfl rfl rfl
 rintro i ⟨hi, hc⟩ ih
 refine LP_round ?_; try dsimp only
 refine w_ ?_
 refine i_ ?_ ?_ <;> intro h
 · have h : i < xs.length := by omega
   rw [drop_getD h, withinZ] at hc
   refine w_ ?_
   rw [show 0 + (i : Int).toNat = i by omega]
   obtain ⟨n, hn⟩ : ∃ n, n = xs.getD i 0 := ⟨_, rfl⟩
   rw [← hn] at hc ⊢
   refine j_ 20 ?_ ?_ <;> intro h1
   · refine w_ ?_
     have hor : (decide (n < lo) || decide (n > up)) = true := by simp; omega
     refine j_ 33 ?_ ?_ <;> intro h3
     · refine w_ ?_
       refine W_cond rfl (fun h4 => ?_) (fun h4 => ?_)
       · have h4 : ¬ n ≥ 0 - up := by simpa using h4
         have hout : (inOne lo up true n && withinZ lo up true (xs.drop (i + 1))) = false := by
          unfold inOne; rw [hor, decide_eq_true h3, decide_eq_false h4]; rfl
         rw [hout] at hc
         rw [hc]
         refine w_ ?_
         refine k_ ?_
         rfl
       · have h4 : n ≥ 0 - up := by simpa using h4
         have hin : (inOne lo up true n && withinZ lo up true (xs.drop (i + 1))) = withinZ lo up true (xs.drop (i + 1)) := by
          unfold inOne; rw [hor, decide_eq_true h3, decide_eq_true h4]; rfl
         rw [hin] at hc
         refine w_ ?_
         refine LP_ren [0] (ih (i + 1) (⟨by omega, hc⟩) (by omega)) s_ s_ rfl rfl rfl
     · have hout : (inOne lo up true n && withinZ lo up true (xs.drop (i + 1))) = false := by
        unfold inOne; rw [hor, decide_eq_false h3]; rfl
       rw [hout] at hc
       rw [hc]
       refine w_ ?_
       refine W_cond_true rfl ?_
       refine w_ ?_
       refine k_ ?_
       rfl
   refine w_ ?_
   refine j_ 25 ?_ ?_ <;> intro h2
   · refine w_ ?_
     have hor : (decide (n < lo) || decide (n > up)) = true := by simp; omega
     refine j_ 33 ?_ ?_ <;> intro h3
     · refine w_ ?_
       refine W_cond rfl (fun h4 => ?_) (fun h4 => ?_)
       · have h4 : ¬ n ≥ 0 - up := by simpa using h4
         have hout : (inOne lo up true n && withinZ lo up true (xs.drop (i + 1))) = false := by
          unfold inOne; rw [hor, decide_eq_true h3, decide_eq_false h4]; rfl
         rw [hout] at hc
         rw [hc]
         refine w_ ?_
         refine k_ ?_
         rfl
       · have h4 : n ≥ 0 - up := by simpa using h4
         have hin : (inOne lo up true n && withinZ lo up true (xs.drop (i + 1))) = withinZ lo up true (xs.drop (i + 1)) := by
          unfold inOne; rw [hor, decide_eq_true h3, decide_eq_true h4]; rfl
         rw [hin] at hc
         refine w_ ?_
         refine LP_ren [0] (ih (i + 1) (⟨by omega, hc⟩) (by omega)) s_ s_ rfl rfl rfl
     · have hout : (inOne lo up true n && withinZ lo up true (xs.drop (i + 1))) = false := by
        unfold inOne; rw [hor, decide_eq_false h3]; rfl
       rw [hout] at hc
       rw [hc]
       refine w_ ?_
       refine W_cond_true rfl ?_
       refine w_ ?_
       refine k_ ?_
       rfl
   have hin : (inOne lo up true n && withinZ lo up true (xs.drop (i + 1))) = withinZ lo up true (xs.drop (i + 1)) := by
    have h2 : ¬ up < n := h2
    simp [inOne, h1, h2]
   refine w_ ?_
   refine W_cond_false rfl ?_
   rw [hin] at hc
   refine w_ ?_
   refine LP_ren [0] (ih (i + 1) (⟨by omega, hc⟩) (by omega)) s_ s_ rfl rfl rfl
 · have h : i = xs.length := by omega
   rw [h, List.drop_length, withinZ] at hc
   rw [hc]
   refine w_ ?_
   refine x_ ?_
   refine w_ ?_
   refine k_ ?_
   rfl
end Go.Eng
namespace Go.Eng
open Go.Proofs
attribute [local irreducible] W WL LP Then InBl Tri WS
def daysOK : List (Int × Int) → Bool
 | [] => true
 | p :: l => !(decide (p.2 < -53) || decide (p.2 > 53)) && daysOK l
theorem prs2_get {l : List (Int × Int)} {i : Nat} (h : i < l.length) : (prs2 l).getD i [] = [(l.getD i (0, 0)).1, (l.getD i (0, 0)).2] := by
 simp [List.getD, h]
theorem drop_getP {l : List (Int × Int)} {i : Nat} (h : i < l.length) : l.drop i = l.getD i (0, 0) :: l.drop (i + 1) := by
 rw [List.drop_eq_getElem_cons h]; simp [List.getD, h]
def rightZ (z : RZ) : Bool := daysOK z.dd && (decide (z.iv ≥ 0) && withinZ 0 59 false z.l7 && withinZ 0 59 false z.l6 && withinZ 0 23 false z.l5 && withinZ 1 12 false z.l1 && withinZ 1 31 true z.l2 && withinZ 1 366 true z.l3 && withinZ 1 53 true z.l4 && withinZ 1 366 true z.l0)
def LEN (z : RZ) : Prop := z.l0.length ≤ 4294967296 ∧ z.l1.length ≤ 4294967296 ∧ z.l2.length ≤ 4294967296 ∧ z.l3.length ≤ 4294967296 ∧ z.l4.length ≤ 4294967296 ∧ z.l5.length ≤ 4294967296 ∧ z.l6.length ≤ 4294967296 ∧ z.l7.length ≤ 4294967296 ∧ z.l8.length ≤ 4294967296 ∧ z.dd.length ≤ 4294967296
theorem ruleRight_tri (z : RZ) (y : LY) (hy : LOK z y) (hL : LEN z) : Tri C0 37 10 (lstHp 95 z 0) [.agg (cellsS z y 0)] (fun k hp r => k = 10 ∧ hp = lstHp 95 z 0 ∧ r = .bool (rightZ z)) := by
 obtain ⟨y0, y1, y2, y3, y4, y5, y6, y7, y8, yd⟩ := hy
 obtain ⟨b0, b1, b2, b3, b4, b5, b6, b7, b8, bd⟩ := hL
 refine Tri.keep (Tri.mk 64 [.tmp 2] Tryz.func37 rfl rfl rfl rfl cf37 ?_) t_ (fun r h => q_); intro w0 S T ρ0
 refine w_ ?_
 refine W_loop ?_; refine LP_ren [0, 1, 2, 3, 4, 5, 6, 7, 8, 9, 10] (LP_ind 11 (fun i : Nat => ([(1, .ptr 10 0), (6, .sl y.yd.1 9 2 0 z.dd.length y.yd.2), (7, .int .i64 z.dd.length), (8, .int .i64 i)], (10, .cells 25 (some 18) (cellsS z y 0)) :: lstHp 95 z 0)) (fun i => z.dd.length - i) (fun i => i ≤ z.dd.length ∧ daysOK z.dd = daysOK (z.dd.drop i)) 0 ?_ (⟨Nat.zero_le _, rfl⟩)) s_ s_ rfl rfl rfl
 rintro i ⟨hi, hc⟩ ih
 refine LP_round ?_; try dsimp only
 refine w_ ?_
 refine i_ ?_ ?_ <;> intro h
 · have h : i < z.dd.length := by omega
   have hml : (prs2 z.dd).length = z.dd.length := by simp
   rw [drop_getP h, daysOK] at hc
   refine w_ ?_
   rw [show 0 + (i : Int).toNat = i by omega]
   refine w_ ?_
   rw [prs2_get h]
   refine w_ ?_
   refine j_ 15 ?_ ?_ <;> intro h1
   · have h1 : (z.dd.getD i (0, 0)).2 < -53 := h1
     have hr : rightZ z = false := by unfold rightZ; rw [hc, decide_eq_true h1]; rfl
     rw [hr]
     refine w_ ?_
     refine W_cond_true rfl ?_
     refine w_ ?_
     refine k_ ?_
     rfl
   have h1 : ¬ (z.dd.getD i (0, 0)).2 < -53 := h1
   refine w_ ?_
   refine i_ ?_ ?_ <;> intro h2
   · have h2 : (z.dd.getD i (0, 0)).2 > 53 := h2
     have hr : rightZ z = false := by unfold rightZ; rw [hc, decide_eq_false h1, decide_eq_true h2]; rfl
     rw [hr]
     refine w_ ?_
     refine k_ ?_
     rfl
   have h2 : ¬ (z.dd.getD i (0, 0)).2 > 53 := h2
   rw [decide_eq_false h1, decide_eq_false h2] at hc
   have hc : daysOK z.dd = daysOK (z.dd.drop (i + 1)) := hc
   refine w_ ?_
   refine LP_ren [0, 1, 2, 3, 4, 5, 6, 7, 8, 9, 10] (ih (i + 1) (⟨by omega, hc⟩) (by omega)) s_ s_ rfl rfl rfl
 · have h : i = z.dd.length := by omega
   rw [h, List.drop_length] at hc
   have hc : daysOK z.dd = true := hc
   refine w_ ?_
   refine x_ ?_
   refine w_ ?_
   refine j_ 24 ?_ ?_ <;> intro h0
   rotate_left 1
   · have hr : rightZ z = false := by unfold rightZ; rw [hc, decide_eq_false h0]; simp
     rw [hr]
     refine w_ ?_
     refine k_ ?_
     rfl
   refine w_ ?_
   refine WL_call [7] (within_false 0 59 (by omega) (by omega) y.y7.1 z.l7 y.y7.2 y7 b7) rfl rfl rfl t_ t_ rfl rfl rfl rfl ?_; rintro _ _ _ ⟨rfl, rfl, rfl⟩
   refine w_ ?_
   cases w0 : withinZ 0 59 false z.l7 with
   | false =>
     have hr : rightZ z = false := by unfold rightZ; rw [hc, decide_eq_true h0, w0]; simp
     rw [hr]
     refine w_ ?_
     refine k_ ?_
     rfl
   | true =>
   refine w_ ?_
   refine WL_call [6] (within_false 0 59 (by omega) (by omega) y.y6.1 z.l6 y.y6.2 y6 b6) rfl rfl rfl t_ t_ rfl rfl rfl rfl ?_; rintro _ _ _ ⟨rfl, rfl, rfl⟩
   refine w_ ?_
   cases w1 : withinZ 0 59 false z.l6 with
   | false =>
     have hr : rightZ z = false := by unfold rightZ; rw [hc, decide_eq_true h0, w0, w1]; simp
     rw [hr]
     refine w_ ?_
     refine k_ ?_
     rfl
   | true =>
   refine w_ ?_
   refine WL_call [5] (within_false 0 23 (by omega) (by omega) y.y5.1 z.l5 y.y5.2 y5 b5) rfl rfl rfl t_ t_ rfl rfl rfl rfl ?_; rintro _ _ _ ⟨rfl, rfl, rfl⟩
   refine w_ ?_
   cases w2 : withinZ 0 23 false z.l5 with
   | false =>
     have hr : rightZ z = false := by unfold rightZ; rw [hc, decide_eq_true h0, w0, w1, w2]; simp
     rw [hr]
     refine w_ ?_
     refine k_ ?_
     rfl
   | true =>
   refine w_ ?_
   refine WL_call [1] (within_false 1 12 (by omega) (by omega) y.y1.1 z.l1 y.y1.2 y1 b1) rfl rfl rfl t_ t_ rfl rfl rfl rfl ?_; rintro _ _ _ ⟨rfl, rfl, rfl⟩
   refine w_ ?_
   cases w3 : withinZ 1 12 false z.l1 with
   | false =>
     have hr : rightZ z = false := by unfold rightZ; rw [hc, decide_eq_true h0, w0, w1, w2, w3]; simp
     rw [hr]
     refine w_ ?_
     refine k_ ?_
     rfl
   | true =>
   refine w_ ?_
   refine WL_call [2] (within_true 1 31 (by omega) (by omega) y.y2.1 z.l2 y.y2.2 y2 b2) rfl rfl rfl t_ t_ rfl rfl rfl rfl ?_; rintro _ _ _ ⟨rfl, rfl, rfl⟩
   refine w_ ?_
   cases w4 : withinZ 1 31 true z.l2 with
   | false =>
     have hr : rightZ z = false := by unfold rightZ; rw [hc, decide_eq_true h0, w0, w1, w2, w3, w4]; simp
     rw [hr]
     refine w_ ?_
     refine k_ ?_
     rfl
   | true =>
   refine w_ ?_
   refine WL_call [3] (within_true 1 366 (by omega) (by omega) y.y3.1 z.l3 y.y3.2 y3 b3) rfl rfl rfl t_ t_ rfl rfl rfl rfl ?_; rintro _ _ _ ⟨rfl, rfl, rfl⟩
   refine w_ ?_
   cases w5 : withinZ 1 366 true z.l3 with
   | false =>
     have hr : rightZ z = false := by unfold rightZ; rw [hc, decide_eq_true h0, w0, w1, w2, w3, w4, w5]; simp
     rw [hr]
     refine w_ ?_
     refine k_ ?_
     rfl
   | true =>
   refine w_ ?_
   refine WL_call [4] (within_true 1 53 (by omega) (by omega) y.y4.1 z.l4 y.y4.2 y4 b4) rfl rfl rfl t_ t_ rfl rfl rfl rfl ?_; rintro _ _ _ ⟨rfl, rfl, rfl⟩
   refine w_ ?_
   cases w6 : withinZ 1 53 true z.l4 with
   | false =>
     have hr : rightZ z = false := by unfold rightZ; rw [hc, decide_eq_true h0, w0, w1, w2, w3, w4, w5, w6]; simp
     rw [hr]
     refine w_ ?_
     refine k_ ?_
     rfl
   | true =>
   refine w_ ?_
   refine WL_call [0] (within_true 1 366 (by omega) (by omega) y.y0.1 z.l0 y.y0.2 y0 b0) rfl rfl rfl t_ t_ rfl rfl rfl rfl ?_; rintro _ _ _ ⟨rfl, rfl, rfl⟩
   refine w_ ?_
   cases w7 : withinZ 1 366 true z.l0 with
   | false =>
     have hr : rightZ z = false := by unfold rightZ; rw [hc, decide_eq_true h0, w0, w1, w2, w3, w4, w5, w6, w7]; simp
     rw [hr]
     refine w_ ?_
     refine k_ ?_
     rfl
   | true =>
   have hr : rightZ z = true := by unfold rightZ; rw [hc, decide_eq_true h0, w0, w1, w2, w3, w4, w5, w6, w7]; rfl
   rw [hr]
   refine w_ ?_
   refine k_ ?_
   rfl
structure SZ where
 start : Int
 has : Bool
 z : RZ
 rd : List Int
 ex : List Int
structure SY where
 y : LY
 yr : Bool × Nat
 ye : Bool × Nat
def SZ.zero : SZ := ⟨0, false, RZ.zero, [], []⟩
def cellsT (s : SZ) (y : SY) (b : Nat) : List AV := .int .i64 s.start :: .bool s.has :: (cellsS s.z y.y b ++ [slI y.yr (b + 10) 1 s.rd.length, slI y.ye (b + 11) 1 s.ex.length])
def startOf (s : SZ) : Int := if s.has = true ∧ s.z.st ≠ 0 then s.z.st else s.start
theorem setStart_tri (s : SZ) (y : SY) : Tri C0 17 12 [] [.agg (cellsT s y 0)] (fun k hp r => k = 12 ∧ hp = [] ∧ r = .int .i64 (startOf s)) := by
 unfold startOf
 refine Tri.keep (Tri.mk 21 [.tmp 2] Tryz.func17 rfl rfl rfl rfl cf17 ?_) t_ (fun r h => q_); intro w0 S T ρ0
 refine w_ ?_
 cases hh : s.has with
 | false =>
   rw [if_neg (fun e => absurd e.1 (by decide))]
   refine w_ ?_
   refine W_cond_false rfl ?_
   refine w_ ?_
   refine k_ ?_
   rfl
 | true =>
 refine w_ ?_
 refine j_ 10 ?_ ?_ <;> intro h
 · have h : s.z.st ≠ 0 := h
   rw [if_pos ⟨rfl, h⟩]
   refine w_ ?_
   refine W_if_ne rfl (fun _ => ?_) (fun e => absurd e h)
   refine w_ ?_
   refine k_ ?_
   rfl
 · have h : s.z.st = 0 := h
   rw [if_neg (fun e => e.2 h)]
   refine w_ ?_
   refine W_cond_false rfl ?_
   refine w_ ?_
   refine k_ ?_
   rfl
end Go.Eng
