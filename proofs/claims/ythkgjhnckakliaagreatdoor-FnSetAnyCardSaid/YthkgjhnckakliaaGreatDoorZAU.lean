/- A part of the proof that the rows statement FnSetAny holds: the engine of abstract states, the walks through the program, the bridge; no conditions. -/
import Derived.Test.YthkgjhnckakliaaGreatDoorZAO
import Derived.Test.YthkgjhnckakliaaGreatDoorZAT
set_option linter.unusedVariables false
set_option linter.unusedSimpArgs false
set_option linter.unusedSectionVars false
namespace Go.Eng
open Go.Proofs
attribute [local irreducible] W WL LP Then InBl Tri WS
theorem digitsAt2_tri (s : List UInt8) (f n : Nat) (hs : s.length ≤ 1073741824) (hf : f ≤ 1000) (hn : n ≤ 4) : Tri C0 197 0 [] [.str s, .int .i64 f, .int .i64 n]
    (fun k hp r => k = 0 ∧ hp = [] ∧ r = .tup [.int .i64 ((digZ (s.drop f) n).getD 0), .bool (digZ (s.drop f) n).isSome]) := by
  refine (digitsAt_tri s f n hs hf hn).mono ?_
  rintro k hp r ⟨rfl, rfl, rfl⟩
  refine ⟨rfl, rfl, ?_⟩
  cases digZ (s.drop f) n <;> rfl
theorem z90 (s : List UInt8) : bt s (15 : Nat) = 90 ↔ s.getD 15 0 = 90 := by
  rw [bt_nat]; exact ⟨fun h => UInt8.toNat_inj.1 (by show _ = 90; omega), fun h => by rw [h]; rfl⟩
theorem z46 (s : List UInt8) : bt s (15 : Nat) = 46 ↔ s.getD 15 0 = 46 := by
  rw [bt_nat]; exact ⟨fun h => UInt8.toNat_inj.1 (by show _ = 46; omega), fun h => by rw [h]; rfl⟩
theorem z44 (s : List UInt8) : bt s (15 : Nat) = 44 ↔ s.getD 15 0 = 44 := by
  rw [bt_nat]; exact ⟨fun h => UInt8.toNat_inj.1 (by show _ = 44; omega), fun h => by rw [h]; rfl⟩
theorem textMoment_tri (s : List UInt8) (hs : s.length ≤ 1073741824) : Tri C0 140 0 [] [.str s] (fun k hp r => k = 0 ∧ hp = [] ∧ r = .tup [.int .i64 (momZ s).1, .int .u8 ((momZ s).2 : Nat)]) := by
  refine Tri.keep (Tri.mk 143 [.tmp 2, .tmp 3] Tryz.func140 rfl rfl rfl rfl cf140 ?_) t_ (fun r h => q_); intro w0 S T ρ0
  refine w_ ?_
  refine WL_call [] (digitsAt2_tri s 0 4 hs (by omega) (by omega)) rfl rfl rfl t_ t_ rfl rfl rfl rfl ?_; rintro _ _ _ ⟨rfl, rfl, rfl⟩
  refine w_ ?_
  refine WL_call [] (digitsAt2_tri s 4 2 hs (by omega) (by omega)) rfl rfl rfl t_ t_ rfl rfl rfl rfl ?_; rintro _ _ _ ⟨rfl, rfl, rfl⟩
  refine w_ ?_
  refine WL_call [] (digitsAt2_tri s 6 2 hs (by omega) (by omega)) rfl rfl rfl t_ t_ rfl rfl rfl rfl ?_; rintro _ _ _ ⟨rfl, rfl, rfl⟩
  rw [List.drop_zero]
  refine w_ ?_
  cases hy : digZ s 4 with
  | none =>
    have bad : momZ s = (0, 1) := by simp [momZ, hy]
    cases hm : digZ (s.drop 4) 2 with
    | none =>
      cases hd : digZ (s.drop 6) 2 with
      | none =>
        refine w_ ?_
        refine W_cond_true rfl ?_
        refine w_ ?_
        refine k_ ?_
        rw [bad]; rfl
      | some d =>
        refine w_ ?_
        refine W_cond_true rfl ?_
        refine w_ ?_
        refine k_ ?_
        rw [bad]; rfl
    | some m =>
      cases hd : digZ (s.drop 6) 2 with
      | none =>
        refine w_ ?_
        refine W_cond_true rfl ?_
        refine w_ ?_
        refine k_ ?_
        rw [bad]; rfl
      | some d =>
        refine w_ ?_
        refine W_cond_true rfl ?_
        refine w_ ?_
        refine k_ ?_
        rw [bad]; rfl
  | some y =>
  have by1 := digZ_le4 hy
  cases hm : digZ (s.drop 4) 2 with
  | none =>
    have bad : momZ s = (0, 1) := by simp [momZ, hy, hm]
    cases hd : digZ (s.drop 6) 2 with
    | none =>
      refine w_ ?_
      refine W_cond_true rfl ?_
      refine w_ ?_
      refine k_ ?_
      rw [bad]; rfl
    | some d =>
      refine w_ ?_
      refine W_cond_true rfl ?_
      refine w_ ?_
      refine k_ ?_
      rw [bad]; rfl
  | some m =>
  have bm1 := digZ_le2 hm
  cases hd : digZ (s.drop 6) 2 with
  | none =>
    have bad : momZ s = (0, 1) := by simp [momZ, hy, hm, hd]
    refine w_ ?_
    refine W_cond_true rfl ?_
    refine w_ ?_
    refine k_ ?_
    rw [bad]; rfl
  | some d =>
  have bd1 := digZ_le2 hd
  refine w_ ?_
  refine j_ 44 ?_ ?_ <;> intro hm1
  · have hm1 : m < 1 := hm1
    have bad : momZ s = (0, 1) := by simp only [momZ, hy, hm, hd]; rw [if_pos (by omega)]
    refine w_ ?_
    refine W_cond_true rfl ?_
    refine w_ ?_
    refine k_ ?_
    rw [bad]; rfl
  refine w_ ?_
  refine j_ 48 ?_ ?_ <;> intro hm2
  · have hm2 : m > 12 := hm2
    have bad : momZ s = (0, 1) := by simp only [momZ, hy, hm, hd]; rw [if_pos (by omega)]
    refine w_ ?_
    refine W_cond_true rfl ?_
    refine w_ ?_
    refine k_ ?_
    rw [bad]; rfl
  refine w_ ?_
  refine j_ 52 ?_ ?_ <;> intro hd1
  · have hd1 : d < 1 := hd1
    have bad : momZ s = (0, 1) := by simp only [momZ, hy, hm, hd]; rw [if_pos (by omega)]
    refine w_ ?_
    refine W_cond_true rfl ?_
    refine w_ ?_
    refine k_ ?_
    rw [bad]; rfl
  refine w_ ?_
  refine WL_call [] (monthDaysS_tri y m) rfl rfl rfl t_ t_ rfl rfl rfl rfl ?_; rintro _ _ _ ⟨rfl, rfl, rfl⟩
  refine w_ ?_
  refine i_ ?_ ?_ <;> intro hd2
  · have hd2 : d > mdays m y := hd2
    have bad : momZ s = (0, 1) := by simp only [momZ, hy, hm, hd]; rw [if_pos (by omega)]
    refine w_ ?_
    refine k_ ?_
    rw [bad]; rfl
  have hmd := mdays_le m y
  have hm1 : ¬ m < 1 := hm1
  have hm2 : ¬ m > 12 := hm2
  have hd1 : ¬ d < 1 := hd1
  have hd2 : ¬ d > mdays m y := hd2
  have hdt : momZ s = if s.length = 8 then (dateZ y m d * 86400 + 0 * 3600 + 0 * 60 + 0, 0) else momT s (dateZ y m d * 86400) := by
    simp only [momZ, hy, hm, hd]; rw [if_neg (by omega)]
  have hdb : -1000 ≤ dateZ y m d ∧ dateZ y m d ≤ 10000000 := by
    rw [dateZ_tDays y m d (by omega), tDays_NZ, NZ]; split <;> omega
  rw [List.length_drop] at bm1 bd1
  refine w_ ?_
  refine WL_call [] (textDays_tri y m d (by omega) (by omega) (by omega)) rfl rfl rfl t_ t_ rfl rfl rfl rfl ?_; rintro _ _ _ ⟨rfl, rfl, rfl⟩
  refine w_ ?_
  refine i_ ?_ ?_ <;> intro h8
  · rw [if_pos (by omega), show dateZ y m d * 86400 + 0 * 3600 + 0 * 60 + 0 = dateZ y m d * 86400 by omega] at hdt
    refine w_ ?_
    refine k_ ?_
    rw [hdt]; rfl
  rw [if_neg (by omega)] at hdt
  have hDb : -100000000000 ≤ dateZ y m d * 86400 ∧ dateZ y m d * 86400 ≤ 1000000000000 := by omega
  generalize dateZ y m d * 86400 = D at *
  refine w_ ?_
  refine WL_call [] (digitsAt2_tri s 9 2 hs (by omega) (by omega)) rfl rfl rfl t_ t_ rfl rfl rfl rfl ?_; rintro _ _ _ ⟨rfl, rfl, rfl⟩
  refine w_ ?_
  refine WL_call [] (digitsAt2_tri s 11 2 hs (by omega) (by omega)) rfl rfl rfl t_ t_ rfl rfl rfl rfl ?_; rintro _ _ _ ⟨rfl, rfl, rfl⟩
  refine w_ ?_
  refine WL_call [] (digitsAt2_tri s 13 2 hs (by omega) (by omega)) rfl rfl rfl t_ t_ rfl rfl rfl rfl ?_; rintro _ _ _ ⟨rfl, rfl, rfl⟩
  refine w_ ?_
  have hT : momT s D = match digZ (s.drop 9) 2, digZ (s.drop 11) 2, digZ (s.drop 13) 2 with
    | some h, some n, some x =>
      if ¬ s.getD 8 0 = 84 ∨ h > 23 ∨ n > 59 ∨ x > 59 then (0, 1) else
      if s.length = 15 ∨ (s.length = 16 ∧ s.getD 15 0 = 90) then (D + h * 3600 + n * 60 + x, 0)
      else if s.getD 15 0 = 46 ∨ s.getD 15 0 = 44 then (0, 2) else (0, 1)
    | _, _, _ => (0, 1) := rfl
  refine j_ 86 ?_ ?_ <;> intro h84
  · have h84 : ¬ s.getD 8 0 = 84 := fun e => h84 (by show bt s (8 : Nat) = 84; rw [bt_nat s 8, e]; rfl)
    have bad : momZ s = (0, 1) := by
      rw [hdt, hT]
      cases digZ (s.drop 9) 2 with
      | none => rfl
      | some h => cases digZ (s.drop 11) 2 with
        | none => rfl
        | some n => cases digZ (s.drop 13) 2 with
          | none => rfl
          | some x => exact if_pos (.inl h84)
    refine w_ ?_
    refine W_cond_true rfl ?_
    refine w_ ?_
    refine k_ ?_
    rw [bad]; rfl
  have h84 : s.getD 8 0 = 84 := by
    have h84 : bt s (8 : Nat) = 84 := h84
    rw [bt_nat] at h84; exact UInt8.toNat_inj.1 (by show _ = 84; omega)
  cases hh : digZ (s.drop 9) 2 with
  | none =>
    have bad : momZ s = (0, 1) := by rw [hdt, hT, hh]
    refine w_ ?_
    refine W_cond_true rfl ?_
    refine w_ ?_
    refine k_ ?_
    rw [bad]; rfl
  | some h =>
  have bh1 := digZ_le2 hh
  rw [hh] at hT
  refine w_ ?_
  cases hn : digZ (s.drop 11) 2 with
  | none =>
    have bad : momZ s = (0, 1) := by rw [hdt, hT, hn]
    refine w_ ?_
    refine W_cond_true rfl ?_
    refine w_ ?_
    refine k_ ?_
    rw [bad]; rfl
  | some n =>
  have bn1 := digZ_le2 hn
  rw [hn] at hT
  refine w_ ?_
  cases hx : digZ (s.drop 13) 2 with
  | none =>
    have bad : momZ s = (0, 1) := by rw [hdt, hT, hx]
    refine w_ ?_
    refine W_cond_true rfl ?_
    refine w_ ?_
    refine k_ ?_
    rw [bad]; rfl
  | some x =>
  have bx1 := digZ_le2 hx
  rw [hx] at hT
  dsimp only at hT
  rw [List.length_drop] at bh1 bn1 bx1
  rw [show (some h).getD 0 = h from rfl, show (some n).getD 0 = n from rfl, show (some x).getD 0 = x from rfl]
  refine w_ ?_
  refine j_ 102 ?_ ?_ <;> intro hh1
  · have hh1 : h > 23 := hh1
    have bad : momZ s = (0, 1) := by rw [hdt, hT, if_pos (.inr (.inl hh1))]
    refine w_ ?_
    refine W_cond_true rfl ?_
    refine w_ ?_
    refine k_ ?_
    rw [bad]; rfl
  have hh1 : ¬ h > 23 := hh1
  refine w_ ?_
  refine j_ 106 ?_ ?_ <;> intro hn1
  · have hn1 : n > 59 := hn1
    have bad : momZ s = (0, 1) := by rw [hdt, hT, if_pos (.inr (.inr (.inl hn1)))]
    refine w_ ?_
    refine W_cond_true rfl ?_
    refine w_ ?_
    refine k_ ?_
    rw [bad]; rfl
  have hn1 : ¬ n > 59 := hn1
  refine w_ ?_
  refine i_ ?_ ?_ <;> intro hx1
  · have hx1 : x > 59 := hx1
    have bad : momZ s = (0, 1) := by rw [hdt, hT, if_pos (.inr (.inr (.inr hx1)))]
    refine w_ ?_
    refine k_ ?_
    rw [bad]; rfl
  have hx1 : ¬ x > 59 := hx1
  rw [if_neg (show ¬ (¬ s.getD 8 0 = 84 ∨ h > 23 ∨ n > 59 ∨ x > 59) by intro e; rcases e with e | e | e | e; exact e h84; exact hh1 e; exact hn1 e; exact hx1 e)] at hT
  have hsec : D + (h * 3600 + n * 60 + x) = D + h * 3600 + n * 60 + x := by omega
  refine w_ ?_
  refine j_ 123 ?_ ?_ <;> intro h15
  · rw [if_pos (.inl (by omega))] at hT
    refine w_ ?_
    refine W_cond_true rfl ?_
    refine w_ ?_
    refine k_ ?_
    rw [hdt, hT, ← hsec]; rfl
  have h15 : ¬ s.length = 15 := by omega
  have hl16 : 15 < s.length := by omega
  refine w_ ?_
  refine j_ 127 ?_ ?_ <;> intro h16
  · have h16 : s.length = 16 := by omega
    refine w_ ?_
    refine i_ ?_ ?_ <;> intro h90
    · rw [if_pos (.inr ⟨h16, (z90 _).1 h90⟩)] at hT
      refine w_ ?_
      refine k_ ?_
      rw [hdt, hT, ← hsec]; rfl
    · rw [if_neg (by intro e; rcases e with e | e; exact h15 e; exact h90 ((z90 _).2 e.2))] at hT
      refine w_ ?_
      refine j_ 138 ?_ ?_ <;> intro h46
      · rw [if_pos (.inl ((z46 _).1 h46))] at hT
        refine w_ ?_
        refine W_cond_true rfl ?_
        refine w_ ?_
        refine k_ ?_
        rw [hdt, hT]; rfl
      refine w_ ?_
      refine i_ ?_ ?_ <;> intro h44
      · rw [if_pos (.inr ((z44 _).1 h44))] at hT
        refine w_ ?_
        refine k_ ?_
        rw [hdt, hT]; rfl
      · rw [if_neg (by intro e; rcases e with e | e; exact h46 ((z46 _).2 e); exact h44 ((z44 _).2 e))] at hT
        refine w_ ?_
        refine k_ ?_
        rw [hdt, hT]; rfl
  · have h16 : ¬ s.length = 16 := by omega
    rw [if_neg (by intro e; rcases e with e | e; exact h15 e; exact h16 e.1)] at hT
    refine w_ ?_
    refine W_cond_false rfl ?_
    refine w_ ?_
    refine j_ 138 ?_ ?_ <;> intro h46
    · rw [if_pos (.inl ((z46 _).1 h46))] at hT
      refine w_ ?_
      refine W_cond_true rfl ?_
      refine w_ ?_
      refine k_ ?_
      rw [hdt, hT]; rfl
    refine w_ ?_
    refine i_ ?_ ?_ <;> intro h44
    · rw [if_pos (.inr ((z44 _).1 h44))] at hT
      refine w_ ?_
      refine k_ ?_
      rw [hdt, hT]; rfl
    · rw [if_neg (by intro e; rcases e with e | e; exact h46 ((z46 _).2 e); exact h44 ((z44 _).2 e))] at hT
      refine w_ ?_
      refine k_ ?_
      rw [hdt, hT]; rfl
end Go.Eng
namespace Go.Eng
open Go.Proofs
attribute [local irreducible] W WL LP Then InBl Tri WS
theorem bt_is {l : List UInt8} {i : Nat} (c : UInt8) : bt l i = (c.toNat : Int) ↔ l.getD i 0 = c := by
  rw [bt_nat]; exact ⟨fun h => UInt8.toNat_inj.1 (by omega), fun h => by rw [h]⟩
def nameS (o : Option (List UInt8)) (r : AV) : Prop := (∃ n, o = some n ∧ r = .tup [.str n, .bool true]) ∨ (o = none ∧ ∃ n, r = .tup [.str n, .bool false])
theorem nameS_lt {o : Option (List UInt8)} {r : AV} (h : nameS o r) (n : Nat) : r.lt n := by
  rcases h with ⟨_, _, rfl⟩ | ⟨_, _, rfl⟩ <;> exact ⟨trivial, trivial, trivial⟩
theorem textName_tri (s : List UInt8) (hl : s.length ≤ 1073741824) : Tri C0 73 0 [] [.str s] (fun k hp r => k = 0 ∧ hp = [] ∧ nameS (nameZ s) r) := by
  refine Tri.keep ?_ trivial (fun r h => nameS_lt h 0)
  have htl := trim_le s
  obtain ⟨u, hu⟩ : ∃ u, u = Lib.toUpperA (Lib.trimSpace s) := ⟨_, rfl⟩
  have hul : u.length ≤ 1073741824 := by rw [hu]; simp only [Lib.toUpperA, List.length_map]; omega
  have hn : nameZ s = nameU u := by rw [hu]; rfl
  rw [hn]
  refine Tri.mk 45 [.tmp 2, .tmp 3] Tryz.func73 rfl rfl rfl rfl cf73 ?_; intro w0 S T ρ0
  refine w_ ?_
  refine WL_call [] (textTrim_tri s hl) rfl rfl rfl t_ t_ rfl rfl rfl rfl ?_; rintro _ _ _ ⟨rfl, rfl, rfl⟩
  refine w_ ?_
  refine WL_call [] (textUpper_tri (Lib.trimSpace s) (by omega)) rfl rfl rfl t_ t_ rfl rfl rfl rfl ?_; rintro _ _ _ ⟨rfl, rfl, rfl⟩
  rw [← hu]
  refine w_ ?_
  refine W_loop ?_; refine LP_ren [] (LP_ind 0 (fun i : Nat => ([(0, .str u), (11, .int .i64 u.length), (12, .int .i64 i)], [])) (fun i => u.length - i) (fun i => i ≤ u.length ∧ cutL [59, 58] u = i + cutL [59, 58] (u.drop i)) 0 ?_ (⟨Nat.zero_le _, by simp⟩)) s_ s_ rfl rfl rfl
  rintro i ⟨hi, h1⟩ ih
  refine LP_round ?_; try dsimp only
  refine w_ ?_
  refine i_ ?_ ?_ <;> intro h
  · have h : i < u.length := by omega
    have hne : ¬ u = [] := by intro e; rw [e] at h; simp at h
    rw [drop_getB h, cutL] at h1
    refine w_ ?_
    refine j_ 19 ?_ ?_ <;> intro h59
    · have h59 : u.getD i 0 = 59 := (bt_is 59).1 h59
      rw [if_pos (by rw [h59]; decide)] at h1
      refine w_ ?_
      refine W_cond_true rfl ?_
      refine w_ ?_
      rw [Int.toNat_natCast]
      have hnm : (u.take i).length = i := by simp; omega
      have hN : nameU u = if i = 0 then none else if 0 < cutL [61] (u.take i) ∧ cutL [61] (u.take i) < (u.take i).length then none else some (u.take i) := by
        unfold nameU
        rw [if_neg hne, h1]
        by_cases h0 : i = 0
        · rw [if_pos (.inr (by omega)), if_pos h0]
        · rw [if_neg (by omega), if_neg h0]; rfl
      rw [hN]
      generalize u.take i = nm at *
      refine w_ ?_
      refine W_loop ?_; refine LP_ren [] (LP_ind 0 (fun j : Nat => ([(5, .str nm), (4, .int .i64 i), (29, .int .i64 nm.length), (30, .int .i64 j)], [])) (fun j => nm.length - j) (fun j => j ≤ nm.length ∧ cutL [61] nm = j + cutL [61] (nm.drop j)) 0 ?_ (⟨Nat.zero_le _, by simp⟩)) s_ s_ rfl rfl rfl
      rintro j ⟨hj, h2⟩ ih
      refine LP_round ?_; try dsimp only
      refine w_ ?_
      refine i_ ?_ ?_ <;> intro g
      · have g : j < nm.length := by omega
        rw [drop_getB g, cutL] at h2
        refine w_ ?_
        refine i_ ?_ ?_ <;> intro g61
        · have g61 : nm.getD j 0 = 61 := (bt_is 61).1 g61
          rw [if_pos (by rw [g61]; decide)] at h2
          refine w_ ?_
          refine k_ ?_
          rw [if_neg (by omega)]
          by_cases g0 : j = 0
          · rw [if_neg (by omega)]
            subst g0
            exact .inl ⟨_, rfl, rfl⟩
          · rw [if_pos (by omega)]
            refine .inr ⟨rfl, nm, ?_⟩
            have : ((j : Int) == 0) = false := by simp [g0]
            rw [this]
        · have g61 : ¬ nm.getD j 0 = 61 := fun e => g61 ((bt_is 61).2 e)
          rw [if_neg (by rw [List.mem_singleton]; exact g61)] at h2
          refine w_ ?_
          refine LP_ren [] (ih (j + 1) (⟨by omega, by omega⟩) (by omega)) s_ s_ rfl rfl rfl
      · have g : j = nm.length := by omega
        subst g
        rw [List.drop_length, cutL] at h2
        refine w_ ?_
        refine x_ ?_
        refine w_ ?_
        refine k_ ?_
        by_cases g0 : i = 0
        · rw [if_pos g0]
          refine .inr ⟨rfl, nm, ?_⟩
          subst g0
          rfl
        · rw [if_neg g0, if_neg (by omega)]
          refine .inl ⟨_, rfl, ?_⟩
          have : decide ((i : Int) > 0) = true := by simp; omega
          rw [this]
    refine w_ ?_
    refine i_ ?_ ?_ <;> intro h58
    · have h58 : u.getD i 0 = 58 := (bt_is 58).1 h58
      rw [if_pos (by rw [h58]; decide)] at h1
      refine w_ ?_
      rw [Int.toNat_natCast]
      have hnm : (u.take i).length = i := by simp; omega
      have hN : nameU u = if i = 0 then none else if 0 < cutL [61] (u.take i) ∧ cutL [61] (u.take i) < (u.take i).length then none else some (u.take i) := by
        unfold nameU
        rw [if_neg hne, h1]
        by_cases h0 : i = 0
        · rw [if_pos (.inr (by omega)), if_pos h0]
        · rw [if_neg (by omega), if_neg h0]; rfl
      rw [hN]
      generalize u.take i = nm at *
      refine w_ ?_
      refine W_loop ?_; refine LP_ren [] (LP_ind 0 (fun j : Nat => ([(5, .str nm), (4, .int .i64 i), (29, .int .i64 nm.length), (30, .int .i64 j)], [])) (fun j => nm.length - j) (fun j => j ≤ nm.length ∧ cutL [61] nm = j + cutL [61] (nm.drop j)) 0 ?_ (⟨Nat.zero_le _, by simp⟩)) s_ s_ rfl rfl rfl
      rintro j ⟨hj, h2⟩ ih
      refine LP_round ?_; try dsimp only
      refine w_ ?_
      refine i_ ?_ ?_ <;> intro g
      · have g : j < nm.length := by omega
        rw [drop_getB g, cutL] at h2
        refine w_ ?_
        refine i_ ?_ ?_ <;> intro g61
        · have g61 : nm.getD j 0 = 61 := (bt_is 61).1 g61
          rw [if_pos (by rw [g61]; decide)] at h2
          refine w_ ?_
          refine k_ ?_
          rw [if_neg (by omega)]
          by_cases g0 : j = 0
          · rw [if_neg (by omega)]
            subst g0
            exact .inl ⟨_, rfl, rfl⟩
          · rw [if_pos (by omega)]
            refine .inr ⟨rfl, nm, ?_⟩
            have : ((j : Int) == 0) = false := by simp [g0]
            rw [this]
        · have g61 : ¬ nm.getD j 0 = 61 := fun e => g61 ((bt_is 61).2 e)
          rw [if_neg (by rw [List.mem_singleton]; exact g61)] at h2
          refine w_ ?_
          refine LP_ren [] (ih (j + 1) (⟨by omega, by omega⟩) (by omega)) s_ s_ rfl rfl rfl
      · have g : j = nm.length := by omega
        subst g
        rw [List.drop_length, cutL] at h2
        refine w_ ?_
        refine x_ ?_
        refine w_ ?_
        refine k_ ?_
        by_cases g0 : i = 0
        · rw [if_pos g0]
          refine .inr ⟨rfl, nm, ?_⟩
          subst g0
          rfl
        · rw [if_neg g0, if_neg (by omega)]
          refine .inl ⟨_, rfl, ?_⟩
          have : decide ((i : Int) > 0) = true := by simp; omega
          rw [this]
    have h59 : ¬ u.getD i 0 = 59 := fun e => h59 ((bt_is 59).2 e)
    have h58 : ¬ u.getD i 0 = 58 := fun e => h58 ((bt_is 58).2 e)
    rw [if_neg (by intro e; simp only [List.mem_cons, List.not_mem_nil, or_false] at e; exact e.elim h59 h58)] at h1
    refine w_ ?_
    refine LP_ren [] (ih (i + 1) (⟨by omega, by omega⟩) (by omega)) s_ s_ rfl rfl rfl
  · have h : i = u.length := by omega
    subst h
    rw [List.drop_length, cutL] at h1
    have bad : nameU u = none := by
      unfold nameU
      split
      · rfl
      · rw [if_pos (.inl (by omega))]
    refine w_ ?_
    refine x_ ?_
    refine w_ ?_
    refine k_ ?_
    exact .inr ⟨bad, _, rfl⟩
theorem splitB_one {c : UInt8} {s x : List UInt8} (h : splitB c s = [x]) : x = s := by
  rw [splitB_cut] at h
  split at h
  · have := splitB_ne c (s.drop (cutB c s + 1))
    simp only [List.cons.injEq] at h; exact absurd h.2 this
  · simp only [List.cons.injEq, and_true] at h; exact h.symm
def startS (s : List UInt8) : Int × Nat := if ascB s = true then startZ s else (0, 2)
theorem textStart_tri (s : List UInt8) (hl : s.length ≤ 1073741824) : Tri C0 74 0 [] [.str s] (fun k hp r => k = 0 ∧ hp = [] ∧ r = .tup [.int .i64 (startS s).1, .int .u8 ((startS s).2 : Nat)]) := by
  have hmem := splitB_mem 58 s
  have hone := fun x => splitB_one (c := 58) (s := s) (x := x)
  unfold startS
  refine Tri.keep (Tri.mk 40 [.tmp 2, .tmp 3] Tryz.func74 rfl rfl rfl rfl cf74 ?_) t_ (fun r h => q_); intro w0 S T ρ0
  refine w_ ?_
  refine WL_call [] (textASCII_tri s hl) rfl rfl rfl t_ t_ rfl rfl rfl rfl ?_; rintro _ _ _ ⟨rfl, rfl, rfl⟩
  by_cases ha : ascB s = true
  rotate_left 1
  · rw [if_neg ha]
    have ha : ascB s = false := by simpa using ha
    rw [ha]
    refine w_ ?_
    refine W_cond_true rfl ?_
    refine w_ ?_
    refine k_ ?_
    rfl
  rw [if_pos ha, ha]
  unfold startZ
  refine w_ ?_
  refine W_cond_false rfl ?_
  refine w_ ?_
  refine WL_call [] (textSplit_tri 58 s hl) rfl rfl rfl (s_) (s_) rfl rfl rfl rfl ?_
  rintro _ _ _ ⟨cap, tt, hc1, hc2, rfl, rfl, rfl⟩
  have hne := splitB_ne 58 s
  generalize splitB 58 s = l at *
  match l, hne with
  | [x], _ =>
    have hx := hone x rfl
    subst hx
    have hc1 : 1 ≤ cap := hc1
    refine w_ ?_
    refine W_cond_true rfl ?_
    refine w_ ?_
    refine WL_call [] (textMoment_tri x hl) rfl rfl rfl t_ t_ rfl rfl rfl rfl ?_; rintro _ _ _ ⟨rfl, rfl, rfl⟩
    refine w_ ?_
    refine k_ ?_
    rfl
  | [p, x], _ =>
    have hc1 : 2 ≤ cap := hc1
    have hp := (hmem p (by simp)).1
    have hx := (hmem x (by simp)).1
    dsimp only
    refine w_ ?_
    refine W_cond_false rfl ?_
    refine w_ ?_
    refine WL_call [] (textBegins_tri p TZ (by omega) (by decide)) rfl rfl rfl t_ t_ rfl rfl rfl rfl ?_; rintro _ _ _ ⟨rfl, rfl, rfl⟩
    by_cases h1 : Lib.hasPrefix p TZ = true
    · rw [if_neg (fun h => h h1), h1]
      refine w_ ?_
      refine W_cond_false rfl ?_
      refine w_ ?_
      refine i_ ?_ ?_ <;> intro h2
      · have h2 : ¬ p = TZU := h2
        rw [if_pos h2]
        refine w_ ?_
        refine k_ ?_
        rfl
      · have h2 : p = TZU := h2
        rw [if_neg (fun h => h h2)]
        refine w_ ?_
        refine WL_call [] (textMoment_tri x (by omega)) rfl rfl rfl t_ t_ rfl rfl rfl rfl ?_; rintro _ _ _ ⟨rfl, rfl, rfl⟩
        refine w_ ?_
        refine k_ ?_
        rfl
    · rw [if_pos h1]
      have h1 : Lib.hasPrefix p TZ = false := by simpa using h1
      rw [h1]
      refine w_ ?_
      refine W_cond_true rfl ?_
      refine w_ ?_
      refine k_ ?_
      rfl
  | a :: b :: c :: l, _ =>
    have e : ((a :: b :: c :: l).length : Int) > 2 := by simp; omega
    have e1 : ¬ ((a :: b :: c :: l).length : Int) = 1 := by simp; omega
    refine w_ ?_
    refine i_ ?_ ?_ <;> intro hz
    · exact absurd hz e1
    refine w_ ?_
    refine j_ 22 ?_ ?_ <;> intro hz2
    rotate_left 1
    · exact absurd e hz2
    refine w_ ?_
    refine W_cond_true rfl ?_
    refine w_ ?_
    refine k_ ?_
    rfl
end Go.Eng
namespace Go.Eng
open Go.Proofs
attribute [local irreducible] W WL LP Then InBl Tri WS
def datesS (s : List UInt8) : List Int × Nat := if ascB s = true then datesZ s else ([], 2)
def datesRS (z : List Int × Nat) : Rs := fun k hp r =>
  (z.2 = 0 ∧ ∃ cap tt, z.1.length ≤ cap ∧ cap ≤ tt ∧ k = 1 ∧ hp = [(0, .ints 2 (some tt) .i64 z.1)] ∧ r = .tup [.sl false 0 1 0 z.1.length cap, .int .u8 0]) ∨
  (z.2 ≠ 0 ∧ k = 0 ∧ hp = [] ∧ r = .tup [.v (.slice none 0 0), .int .u8 (z.2 : Nat)])
theorem momsZ_badS {y : List UInt8} {l : List (List UInt8)} (h : (momZ y).2 ≠ 0) : (momsZ (y :: l)).2 = (momZ y).2 := by
  simp only [momsZ]; rw [if_neg h]
theorem textDates_tri (s : List UInt8) (hl : s.length ≤ 536870912) : Tri C0 75 0 [] [.str s] (datesRS (datesS s)) := by
  have hmem := splitB_mem 58 s
  unfold datesS
  refine Tri.mk 73 [.tmp 2, .tmp 3] Tryz.func75 rfl rfl rfl rfl cf75 ?_; intro w0 S T ρ0
  refine w_ ?_
  refine WL_call [] (textASCII_tri s (by omega)) rfl rfl rfl t_ t_ rfl rfl rfl rfl ?_; rintro _ _ _ ⟨rfl, rfl, rfl⟩
  by_cases ha : ascB s = true
  rotate_left 1
  · rw [if_neg ha]
    have ha : ascB s = false := by simpa using ha
    rw [ha]
    refine w_ ?_
    refine W_cond_true rfl ?_
    refine w_ ?_
    refine r_ ?_ ?_
    · exact s_
    · exact .inr ⟨by decide, rfl, rfl, rfl⟩
  rw [if_pos ha, ha]
  unfold datesZ
  refine w_ ?_
  refine W_cond_false rfl ?_
  refine w_ ?_
  refine WL_call [] (textSplit_tri 58 s (by omega)) rfl rfl rfl (s_) (s_) rfl rfl rfl rfl ?_
  rintro _ _ _ ⟨cap, tt, hc1, hc2, rfl, rfl, rfl⟩
  have hne := splitB_ne 58 s
  generalize splitB 58 s = l at *
  match l, hne with
  | [x], _ =>
    have hc1 : 1 ≤ cap := hc1
    have hx := (hmem x (by simp)).1
    dsimp only
    refine w_ ?_
    refine W_cond_false rfl ?_
    refine w_ ?_
    refine W_cond_false rfl ?_
    refine w_ ?_
    refine WL_ren [] (n := 0) (tm' := [(7, .v (.slice none 0 0)), (52, .str x)]) (hp' := []) ?_ s_ s_ rfl rfl rfl
    refine WL_call [] (textSplit_tri 44 x (by omega)) rfl rfl rfl (s_) (s_) rfl rfl rfl rfl ?_
    rintro _ _ _ ⟨cap2, tt2, hd1, hd2, rfl, rfl, rfl⟩
    have hm2 := splitB_mem 44 x
    have hne2 := splitB_ne 44 x
    have hcnt := splitB_count 44 x
    generalize splitB 44 x = ds at *
    have hpos : 0 < ds.length := List.length_pos_iff.2 hne2
    refine w_ ?_
    refine W_loop ?_
    refine LP_round ?_
    refine w_ ?_
    refine i_ ?_ ?_ <;> intro hj
    rotate_left 1
    · exfalso; omega
    have hdr : ds = ds.getD 0 [] :: ds.drop 1 := by have := drop_getL hpos; simpa using this
    have hyl := (hm2 _ (getD_mem hpos)).1
    refine w_ ?_
    refine WL_call [] (textMoment_tri (ds.getD 0 []) (by omega)) rfl rfl rfl t_ t_ rfl rfl rfl rfl ?_; rintro _ _ _ ⟨rfl, rfl, rfl⟩
    refine w_ ?_
    refine i_ ?_ ?_ <;> intro r1
    · have r1 : (momZ (ds.getD 0 [])).2 ≠ 0 := by omega
      have hbad : (momsZ ds).2 = (momZ (ds.getD 0 [])).2 := by rw [hdr]; exact momsZ_badS r1
      refine w_ ?_
      refine W_ren [] (n := 0) (tm' := [(2, .v (.slice none 0 0)), (3, .int .u8 ((momZ (ds.getD 0 [])).2 : Nat))]) (hp' := []) ?_ s_ s_ rfl rfl rfl
      refine r_ ?_ ?_
      · exact s_
      · exact .inr ⟨by rw [hbad]; exact r1, rfl, rfl, by rw [hbad]⟩
    have r1 : (momZ (ds.getD 0 [])).2 = 0 := by omega
    have hk := momsZ_ok (l := ds.drop 1) r1
    rw [← hdr] at hk
    refine w_ ?_
    refine WL_app0 (FamI 2 .i64) ((momZ (ds.getD 0 [])).1) rfl rfl rfl rfl rfl rfl rfl rfl rfl rfl rfl rfl rfl (by decide) ?_
    intro cap3 tt3 hc3 hc4
    refine w_ ?_
    refine LP_ren [0, 2] (LP_ind 2 (fun q : Nat × List Int × Nat × Nat => ([(7, .sl false 1 1 0 q.2.1.length q.2.2.1), (53, .sl false 0 1 0 ds.length cap2), (54, .int .i64 ds.length), (55, .int .i64 q.1)], [(0, .strs 9 (some tt2) ds), (1, .ints 2 (some q.2.2.2) .i64 q.2.1)])) (fun q => ds.length - q.1)
      (fun q => q.1 ≤ ds.length ∧ q.2.1.length = q.1 ∧ q.2.1.length ≤ q.2.2.1 ∧ q.2.2.1 * 1 ≤ q.2.2.2 ∧ (momsZ ds).2 = (momsZ (ds.drop q.1)).2 ∧ ((momsZ ds).2 = 0 → (momsZ ds).1 = q.2.1 ++ (momsZ (ds.drop q.1)).1)) (1, [(momZ (ds.getD 0 [])).1], cap3, tt3) ?_ ⟨by simp only; omega, rfl, hc3, hc4, hk.1, hk.2⟩) ?_ ?_ rfl rfl rfl
    rotate_left 1
    · exact s_
    · exact s_
    rintro ⟨j, acc, cap3, tt3⟩ ⟨i1, i2, i3, i4, i6, i7⟩ ih
    simp only at i1 i2 i3 i4 i6 i7
    refine LP_round ?_; try dsimp only
    refine w_ ?_
    refine i_ ?_ ?_ <;> intro hj
    · have hj : j < ds.length := by omega
      have hdr := drop_getL hj
      rw [hdr] at i6 i7
      have hyl := (hm2 _ (getD_mem hj)).1
      refine w_ ?_
      rw [show 0 + (j : Int).toNat = j by omega]
      refine WL_call [] (textMoment_tri (ds.getD j []) (by omega)) rfl rfl rfl t_ t_ rfl rfl rfl rfl ?_; rintro _ _ _ ⟨rfl, rfl, rfl⟩
      refine w_ ?_
      refine i_ ?_ ?_ <;> intro r1
      · have r1 : (momZ (ds.getD j [])).2 ≠ 0 := by omega
        have hbad : (momsZ ds).2 = (momZ (ds.getD j [])).2 := by rw [i6]; exact momsZ_badS r1
        refine w_ ?_
        refine W_ren [] (n := 0) (tm' := [(2, .v (.slice none 0 0)), (3, .int .u8 ((momZ (ds.getD j [])).2 : Nat))]) (hp' := []) ?_ s_ s_ rfl rfl rfl
        refine r_ ?_ ?_
        · exact s_
        · exact .inr ⟨by rw [hbad]; exact r1, rfl, rfl, by rw [hbad]⟩
      have r1 : (momZ (ds.getD j [])).2 = 0 := by omega
      have hk := momsZ_ok (l := ds.drop (j + 1)) r1
      refine w_ ?_
      refine WL_app1 (FamI 2 .i64) (acc) ((momZ (ds.getD j [])).1) rfl rfl rfl rfl rfl rfl rfl rfl rfl rfl rfl rfl rfl rfl ?_ ?_ ?_
      · exact ⟨by omega, i4⟩
      · exact ⟨by omega, by show (acc.length + 1) * 8 ≤ _; omega⟩
      intro cap4 tt4 hc3 hc4 _
      refine w_ ?_
      have ih2 := ih (j + 1, acc ++ [(momZ (ds.getD j [])).1], cap4, tt4) ⟨by omega, by simp; omega, by simp at hc3 ⊢; omega, hc4, by rw [i6]; exact hk.1, fun h => by rw [i7 h]; rw [i6] at h; rw [hk.2 h]; simp⟩ (by simp only; omega)
      dsimp only at ih2
      rw [show (acc ++ [(momZ (ds.getD j [])).1]).length = acc.length + 1 by simp] at ih2
      refine LP_ren [0, 3] ih2 ?_ ?_ rfl rfl rfl
      · exact s_
      · exact s_
    · have hj : j = ds.length := by omega
      rw [hj, List.drop_length] at i6 i7
      have i7 := i7 i6
      simp only [momsZ, List.append_nil] at i7
      refine w_ ?_
      refine x_ ?_
      refine w_ ?_
      refine W_ren [1] (n := 1) (tm' := [(2, .sl false 0 1 0 acc.length cap3), (3, .int .u8 0)]) (hp' := [(0, .ints 2 (some tt3) .i64 acc)]) ?_ s_ s_ rfl rfl rfl
      refine r_ ?_ ?_
      · exact s_
      · exact .inl ⟨i6, cap3, tt3, by rw [i7]; exact i3, by omega, rfl, by rw [i7], by rw [i7]⟩
  | [p, x], _ =>
    have hc1 : 2 ≤ cap := hc1
    have hp := (hmem p (by simp)).1
    have hx := (hmem x (by simp)).1
    dsimp only
    refine w_ ?_
    refine W_cond_false rfl ?_
    refine w_ ?_
    refine W_cond_true rfl ?_
    refine w_ ?_
    refine WL_call [] (textSplit_tri 59 p (by omega)) rfl rfl rfl (s_) (s_) rfl rfl rfl rfl ?_
    rintro _ _ _ ⟨cap1, tt1, hp1, hp2, rfl, rfl, rfl⟩
    have hmp := splitB_mem 59 p
    have hcp := splitB_count 59 p
    generalize splitB 59 p = ps at *
    refine w_ ?_
    refine W_loop ?_; refine LP_ren [0, 1] (LP_ind 2 (fun j : Nat => ([(4, .sl false 0 1 0 2 cap), (26, .sl false 1 1 0 ps.length cap1), (27, .int .i64 ps.length), (28, .int .i64 j)], [(0, .strs 9 (some tt) [p, x]), (1, .strs 9 (some tt1) ps)])) (fun j => ps.length - j) (fun j => j ≤ ps.length ∧ parsZ ps = parsZ (ps.drop j)) 0 ?_ (⟨Nat.zero_le _, rfl⟩)) s_ s_ rfl rfl rfl
    rintro j ⟨i1, i2⟩ ih
    refine LP_round ?_; try dsimp only
    refine w_ ?_
    refine i_ ?_ ?_ <;> intro hj
    · have hj : j < ps.length := by omega
      rw [drop_getL hj] at i2
      refine w_ ?_
      rw [show 0 + (j : Int).toNat = j by omega]
      have hql := (hmp _ (getD_mem hj)).1
      obtain ⟨q, hq⟩ : ∃ q, q = ps.getD j [] := ⟨_, rfl⟩
      rw [← hq] at i2 hql ⊢
      rw [parsZ] at i2
      refine j_ 35 ?_ ?_ <;> intro h1
      · have h1 : q = TZU := h1
        rw [if_pos (.inl h1)] at i2
        refine w_ ?_
        refine W_cond_true rfl ?_
        refine w_ ?_
        refine LP_ren [0, 1] (ih (j + 1) (⟨by omega, i2⟩) (by omega)) s_ s_ rfl rfl rfl
      have h1 : ¬ q = TZU := h1
      refine w_ ?_
      refine j_ 39 ?_ ?_ <;> intro h2
      · have h2 : q = VDT := h2
        rw [if_pos (.inr (.inl h2))] at i2
        refine w_ ?_
        refine W_cond_true rfl ?_
        refine w_ ?_
        refine LP_ren [0, 1] (ih (j + 1) (⟨by omega, i2⟩) (by omega)) s_ s_ rfl rfl rfl
      have h2 : ¬ q = VDT := h2
      refine w_ ?_
      refine i_ ?_ ?_ <;> intro h3
      · have h3 : q = VD := h3
        rw [if_pos (.inr (.inr h3))] at i2
        refine w_ ?_
        refine LP_ren [0, 1] (ih (j + 1) (⟨by omega, i2⟩) (by omega)) s_ s_ rfl rfl rfl
      have h3 : ¬ q = VD := h3
      rw [if_neg (by simp [h1, h2, h3])] at i2
      refine w_ ?_
      refine WL_call [] (textBegins_tri q TZ (by omega) (by decide)) rfl rfl rfl t_ t_ rfl rfl rfl rfl ?_; rintro _ _ _ ⟨rfl, rfl, rfl⟩
      by_cases h4 : Lib.hasPrefix q TZ = true
      · rw [if_pos h4] at i2
        rw [h4, if_neg (by omega), i2]
        refine w_ ?_
        refine W_cond_true rfl ?_
        refine w_ ?_
        refine W_ren [] (n := 0) (tm' := [(2, .v (.slice none 0 0)), (3, .int .u8 2)]) (hp' := []) ?_ s_ s_ rfl rfl rfl
        refine r_ ?_ ?_
        · exact s_
        · exact .inr ⟨by decide, rfl, rfl, rfl⟩
      · rw [if_neg h4] at i2
        have h4 : Lib.hasPrefix q TZ = false := by simpa using h4
        rw [h4, if_neg (by omega), i2]
        refine w_ ?_
        refine W_cond_false rfl ?_
        refine w_ ?_
        refine W_ren [] (n := 0) (tm' := [(2, .v (.slice none 0 0)), (3, .int .u8 1)]) (hp' := []) ?_ s_ s_ rfl rfl rfl
        refine r_ ?_ ?_
        · exact s_
        · exact .inr ⟨by decide, rfl, rfl, rfl⟩
    · have hj : j = ps.length := by omega
      rw [hj, List.drop_length] at i2
      have i2 : parsZ ps = 0 := i2
      rw [if_pos i2]
      refine w_ ?_
      refine x_ ?_
      refine w_ ?_
      refine WL_ren [] (n := 0) (tm' := [(7, .v (.slice none 0 0)), (52, .str x)]) (hp' := []) ?_ s_ s_ rfl rfl rfl
      refine WL_call [] (textSplit_tri 44 x (by omega)) rfl rfl rfl (s_) (s_) rfl rfl rfl rfl ?_
      rintro _ _ _ ⟨cap2, tt2, hd1, hd2, rfl, rfl, rfl⟩
      have hm2 := splitB_mem 44 x
      have hne2 := splitB_ne 44 x
      have hcnt := splitB_count 44 x
      generalize splitB 44 x = ds at *
      have hpos : 0 < ds.length := List.length_pos_iff.2 hne2
      refine w_ ?_
      refine W_loop ?_
      refine LP_round ?_
      refine w_ ?_
      refine i_ ?_ ?_ <;> intro hj
      rotate_left 1
      · exfalso; omega
      have hdr : ds = ds.getD 0 [] :: ds.drop 1 := by have := drop_getL hpos; simpa using this
      have hyl := (hm2 _ (getD_mem hpos)).1
      refine w_ ?_
      refine WL_call [] (textMoment_tri (ds.getD 0 []) (by omega)) rfl rfl rfl t_ t_ rfl rfl rfl rfl ?_; rintro _ _ _ ⟨rfl, rfl, rfl⟩
      refine w_ ?_
      refine i_ ?_ ?_ <;> intro r1
      · have r1 : (momZ (ds.getD 0 [])).2 ≠ 0 := by omega
        have hbad : (momsZ ds).2 = (momZ (ds.getD 0 [])).2 := by rw [hdr]; exact momsZ_badS r1
        refine w_ ?_
        refine W_ren [] (n := 0) (tm' := [(2, .v (.slice none 0 0)), (3, .int .u8 ((momZ (ds.getD 0 [])).2 : Nat))]) (hp' := []) ?_ s_ s_ rfl rfl rfl
        refine r_ ?_ ?_
        · exact s_
        · exact .inr ⟨by rw [hbad]; exact r1, rfl, rfl, by rw [hbad]⟩
      have r1 : (momZ (ds.getD 0 [])).2 = 0 := by omega
      have hk := momsZ_ok (l := ds.drop 1) r1
      rw [← hdr] at hk
      refine w_ ?_
      refine WL_app0 (FamI 2 .i64) ((momZ (ds.getD 0 [])).1) rfl rfl rfl rfl rfl rfl rfl rfl rfl rfl rfl rfl rfl (by decide) ?_
      intro cap3 tt3 hc3 hc4
      refine w_ ?_
      refine LP_ren [0, 2] (LP_ind 2 (fun q : Nat × List Int × Nat × Nat => ([(7, .sl false 1 1 0 q.2.1.length q.2.2.1), (53, .sl false 0 1 0 ds.length cap2), (54, .int .i64 ds.length), (55, .int .i64 q.1)], [(0, .strs 9 (some tt2) ds), (1, .ints 2 (some q.2.2.2) .i64 q.2.1)])) (fun q => ds.length - q.1)
        (fun q => q.1 ≤ ds.length ∧ q.2.1.length = q.1 ∧ q.2.1.length ≤ q.2.2.1 ∧ q.2.2.1 * 1 ≤ q.2.2.2 ∧ (momsZ ds).2 = (momsZ (ds.drop q.1)).2 ∧ ((momsZ ds).2 = 0 → (momsZ ds).1 = q.2.1 ++ (momsZ (ds.drop q.1)).1)) (1, [(momZ (ds.getD 0 [])).1], cap3, tt3) ?_ ⟨by simp only; omega, rfl, hc3, hc4, hk.1, hk.2⟩) ?_ ?_ rfl rfl rfl
      rotate_left 1
      · exact s_
      · exact s_
      rintro ⟨j, acc, cap3, tt3⟩ ⟨i1, i2, i3, i4, i6, i7⟩ ih
      simp only at i1 i2 i3 i4 i6 i7
      refine LP_round ?_; try dsimp only
      refine w_ ?_
      refine i_ ?_ ?_ <;> intro hj
      · have hj : j < ds.length := by omega
        have hdr := drop_getL hj
        rw [hdr] at i6 i7
        have hyl := (hm2 _ (getD_mem hj)).1
        refine w_ ?_
        rw [show 0 + (j : Int).toNat = j by omega]
        refine WL_call [] (textMoment_tri (ds.getD j []) (by omega)) rfl rfl rfl t_ t_ rfl rfl rfl rfl ?_; rintro _ _ _ ⟨rfl, rfl, rfl⟩
        refine w_ ?_
        refine i_ ?_ ?_ <;> intro r1
        · have r1 : (momZ (ds.getD j [])).2 ≠ 0 := by omega
          have hbad : (momsZ ds).2 = (momZ (ds.getD j [])).2 := by rw [i6]; exact momsZ_badS r1
          refine w_ ?_
          refine W_ren [] (n := 0) (tm' := [(2, .v (.slice none 0 0)), (3, .int .u8 ((momZ (ds.getD j [])).2 : Nat))]) (hp' := []) ?_ s_ s_ rfl rfl rfl
          refine r_ ?_ ?_
          · exact s_
          · exact .inr ⟨by rw [hbad]; exact r1, rfl, rfl, by rw [hbad]⟩
        have r1 : (momZ (ds.getD j [])).2 = 0 := by omega
        have hk := momsZ_ok (l := ds.drop (j + 1)) r1
        refine w_ ?_
        refine WL_app1 (FamI 2 .i64) (acc) ((momZ (ds.getD j [])).1) rfl rfl rfl rfl rfl rfl rfl rfl rfl rfl rfl rfl rfl rfl ?_ ?_ ?_
        · exact ⟨by omega, i4⟩
        · exact ⟨by omega, by show (acc.length + 1) * 8 ≤ _; omega⟩
        intro cap4 tt4 hc3 hc4 _
        refine w_ ?_
        have ih2 := ih (j + 1, acc ++ [(momZ (ds.getD j [])).1], cap4, tt4) ⟨by omega, by simp; omega, by simp at hc3 ⊢; omega, hc4, by rw [i6]; exact hk.1, fun h => by rw [i7 h]; rw [i6] at h; rw [hk.2 h]; simp⟩ (by simp only; omega)
        dsimp only at ih2
        rw [show (acc ++ [(momZ (ds.getD j [])).1]).length = acc.length + 1 by simp] at ih2
        refine LP_ren [0, 3] ih2 ?_ ?_ rfl rfl rfl
        · exact s_
        · exact s_
      · have hj : j = ds.length := by omega
        rw [hj, List.drop_length] at i6 i7
        have i7 := i7 i6
        simp only [momsZ, List.append_nil] at i7
        refine w_ ?_
        refine x_ ?_
        refine w_ ?_
        refine W_ren [1] (n := 1) (tm' := [(2, .sl false 0 1 0 acc.length cap3), (3, .int .u8 0)]) (hp' := [(0, .ints 2 (some tt3) .i64 acc)]) ?_ s_ s_ rfl rfl rfl
        refine r_ ?_ ?_
        · exact s_
        · exact .inl ⟨i6, cap3, tt3, by rw [i7]; exact i3, by omega, rfl, by rw [i7], by rw [i7]⟩
  | a :: b :: c :: l, _ =>
    have e : ((a :: b :: c :: l).length : Int) > 2 := by simp; omega
    refine w_ ?_
    refine i_ ?_ ?_ <;> intro hz
    rotate_left 1
    · exact absurd e hz
    refine w_ ?_
    refine W_ren [] (n := 0) (tm' := [(2, .v (.slice none 0 0)), (3, .int .u8 1)]) (hp' := []) ?_ s_ s_ rfl rfl rfl
    refine r_ ?_ ?_
    · exact s_
    · exact .inr ⟨Nat.one_ne_zero, rfl, rfl, rfl⟩
end Go.Eng
