/- A part of the proof that the rows statement FnSetAny holds: the engine of abstract states, the walks through the program, the bridge; no conditions. -/
import Derived.Test.YthkgjhnckakliaaGreatDoorZAO
import Derived.Test.YthkgjhnckakliaaGreatDoorZAS
set_option linter.unusedVariables false
set_option linter.unusedSimpArgs false
set_option linter.unusedSectionVars false
namespace Go.Eng
open Go.Proofs
attribute [local irreducible] W WL LP Then InBl Tri WS
def ascB : List UInt8 → Bool
  | [] => true
  | b :: l => if (b.toNat : Int) ≥ 128 then false else ascB l
theorem ascB_iff : ∀ {l : List UInt8}, ascB l = true ↔ asc l
  | [] => by simp [ascB, asc]
  | b :: l => by
    simp only [ascB]
    have ih := ascB_iff (l := l)
    constructor
    · intro h
      split at h
      · cases h
      · intro x hx
        rcases List.mem_cons.1 hx with rfl | hx
        · omega
        · exact ih.1 h x hx
    · intro h
      have h1 := h b (by simp)
      rw [if_neg (by omega)]
      exact ih.2 fun x hx => h x (List.mem_cons_of_mem _ hx)
theorem textASCII_tri (s : List UInt8) (hs : s.length ≤ 1073741824) : Tri C0 72 0 [] [.str s] (fun k hp r => k = 0 ∧ hp = [] ∧ r = .bool (ascB s)) := by
  refine Tri.keep (Tri.mk 14 [.tmp 2] Tryz.func72 rfl rfl rfl rfl cf72 ?_) t_ (fun r h => q_); intro w0 S T ρ0
  refine w_ ?_
  refine W_loop ?_; refine LP_ren [] (LP_ind 0 (fun i : Nat => ([(0, .str s), (5, .int .i64 s.length), (6, .int .i64 i)], [])) (fun i => s.length - i) (fun i => i ≤ s.length ∧ ascB s = ascB (s.drop i)) 0 ?_ (⟨Nat.zero_le _, by simp⟩)) s_ s_ rfl rfl rfl
  rintro i ⟨hi, hc⟩ ih
  refine LP_round ?_; try dsimp only
  refine w_ ?_
  refine i_ ?_ ?_ <;> intro h
  · have h : i < s.length := by omega
    rw [drop_getB h, ascB] at hc
    refine w_ ?_
    refine i_ ?_ ?_ <;> intro h3
    · rw [bt_nat] at h3
      rw [if_pos h3] at hc
      rw [hc]
      refine w_ ?_
      refine k_ ?_
      rfl
    · rw [bt_nat] at h3
      rw [if_neg h3] at hc
      refine w_ ?_
      refine LP_ren [] (ih (i + 1) (⟨by omega, hc⟩) (by omega)) s_ s_ rfl rfl rfl
  · have h : i = s.length := by omega
    rw [h, List.drop_length, ascB] at hc
    rw [hc]
    refine w_ ?_
    refine x_ ?_
    refine w_ ?_
    refine k_ ?_
    rfl
theorem blank_tri (c : Int) (hc : 0 ≤ c ∧ c ≤ 255) : Tri C0 141 0 [] [.int .u8 c] (fun k hp r => k = 0 ∧ hp = [] ∧ r = .bool (decide (c = 32) || (decide (9 ≤ c) && decide (c ≤ 13)))) := by
  refine Tri.keep (Tri.mk 13 [.tmp 2] Tryz.func141 rfl rfl rfl rfl cf141 ?_) t_ (fun r h => q_); intro w0 S T ρ0
  refine w_ ?_
  refine j_ 5 ?_ ?_ <;> intro h
  · refine w_ ?_
    refine k_ ?_
    simp [h]; rfl
  · refine w_ ?_
    refine j_ 8 ?_ ?_ <;> intro h2
    · refine w_ ?_
      refine k_ ?_
      have h2 : 9 ≤ c := h2
      simp [h, h2]
    · refine w_ ?_
      refine k_ ?_
      have h2 : ¬ 9 ≤ c := h2
      simp [h, h2]; rfl
theorem isSp_nat (b : UInt8) : Lib.isSp b = (decide ((b.toNat : Int) = 32) || (decide (9 ≤ (b.toNat : Int)) && decide ((b.toNat : Int) ≤ 13))) := by
  rw [Bool.eq_iff_iff]; simp [Lib.isSp, ← UInt8.toNat_inj]; omega
theorem rev_last {x : List UInt8} (h : 0 < x.length) : x.reverse = x.getD (x.length - 1) 0 :: (x.take (x.length - 1)).reverse := by
  have h1 : x = x.take (x.length - 1) ++ [x.getD (x.length - 1) 0] := by
    have := List.take_append_drop (x.length - 1) x
    rw [drop_getB (by omega), List.drop_of_length_le (by omega)] at this
    exact this.symm
  have := congrArg List.reverse h1
  rw [List.reverse_append] at this
  simpa using this
theorem textTrim_tri (s : List UInt8) (hs : s.length ≤ 1073741824) : Tri C0 77 0 [] [.str s] (fun k hp r => k = 0 ∧ hp = [] ∧ r = .str (Lib.trimSpace s)) := by
  refine Tri.keep (Tri.mk 31 [.tmp 2] Tryz.func77 rfl rfl rfl rfl cf77 ?_) t_ (fun r h => q_); intro w0 S T ρ0
  refine w_ ?_
  refine W_loop ?_; refine LP_ren [] (LP_ind 0 (fun x : List UInt8 => ([(0, .str x), (3, .fn (.func 141) [] [])], [])) (fun x => x.length) (fun x => x.length ≤ s.length ∧ s.dropWhile Lib.isSp = x.dropWhile Lib.isSp) s ?_ (⟨Nat.le_refl _, rfl⟩)) s_ s_ rfl rfl rfl
  rintro x ⟨hx, hc⟩ ih
  refine LP_round ?_; try dsimp only
  refine w_ ?_
  refine j_ 6 ?_ ?_ <;> intro h
  · have h : 0 < x.length := List.length_pos_iff.2 h
    have hb := isSp_nat (x.getD 0 0)
    have hb0 := bt_nat x 0
    rw [← hb0] at hb
    refine w_ ?_
    refine WL_call [] (blank_tri (bt x 0) (by rw [bt]; have := (x.getD (Int.toNat 0) 0).toNat_lt; omega)) rfl rfl rfl t_ t_ rfl rfl rfl rfl ?_; rintro _ _ _ ⟨rfl, rfl, rfl⟩
    refine w_ ?_
    refine W_cond rfl (fun h2 => ?_) (fun h2 => ?_)
    · have h2 : Lib.isSp (x.getD 0 0) = true := by rw [hb]; exact h2
      have e : x = x.getD 0 0 :: x.drop 1 := by have := drop_getB h; simpa using this
      rw [e, List.dropWhile_cons, if_pos h2] at hc
      have hm : (x.drop 1).length < x.length := by simp; omega
      refine w_ ?_
      refine LP_ren [] (ih (x.drop 1) (⟨by simp; omega, hc⟩) (hm)) s_ s_ rfl rfl rfl
    · have h2 : Lib.isSp (x.getD 0 0) = false := by rw [hb]; exact h2
      clear hb hb0
      have e : x = x.getD 0 0 :: x.drop 1 := by have := drop_getB h; simpa using this
      have e2 : x.dropWhile Lib.isSp = x := by rw [e, List.dropWhile_cons, if_neg (by rw [h2]; simp)]
      rw [e2] at hc
      refine w_ ?_
      refine x_ ?_
      refine w_ ?_
      rw [Lib.trimSpace, hc]
      refine W_loop ?_; refine LP_ren [] (LP_ind 0 (fun x : List UInt8 => ([(0, .str x), (3, .fn (.func 141) [] [])], [])) (fun x => x.length) (fun y => y.length ≤ s.length ∧ x.reverse.dropWhile Lib.isSp = y.reverse.dropWhile Lib.isSp) x ?_ (⟨hx, rfl⟩)) s_ s_ rfl rfl rfl
      rintro y ⟨hy, hd⟩ ih
      refine LP_round ?_; try dsimp only
      refine w_ ?_
      refine j_ 16 ?_ ?_ <;> intro h1
      · have h1 : 0 < y.length := List.length_pos_iff.2 h1
        have e1 : ((y.length : Int) - 1).toNat = y.length - 1 := by omega
        have e2 : bt y ((y.length : Int) - 1) = ((y.getD (y.length - 1) 0).toNat : Int) := by rw [bt, e1]
        have hb := isSp_nat (y.getD (y.length - 1) 0)
        rw [← e2] at hb
        rw [rev_last h1, List.dropWhile_cons] at hd
        refine w_ ?_
        refine WL_call [] (blank_tri (bt y ((y.length : Int) - 1)) (by rw [e2]; have := (y.getD (y.length - 1) 0).toNat_lt; omega)) rfl rfl rfl t_ t_ rfl rfl rfl rfl ?_; rintro _ _ _ ⟨rfl, rfl, rfl⟩
        rw [← hb]
        refine w_ ?_
        refine W_cond rfl (fun h2 => ?_) (fun h2 => ?_)
        · rw [if_pos h2] at hd
          refine w_ ?_
          rw [e1]
          have hm : (y.take (y.length - 1)).length < y.length := by simp; omega
          refine LP_ren [] (ih (y.take (y.length - 1)) (⟨by simp; omega, hd⟩) (hm)) s_ s_ rfl rfl rfl
        · rw [if_neg (by rw [h2]; simp)] at hd
          rw [hd, ← rev_last h1, List.reverse_reverse]
          refine w_ ?_
          refine x_ ?_
          refine w_ ?_
          refine k_ ?_
          rfl
      · have h1 : y = [] := h1
        rw [hd, h1]
        refine w_ ?_
        refine W_cond_false rfl ?_
        refine w_ ?_
        refine x_ ?_
        refine w_ ?_
        refine k_ ?_
        rfl
  · have h : x = [] := h
    have e2 : x.dropWhile Lib.isSp = x := by rw [h]; rfl
    rw [e2] at hc
    refine w_ ?_
    refine W_cond_false rfl ?_
    refine w_ ?_
    refine x_ ?_
    refine w_ ?_
    rw [Lib.trimSpace, hc]
    refine W_loop ?_; refine LP_ren [] (LP_ind 0 (fun x : List UInt8 => ([(0, .str x), (3, .fn (.func 141) [] [])], [])) (fun x => x.length) (fun y => y.length ≤ s.length ∧ x.reverse.dropWhile Lib.isSp = y.reverse.dropWhile Lib.isSp) x ?_ (⟨hx, rfl⟩)) s_ s_ rfl rfl rfl
    rintro y ⟨hy, hd⟩ ih
    refine LP_round ?_; try dsimp only
    refine w_ ?_
    refine j_ 16 ?_ ?_ <;> intro h1
    · have h1 : 0 < y.length := List.length_pos_iff.2 h1
      have e1 : ((y.length : Int) - 1).toNat = y.length - 1 := by omega
      have e2 : bt y ((y.length : Int) - 1) = ((y.getD (y.length - 1) 0).toNat : Int) := by rw [bt, e1]
      have hb := isSp_nat (y.getD (y.length - 1) 0)
      rw [← e2] at hb
      rw [rev_last h1, List.dropWhile_cons] at hd
      refine w_ ?_
      refine WL_call [] (blank_tri (bt y ((y.length : Int) - 1)) (by rw [e2]; have := (y.getD (y.length - 1) 0).toNat_lt; omega)) rfl rfl rfl t_ t_ rfl rfl rfl rfl ?_; rintro _ _ _ ⟨rfl, rfl, rfl⟩
      rw [← hb]
      refine w_ ?_
      refine W_cond rfl (fun h2 => ?_) (fun h2 => ?_)
      · rw [if_pos h2] at hd
        refine w_ ?_
        rw [e1]
        have hm : (y.take (y.length - 1)).length < y.length := by simp; omega
        refine LP_ren [] (ih (y.take (y.length - 1)) (⟨by simp; omega, hd⟩) (hm)) s_ s_ rfl rfl rfl
      · rw [if_neg (by rw [h2]; simp)] at hd
        rw [hd, ← rev_last h1, List.reverse_reverse]
        refine w_ ?_
        refine x_ ?_
        refine w_ ?_
        refine k_ ?_
        rfl
    · have h1 : y = [] := h1
      rw [hd, h1]
      refine w_ ?_
      refine W_cond_false rfl ?_
      refine w_ ?_
      refine x_ ?_
      refine w_ ?_
      refine k_ ?_
      rfl
end Go.Eng
namespace Go.Eng
open Go.Proofs
attribute [local irreducible] W WL LP Then InBl Tri WS
theorem textBegins_tri (s p : List UInt8) (hs : s.length ≤ 1073741824) (hp : p.length ≤ 1073741824) : Tri C0 78 0 [] [.str s, .str p] (fun k hp r => k = 0 ∧ hp = [] ∧ r = .bool (Lib.hasPrefix s p)) := by
  have hpre : Lib.hasPrefix s p = true ↔ p.length ≤ s.length ∧ s.take p.length = p := by
    rw [Lib.hasPrefix, List.isPrefixOf_iff_prefix, List.prefix_iff_eq_take]
    constructor
    · intro h; exact ⟨by rw [h]; simp; omega, h.symm⟩
    · intro h; exact h.2.symm
  refine Tri.keep (Tri.mk 18 [.tmp 4] Tryz.func78 rfl rfl rfl rfl cf78 ?_) t_ (fun r h => q_); intro w0 S T ρ0
  refine w_ ?_
  refine j_ 10 ?_ ?_ <;> intro h
  · have h : p.length ≤ s.length := by omega
    refine w_ ?_
    refine k_ ?_
    have e : ((p.length : Int)).toNat = p.length := by simp
    rw [e]
    have : (s.take p.length == p) = Lib.hasPrefix s p := by
      rw [Bool.eq_iff_iff, hpre]; simp [h]
    rw [this]
  · refine w_ ?_
    refine k_ ?_
    have : Lib.hasPrefix s p = false := by
      rw [← Bool.not_eq_true, hpre]; omega
    rw [this]; rfl
theorem cutB_drop {c : UInt8} {s : List UInt8} {f i : Nat} (h1 : f ≤ i) (h2 : i < s.length) (h : ∀ j, f ≤ j → j < i → ¬ s.getD j 0 = c) (hc : s.getD i 0 = c) : cutB c (s.drop f) = i - f := by
  induction hn : i - f generalizing f with
  | zero =>
    have : f = i := by omega
    subst this
    rw [drop_getB h2, cutB, if_pos hc]
  | succ n ih =>
    rw [drop_getB (by omega), cutB, if_neg (h f (Nat.le_refl _) (by omega)), ih (by omega) (fun j h3 h4 => h j (by omega) h4) (by omega)]
theorem cutB_all {c : UInt8} {s : List UInt8} {f : Nat} (h1 : f ≤ s.length) (h : ∀ j, f ≤ j → j < s.length → ¬ s.getD j 0 = c) : cutB c (s.drop f) = s.length - f := by
  induction hn : s.length - f generalizing f with
  | zero => rw [List.drop_of_length_le (by omega), cutB]
  | succ n ih =>
    rw [drop_getB (by omega), cutB, if_neg (h f (Nat.le_refl _) (by omega)), ih (by omega) (fun j h3 h4 => h j (by omega) h4) (by omega)]
theorem textSplit_tri (c : UInt8) (s : List UInt8) (hs : s.length ≤ 1073741824) : Tri C0 76 0 [] [.str s, .int .u8 c.toNat] (fun k hp r => ∃ cap tt, (splitB c s).length ≤ cap ∧ cap ≤ tt ∧ k = 1 ∧ hp = [(0, .strs 9 (some tt) (splitB c s))] ∧ r = .sl false 0 1 0 (splitB c s).length cap) := by
  refine Tri.mk 35 [.tmp 4] Tryz.func76 rfl rfl rfl rfl cf76 ?_; intro w0 S T ρ0
  refine w_ ?_
  refine W_conv 0 (.strs 9 (some 0) []) rfl rfl rfl rfl (.inr rfl) ⟨[], rfl⟩ ?_
  refine W_loop ?_; refine LP_ren [0] (LP_ind 1 (fun q : Nat × Nat × List (List UInt8) × Nat × Nat => ([(0, .str s), (1, .int .u8 c.toNat), (5, .sl false 0 1 0 q.2.2.1.length q.2.2.2.1), (6, .int .i64 q.2.1), (10, .int .i64 s.length), (11, .int .i64 q.1)], [(0, .strs 9 (some q.2.2.2.2) q.2.2.1)])) (fun q => s.length - q.1) (fun q => q.1 ≤ s.length ∧ q.2.1 ≤ q.1 ∧ q.2.2.1.length ≤ q.2.1 ∧ q.2.2.1.length ≤ q.2.2.2.1 ∧ q.2.2.2.1 ≤ q.2.2.2.2 ∧ splitB c s = q.2.2.1 ++ splitB c (s.drop q.2.1) ∧ (∀ j, q.2.1 ≤ j → j < q.1 → ¬ s.getD j 0 = c)) (0, 0, [], 0, 0) ?_ (⟨Nat.zero_le _, Nat.le_refl _, by simp, by simp, by simp, by simp, fun j h1 h2 => absurd h2 (Nat.not_lt_zero _)⟩)) s_ s_ rfl rfl rfl
  rintro ⟨i, f, out, cap, tt⟩ ⟨i1, i2, i3, i4, i5, i6, i7⟩ ih
  simp only at i1 i2 i3 i4 i5 i6 i7
  refine LP_round ?_; try dsimp only
  refine w_ ?_
  refine i_ ?_ ?_ <;> intro h
  · have h : i < s.length := by omega
    refine w_ ?_
    refine i_ ?_ ?_ <;> intro h2
    · have h2 : s.getD i 0 = c := by rw [bt_nat] at h2; exact UInt8.toNat_inj.1 (by omega)
      have hcut := cutB_drop i2 h i7 h2
      have hz : splitB c (s.drop f) = (s.drop f).take (i - f) :: splitB c (s.drop (i + 1)) := by
        rw [splitB_cut, hcut, if_pos (by simp; omega), List.drop_drop]
        have : f + (i - f + 1) = i + 1 := by omega
        rw [this]
      have e0 : (s.take i).drop f = (s.drop f).take (i - f) := List.drop_take ..
      refine w_ ?_
      rw [Int.toNat_natCast, Int.toNat_natCast, e0]
      refine WL_app1 (FamS 9) (out) ((s.drop f).take (i - f)) rfl rfl rfl rfl rfl rfl rfl rfl rfl rfl rfl rfl rfl rfl ?_ ?_ ?_
      · exact ⟨i4, by omega⟩
      · exact ⟨by omega, by show (out.length + 1) * 16 ≤ _; omega⟩
      intro cap' tt' h3 h4 _
      refine w_ ?_
      have ih2 := ih (i + 1, i + 1, out ++ [(s.drop f).take (i - f)], cap', tt') ⟨h, Nat.le_refl _, by simp; omega, by simpa using h3, by simp only; omega, by rw [i6, hz]; simp, fun j h5 h6 => absurd h6 (by simp only at h5 ⊢; omega)⟩ (by simp only; omega)
      dsimp only at ih2
      rw [List.length_append] at ih2
      refine LP_ren [2] ih2 ?_ ?_ rfl rfl rfl
      · exact s_
      · exact s_
    · have h2 : ¬ s.getD i 0 = c := by rw [bt_nat] at h2; intro e; rw [e] at h2; exact h2 rfl
      refine w_ ?_
      refine LP_ren [0] (ih (i + 1, f, out, cap, tt) ⟨h, by simp only; omega, i3, i4, i5, i6, fun j h3 h4 => ?_⟩ (by simp only; omega)) ?_ ?_ rfl rfl rfl
      · by_cases h5 : j = i
        · rw [h5]; exact h2
        · exact i7 j h3 (by simp only at h4; omega)
      · exact s_
      · exact s_
  · have h : i = s.length := by omega
    subst h
    have hcut := cutB_all (by omega) i7
    have hz : splitB c (s.drop f) = [s.drop f] := by rw [splitB_cut, hcut, if_neg (by simp)]
    refine w_ ?_
    refine x_ ?_
    refine w_ ?_
    rw [Int.toNat_natCast]
    refine WL_app1 (FamS 9) (out) (s.drop f) rfl rfl rfl rfl rfl rfl rfl rfl rfl rfl rfl rfl rfl rfl ?_ ?_ ?_
    · exact ⟨i4, by omega⟩
    · exact ⟨by omega, by show (out.length + 1) * 16 ≤ _; omega⟩
    intro cap' tt' h3 h4 _
    refine w_ ?_
    refine W_ren [2] (n := 1) (tm' := [(4, .sl false 0 1 0 (out.length + 1) cap')]) (hp' := [(0, .strs 9 (some tt') (out ++ [s.drop f]))]) ?_ s_ s_ rfl rfl rfl
    refine r_ ?_ ?_
    · trivial
    · exact ⟨cap', tt', by rw [i6, hz]; simpa using h3, by omega, rfl, by rw [i6, hz], by rw [i6, hz]; simp⟩
end Go.Eng
namespace Go.Eng
open Go.Proofs
attribute [local irreducible] W WL LP Then InBl Tri WS
def upTo (i : Nat) (s : List UInt8) : List UInt8 := (s.take i).map Lib.upperB ++ s.drop i
theorem upTo_zero (s : List UInt8) : upTo 0 s = s := by simp [upTo]
theorem upTo_all (s : List UInt8) : upTo s.length s = Lib.toUpperA s := by simp [upTo, Lib.toUpperA]
theorem upTo_length (i : Nat) (s : List UInt8) : (upTo i s).length = s.length := by simp [upTo]; omega
theorem upperB_nat (b : UInt8) : ((Lib.upperB b).toNat : Int) = if (b.toNat : Int) ≥ 97 ∧ (b.toNat : Int) ≤ 122 then (b.toNat : Int) - 32 else b.toNat := by
  simp only [Lib.upperB]
  have e1 : (97 : UInt8).toNat = 97 := rfl
  have e2 : (122 : UInt8).toNat = 122 := rfl
  have e3 : (32 : UInt8).toNat = 32 := rfl
  by_cases h : Lib.isLowerB b = true
  · rw [if_pos h]
    simp only [Lib.isLowerB, Bool.and_eq_true, decide_eq_true_eq] at h
    have h1 : (97 : UInt8).toNat ≤ b.toNat := h.1
    have h3 : b.toNat ≤ (122 : UInt8).toNat := h.2
    have h2 : (b - 32).toNat = b.toNat - 32 := UInt8.toNat_sub_of_le _ _ (by show (32 : UInt8).toNat ≤ b.toNat; omega)
    rw [if_pos (by omega), h2]; omega
  · rw [if_neg h, if_neg]
    intro h1
    apply h
    simp only [Lib.isLowerB, Bool.and_eq_true, decide_eq_true_eq]
    exact ⟨by show (97 : UInt8).toNat ≤ b.toNat; omega, by show b.toNat ≤ (122 : UInt8).toNat; omega⟩
theorem numsOf_append (a b : List UInt8) : numsOf (a ++ b) = numsOf a ++ numsOf b := by simp [numsOf]
theorem numsOf_cons (a : UInt8) (b : List UInt8) : numsOf (a :: b) = (a.toNat : Int) :: numsOf b := by simp [numsOf]
theorem upTo_parts {i : Nat} {s : List UInt8} (h : i < s.length) : upTo i s = (s.take i).map Lib.upperB ++ s.getD i 0 :: s.drop (i + 1) ∧ upTo (i + 1) s = (s.take i).map Lib.upperB ++ Lib.upperB (s.getD i 0) :: s.drop (i + 1) := by
  constructor
  · rw [upTo, drop_getB h]
  · rw [upTo]
    have : s.take (i + 1) = s.take i ++ [s.getD i 0] := by
      rw [List.take_add_one]; simp [List.getD, h]
    rw [this]; simp
theorem upTo_set {i : Nat} {s : List UInt8} (h : i < s.length) {v : Int} (hv : v = ((Lib.upperB (s.getD i 0)).toNat : Int)) : (numsOf (upTo i s)).set i v = numsOf (upTo (i + 1) s) := by
  obtain ⟨h1, h2⟩ := upTo_parts h
  rw [h1, h2, numsOf_append, numsOf_append, numsOf_cons, numsOf_cons, List.set_append_right _ _ (by rw [numsOf_length, List.length_map, List.length_take]; omega)]
  have : i - (numsOf ((s.take i).map Lib.upperB)).length = 0 := by rw [numsOf_length, List.length_map, List.length_take]; omega
  rw [this, List.set_cons_zero, hv]
theorem upTo_same {i : Nat} {s : List UInt8} (h : i < s.length) (hv : ((s.getD i 0).toNat : Int) = ((Lib.upperB (s.getD i 0)).toNat : Int)) : numsOf (upTo i s) = numsOf (upTo (i + 1) s) := by
  obtain ⟨h1, h2⟩ := upTo_parts h
  rw [h1, h2, numsOf_append, numsOf_append, numsOf_cons, numsOf_cons, hv]
theorem upTo_getD {i : Nat} {s : List UInt8} (h : i < s.length) : (numsOf (upTo i s)).getD i 0 = bt s i := by
  obtain ⟨h1, h2⟩ := upTo_parts h
  have h3 : (numsOf ((s.take i).map Lib.upperB)).length = i := by rw [numsOf_length, List.length_map, List.length_take]; omega
  rw [h1, numsOf_append, numsOf_cons, bt_nat, List.getD_eq_getElem?_getD, List.getElem?_append_right (by omega), h3]
  simp
theorem textUpper_tri (s : List UInt8) (hs : s.length ≤ 1073741824) : Tri C0 139 0 [] [.str s] (fun k hp r => k = 0 ∧ hp = [] ∧ r = .str (Lib.toUpperA s)) := by
  refine Tri.keep (Tri.mk 29 [.tmp 2] Tryz.func139 rfl rfl rfl rfl cf139 ?_) t_ (fun r h => q_); intro w0 S T ρ0
  refine w_ ?_
  refine WL_bytes rfl rfl rfl rfl rfl rfl rfl rfl rfl ?_
  intro c hc
  have e0 : numsOf s = numsOf (upTo 0 s) := by rw [upTo_zero]
  rw [e0]
  refine w_ ?_
  refine W_loop ?_; refine LP_ren [0] (LP_ind 1 (fun i : Nat => ([(3, .sl false 0 1 0 s.length c), (8, .sl false 0 1 0 s.length c), (9, .int .i64 s.length), (10, .int .i64 i)], [(0, .ints 5 (some c) .u8 (numsOf (upTo i s)))])) (fun i => s.length - i) (fun i => i ≤ s.length) 0 ?_ (Nat.zero_le _)) s_ s_ rfl rfl rfl
  rintro i hi ih
  have hlen : (numsOf (upTo i s)).length = s.length := by rw [numsOf_length, upTo_length]
  refine LP_round ?_; try dsimp only
  refine w_ ?_
  refine i_ ?_ ?_ <;> intro h
  · have h : i < s.length := by omega
    have hu := upperB_nat (s.getD i 0)
    have hgd := upTo_getD h
    rw [← bt_nat] at hu
    have hb : 0 ≤ bt s i ∧ bt s i ≤ 255 := by rw [bt_nat]; have := (s.getD i 0).toNat_lt; omega
    refine w_ ?_
    rw [show 0 + (i : Int).toNat = i by omega]
    refine w_ ?_
    rw [hgd]
    refine w_ ?_
    refine j_ 17 ?_ ?_ <;> intro h1
    · refine w_ ?_
      refine i_ ?_ ?_ <;> intro h2
      · rw [if_pos ⟨h1, h2⟩] at hu
        refine w_ ?_
        rw [show 0 + (i : Int).toNat = i by omega, upTo_set h hu.symm]
        refine w_ ?_
        refine LP_ren [0] (ih (i + 1) (h) (by omega)) s_ s_ rfl rfl rfl
      · rw [if_neg (by omega)] at hu
        rw [upTo_same h (by rw [← bt_nat]; exact hu.symm)]
        refine w_ ?_
        refine LP_ren [0] (ih (i + 1) (h) (by omega)) s_ s_ rfl rfl rfl
    · rw [if_neg (by omega)] at hu
      rw [upTo_same h (by rw [← bt_nat]; exact hu.symm)]
      refine w_ ?_
      refine W_cond_false rfl ?_
      refine w_ ?_
      refine LP_ren [0] (ih (i + 1) (h) (by omega)) s_ s_ rfl rfl rfl
  · have h : i = s.length := by omega
    subst h
    refine w_ ?_
    refine x_ ?_
    refine w_ ?_
    refine WL_string rfl rfl rfl rfl rfl rfl rfl rfl ⟨by omega, hc⟩ rfl rfl ?_
    have e1 : bytesOfN (((numsOf (upTo s.length s)).drop 0).take s.length) = Lib.toUpperA s := by
      rw [List.drop_zero, List.take_of_length_le (by omega), bytesOfN_numsOf, upTo_all]
    rw [e1]
    refine w_ ?_
    refine k_ ?_
    rfl
end Go.Eng
namespace Go.Eng
open Go.Proofs
attribute [local irreducible] W WL LP Then InBl Tri WS
theorem leapS_tri (y : Int) : Tri C0 123 0 [] [.int .i64 y] (fun k hp r => k = 0 ∧ hp = [] ∧ r = .bool (leapB y)) := by
  have h4 := tmod0 y 4
  have h100 := tmod0 y 100
  have h400 := tmod0 y 400
  refine Tri.keep (Tri.mk 16 [.tmp 2] Tryz.func123 rfl rfl rfl rfl cf123 ?_) t_ (fun r h => q_); intro w0 S T ρ0
  refine w_ ?_
  refine WL_split (t := 6) rfl (fun h => ?_) (fun h => ?_)
  · have h := (h4.1 (by simpa using h))
    refine w_ ?_
    refine WL_split (t := 10) rfl (fun h2 => ?_) (fun h2 => ?_)
    · have h2 : ¬ y % 100 = 0 := fun e => by simp [h100.2 e] at h2
      refine w_ ?_
      refine k_ ?_
      simp only [leapB, h, h2, decide_true, decide_false, Bool.not_false, Bool.true_or, Bool.and_self]
      rfl
    · have h2 : y % 100 = 0 := h100.1 (by simpa using h2)
      refine w_ ?_
      refine k_ ?_
      simp only [leapB, h, h2, decide_true, Bool.not_true, Bool.false_or, Bool.true_and]
      by_cases h3 : y % 400 = 0
      · simp only [h400.2 h3, h3, decide_true]; rfl
      · have : ¬ y.tmod 400 = 0 := fun e => h3 (h400.1 e)
        simp [this, h3]
  · have h : ¬ y % 4 = 0 := fun e => by simp [h4.2 e] at h
    refine w_ ?_
    refine k_ ?_
    simp only [leapB, h, decide_false, Bool.false_and]
    rfl
theorem yearDays_tri (y : Int) : Tri C0 64 0 [] [.int .i64 y] (fun k hp r => k = 0 ∧ hp = [] ∧ r = .int .i64 (if leapB y = true then 366 else 365)) := by
  refine Tri.keep (Tri.mk 5 [.tmp 2] Tryz.func64 rfl rfl rfl rfl cf64 ?_) t_ (fun r h => q_); intro w0 S T ρ0
  refine w_ ?_
  refine WL_call [] (leapS_tri y) rfl rfl rfl t_ t_ rfl rfl rfl rfl ?_; rintro _ _ _ ⟨rfl, rfl, rfl⟩
  refine w_ ?_
  refine W_cond rfl (fun h => ?_) (fun h => ?_)
  · rw [if_pos h]
    refine w_ ?_
    refine k_ ?_
    rfl
  · rw [if_neg (by rw [h]; simp)]
    refine w_ ?_
    refine k_ ?_
    rfl
theorem monthDaysS_tri (y m : Int) : Tri C0 66 0 [] [.int .i64 y, .int .i64 m] (fun k hp r => k = 0 ∧ hp = [] ∧ r = .int .i64 (mdays m y)) := by
  unfold mdays
  refine Tri.keep (Tri.mk 16 [.tmp 4] Tryz.func66 rfl rfl rfl rfl cf66 ?_) t_ (fun r h => q_); intro w0 S T ρ0
  refine w_ ?_
  refine i_ ?_ ?_ <;> intro h4
  · have hb : (m == 4) = true := by simp [h4]
    refine w_ ?_
    refine W_cond_true (congrArg (fun b => some (AV.bool b)) hb) ?_
    refine w_ ?_
    refine k_ ?_
    rw [if_neg (by omega), if_pos (by omega)]; rfl
  refine w_ ?_
  refine i_ ?_ ?_ <;> intro h6
  · have hb : (m == 6) = true := by simp [h6]
    refine w_ ?_
    refine W_cond_true (congrArg (fun b => some (AV.bool b)) hb) ?_
    refine w_ ?_
    refine k_ ?_
    rw [if_neg (by omega), if_pos (by omega)]; rfl
  refine w_ ?_
  refine i_ ?_ ?_ <;> intro h9
  · have hb : (m == 9) = true := by simp [h9]
    refine w_ ?_
    refine W_cond_true (congrArg (fun b => some (AV.bool b)) hb) ?_
    refine w_ ?_
    refine k_ ?_
    rw [if_neg (by omega), if_pos (by omega)]; rfl
  refine w_ ?_
  refine i_ ?_ ?_ <;> intro h11
  · refine w_ ?_
    refine k_ ?_
    rw [if_neg (by omega), if_pos (by omega)]; rfl
  refine w_ ?_
  refine i_ ?_ ?_ <;> intro h2
  · refine w_ ?_
    refine WL_call [] (yearDays_tri y) rfl rfl rfl t_ t_ rfl rfl rfl rfl ?_; rintro _ _ _ ⟨rfl, rfl, rfl⟩
    rw [if_pos h2]
    by_cases hl : leapB y = true
    · rw [if_pos hl, if_pos hl]
      refine w_ ?_
      refine k_ ?_
      rfl
    · rw [if_neg hl, if_neg hl]
      refine w_ ?_
      refine k_ ?_
      rfl
  · refine w_ ?_
    refine k_ ?_
    rw [if_neg h2, if_neg (by omega)]; rfl
def digC (l : List UInt8) (k : Nat) (a : Int) : Option Int := if l.length < k then none else digAcc (l.take k) a
theorem digC_zero (l : List UInt8) (a : Int) : digC l 0 a = some a := by simp [digC, digAcc]
theorem digC_nil (k : Nat) (a : Int) : digC [] (k + 1) a = none := by simp [digC]
theorem digC_cons (b : UInt8) (l : List UInt8) (k : Nat) (a : Int) : digC (b :: l) (k + 1) a = if (b.toNat : Int) < 48 ∨ (b.toNat : Int) > 57 then none else digC l k (10 * a + ((b.toNat : Int) - 48)) := by
  simp only [digC, List.take_succ_cons, digAcc, List.length_cons]
  by_cases h : l.length < k
  · rw [if_pos (by omega), if_pos h]; simp
  · rw [if_neg (by omega), if_neg h]
theorem digitsAt_tri (s : List UInt8) (f n : Nat) (hs : s.length ≤ 1073741824) (hf : f ≤ 1000) (hn : n ≤ 4) : Tri C0 197 0 [] [.str s, .int .i64 f, .int .i64 n]
    (fun k hp r => k = 0 ∧ hp = [] ∧ r = match digZ (s.drop f) n with | some v => .tup [.int .i64 v, .bool true] | none => .tup [.int .i64 0, .bool false]) := by
  have hz : digZ (s.drop f) n = digC (s.drop f) n 0 := rfl
  rw [hz]
  refine Tri.keep (Tri.mk 43 [.tmp 6, .tmp 7] Tryz.func197 rfl rfl rfl rfl cf197 ?_) t_ (fun r h => q_); intro w0 S T ρ0
  refine w_ ?_
  refine W_loop ?_; refine LP_ren [] (LP_ind 0 (fun p : Nat × Int => ([(0, .str s), (1, .int .i64 f), (2, .int .i64 n), (8, .int .i64 p.2), (9, .int .i64 ((f + p.1 : Nat) : Int))], [])) (fun p => n - p.1) (fun p => p.1 ≤ n ∧ digC (s.drop f) n 0 = digC (s.drop (f + p.1)) (n - p.1) p.2 ∧ 0 ≤ p.2 ∧ p.2 < ((10 ^ p.1 : Nat) : Int)) (0, 0) ?_ (⟨Nat.zero_le _, rfl, by simp, by simp⟩)) s_ s_ rfl rfl rfl
  rintro ⟨i, v⟩ ⟨hi, hv, hv0, hv1⟩ ih
  simp only at hi hv hv0 hv1
  have hp : 10 ^ i ≤ 10 ^ 4 := Nat.pow_le_pow_right (by omega) (by omega)
  have hp2 : 10 ^ (i + 1) = 10 ^ i * 10 := Nat.pow_succ ..
  refine LP_round ?_; try dsimp only
  refine w_ ?_
  refine i_ ?_ ?_ <;> intro h2
  · have h2 : i < n := by omega
    obtain ⟨k, hk⟩ : ∃ k, n - i = k + 1 := ⟨n - i - 1, by omega⟩
    rw [hk] at hv
    refine w_ ?_
    refine j_ 22 ?_ ?_ <;> intro h3
    · have e : s.drop (f + i) = [] := List.drop_of_length_le (by omega)
      rw [e, digC_nil] at hv
      rw [hv]
      refine w_ ?_
      refine W_cond_true rfl ?_
      refine w_ ?_
      refine k_ ?_
      rfl
    have h3 : f + i < s.length := by omega
    rw [drop_getB h3, digC_cons, ← bt_nat] at hv
    refine w_ ?_
    refine j_ 28 ?_ ?_ <;> intro h4
    · rw [if_pos (.inl h4)] at hv
      rw [hv]
      refine w_ ?_
      refine W_cond_true rfl ?_
      refine w_ ?_
      refine k_ ?_
      rfl
    refine w_ ?_
    refine i_ ?_ ?_ <;> intro h5
    · rw [if_pos (.inr h5)] at hv
      rw [hv]
      refine w_ ?_
      refine k_ ?_
      rfl
    rw [if_neg (by omega)] at hv
    have e1 : v * 10 + (bt s (f + i : Nat) - 48) = 10 * v + (bt s (f + i : Nat) - 48) := by omega
    have hk2 : n - (i + 1) = k := by omega
    refine w_ ?_
    rw [e1]
    refine LP_ren [] (ih (i + 1, 10 * v + (bt s (f + i : Nat) - 48)) (⟨by omega, by rw [hk2]; exact hv, by simp only; omega, by simp only; omega⟩) (by omega)) s_ s_ rfl rfl rfl
  · have h2 : i = n := by omega
    subst h2
    rw [Nat.sub_self, digC_zero] at hv
    rw [hv]
    refine w_ ?_
    refine x_ ?_
    refine w_ ?_
    refine k_ ?_
    rfl
end Go.Eng
namespace Go.Eng
open Go.Proofs
attribute [local irreducible] W WL LP Then InBl Tri WS
theorem leapB_iff (y : Int) : leapB y = true ↔ (y % 4 = 0 ∧ (¬ y % 100 = 0 ∨ y % 400 = 0)) := by simp [leapB]
def tDays (y m d : Int) : Int :=
  y / 400 * 146097 + ((y - y / 400 * 400) * 365 + (y - y / 400 * 400) / 4 - (y - y / 400 * 400) / 100 + ((153 * ((m + 9) % 12) + 2) / 5 + d - 1)) - 306
theorem mdays_ne (m y : Int) (h : ¬ m = 2) : mdays m y = if m = 4 ∨ m = 6 ∨ m = 9 ∨ m = 11 then 30 else 31 := by simp only [mdays, if_neg h]
theorem mdays_two (y : Int) : mdays 2 y = if leapB y = true then 29 else 28 := by simp only [mdays, if_true]
theorem mdSum_eq (y : Int) : mdSum y 0 = 0 ∧ mdSum y 1 = 31 ∧ mdSum y 2 = 31 + mdays 2 y ∧ mdSum y 3 = 62 + mdays 2 y ∧ mdSum y 4 = 92 + mdays 2 y ∧ mdSum y 5 = 123 + mdays 2 y ∧ mdSum y 6 = 153 + mdays 2 y ∧ mdSum y 7 = 184 + mdays 2 y ∧ mdSum y 8 = 215 + mdays 2 y ∧ mdSum y 9 = 245 + mdays 2 y ∧ mdSum y 10 = 276 + mdays 2 y ∧ mdSum y 11 = 306 + mdays 2 y := by
  have e : ∀ k : Nat, mdSum y (k + 1) = mdSum y k + mdays ((k + 1 : Nat) : Int) y := fun k => by simp [mdSum]
  have h0 : mdSum y 0 = 0 := rfl
  have h1 := e 0
  have h2 := e 1
  have h3 := e 2
  have h4 := e 3
  have h5 := e 4
  have h6 := e 5
  have h7 := e 6
  have h8 := e 7
  have h9 := e 8
  have h10 := e 9
  have h11 := e 10
  rw [mdays_ne _ _ (by decide), if_neg (by decide)] at h1 h3 h5 h7 h8 h10
  rw [mdays_ne _ _ (by decide), if_pos (by decide)] at h4 h6 h9 h11
  have h2' : mdSum y 2 = mdSum y 1 + mdays 2 y := h2
  simp only [Nat.reduceAdd] at *
  refine ⟨h0, ?_, ?_, ?_, ?_, ?_, ?_, ?_, ?_, ?_, ?_, ?_⟩ <;> omega
def NZ (y : Int) : Int := 365 * y + y / 4 - y / 100 + y / 400
theorem NZ_era (y : Int) : y / 400 * 146097 + ((y - y / 400 * 400) * 365 + (y - y / 400 * 400) / 4 - (y - y / 400 * 400) / 100) = NZ y := by
  have h1 : (y - y / 400 * 400) / 4 = y / 4 - 100 * (y / 400) := by omega
  have h2 : (y - y / 400 * 400) / 100 = y / 100 - 4 * (y / 400) := by omega
  rw [h1, h2, NZ]; omega
theorem NZ_succ (y : Int) : NZ y = NZ (y - 1) + 365 + (if leapB y = true then 1 else 0) := by
  have hl := leapB_iff y
  have h4 : y / 4 - (y - 1) / 4 = if y % 4 = 0 then 1 else 0 := by split <;> omega
  have h100 : y / 100 - (y - 1) / 100 = if y % 100 = 0 then 1 else 0 := by split <;> omega
  have h400 : y / 400 - (y - 1) / 400 = if y % 400 = 0 then 1 else 0 := by split <;> omega
  simp only [NZ]
  by_cases h : leapB y = true
  · rw [if_pos h]
    have hl := hl.1 h
    rw [if_pos hl.1] at h4
    rcases hl.2 with h2 | h2
    · rw [if_neg h2] at h100
      rw [if_neg (by omega)] at h400
      omega
    · rw [if_pos (by omega)] at h100
      rw [if_pos h2] at h400
      omega
  · rw [if_neg h]
    have hl := fun e => h (hl.2 e)
    by_cases a : y % 4 = 0
    · have b : y % 100 = 0 := by
        by_cases b : y % 100 = 0
        · exact b
        · exact absurd ⟨a, .inl b⟩ hl
      have c : ¬ y % 400 = 0 := fun c => hl ⟨a, .inr c⟩
      rw [if_pos a] at h4
      rw [if_pos b] at h100
      rw [if_neg c] at h400
      omega
    · rw [if_neg a] at h4
      rw [if_neg (by omega)] at h100
      rw [if_neg (by omega)] at h400
      omega
theorem tDays_NZ (y m d : Int) : tDays y m d = NZ y + ((153 * ((m + 9) % 12) + 2) / 5 + d - 1) - 306 := by
  rw [← NZ_era, tDays]
  generalize (153 * ((m + 9) % 12) + 2) / 5 + d - 1 = k
  generalize (y - y / 400 * 400) * 365 + (y - y / 400 * 400) / 4 - (y - y / 400 * 400) / 100 = z
  generalize y / 400 * 146097 = u
  omega
theorem dateZ_tDays (y m d : Int) (hm : 1 ≤ m ∧ m ≤ 12) : dateZ y m d = tDays (if m ≤ 2 then y - 1 else y) m d := by
  have e1 : (m - 1) / 12 = 0 := by omega
  have e2 : (m - 1) % 12 = m - 1 := by omega
  have e3 : daysToZ y = NZ (y - 1) := rfl
  rw [dateZ, e1, e2, Int.add_zero, tDays_NZ, e3]
  obtain ⟨s0, s1, s2, s3, s4, s5, s6, s7, s8, s9, s10, s11⟩ := mdSum_eq y
  have ht := mdays_two y
  have hN := NZ_succ y
  have ht2 : mdays 2 y = 28 + (if leapB y = true then 1 else 0) := by rw [ht]; split <;> rfl
  rw [ht2] at s2 s3 s4 s5 s6 s7 s8 s9 s10 s11
  generalize (if leapB y = true then (1 : Int) else 0) = L at *
  clear ht ht2
  have hc : m = 1 ∨ m = 2 ∨ m = 3 ∨ m = 4 ∨ m = 5 ∨ m = 6 ∨ m = 7 ∨ m = 8 ∨ m = 9 ∨ m = 10 ∨ m = 11 ∨ m = 12 := by omega
  rcases hc with rfl | rfl | rfl | rfl | rfl | rfl | rfl | rfl | rfl | rfl | rfl | rfl
  · rw [if_pos (by omega), show ((1 : Int) - 1).toNat = 0 from rfl, s0, show (153 * (((1 : Int) + 9) % 12) + 2) / 5 = 306 from rfl]; omega
  · rw [if_pos (by omega), show ((2 : Int) - 1).toNat = 1 from rfl, s1, show (153 * (((2 : Int) + 9) % 12) + 2) / 5 = 337 from rfl]; omega
  · rw [if_neg (by omega), show ((3 : Int) - 1).toNat = 2 from rfl, s2, show (153 * (((3 : Int) + 9) % 12) + 2) / 5 = 0 from rfl]; omega
  · rw [if_neg (by omega), show ((4 : Int) - 1).toNat = 3 from rfl, s3, show (153 * (((4 : Int) + 9) % 12) + 2) / 5 = 31 from rfl]; omega
  · rw [if_neg (by omega), show ((5 : Int) - 1).toNat = 4 from rfl, s4, show (153 * (((5 : Int) + 9) % 12) + 2) / 5 = 61 from rfl]; omega
  · rw [if_neg (by omega), show ((6 : Int) - 1).toNat = 5 from rfl, s5, show (153 * (((6 : Int) + 9) % 12) + 2) / 5 = 92 from rfl]; omega
  · rw [if_neg (by omega), show ((7 : Int) - 1).toNat = 6 from rfl, s6, show (153 * (((7 : Int) + 9) % 12) + 2) / 5 = 122 from rfl]; omega
  · rw [if_neg (by omega), show ((8 : Int) - 1).toNat = 7 from rfl, s7, show (153 * (((8 : Int) + 9) % 12) + 2) / 5 = 153 from rfl]; omega
  · rw [if_neg (by omega), show ((9 : Int) - 1).toNat = 8 from rfl, s8, show (153 * (((9 : Int) + 9) % 12) + 2) / 5 = 184 from rfl]; omega
  · rw [if_neg (by omega), show ((10 : Int) - 1).toNat = 9 from rfl, s9, show (153 * (((10 : Int) + 9) % 12) + 2) / 5 = 214 from rfl]; omega
  · rw [if_neg (by omega), show ((11 : Int) - 1).toNat = 10 from rfl, s10, show (153 * (((11 : Int) + 9) % 12) + 2) / 5 = 245 from rfl]; omega
  · rw [if_neg (by omega), show ((12 : Int) - 1).toNat = 11 from rfl, s11, show (153 * (((12 : Int) + 9) % 12) + 2) / 5 = 275 from rfl]; omega
theorem textDays_tri (y m d : Int) (hy : 0 ≤ y ∧ y ≤ 9999) (hm : 1 ≤ m ∧ m ≤ 12) (hd : 1 ≤ d ∧ d ≤ 31) : Tri C0 198 0 [] [.int .i64 y, .int .i64 m, .int .i64 d] (fun k hp r => k = 0 ∧ hp = [] ∧ r = .int .i64 (dateZ y m d)) := by
  rw [dateZ_tDays y m d hm]
  obtain ⟨yy, hyy⟩ : ∃ yy, yy = (if m ≤ 2 then y - 1 else y) := ⟨_, rfl⟩
  have hyb : -1 ≤ yy ∧ yy ≤ 9999 := by rw [hyy]; split <;> omega
  rw [← hyy]
  obtain ⟨of, hof⟩ : ∃ of, of = yy - yy / 400 * 400 := ⟨_, rfl⟩
  have hofb : 0 ≤ of ∧ of < 400 := by omega
  obtain ⟨q, q1⟩ : ∃ q, yy.tdiv 400 = q := ⟨_, rfl⟩
  have hsg : Int.sign 400 = 1 := rfl
  have q3 : (m + 9).tmod 12 = (m + 9) % 12 := Int.tmod_eq_emod_of_nonneg (by omega)
  have q4 : (153 * ((m + 9) % 12) + 2).tdiv 5 = (153 * ((m + 9) % 12) + 2) / 5 := Int.tdiv_eq_ediv_of_nonneg (by omega)
  have q5 : of.tdiv 4 = of / 4 := Int.tdiv_eq_ediv_of_nonneg (by omega)
  have q6 : of.tdiv 100 = of / 100 := Int.tdiv_eq_ediv_of_nonneg (by omega)
  have qb : -1 ≤ q ∧ q ≤ 24 := by rw [← q1, Int.tdiv_eq_ediv]; split <;> omega
  refine Tri.keep (Tri.mk 54 [.tmp 6] Tryz.func198 rfl rfl rfl rfl cf198 ?_) t_ (fun r h => q_); intro w0 S T ρ0
  refine w_ ?_
  refine i_ ?_ ?_ <;> intro h
  · rw [if_pos h] at hyy
    refine w_ ?_
    rw [← hyy]
    refine w_ ?_
    rw [q1]
    refine w_ ?_
    refine i_ ?_ ?_ <;> intro hn
    · have hn : yy < 0 := hn
      have q2 : (yy - 399).tdiv 400 = yy / 400 := by rw [Int.tdiv_eq_ediv]; split <;> omega
      refine w_ ?_
      rw [q2]
      refine w_ ?_
      rw [q3]
      refine w_ ?_
      rw [q4]
      refine w_ ?_
      rw [← hof]
      refine w_ ?_
      rw [q5]
      refine w_ ?_
      rw [q6]
      refine w_ ?_
      refine k_ ?_
      rw [hof]; rfl
    · have hn : ¬ yy < 0 := hn
      have q2 : yy.tdiv 400 = yy / 400 := by rw [Int.tdiv_eq_ediv]; split <;> omega
      rw [← q1, q2]
      refine w_ ?_
      rw [q3]
      refine w_ ?_
      rw [q4]
      refine w_ ?_
      rw [← hof]
      refine w_ ?_
      rw [q5]
      refine w_ ?_
      rw [q6]
      refine w_ ?_
      refine k_ ?_
      rw [hof]; rfl
  · rw [if_neg h] at hyy
    rw [← hyy]
    refine w_ ?_
    rw [q1]
    refine w_ ?_
    refine i_ ?_ ?_ <;> intro hn
    · have hn : yy < 0 := hn
      have q2 : (yy - 399).tdiv 400 = yy / 400 := by rw [Int.tdiv_eq_ediv]; split <;> omega
      refine w_ ?_
      rw [q2]
      refine w_ ?_
      rw [q3]
      refine w_ ?_
      rw [q4]
      refine w_ ?_
      rw [← hof]
      refine w_ ?_
      rw [q5]
      refine w_ ?_
      rw [q6]
      refine w_ ?_
      refine k_ ?_
      rw [hof]; rfl
    · have hn : ¬ yy < 0 := hn
      have q2 : yy.tdiv 400 = yy / 400 := by rw [Int.tdiv_eq_ediv]; split <;> omega
      rw [← q1, q2]
      refine w_ ?_
      rw [q3]
      refine w_ ?_
      rw [q4]
      refine w_ ?_
      rw [← hof]
      refine w_ ?_
      rw [q5]
      refine w_ ?_
      rw [q6]
      refine w_ ?_
      refine k_ ?_
      rw [hof]; rfl
end Go.Eng
