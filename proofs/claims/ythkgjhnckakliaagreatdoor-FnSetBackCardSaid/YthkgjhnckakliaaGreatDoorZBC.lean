/- A part of the proof that the rows statement FnSetBack holds; no conditions. -/
import Derived.Test.YthkgjhnckakliaaGreatDoorZBB
set_option linter.unusedVariables false
set_option linter.unusedSimpArgs false
set_option linter.unusedSectionVars false
namespace Go.Eng
open Go.Proofs
attribute [local irreducible] W WL LP Then InBl Tri WS
theorem reverse_tri (nl : Bool) (tt : Nat) (ns : List Int) (n cap : Nat) (hl : ns.length = n) (hn : n ≤ cap ∧ n ≤ 1100000000) (a b : Int) (ha : 0 ≤ a ∧ a ≤ b ∧ b ≤ n) : Tri C0 233 1 (SB tt ns) [SI nl n cap, .int .i64 a, .int .i64 b] (SP tt n isT) := by
 refine SP.keep ?_ (fun _ => isT_lt)
 refine Tri.mk 22 [] Tryz.func233 rfl rfl rfl rfl cf233 ?_; intro w0 S T ρ0
 refine w_ ?_
 refine W_loop ?_; refine LP_ren [0] (LP_ind 1 (fun q : Int × Int × List Int => ([(0, SI nl n cap), (6, .int .i64 q.1), (7, .int .i64 q.2.1)], SB tt q.2.2)) (fun q => (q.2.1 - q.1).toNat) (fun q => a ≤ q.1 ∧ q.1 ≤ b + 1 ∧ a - 1 ≤ q.2.1 ∧ q.2.1 ≤ b - 1 ∧ q.2.2.length = n) (a, b - 1, ns) ?_ (⟨Int.le_refl _, by show a ≤ b + 1; omega, by show a - 1 ≤ b - 1; omega, Int.le_refl _, hl⟩)) s_ s_ rfl rfl rfl
 clear hl
 rintro ⟨i, j, ns⟩ ⟨g1, g2, g3, g4, hl⟩ ih
 simp only at g1 g2 g3 g4 hl
 refine LP_round ?_; try dsimp only
 refine w_ ?_
 refine i_ ?_ ?_ <;> intro h1
 · refine w_ ?_
   refine WL_callG [0] (swap_tri nl tt ns n cap (i) (j) hl hn.1 (by omega) (by omega)) (callsTo_invoke msSwap rfl rfl) rfl rfl t_ t_ rfl rfl rfl rfl ?_; rintro _ _ _ ⟨rfl, ns1, rfl, hl1, rfl⟩
   refine w_ ?_
   refine LP_ren [0] (ih (i + 1, j - 1, ns1) ⟨by show a ≤ i + 1; omega, by show i + 1 ≤ b + 1; omega, by show a - 1 ≤ j - 1; omega, by show j - 1 ≤ b - 1; omega, hl1⟩ (by simp only; omega)) ?_ ?_ rfl rfl rfl; (focus (exact s_; done)); (focus (exact s_; done))
 refine w_ ?_
 refine x_ ?_
 refine w_ ?_
 refine ⟨_, _, rfl, s_, SPk.mk ns (s_) hl rfl⟩
theorem partialIns_tri (nl : Bool) (tt : Nat) (ns : List Int) (n cap : Nat) (hl : ns.length = n) (hn : n ≤ cap ∧ n ≤ 1100000000) (a b : Int) (ha : 0 ≤ a ∧ a + 1 ≤ b ∧ b ≤ n) : Tri C0 234 1 (SB tt ns) [SI nl n cap, .int .i64 a, .int .i64 b] (SP tt n fun r => ∃ v, r = .bool v) := by
 refine SP.keep ?_ (by rintro r ⟨v, rfl⟩; trivial)
 refine Tri.mk 85 [.tmp 6] Tryz.func234 rfl rfl rfl rfl cf234 ?_; intro w0 S T ρ0
 refine w_ ?_
 refine W_loop ?_; refine LP_ren [0] (LP_ind 1 (fun q : Int × Int × List Int => ([(0, SI nl n cap), (1, .int .i64 a), (2, .int .i64 b), (7, .int .i64 q.2.1), (8, .int .i64 q.1)], SB tt q.2.2)) (fun q => (5 - q.1).toNat) (fun q => 0 ≤ q.1 ∧ q.1 ≤ 5 ∧ a + 1 ≤ q.2.1 ∧ q.2.1 ≤ b ∧ q.2.2.length = n) (0, a + 1, ns) ?_ (⟨Int.le_refl _, by show (0 : Int) ≤ 5; omega, Int.le_refl _, by show a + 1 ≤ b; omega, hl⟩)) s_ s_ rfl rfl rfl
 clear hl
 rintro ⟨k, i, ns⟩ ⟨g1, g2, g3, g4, hl⟩ ih
 simp only at g1 g2 g3 g4 hl
 refine LP_round ?_; try dsimp only
 refine w_ ?_
 refine i_ ?_ ?_ <;> intro h1
 rotate_left 1
 · refine w_ ?_
   refine x_ ?_
   refine w_ ?_
   refine W_ret ?_; (repeat (first | refine then_ret ?_ | refine inbl_ret ?_)); refine ⟨_, _, rfl, s_, SPk.mk ns (s_) hl ⟨false, rfl⟩⟩
 refine w_ ?_
 refine W_loop ?_; refine LP_ren [0] (LP_ind 1 (fun q : Int × List Int => ([(0, SI nl n cap), (1, .int .i64 a), (2, .int .i64 b), (7, .int .i64 q.1), (8, .int .i64 k)], SB tt q.2)) (fun q => (b - q.1).toNat) (fun q => a + 1 ≤ q.1 ∧ q.1 ≤ b ∧ q.2.length = n) (i, ns) ?_ (⟨g3, g4, hl⟩)) s_ s_ rfl rfl rfl
 clear hl g3 g4
 rintro ⟨i, ns⟩ ⟨g3, g4, hl⟩ ih2
 simp only at g3 g4 hl
 refine LP_round ?_; try dsimp only
 refine w_ ?_
 refine j_ 20 ?_ ?_ <;> intro h2
 rotate_left 1
 · refine w_ ?_
   refine W_cond_false rfl ?_
   refine w_ ?_
   refine x_ ?_
   refine w_ ?_
   refine i_ ?_ ?_ <;> intro e1
   · refine w_ ?_
     refine W_ret ?_; (repeat (first | refine then_ret ?_ | refine inbl_ret ?_)); refine ⟨_, _, rfl, s_, SPk.mk ns (s_) hl ⟨true, rfl⟩⟩
   · exact absurd e1 (by omega)
 refine w_ ?_
 refine WL_callG [0] (less_tri nl tt ns n cap (i) (i - 1) hl hn.1 (by omega) (by omega)) (callsTo_invoke msLess rfl rfl) rfl rfl t_ t_ rfl rfl rfl rfl ?_; rintro _ _ _ ⟨rfl, rfl, lb, rfl⟩
 refine w_ ?_
 refine i_ ?_ ?_ <;> intro h3
 · refine w_ ?_
   refine LP_ren [0] (ih2 (i + 1, ns) ⟨by show a + 1 ≤ i + 1; omega, by show i + 1 ≤ b; omega, hl⟩ (by simp only; omega)) ?_ ?_ rfl rfl rfl; (focus (exact s_; done)); (focus (exact s_; done))
 refine w_ ?_
 refine x_ ?_
 refine w_ ?_
 refine i_ ?_ ?_ <;> intro e1
 · exact absurd e1 (by omega)
 refine w_ ?_
 refine i_ ?_ ?_ <;> intro e2
 · refine w_ ?_
   refine W_ret ?_; (repeat (first | refine then_ret ?_ | refine inbl_ret ?_)); refine ⟨_, _, rfl, s_, SPk.mk ns (s_) hl ⟨false, rfl⟩⟩
 refine w_ ?_
 refine WL_callG [0] (swap_tri nl tt ns n cap (i) (i - 1) hl hn.1 (by omega) (by omega)) (callsTo_invoke msSwap rfl rfl) rfl rfl t_ t_ rfl rfl rfl rfl ?_; rintro _ _ _ ⟨rfl, ns1, rfl, hl1, rfl⟩
 clear hl h3
 replace hl := hl1
 clear hl1
 generalize ns1 = ns at *
 refine w_ ?_
 refine i_ ?_ ?_ <;> intro e3
 rotate_left 1
 · refine w_ ?_
   refine i_ ?_ ?_ <;> intro z2
   rotate_left 1
   · refine w_ ?_
     refine LP_ren [0] (ih (k + 1, i, ns) ⟨by show 0 ≤ k + 1; omega, by show k + 1 ≤ 5; omega, by show a + 1 ≤ i; omega, by show i ≤ b; omega, hl⟩ (by simp only; omega)) ?_ ?_ rfl rfl rfl; (focus (exact s_; done)); (focus (exact s_; done))
   refine w_ ?_
   refine W_loop ?_; refine LP_ren [0] (LP_ind 1 (fun q : Int × List Int => ([(0, SI nl n cap), (1, .int .i64 a), (2, .int .i64 b), (7, .int .i64 i), (8, .int .i64 k), (10, .int .i64 q.1)], SB tt q.2)) (fun q => (b - q.1).toNat) (fun q => i + 1 ≤ q.1 ∧ q.1 ≤ b ∧ q.2.length = n) (i + 1, ns) ?_ (⟨Int.le_refl _, by show i + 1 ≤ b; omega, hl⟩)) s_ s_ rfl rfl rfl
   clear hl
   rintro ⟨j, ns⟩ ⟨y1, y2, hl⟩ ih4
   simp only at y1 y2 hl
   refine LP_round ?_; try dsimp only
   refine w_ ?_
   refine i_ ?_ ?_ <;> intro y3
   rotate_left 1
   · refine w_ ?_
     refine x_ ?_
     refine w_ ?_
     refine LP_ren [0] (ih (k + 1, i, ns) ⟨by show 0 ≤ k + 1; omega, by show k + 1 ≤ 5; omega, by show a + 1 ≤ i; omega, by show i ≤ b; omega, hl⟩ (by simp only; omega)) ?_ ?_ rfl rfl rfl; (focus (exact s_; done)); (focus (exact s_; done))
   refine w_ ?_
   refine WL_callG [0] (less_tri nl tt ns n cap (j) (j - 1) hl hn.1 (by omega) (by omega)) (callsTo_invoke msLess rfl rfl) rfl rfl t_ t_ rfl rfl rfl rfl ?_; rintro _ _ _ ⟨rfl, rfl, lb, rfl⟩
   refine w_ ?_
   refine i_ ?_ ?_ <;> intro y4
   · refine w_ ?_
     refine x_ ?_
     refine w_ ?_
     refine LP_ren [0] (ih (k + 1, i, ns) ⟨by show 0 ≤ k + 1; omega, by show k + 1 ≤ 5; omega, by show a + 1 ≤ i; omega, by show i ≤ b; omega, hl⟩ (by simp only; omega)) ?_ ?_ rfl rfl rfl; (focus (exact s_; done)); (focus (exact s_; done))
   · refine w_ ?_
     refine WL_callG [0] (swap_tri nl tt ns n cap (j) (j - 1) hl hn.1 (by omega) (by omega)) (callsTo_invoke msSwap rfl rfl) rfl rfl t_ t_ rfl rfl rfl rfl ?_; rintro _ _ _ ⟨rfl, ns1, rfl, hl1, rfl⟩
     refine w_ ?_
     refine LP_ren [0] (ih4 (j + 1, ns1) ⟨by show i + 1 ≤ j + 1; omega, by show j + 1 ≤ b; omega, hl1⟩ (by simp only; omega)) ?_ ?_ rfl rfl rfl; (focus (exact s_; done)); (focus (exact s_; done))
 refine w_ ?_
 refine W_loop ?_; refine LP_ren [0] (LP_ind 1 (fun q : Int × List Int => ([(0, SI nl n cap), (1, .int .i64 a), (2, .int .i64 b), (7, .int .i64 i), (8, .int .i64 k), (9, .int .i64 q.1)], SB tt q.2)) (fun q => (q.1).toNat) (fun q => 0 ≤ q.1 ∧ q.1 ≤ i - 1 ∧ q.2.length = n) (i - 1, ns) ?_ (⟨by show 0 ≤ i - 1; omega, Int.le_refl _, hl⟩)) s_ s_ rfl rfl rfl
 clear hl
 rintro ⟨j, ns⟩ ⟨y1, y2, hl⟩ ih4
 simp only at y1 y2 hl
 refine LP_round ?_; try dsimp only
 refine w_ ?_
 refine i_ ?_ ?_ <;> intro y3
 rotate_left 1
 · refine w_ ?_
   refine x_ ?_
   refine w_ ?_
   refine i_ ?_ ?_ <;> intro z2
   rotate_left 1
   · refine w_ ?_
     refine LP_ren [0] (ih (k + 1, i, ns) ⟨by show 0 ≤ k + 1; omega, by show k + 1 ≤ 5; omega, by show a + 1 ≤ i; omega, by show i ≤ b; omega, hl⟩ (by simp only; omega)) ?_ ?_ rfl rfl rfl; (focus (exact s_; done)); (focus (exact s_; done))
   refine w_ ?_
   refine W_loop ?_; refine LP_ren [0] (LP_ind 1 (fun q : Int × List Int => ([(0, SI nl n cap), (1, .int .i64 a), (2, .int .i64 b), (7, .int .i64 i), (8, .int .i64 k), (10, .int .i64 q.1)], SB tt q.2)) (fun q => (b - q.1).toNat) (fun q => i + 1 ≤ q.1 ∧ q.1 ≤ b ∧ q.2.length = n) (i + 1, ns) ?_ (⟨Int.le_refl _, by show i + 1 ≤ b; omega, hl⟩)) s_ s_ rfl rfl rfl
   clear hl
   rintro ⟨j, ns⟩ ⟨y1, y2, hl⟩ ih5
   simp only at y1 y2 hl
   refine LP_round ?_; try dsimp only
   refine w_ ?_
   refine i_ ?_ ?_ <;> intro y3
   rotate_left 1
   · refine w_ ?_
     refine x_ ?_
     refine w_ ?_
     refine LP_ren [0] (ih (k + 1, i, ns) ⟨by show 0 ≤ k + 1; omega, by show k + 1 ≤ 5; omega, by show a + 1 ≤ i; omega, by show i ≤ b; omega, hl⟩ (by simp only; omega)) ?_ ?_ rfl rfl rfl; (focus (exact s_; done)); (focus (exact s_; done))
   refine w_ ?_
   refine WL_callG [0] (less_tri nl tt ns n cap (j) (j - 1) hl hn.1 (by omega) (by omega)) (callsTo_invoke msLess rfl rfl) rfl rfl t_ t_ rfl rfl rfl rfl ?_; rintro _ _ _ ⟨rfl, rfl, lb, rfl⟩
   refine w_ ?_
   refine i_ ?_ ?_ <;> intro y4
   · refine w_ ?_
     refine x_ ?_
     refine w_ ?_
     refine LP_ren [0] (ih (k + 1, i, ns) ⟨by show 0 ≤ k + 1; omega, by show k + 1 ≤ 5; omega, by show a + 1 ≤ i; omega, by show i ≤ b; omega, hl⟩ (by simp only; omega)) ?_ ?_ rfl rfl rfl; (focus (exact s_; done)); (focus (exact s_; done))
   · refine w_ ?_
     refine WL_callG [0] (swap_tri nl tt ns n cap (j) (j - 1) hl hn.1 (by omega) (by omega)) (callsTo_invoke msSwap rfl rfl) rfl rfl t_ t_ rfl rfl rfl rfl ?_; rintro _ _ _ ⟨rfl, ns1, rfl, hl1, rfl⟩
     refine w_ ?_
     refine LP_ren [0] (ih5 (j + 1, ns1) ⟨by show i + 1 ≤ j + 1; omega, by show j + 1 ≤ b; omega, hl1⟩ (by simp only; omega)) ?_ ?_ rfl rfl rfl; (focus (exact s_; done)); (focus (exact s_; done))
 refine w_ ?_
 refine WL_callG [0] (less_tri nl tt ns n cap (j) (j - 1) hl hn.1 (by omega) (by omega)) (callsTo_invoke msLess rfl rfl) rfl rfl t_ t_ rfl rfl rfl rfl ?_; rintro _ _ _ ⟨rfl, rfl, lb, rfl⟩
 refine w_ ?_
 refine i_ ?_ ?_ <;> intro y4
 · refine w_ ?_
   refine x_ ?_
   refine w_ ?_
   refine i_ ?_ ?_ <;> intro z2
   rotate_left 1
   · refine w_ ?_
     refine LP_ren [0] (ih (k + 1, i, ns) ⟨by show 0 ≤ k + 1; omega, by show k + 1 ≤ 5; omega, by show a + 1 ≤ i; omega, by show i ≤ b; omega, hl⟩ (by simp only; omega)) ?_ ?_ rfl rfl rfl; (focus (exact s_; done)); (focus (exact s_; done))
   refine w_ ?_
   refine W_loop ?_; refine LP_ren [0] (LP_ind 1 (fun q : Int × List Int => ([(0, SI nl n cap), (1, .int .i64 a), (2, .int .i64 b), (7, .int .i64 i), (8, .int .i64 k), (10, .int .i64 q.1)], SB tt q.2)) (fun q => (b - q.1).toNat) (fun q => i + 1 ≤ q.1 ∧ q.1 ≤ b ∧ q.2.length = n) (i + 1, ns) ?_ (⟨Int.le_refl _, by show i + 1 ≤ b; omega, hl⟩)) s_ s_ rfl rfl rfl
   clear hl
   rintro ⟨j, ns⟩ ⟨y1, y2, hl⟩ ih5
   simp only at y1 y2 hl
   refine LP_round ?_; try dsimp only
   refine w_ ?_
   refine i_ ?_ ?_ <;> intro y3
   rotate_left 1
   · refine w_ ?_
     refine x_ ?_
     refine w_ ?_
     refine LP_ren [0] (ih (k + 1, i, ns) ⟨by show 0 ≤ k + 1; omega, by show k + 1 ≤ 5; omega, by show a + 1 ≤ i; omega, by show i ≤ b; omega, hl⟩ (by simp only; omega)) ?_ ?_ rfl rfl rfl; (focus (exact s_; done)); (focus (exact s_; done))
   refine w_ ?_
   refine WL_callG [0] (less_tri nl tt ns n cap (j) (j - 1) hl hn.1 (by omega) (by omega)) (callsTo_invoke msLess rfl rfl) rfl rfl t_ t_ rfl rfl rfl rfl ?_; rintro _ _ _ ⟨rfl, rfl, lb, rfl⟩
   refine w_ ?_
   refine i_ ?_ ?_ <;> intro y4
   · refine w_ ?_
     refine x_ ?_
     refine w_ ?_
     refine LP_ren [0] (ih (k + 1, i, ns) ⟨by show 0 ≤ k + 1; omega, by show k + 1 ≤ 5; omega, by show a + 1 ≤ i; omega, by show i ≤ b; omega, hl⟩ (by simp only; omega)) ?_ ?_ rfl rfl rfl; (focus (exact s_; done)); (focus (exact s_; done))
   · refine w_ ?_
     refine WL_callG [0] (swap_tri nl tt ns n cap (j) (j - 1) hl hn.1 (by omega) (by omega)) (callsTo_invoke msSwap rfl rfl) rfl rfl t_ t_ rfl rfl rfl rfl ?_; rintro _ _ _ ⟨rfl, ns1, rfl, hl1, rfl⟩
     refine w_ ?_
     refine LP_ren [0] (ih5 (j + 1, ns1) ⟨by show i + 1 ≤ j + 1; omega, by show j + 1 ≤ b; omega, hl1⟩ (by simp only; omega)) ?_ ?_ rfl rfl rfl; (focus (exact s_; done)); (focus (exact s_; done))
 · refine w_ ?_
   refine WL_callG [0] (swap_tri nl tt ns n cap (j) (j - 1) hl hn.1 (by omega) (by omega)) (callsTo_invoke msSwap rfl rfl) rfl rfl t_ t_ rfl rfl rfl rfl ?_; rintro _ _ _ ⟨rfl, ns1, rfl, hl1, rfl⟩
   refine w_ ?_
   refine LP_ren [0] (ih4 (j - 1, ns1) ⟨by show 0 ≤ j - 1; omega, by show j - 1 ≤ i - 1; omega, hl1⟩ (by simp only; omega)) ?_ ?_ rfl rfl rfl; (focus (exact s_; done)); (focus (exact s_; done))
theorem partEq_tri (nl : Bool) (tt : Nat) (ns : List Int) (n cap : Nat) (hl : ns.length = n) (hn : n ≤ cap ∧ n ≤ 1100000000) (a b p : Int) (ha : 0 ≤ a ∧ a + 1 ≤ b ∧ b ≤ n) (hp : 0 ≤ p ∧ p < n) : Tri C0 235 1 (SB tt ns) [SI nl n cap, .int .i64 a, .int .i64 b, .int .i64 p] (SP tt n fun r => ∃ v, r = .int .i64 v ∧ a + 1 ≤ v ∧ v ≤ b) := by
 refine SP.keep ?_ (by rintro r ⟨v, rfl, _⟩; trivial)
 refine Tri.mk 54 [.tmp 8] Tryz.func235 rfl rfl rfl rfl cf235 ?_; intro w0 S T ρ0
 refine w_ ?_
 refine WL_callG [0] (swap_tri nl tt ns n cap (a) (p) hl hn.1 (by omega) (by omega)) (callsTo_invoke msSwap rfl rfl) rfl rfl t_ t_ rfl rfl rfl rfl ?_; rintro _ _ _ ⟨rfl, ns1, rfl, hl1, rfl⟩
 clear hl
 replace hl := hl1
 clear hl1
 generalize ns1 = ns at *
 refine w_ ?_
 refine W_loop ?_; refine LP_ren [0] (LP_ind 1 (fun q : Int × Int × List Int => ([(0, SI nl n cap), (1, .int .i64 a), (9, .int .i64 q.1), (10, .int .i64 q.2.1)], SB tt q.2.2)) (fun q => (q.2.1 - a).toNat) (fun q => (a + 1 ≤ q.1 ∧ q.1 ≤ b) ∧ (a ≤ q.2.1 ∧ q.2.1 ≤ b - 1) ∧ q.2.2.length = n) (a + 1, b - 1, ns) ?_ (⟨by simp only; omega, by simp only; omega, hl⟩)) s_ s_ rfl rfl rfl
 clear hl
 rintro ⟨i, j, ns⟩ ⟨g1, g2, hl⟩ ih
 simp only at g1 g2 hl
 refine LP_round ?_; try dsimp only
 refine w_ ?_
 obtain ⟨i0, hi0⟩ : ∃ i0, i0 = i := ⟨_, rfl⟩
 refine W_midB (α := Int × List Int) (fun q => (1, [(0, SI nl n cap), (1, .int .i64 a), (9, .int .i64 q.1), (10, .int .i64 j)], SB tt q.2)) (fun q => i0 ≤ q.1 ∧ (a + 1 ≤ q.1 ∧ q.1 ≤ b) ∧ q.2.length = n) ?_ ?_
 · refine W_loop ?_; refine LP_ren [0] (LP_ind 1 (fun q : Int × List Int => ([(0, SI nl n cap), (1, .int .i64 a), (9, .int .i64 q.1), (10, .int .i64 j)], SB tt q.2)) (fun q => (b - q.1).toNat) (fun q => i0 ≤ q.1 ∧ (a + 1 ≤ q.1 ∧ q.1 ≤ b) ∧ q.2.length = n) (i, ns) ?_ (⟨by simp only; omega, by simp only; omega, hl⟩)) s_ s_ rfl rfl rfl
   clear hl
   rintro ⟨i1, ns⟩ ⟨x1, x2, hl⟩ ih2
   simp only at x1 x2 hl
   refine LP_round ?_; try dsimp only
   refine w_ ?_
   refine j_ 22 ?_ ?_ <;> intro h2
   · refine w_ ?_
     refine WL_callG [0] (less_tri nl tt ns n cap (a) (i1) hl hn.1 (by omega) (by omega)) (callsTo_invoke msLess rfl rfl) rfl rfl t_ t_ rfl rfl rfl rfl ?_; rintro _ _ _ ⟨rfl, rfl, lb, rfl⟩
     refine w_ ?_
     refine i_ ?_ ?_ <;> intro h3
     · refine w_ ?_
       refine LP_ren [0] (ih2 (i1 + 1, ns) ⟨by simp only; omega, by simp only; omega, hl⟩ (by simp only; omega)) ?_ ?_ rfl rfl rfl; (focus (exact s_; done)); (focus (exact s_; done))
     · refine w_ ?_
       refine x_ ?_
       refine then_normal ?_
       refine ⟨(i1, ns), ⟨x1, x2, hl⟩, Imp_ren [0] ?_ ?_ rfl rfl rfl⟩
       · exact s_
       · exact s_
   · refine w_ ?_
     refine W_cond_false rfl ?_
     refine w_ ?_
     refine x_ ?_
     refine then_normal ?_
     refine ⟨(i1, ns), ⟨x1, x2, hl⟩, Imp_ren [0] ?_ ?_ rfl rfl rfl⟩
     · exact s_
     · exact s_
 clear hl
 rintro ⟨i, ns⟩ ⟨xi1, xi2, hl⟩
 simp only at xi1 xi2 hl
 subst hi0
 refine w_ ?_
 obtain ⟨j0, hj0⟩ : ∃ j0, j0 = j := ⟨_, rfl⟩
 refine W_midB (α := Int × List Int) (fun q => (1, [(0, SI nl n cap), (1, .int .i64 a), (9, .int .i64 i), (10, .int .i64 q.1)], SB tt q.2)) (fun q => q.1 ≤ j0 ∧ (a ≤ q.1 ∧ q.1 ≤ b - 1) ∧ q.2.length = n) ?_ ?_
 · refine W_loop ?_; refine LP_ren [0] (LP_ind 1 (fun q : Int × List Int => ([(0, SI nl n cap), (1, .int .i64 a), (9, .int .i64 i), (10, .int .i64 q.1)], SB tt q.2)) (fun q => (q.1 - a).toNat) (fun q => q.1 ≤ j0 ∧ (a ≤ q.1 ∧ q.1 ≤ b - 1) ∧ q.2.length = n) (j, ns) ?_ (⟨by simp only; omega, by simp only; omega, hl⟩)) s_ s_ rfl rfl rfl
   clear hl
   rintro ⟨j1, ns⟩ ⟨x1, x2, hl⟩ ih2
   simp only at x1 x2 hl
   refine LP_round ?_; try dsimp only
   refine w_ ?_
   refine j_ 34 ?_ ?_ <;> intro h2
   · refine w_ ?_
     refine WL_callG [0] (less_tri nl tt ns n cap (a) (j1) hl hn.1 (by omega) (by omega)) (callsTo_invoke msLess rfl rfl) rfl rfl t_ t_ rfl rfl rfl rfl ?_; rintro _ _ _ ⟨rfl, rfl, lb, rfl⟩
     refine w_ ?_
     refine i_ ?_ ?_ <;> intro h3
     · refine w_ ?_
       refine LP_ren [0] (ih2 (j1 - 1, ns) ⟨by simp only; omega, by simp only; omega, hl⟩ (by simp only; omega)) ?_ ?_ rfl rfl rfl; (focus (exact s_; done)); (focus (exact s_; done))
     · refine w_ ?_
       refine x_ ?_
       refine then_normal ?_
       refine ⟨(j1, ns), ⟨x1, x2, hl⟩, Imp_ren [0] ?_ ?_ rfl rfl rfl⟩
       · exact s_
       · exact s_
   · refine w_ ?_
     refine W_cond_false rfl ?_
     refine w_ ?_
     refine x_ ?_
     refine then_normal ?_
     refine ⟨(j1, ns), ⟨x1, x2, hl⟩, Imp_ren [0] ?_ ?_ rfl rfl rfl⟩
     · exact s_
     · exact s_
 clear hl
 rintro ⟨j, ns⟩ ⟨xj1, xj2, hl⟩
 simp only at xj1 xj2 hl
 subst hj0
 refine w_ ?_
 refine i_ ?_ ?_ <;> intro e1
 · refine w_ ?_
   refine x_ ?_
   refine w_ ?_
   refine W_ret ?_; (repeat (first | refine then_ret ?_ | refine inbl_ret ?_)); refine ⟨_, _, rfl, s_, SPk.mk ns (s_) hl ⟨i, rfl, by omega, by omega⟩⟩
 refine w_ ?_
 refine WL_callG [0] (swap_tri nl tt ns n cap (i) (j) hl hn.1 (by omega) (by omega)) (callsTo_invoke msSwap rfl rfl) rfl rfl t_ t_ rfl rfl rfl rfl ?_; rintro _ _ _ ⟨rfl, ns1, rfl, hl1, rfl⟩
 refine w_ ?_
 refine LP_ren [0] (ih (i + 1, j - 1, ns1) ⟨by simp only; omega, by simp only; omega, hl1⟩ (by simp only; omega)) ?_ ?_ rfl rfl rfl; (focus (exact s_; done)); (focus (exact s_; done))
theorem part_sort_tri (nl : Bool) (tt : Nat) (ns : List Int) (n cap : Nat) (hl : ns.length = n) (hn : n ≤ cap ∧ n ≤ 1100000000) (a b p : Int) (ha : 0 ≤ a ∧ a + 2 ≤ b ∧ b ≤ n) (hp : 0 ≤ p ∧ p < n) : Tri C0 236 1 (SB tt ns) [SI nl n cap, .int .i64 a, .int .i64 b, .int .i64 p] (SP tt n fun r => ∃ v w, r = .tup [.int .i64 v, .bool w] ∧ a ≤ v ∧ v < b) := by
 refine SP.keep ?_ (by rintro r ⟨v, w, rfl, _⟩; exact s_)
 refine Tri.mk 98 [.tmp 8, .tmp 9] Tryz.func236 rfl rfl rfl rfl cf236 ?_; intro w0 S T ρ0
 refine w_ ?_
 refine WL_callG [0] (swap_tri nl tt ns n cap (a) (p) hl hn.1 (by omega) (by omega)) (callsTo_invoke msSwap rfl rfl) rfl rfl t_ t_ rfl rfl rfl rfl ?_; rintro _ _ _ ⟨rfl, ns1, rfl, hl1, rfl⟩
 clear hl
 replace hl := hl1
 clear hl1
 generalize ns1 = ns at *
 refine w_ ?_
 obtain ⟨i, hi⟩ : ∃ i, i = a + 1 := ⟨_, rfl⟩
 obtain ⟨j, hj⟩ : ∃ j, j = b - 1 := ⟨_, rfl⟩
 rw [← hi, ← hj]
 obtain ⟨i0, hi0⟩ : ∃ i0, i0 = i := ⟨_, rfl⟩
 refine W_midB (α := Int × List Int) (fun q => (1, [(0, SI nl n cap), (1, .int .i64 a), (10, .int .i64 q.1), (11, .int .i64 j)], SB tt q.2)) (fun q => i0 ≤ q.1 ∧ (a + 1 ≤ q.1 ∧ q.1 ≤ b) ∧ q.2.length = n) ?_ ?_
 · refine W_loop ?_; refine LP_ren [0] (LP_ind 1 (fun q : Int × List Int => ([(0, SI nl n cap), (1, .int .i64 a), (10, .int .i64 q.1), (11, .int .i64 j)], SB tt q.2)) (fun q => (b - q.1).toNat) (fun q => i0 ≤ q.1 ∧ (a + 1 ≤ q.1 ∧ q.1 ≤ b) ∧ q.2.length = n) (i, ns) ?_ (⟨by simp only; omega, by simp only; omega, hl⟩)) s_ s_ rfl rfl rfl
   clear hl
   rintro ⟨i1, ns⟩ ⟨x1, x2, hl⟩ ih2
   simp only at x1 x2 hl
   refine LP_round ?_; try dsimp only
   refine w_ ?_
   refine j_ 23 ?_ ?_ <;> intro h2
   · refine w_ ?_
     refine WL_callG [0] (less_tri nl tt ns n cap (i1) (a) hl hn.1 (by omega) (by omega)) (callsTo_invoke msLess rfl rfl) rfl rfl t_ t_ rfl rfl rfl rfl ?_; rintro _ _ _ ⟨rfl, rfl, lb, rfl⟩
     refine w_ ?_
     refine i_ ?_ ?_ <;> intro h3
     · refine w_ ?_
       refine LP_ren [0] (ih2 (i1 + 1, ns) ⟨by simp only; omega, by simp only; omega, hl⟩ (by simp only; omega)) ?_ ?_ rfl rfl rfl; (focus (exact s_; done)); (focus (exact s_; done))
     · refine w_ ?_
       refine x_ ?_
       refine then_normal ?_
       refine ⟨(i1, ns), ⟨x1, x2, hl⟩, Imp_ren [0] ?_ ?_ rfl rfl rfl⟩
       · exact s_
       · exact s_
   · refine w_ ?_
     refine W_cond_false rfl ?_
     refine w_ ?_
     refine x_ ?_
     refine then_normal ?_
     refine ⟨(i1, ns), ⟨x1, x2, hl⟩, Imp_ren [0] ?_ ?_ rfl rfl rfl⟩
     · exact s_
     · exact s_
 clear hl
 rintro ⟨i, ns⟩ ⟨xi1, xi2, hl⟩
 simp only at xi1 xi2 hl
 subst hi0
 refine w_ ?_
 obtain ⟨j0, hj0⟩ : ∃ j0, j0 = j := ⟨_, rfl⟩
 refine W_midB (α := Int × List Int) (fun q => (1, [(0, SI nl n cap), (1, .int .i64 a), (10, .int .i64 i), (11, .int .i64 q.1)], SB tt q.2)) (fun q => q.1 ≤ j0 ∧ (a ≤ q.1 ∧ q.1 ≤ b - 1) ∧ q.2.length = n) ?_ ?_
 · refine W_loop ?_; refine LP_ren [0] (LP_ind 1 (fun q : Int × List Int => ([(0, SI nl n cap), (1, .int .i64 a), (10, .int .i64 i), (11, .int .i64 q.1)], SB tt q.2)) (fun q => (q.1 - a).toNat) (fun q => q.1 ≤ j0 ∧ (a ≤ q.1 ∧ q.1 ≤ b - 1) ∧ q.2.length = n) (j, ns) ?_ (⟨by simp only; omega, by simp only; omega, hl⟩)) s_ s_ rfl rfl rfl
   clear hl
   rintro ⟨j1, ns⟩ ⟨x1, x2, hl⟩ ih2
   simp only at x1 x2 hl
   refine LP_round ?_; try dsimp only
   refine w_ ?_
   refine j_ 34 ?_ ?_ <;> intro h2
   · refine w_ ?_
     refine WL_callG [0] (less_tri nl tt ns n cap (j1) (a) hl hn.1 (by omega) (by omega)) (callsTo_invoke msLess rfl rfl) rfl rfl t_ t_ rfl rfl rfl rfl ?_; rintro _ _ _ ⟨rfl, rfl, lb, rfl⟩
     refine w_ ?_
     refine i_ ?_ ?_ <;> intro h3
     · refine w_ ?_
       refine LP_ren [0] (ih2 (j1 - 1, ns) ⟨by simp only; omega, by simp only; omega, hl⟩ (by simp only; omega)) ?_ ?_ rfl rfl rfl; (focus (exact s_; done)); (focus (exact s_; done))
     · refine w_ ?_
       refine x_ ?_
       refine then_normal ?_
       refine ⟨(j1, ns), ⟨x1, x2, hl⟩, Imp_ren [0] ?_ ?_ rfl rfl rfl⟩
       · exact s_
       · exact s_
   · refine w_ ?_
     refine W_cond_false rfl ?_
     refine w_ ?_
     refine x_ ?_
     refine then_normal ?_
     refine ⟨(j1, ns), ⟨x1, x2, hl⟩, Imp_ren [0] ?_ ?_ rfl rfl rfl⟩
     · exact s_
     · exact s_
 clear hl
 rintro ⟨j, ns⟩ ⟨xj1, xj2, hl⟩
 simp only at xj1 xj2 hl
 subst hj0
 refine w_ ?_
 refine i_ ?_ ?_ <;> intro e1
 · refine w_ ?_
   refine WL_callG [0] (swap_tri nl tt ns n cap (j) (a) hl hn.1 (by omega) (by omega)) (callsTo_invoke msSwap rfl rfl) rfl rfl t_ t_ rfl rfl rfl rfl ?_; rintro _ _ _ ⟨rfl, ns1, rfl, hl1, rfl⟩
   refine w_ ?_
   refine W_ret ?_; (repeat (first | refine then_ret ?_ | refine inbl_ret ?_)); refine ⟨_, _, rfl, s_, SPk.mk ns1 (s_) hl1 ⟨j, true, rfl, by omega, by omega⟩⟩
 refine w_ ?_
 refine WL_callG [0] (swap_tri nl tt ns n cap (i) (j) hl hn.1 (by omega) (by omega)) (callsTo_invoke msSwap rfl rfl) rfl rfl t_ t_ rfl rfl rfl rfl ?_; rintro _ _ _ ⟨rfl, ns1, rfl, hl1, rfl⟩
 refine w_ ?_
 have hi2 : a + 1 ≤ i + 1 ∧ i + 1 ≤ b := by omega
 have hj2 : a ≤ j - 1 ∧ j - 1 ≤ b - 1 := by omega
 clear hl
 refine W_loop ?_; refine LP_ren [0] (LP_ind 1 (fun q : Int × Int × List Int => ([(0, SI nl n cap), (1, .int .i64 a), (10, .int .i64 q.1), (11, .int .i64 q.2.1)], SB tt q.2.2)) (fun q => (q.2.1 - a).toNat) (fun q => (a + 1 ≤ q.1 ∧ q.1 ≤ b) ∧ (a ≤ q.2.1 ∧ q.2.1 ≤ b - 1) ∧ q.2.2.length = n) (i + 1, j - 1, ns1) ?_ (⟨hi2, hj2, hl1⟩)) s_ s_ rfl rfl rfl
 clear hl1 hi2 hj2 xi1 xi2 xj1 xj2 hi hj e1
 rintro ⟨i, j, ns⟩ ⟨g1, g2, hl⟩ ih
 simp only at g1 g2 hl
 refine LP_round ?_; try dsimp only
 refine w_ ?_
 obtain ⟨i0, hi0⟩ : ∃ i0, i0 = i := ⟨_, rfl⟩
 refine W_midB (α := Int × List Int) (fun q => (1, [(0, SI nl n cap), (1, .int .i64 a), (10, .int .i64 q.1), (11, .int .i64 j)], SB tt q.2)) (fun q => i0 ≤ q.1 ∧ (a + 1 ≤ q.1 ∧ q.1 ≤ b) ∧ q.2.length = n) ?_ ?_
 · refine W_loop ?_; refine LP_ren [0] (LP_ind 1 (fun q : Int × List Int => ([(0, SI nl n cap), (1, .int .i64 a), (10, .int .i64 q.1), (11, .int .i64 j)], SB tt q.2)) (fun q => (b - q.1).toNat) (fun q => i0 ≤ q.1 ∧ (a + 1 ≤ q.1 ∧ q.1 ≤ b) ∧ q.2.length = n) (i, ns) ?_ (⟨by simp only; omega, by simp only; omega, hl⟩)) s_ s_ rfl rfl rfl
   clear hl
   rintro ⟨i1, ns⟩ ⟨x1, x2, hl⟩ ih2
   simp only at x1 x2 hl
   refine LP_round ?_; try dsimp only
   refine w_ ?_
   refine j_ 62 ?_ ?_ <;> intro h2
   · refine w_ ?_
     refine WL_callG [0] (less_tri nl tt ns n cap (i1) (a) hl hn.1 (by omega) (by omega)) (callsTo_invoke msLess rfl rfl) rfl rfl t_ t_ rfl rfl rfl rfl ?_; rintro _ _ _ ⟨rfl, rfl, lb, rfl⟩
     refine w_ ?_
     refine i_ ?_ ?_ <;> intro h3
     · refine w_ ?_
       refine LP_ren [0] (ih2 (i1 + 1, ns) ⟨by simp only; omega, by simp only; omega, hl⟩ (by simp only; omega)) ?_ ?_ rfl rfl rfl; (focus (exact s_; done)); (focus (exact s_; done))
     · refine w_ ?_
       refine x_ ?_
       refine then_normal ?_
       refine ⟨(i1, ns), ⟨x1, x2, hl⟩, Imp_ren [0] ?_ ?_ rfl rfl rfl⟩
       · exact s_
       · exact s_
   · refine w_ ?_
     refine W_cond_false rfl ?_
     refine w_ ?_
     refine x_ ?_
     refine then_normal ?_
     refine ⟨(i1, ns), ⟨x1, x2, hl⟩, Imp_ren [0] ?_ ?_ rfl rfl rfl⟩
     · exact s_
     · exact s_
 clear hl
 rintro ⟨i, ns⟩ ⟨xi1, xi2, hl⟩
 simp only at xi1 xi2 hl
 subst hi0
 refine w_ ?_
 obtain ⟨j0, hj0⟩ : ∃ j0, j0 = j := ⟨_, rfl⟩
 refine W_midB (α := Int × List Int) (fun q => (1, [(0, SI nl n cap), (1, .int .i64 a), (10, .int .i64 i), (11, .int .i64 q.1)], SB tt q.2)) (fun q => q.1 ≤ j0 ∧ (a ≤ q.1 ∧ q.1 ≤ b - 1) ∧ q.2.length = n) ?_ ?_
 · refine W_loop ?_; refine LP_ren [0] (LP_ind 1 (fun q : Int × List Int => ([(0, SI nl n cap), (1, .int .i64 a), (10, .int .i64 i), (11, .int .i64 q.1)], SB tt q.2)) (fun q => (q.1 - a).toNat) (fun q => q.1 ≤ j0 ∧ (a ≤ q.1 ∧ q.1 ≤ b - 1) ∧ q.2.length = n) (j, ns) ?_ (⟨by simp only; omega, by simp only; omega, hl⟩)) s_ s_ rfl rfl rfl
   clear hl
   rintro ⟨j1, ns⟩ ⟨x1, x2, hl⟩ ih2
   simp only at x1 x2 hl
   refine LP_round ?_; try dsimp only
   refine w_ ?_
   refine j_ 73 ?_ ?_ <;> intro h2
   · refine w_ ?_
     refine WL_callG [0] (less_tri nl tt ns n cap (j1) (a) hl hn.1 (by omega) (by omega)) (callsTo_invoke msLess rfl rfl) rfl rfl t_ t_ rfl rfl rfl rfl ?_; rintro _ _ _ ⟨rfl, rfl, lb, rfl⟩
     refine w_ ?_
     refine i_ ?_ ?_ <;> intro h3
     · refine w_ ?_
       refine LP_ren [0] (ih2 (j1 - 1, ns) ⟨by simp only; omega, by simp only; omega, hl⟩ (by simp only; omega)) ?_ ?_ rfl rfl rfl; (focus (exact s_; done)); (focus (exact s_; done))
     · refine w_ ?_
       refine x_ ?_
       refine then_normal ?_
       refine ⟨(j1, ns), ⟨x1, x2, hl⟩, Imp_ren [0] ?_ ?_ rfl rfl rfl⟩
       · exact s_
       · exact s_
   · refine w_ ?_
     refine W_cond_false rfl ?_
     refine w_ ?_
     refine x_ ?_
     refine then_normal ?_
     refine ⟨(j1, ns), ⟨x1, x2, hl⟩, Imp_ren [0] ?_ ?_ rfl rfl rfl⟩
     · exact s_
     · exact s_
 clear hl
 rintro ⟨j, ns⟩ ⟨xj1, xj2, hl⟩
 simp only at xj1 xj2 hl
 subst hj0
 refine w_ ?_
 refine i_ ?_ ?_ <;> intro e1
 · refine w_ ?_
   refine x_ ?_
   refine w_ ?_
   refine WL_callG [0] (swap_tri nl tt ns n cap (j) (a) hl hn.1 (by omega) (by omega)) (callsTo_invoke msSwap rfl rfl) rfl rfl t_ t_ rfl rfl rfl rfl ?_; rintro _ _ _ ⟨rfl, ns1, rfl, hl1, rfl⟩
   refine w_ ?_
   refine W_ret ?_; (repeat (first | refine then_ret ?_ | refine inbl_ret ?_)); refine ⟨_, _, rfl, s_, SPk.mk ns1 (s_) hl1 ⟨j, false, rfl, by omega, by omega⟩⟩
 refine w_ ?_
 refine WL_callG [0] (swap_tri nl tt ns n cap (i) (j) hl hn.1 (by omega) (by omega)) (callsTo_invoke msSwap rfl rfl) rfl rfl t_ t_ rfl rfl rfl rfl ?_; rintro _ _ _ ⟨rfl, ns1, rfl, hl1, rfl⟩
 refine w_ ?_
 refine LP_ren [0] (ih (i + 1, j - 1, ns1) ⟨by simp only; omega, by simp only; omega, hl1⟩ (by simp only; omega)) ?_ ?_ rfl rfl rfl; (focus (exact s_; done)); (focus (exact s_; done))
theorem pdq_tri (nl : Bool) (tt : Nat) (n cap : Nat) (hn : n ≤ cap ∧ n ≤ 1100000000) : ∀ (m : Nat) (ns : List Int) (hl : ns.length = n) (a b lim : Int) (ha : 0 ≤ a ∧ a ≤ b ∧ b ≤ n) (hlim : 0 ≤ lim ∧ lim ≤ 64) (hm : b - a < m), Tri C0 180 1 (SB tt ns) [SI nl n cap, .int .i64 a, .int .i64 b, .int .i64 lim] (SP tt n isT) := by
 intro m
 induction m with
 | zero => intro ns hl a b lim ha hlim hm; exact absurd hm (by omega)
 | succ m IH =>
 intro ns hl a b lim ha hlim hm
 refine SP.keep ?_ (fun _ => isT_lt)
 refine Tri.mk 129 [] Tryz.func180 rfl rfl rfl rfl cf180 ?_; intro w0 S T ρ0
 refine w_ ?_
 refine W_loop ?_; refine LP_ren [0] (LP_ind 1 (fun q : Int × Int × Int × Bool × Bool × List Int => ([(0, SI nl n cap), (1, .int .i64 q.1), (2, .int .i64 q.2.1), (3, .int .i64 q.2.2.1), (8, .bool q.2.2.2.1), (9, .bool q.2.2.2.2.1)], SB tt q.2.2.2.2.2)) (fun q => (q.2.1 - q.1).toNat) (fun q => (0 ≤ q.1 ∧ q.1 ≤ q.2.1 ∧ q.2.1 ≤ n) ∧ (0 ≤ q.2.2.1 ∧ q.2.2.1 ≤ 64) ∧ q.2.1 - q.1 ≤ m ∧ q.2.2.2.2.2.length = n) (a, b, lim, true, true, ns) ?_ (⟨ha, hlim, by simp only; omega, hl⟩)) s_ s_ rfl rfl rfl
 clear hl ha hlim hm
 rintro ⟨a, b, lim, wb, wp, ns⟩ ⟨ha, hlim, hm, hl⟩ ih
 simp only at ha hlim hm hl
 refine LP_round ?_; try dsimp only
 refine w_ ?_
 refine i_ ?_ ?_ <;> intro h1
 · refine w_ ?_
   refine WL_call [0] (insertion_tri nl tt ns n cap hl hn a b (by omega)) rfl rfl rfl t_ t_ rfl rfl rfl rfl ?_; rintro _ _ _ ⟨rfl, ns1, rfl, hl1, rfl⟩
   refine w_ ?_
   refine W_ret ?_; (repeat (first | refine then_ret ?_ | refine inbl_ret ?_)); refine ⟨_, _, rfl, s_, SPk.mk ns1 (s_) hl1 rfl⟩
 refine w_ ?_
 refine i_ ?_ ?_ <;> intro h2
 · refine w_ ?_
   refine WL_call [0] (heap_tri nl tt ns n cap hl hn a b (by omega)) rfl rfl rfl t_ t_ rfl rfl rfl rfl ?_; rintro _ _ _ ⟨rfl, ns1, rfl, hl1, rfl⟩
   refine w_ ?_
   refine W_ret ?_; (repeat (first | refine then_ret ?_ | refine inbl_ret ?_)); refine ⟨_, _, rfl, s_, SPk.mk ns1 (s_) hl1 rfl⟩
 refine w_ ?_
 refine W_mid (α := Int × List Int) (fun q => (1, [(0, SI nl n cap), (1, .int .i64 a), (2, .int .i64 b), (3, .int .i64 q.1), (8, .bool wb), (9, .bool wp), (10, .int .i64 (b - a))], SB tt q.2)) (fun q => (0 ≤ q.1 ∧ q.1 ≤ 64) ∧ q.2.length = n) ?_ ?_
 · refine i_ ?_ ?_ <;> intro h3
   · refine w_ ?_
     refine WL_call [0] (break_tri nl tt ns n cap hl hn a b (by omega)) rfl rfl rfl t_ t_ rfl rfl rfl rfl ?_; rintro _ _ _ ⟨rfl, ns1, rfl, hl1, rfl⟩
     refine w_ ?_
     refine ⟨(lim - 1, ns1), ⟨by simp only; omega, hl1⟩, Imp_ren [0] ?_ ?_ rfl rfl rfl⟩
     · exact s_
     · exact s_
   · refine w_ ?_
     refine ⟨(lim, ns), ⟨hlim, hl⟩, Imp_ren [0] ?_ ?_ rfl rfl rfl⟩
     · exact s_
     · exact s_
 clear hl hlim h2
 rintro ⟨lim, ns⟩ ⟨hlim, hl⟩
 simp only at hlim hl
 refine w_ ?_
 refine WL_call [0] (choose_tri nl tt ns n cap hl hn a b (by omega)) rfl rfl rfl t_ t_ rfl rfl rfl rfl ?_; rintro _ _ _ ⟨rfl, ns1, rfl, hl1, p, h, rfl, p1, p2⟩
 refine w_ ?_
 refine W_mid (α := Int × Int × List Int) (fun q => (1, [(0, SI nl n cap), (1, .int .i64 a), (2, .int .i64 b), (3, .int .i64 lim), (8, .bool wb), (9, .bool wp), (10, .int .i64 (b - a)), (11, .int .i64 q.1), (12, .int .i64 q.2.1)], SB tt q.2.2)) (fun q => (a ≤ q.1 ∧ q.1 < b) ∧ q.2.2.length = n) ?_ ?_
 · refine i_ ?_ ?_ <;> intro h3
   · refine w_ ?_
     refine WL_call [0] (reverse_tri nl tt ns1 n cap hl1 hn a b (by omega)) rfl rfl rfl t_ t_ rfl rfl rfl rfl ?_; rintro _ _ _ ⟨rfl, ns2, rfl, hl2, rfl⟩
     refine w_ ?_
     refine ⟨(b - 1 - (p - a), 1, ns2), ⟨by simp only; omega, hl2⟩, Imp_ren [0] ?_ ?_ rfl rfl rfl⟩
     · exact s_
     · exact s_
   · refine w_ ?_
     refine ⟨(p, h, ns1), ⟨by simp only; omega, hl1⟩, Imp_ren [0] ?_ ?_ rfl rfl rfl⟩
     · exact s_
     · exact s_
 clear hl hl1 p1 p2
 rintro ⟨p, h, ns⟩ ⟨hp, hl⟩
 simp only at hp hl
 refine W_seq ?_
 refine W_seq ?_
 refine W_region ?_
 refine WL_join 8 [(0, SI nl n cap), (1, .int .i64 a), (2, .int .i64 b), (3, .int .i64 lim), (8, .bool wb), (9, .bool wp), (10, .int .i64 (b - a)), (11, .int .i64 p), (68, .bool (wb && wp && (h == 1)))] ?_ ?_
 · cases wb with
   | false =>
     refine w_ ?_
     exact s_
   | true => cases wp with
     | false =>
       refine w_ ?_
       exact s_
     | true =>
       refine w_ ?_
       exact s_
 refine w_ ?_
 refine W_mid (α := List Int) (fun q => (1, [(0, SI nl n cap), (1, .int .i64 a), (2, .int .i64 b), (3, .int .i64 lim), (8, .bool wb), (9, .bool wp), (10, .int .i64 (b - a)), (11, .int .i64 p)], SB tt q)) (fun q => q.length = n) ?_ ?_
 · refine i_ ?_ ?_ <;> intro h4
   · refine w_ ?_
     refine WL_call [0] (partialIns_tri nl tt ns n cap hl hn a b (by omega)) rfl rfl rfl t_ t_ rfl rfl rfl rfl ?_; rintro _ _ _ ⟨rfl, ns1, rfl, hl1, v, rfl⟩
     refine w_ ?_
     refine i_ ?_ ?_ <;> intro h5
     · refine w_ ?_
       refine W_ret ?_; (repeat (first | refine then_ret ?_ | refine inbl_ret ?_)); refine ⟨_, _, rfl, s_, SPk.mk ns1 (s_) hl1 rfl⟩
     · refine w_ ?_
       refine ⟨ns1, hl1, Imp_ren [0] ?_ ?_ rfl rfl rfl⟩
       · exact s_
       · exact s_
   · refine w_ ?_
     refine ⟨ns, hl, Imp_ren [0] ?_ ?_ rfl rfl rfl⟩
     · exact s_
     · exact s_
 clear hl
 rintro ns hl
 refine w_ ?_
 refine j_ 75 ?_ ?_ <;> intro h5
 · refine w_ ?_
   refine WL_callG [0] (less_tri nl tt ns n cap (a - 1) (p) hl hn.1 (by omega) (by omega)) (callsTo_invoke msLess rfl rfl) rfl rfl t_ t_ rfl rfl rfl rfl ?_; rintro _ _ _ ⟨rfl, rfl, lb, rfl⟩
   refine w_ ?_
   refine i_ ?_ ?_ <;> intro h6
   · refine w_ ?_
     refine WL_call [0] (partEq_tri nl tt ns n cap hl hn a b p (by omega) (by omega)) rfl rfl rfl t_ t_ rfl rfl rfl rfl ?_; rintro _ _ _ ⟨rfl, ns1, rfl, hl1, v, rfl, v1, v2⟩
     refine w_ ?_
     refine x_ ?_
     refine w_ ?_
     refine LP_ren [0] (ih (v, b, lim, wb, wp, ns1) ⟨by simp only; omega, by simp only; omega, by simp only; omega, hl1⟩ (by simp only; omega)) ?_ ?_ rfl rfl rfl; (focus (exact s_; done)); (focus (exact s_; done))
   · refine w_ ?_
     refine WL_call [0] (part_sort_tri nl tt ns n cap hl hn a b p (by omega) (by omega)) rfl rfl rfl t_ t_ rfl rfl rfl rfl ?_; rintro _ _ _ ⟨rfl, ns1, rfl, hl1, mid, w, rfl, w1, w2⟩
     refine w_ ?_
     have hq : (b - a).tdiv 8 = (b - a) / 8 := Int.tdiv_eq_ediv_of_nonneg (by omega)
     refine w_ ?_
     refine i_ ?_ ?_ <;> intro e5
     · refine w_ ?_
       refine WL_call [0] (IH ns1 hl1 a mid lim (by omega) (by omega) (by omega)) rfl rfl rfl (s_) (s_) rfl rfl rfl rfl ?_; rintro _ _ _ ⟨rfl, ns2, rfl, hl2, rfl⟩
       refine w_ ?_
       refine LP_ren [0] (ih (mid + 1, b, lim, decide (mid - a ≥ (b - a).tdiv 8), w, ns2) ⟨by simp only; omega, by simp only; omega, by simp only; omega, hl2⟩ (by simp only; omega)) ?_ ?_ rfl rfl rfl; (focus (exact s_; done)); (focus (exact s_; done))
     · refine w_ ?_
       refine WL_call [0] (IH ns1 hl1 (mid + 1) b lim (by omega) (by omega) (by omega)) rfl rfl rfl (s_) (s_) rfl rfl rfl rfl ?_; rintro _ _ _ ⟨rfl, ns2, rfl, hl2, rfl⟩
       refine w_ ?_
       refine LP_ren [0] (ih (a, mid, lim, decide (b - mid ≥ (b - a).tdiv 8), w, ns2) ⟨by simp only; omega, by simp only; omega, by simp only; omega, hl2⟩ (by simp only; omega)) ?_ ?_ rfl rfl rfl; (focus (exact s_; done)); (focus (exact s_; done))
 · refine w_ ?_
   refine W_cond_false rfl ?_
   refine w_ ?_
   refine WL_call [0] (part_sort_tri nl tt ns n cap hl hn a b p (by omega) (by omega)) rfl rfl rfl t_ t_ rfl rfl rfl rfl ?_; rintro _ _ _ ⟨rfl, ns1, rfl, hl1, mid, w, rfl, w1, w2⟩
   refine w_ ?_
   have hq : (b - a).tdiv 8 = (b - a) / 8 := Int.tdiv_eq_ediv_of_nonneg (by omega)
   refine w_ ?_
   refine i_ ?_ ?_ <;> intro e5
   · refine w_ ?_
     refine WL_call [0] (IH ns1 hl1 a mid lim (by omega) (by omega) (by omega)) rfl rfl rfl (s_) (s_) rfl rfl rfl rfl ?_; rintro _ _ _ ⟨rfl, ns2, rfl, hl2, rfl⟩
     refine w_ ?_
     refine LP_ren [0] (ih (mid + 1, b, lim, decide (mid - a ≥ (b - a).tdiv 8), w, ns2) ⟨by simp only; omega, by simp only; omega, by simp only; omega, hl2⟩ (by simp only; omega)) ?_ ?_ rfl rfl rfl; (focus (exact s_; done)); (focus (exact s_; done))
   · refine w_ ?_
     refine WL_call [0] (IH ns1 hl1 (mid + 1) b lim (by omega) (by omega) (by omega)) rfl rfl rfl (s_) (s_) rfl rfl rfl rfl ?_; rintro _ _ _ ⟨rfl, ns2, rfl, hl2, rfl⟩
     refine w_ ?_
     refine LP_ren [0] (ih (a, mid, lim, decide (b - mid ≥ (b - a).tdiv 8), w, ns2) ⟨by simp only; omega, by simp only; omega, by simp only; omega, hl2⟩ (by simp only; omega)) ?_ ?_ rfl rfl rfl; (focus (exact s_; done)); (focus (exact s_; done))
theorem sort_tri (nl : Bool) (ns : List Int) (cap tt : Nat) (hc : ns.length ≤ cap) (hn : ns.length ≤ 1100000000) :
 Tri C0 112 1 [(0, .recs 88 (some tt) K2 (tms ns))] [.ifc 169 (.sl nl 0 2 0 ns.length cap)] (SP tt ns.length isT) := by
 refine SP.keep ?_ (fun _ => isT_lt)
 refine Tri.mk 15 [] Tryz.func112 rfl rfl rfl rfl cf112 ?_; intro w0 S T ρ0
 refine w_ ?_
 refine WL_callG [0] (len_tri nl tt ns ns.length cap rfl ⟨hc, hn⟩) (callsTo_invoke msLen rfl rfl) rfl rfl t_ t_ rfl rfl rfl rfl ?_; rintro _ _ _ ⟨rfl, rfl, rfl⟩
 refine w_ ?_
 refine i_ ?_ ?_ <;> intro h1
 · refine w_ ?_
   refine W_ret ?_; (repeat (first | refine then_ret ?_ | refine inbl_ret ?_)); refine ⟨_, _, rfl, s_, SPk.mk ns (s_) rfl rfl⟩
 refine w_ ?_
 refine WL_call [] (len_bits_tri ns.length (by omega)) rfl rfl rfl t_ t_ rfl rfl rfl rfl ?_; rintro _ _ _ ⟨rfl, rfl, v, rfl, h2, _⟩
 refine w_ ?_
 refine WL_call [0] (pdq_tri nl tt ns.length cap ⟨hc, hn⟩ (ns.length + 1) ns rfl 0 ns.length v (by omega) (by omega) (by omega)) rfl rfl rfl (s_) (s_) rfl rfl rfl rfl ?_; rintro _ _ _ ⟨rfl, ns2, rfl, hl2, rfl⟩
 refine w_ ?_
 refine ⟨_, _, rfl, s_, SPk.mk ns2 (s_) hl2 rfl⟩
end Go.Eng
