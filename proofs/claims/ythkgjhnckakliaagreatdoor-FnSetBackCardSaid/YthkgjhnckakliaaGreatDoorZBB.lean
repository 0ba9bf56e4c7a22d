/- A part of the proof that the rows statement FnSetBack holds; no conditions. -/
import Derived.Test.YthkgjhnckakliaaGreatDoorZAV
set_option linter.unusedVariables false
set_option linter.unusedSimpArgs false
set_option linter.unusedSectionVars false
namespace Go.Eng
open Go.Proofs
attribute [local irreducible] W WL LP Then InBl Tri WS
theorem ms_of2 (t f : Nat) (m : String) (i : TypeInfo) (sig d : TypeId) (hi : Tryz.prog.info? t = some i) (hm : i.methods.find? (·.name == m) = some ⟨m, sig, #[], some (f, false)⟩) (hu : Tryz.prog.underlying t = some (.slice d))
 (hf : ∀ args w, (callFunc f args).run Tryz.prog w = .ok (.enter f args) w) : ∀ v args w, (callMethod (.iface t v) m args).run Tryz.prog w = .ok (.enter f (#[v] ++ args)) w := by
 intro v args w
 have hmeth : ∀ n, (method (n + 1) t v m).run Tryz.prog w = .ok (f, v) w := by
  intro n
  have h1 : (typeInfo t).run Tryz.prog w = .ok i w := by simp only [typeInfo, Sem.run_bind, run_program, Result.andThen_ok, hi, Sem.run_pure]
  simp only [method, Sem.run_bind, h1, Result.andThen_ok, hm, follow, Sem.run_pure, receiverAt, Go.run_underlying hu, Place.get]
 have hn : Tryz.prog.types.size + Made.depth = (Tryz.prog.types.size + Made.depth - 1) + 1 := by
  have : 0 < Made.depth := by decide
  omega
 simp only [callMethod, Sem.run_bind, run_program, Result.andThen_ok]
 rw [hn, hmeth]
 simp only [Result.andThen_ok, hf]
theorem msLen : ∀ v args w, (callMethod (.iface 169 v) "Len" args).run C0.P w = .ok (.enter 358 (#[v] ++ args)) w := ms_of2 169 358 "Len" Tryz.t169 239 88 (by kernel_rfl) (by kernel_rfl) (by kernel_rfl) cf358
theorem msLess : ∀ v args w, (callMethod (.iface 169 v) "Less" args).run C0.P w = .ok (.enter 359 (#[v] ++ args)) w := ms_of2 169 359 "Less" Tryz.t169 303 88 (by kernel_rfl) (by kernel_rfl) (by kernel_rfl) cf359
theorem msSwap : ∀ v args w, (callMethod (.iface 169 v) "Swap" args).run C0.P w = .ok (.enter 360 (#[v] ++ args)) w := ms_of2 169 360 "Swap" Tryz.t169 345 88 (by kernel_rfl) (by kernel_rfl) (by kernel_rfl) cf360
abbrev SB (tt : Nat) (ns : List Int) : Hp := [(0, .recs 88 (some tt) K2 (tms ns))]
abbrev SV (nl : Bool) (n cap : Nat) : AV := .sl nl 0 2 0 n cap
abbrev SI (nl : Bool) (n cap : Nat) : AV := .ifc 169 (.sl nl 0 2 0 n cap)
theorem tms_get {ns : List Int} {i : Nat} (h : i < ns.length) : (tms ns).getD i [] = [ns.getD i 0, 0] := by
 simp [List.getD, h]
theorem tms_set {ns : List Int} {k : Nat} {a : Int} : (tms ns).set k [a, 0] = tms (ns.set k a) := (List.map_set).symm
theorem len_tri (nl : Bool) (tt : Nat) (ns : List Int) (n cap : Nat) (hl : ns.length = n) (hn : n ≤ cap ∧ n ≤ 1100000000) : Tri C0 358 1 (SB tt ns) [SV nl n cap] (fun k hp r => k = 1 ∧ hp = SB tt ns ∧ r = .int .i64 n) := by
 refine Tri.keep (Tri.mk 5 [.tmp 2] Tryz.func358 rfl rfl rfl rfl cf358 ?_) t_ (fun r h => q_); intro w0 S T ρ0
 refine w_ ?_
 refine k_ ?_
 rfl
theorem less_tri (nl : Bool) (tt : Nat) (ns : List Int) (n cap : Nat) (i j : Int) (hl : ns.length = n) (hn : n ≤ cap) (hi : 0 ≤ i ∧ i < n) (hj : 0 ≤ j ∧ j < n) : Tri C0 359 1 (SB tt ns) [SV nl n cap, .int .i64 i, .int .i64 j] (fun k hp r => k = 1 ∧ hp = SB tt ns ∧ ∃ b, r = .bool b) := by
 refine Tri.keep ?_ (s_) (by rintro r ⟨b, rfl⟩; trivial)
 have hml : (tms ns).length = n := by simp [hl]
 refine Tri.mk 16 [.tmp 6] Tryz.func359 rfl rfl rfl rfl cf359 ?_; intro w0 S T ρ0
 refine w_ ?_
 refine W_draw [0] [] 10 mo0 (by kernel_rfl) (by kernel_rfl) (fun ρ1 hkl => ?_); refine d_ ?_
 rw [tms_get (by omega), tms_get (by omega)]
 refine d_ ?_
 refine WS_loud rfl ?_ hkl; refine WL_call [] (before_tri (ns.getD (0 + i.toNat) 0) (ns.getD (0 + j.toNat) 0)) rfl rfl rfl t_ t_ rfl rfl rfl rfl ?_; rintro _ _ _ ⟨rfl, rfl, rfl⟩; refine WL_nil ?_; refine nq_walk ⟨fun _ => t_, ?_⟩; refine d_ ?_
 refine w_ ?_
 refine k_ ?_
 exact ⟨_, rfl⟩
def SP (tt n : Nat) (p : AV → Prop) : Rs := fun k hp r => k = 1 ∧ ∃ ns' : List Int, hp = SB tt ns' ∧ (ns'.length = n ∧ p r)
def SPk (tt n : Nat) (p : AV → Prop) : Rs := fun k hp r => ∃ ns' : List Int, Keeps (SB tt ns') (fun r => ns'.length = n ∧ p r) k hp r
theorem SP.keep {f : FuncId} {hp0 : Hp} {args : List AV} {tt n : Nat} {p : AV → Prop} (T : Tri C0 f 1 hp0 args (SPk tt n p)) (hp : ∀ r, p r → r.lt 1) : Tri C0 f 1 hp0 args (SP tt n p) :=
 Tri.keepX T (fun _ => s_) (fun _ r h => hp r h.2)
theorem SPk.mk {tt n k : Nat} {hp : Hp} {p : AV → Prop} {r : AV} (ns' : List Int) (h1 : kpL hp (SB tt ns')) (h2 : ns'.length = n) (h3 : p r) : SPk tt n p k hp r := ⟨ns', h1, h2, h3⟩
def isT (r : AV) : Prop := r = .tup []
theorem isT_lt {r : AV} (h : isT r) : r.lt 1 := by cases h; trivial
theorem swap_tri (nl : Bool) (tt : Nat) (ns : List Int) (n cap : Nat) (i j : Int) (hl : ns.length = n) (hn : n ≤ cap) (hi : 0 ≤ i ∧ i < n) (hj : 0 ≤ j ∧ j < n) : Tri C0 360 1 (SB tt ns) [SV nl n cap, .int .i64 i, .int .i64 j] (SP tt n isT) := by
 refine SP.keep ?_ (fun _ => isT_lt)
 have hml : (tms ns).length = n := by simp [hl]
 refine Tri.mk 20 [] Tryz.func360 rfl rfl rfl rfl cf360 ?_; intro w0 S T ρ0
 refine w_ ?_
 refine W_draw [0] [] 16 mo0 (by kernel_rfl) (by kernel_rfl) (fun ρ1 hkl => ?_); refine d_ ?_
 rw [tms_get (by omega), tms_get (by omega)]
 refine d_ ?_
 refine WS_loud rfl ?_ hkl
 refine WL_store rfl rfl (by show 0 + i.toNat < (tms ns).length; omega) ?_
 dsimp only
 rw [tms_get (show 0 + i.toNat < ns.length by omega)]
 dsimp only [List.tail, List.headD]
 rw [tms_set]
 refine WL_nil ?_
 refine nq_walk ⟨fun h => (by cases h), ?_⟩
 refine d_ ?_
 refine WS_loud rfl ?_ hkl
 have hs1 : (ns.set (0 + i.toNat) (ns.getD (0 + j.toNat) 0)).length = n := by rw [List.length_set]; exact hl
 generalize ns.set (0 + i.toNat) (ns.getD (0 + j.toNat) 0) = ns1 at *
 have hm1 : (tms ns1).length = n := by simp [hs1]
 refine WL_store rfl rfl (by show 0 + j.toNat < (tms ns1).length; omega) ?_
 dsimp only
 rw [tms_get (show 0 + j.toNat < ns1.length by omega)]
 dsimp only [List.tail, List.headD]
 rw [tms_set]
 refine WL_nil ?_
 refine nq_walk ⟨fun h => (by cases h), ?_⟩
 refine d_ ?_
 refine ⟨_, _, rfl, s_, SPk.mk (ns1.set (0 + j.toNat) (ns.getD (0 + i.toNat) 0)) (s_) (by rw [List.length_set]; exact hs1) rfl⟩
end Go.Eng
namespace Go.Eng
open Go.Proofs
attribute [local irreducible] W WL LP Then InBl Tri WS
theorem insertion_tri (nl : Bool) (tt : Nat) (ns : List Int) (n cap : Nat) (hl : ns.length = n) (hn : n ≤ cap ∧ n ≤ 1100000000) (a b : Int) (ha : 0 ≤ a ∧ a ≤ b ∧ b ≤ n) : Tri C0 229 1 (SB tt ns) [SI nl n cap, .int .i64 a, .int .i64 b] (SP tt n isT) := by
 refine SP.keep ?_ (fun _ => isT_lt)
 refine Tri.mk 33 [] Tryz.func229 rfl rfl rfl rfl cf229 ?_; intro w0 S T ρ0
 refine w_ ?_
 refine W_loop ?_; refine LP_ren [0] (LP_ind 1 (fun q : Int × List Int => ([(0, SI nl n cap), (1, .int .i64 a), (2, .int .i64 b), (6, .int .i64 q.1)], SB tt q.2)) (fun q => (b - q.1).toNat) (fun q => a + 1 ≤ q.1 ∧ q.1 ≤ b + 1 ∧ q.2.length = n) (a + 1, ns) ?_ (⟨Int.le_refl _, by show a + 1 ≤ b + 1; omega, hl⟩)) s_ s_ rfl rfl rfl
 clear hl
 rintro ⟨i, ns⟩ ⟨g1, g2, hl⟩ ih
 simp only at g1 g2 hl
 refine LP_round ?_; try dsimp only
 refine w_ ?_
 refine i_ ?_ ?_ <;> intro h1
 rotate_left 1
 · refine w_ ?_
   refine x_ ?_
   refine w_ ?_
   refine ⟨_, _, rfl, s_, SPk.mk ns (s_) hl rfl⟩
 refine w_ ?_
 refine W_loop ?_; refine LP_ren [0] (LP_ind 1 (fun q : Int × List Int => ([(0, SI nl n cap), (1, .int .i64 a), (2, .int .i64 b), (6, .int .i64 i), (7, .int .i64 q.1)], SB tt q.2)) (fun q => (q.1 - a).toNat) (fun q => a ≤ q.1 ∧ q.1 ≤ i ∧ q.2.length = n) (i, ns) ?_ (⟨by show a ≤ i; omega, Int.le_refl _, hl⟩)) s_ s_ rfl rfl rfl
 clear hl
 rintro ⟨j, ns⟩ ⟨f1, f2, hl⟩ ih2
 simp only at f1 f2 hl
 refine LP_round ?_; try dsimp only
 refine w_ ?_
 refine j_ 19 ?_ ?_ <;> intro h2
 · refine w_ ?_
   refine WL_callG [0] (less_tri nl tt ns n cap (j) (j - 1) hl hn.1 (by omega) (by omega)) (callsTo_invoke msLess rfl rfl) rfl rfl t_ t_ rfl rfl rfl rfl ?_; rintro _ _ _ ⟨rfl, rfl, lb, rfl⟩
   refine w_ ?_
   refine i_ ?_ ?_ <;> intro h3
   · refine w_ ?_
     refine WL_callG [0] (swap_tri nl tt ns n cap (j) (j - 1) hl hn.1 (by omega) (by omega)) (callsTo_invoke msSwap rfl rfl) rfl rfl t_ t_ rfl rfl rfl rfl ?_; rintro _ _ _ ⟨rfl, ns1, rfl, hl1, rfl⟩
     refine w_ ?_
     refine LP_ren [0] (ih2 (j - 1, ns1) ⟨by show a ≤ j - 1; omega, by show j - 1 ≤ i; omega, hl1⟩ (by simp only; omega)) ?_ ?_ rfl rfl rfl; (focus (exact s_; done)); (focus (exact s_; done))
   · refine w_ ?_
     refine x_ ?_
     refine w_ ?_
     refine LP_ren [0] (ih (i + 1, ns) ⟨by show a + 1 ≤ i + 1; omega, by show i + 1 ≤ b + 1; omega, hl⟩ (by simp only; omega)) ?_ ?_ rfl rfl rfl; (focus (exact s_; done)); (focus (exact s_; done))
 · refine w_ ?_
   refine W_cond_false rfl ?_
   refine w_ ?_
   refine x_ ?_
   refine w_ ?_
   refine LP_ren [0] (ih (i + 1, ns) ⟨by show a + 1 ≤ i + 1; omega, by show i + 1 ≤ b + 1; omega, hl⟩ (by simp only; omega)) ?_ ?_ rfl rfl rfl; (focus (exact s_; done)); (focus (exact s_; done))
theorem sift_tri (nl : Bool) (tt : Nat) (ns : List Int) (n cap : Nat) (hl : ns.length = n) (hn : n ≤ cap ∧ n ≤ 1100000000) (lo hi first : Int) (h0 : 0 ≤ lo ∧ lo ≤ 1100000000) (h00 : 0 ≤ hi ∧ 0 ≤ first ∧ first + hi ≤ n) : Tri C0 277 1 (SB tt ns) [SI nl n cap, .int .i64 lo, .int .i64 hi, .int .i64 first] (SP tt n isT) := by
 refine SP.keep ?_ (fun _ => isT_lt)
 refine Tri.mk 52 [] Tryz.func277 rfl rfl rfl rfl cf277 ?_; intro w0 S T ρ0
 refine w_ ?_
 refine W_loop ?_; refine LP_ren [0] (LP_ind 1 (fun q : Int × List Int => ([(0, SI nl n cap), (1, .int .i64 lo), (2, .int .i64 hi), (3, .int .i64 first), (8, .int .i64 q.1)], SB tt q.2)) (fun q => (hi - q.1).toNat) (fun q => 0 ≤ q.1 ∧ q.1 ≤ 1100000000 ∧ q.2.length = n) (lo, ns) ?_ (⟨h0.1, h0.2, hl⟩)) s_ s_ rfl rfl rfl
 clear hl
 rintro ⟨root, ns⟩ ⟨g1, g2, hl⟩ ih
 simp only at g1 g2 hl
 refine LP_round ?_; try dsimp only
 refine w_ ?_
 refine i_ ?_ ?_ <;> intro h1
 · refine w_ ?_
   refine x_ ?_
   refine w_ ?_
   refine ⟨_, _, rfl, s_, SPk.mk ns (s_) hl rfl⟩
 refine w_ ?_
 refine j_ 21 ?_ ?_ <;> intro h2
 · refine w_ ?_
   refine WL_callG [0] (less_tri nl tt ns n cap (first + (2 * root + 1)) (first + (2 * root + 1) + 1) hl hn.1 (by omega) (by omega)) (callsTo_invoke msLess rfl rfl) rfl rfl t_ t_ rfl rfl rfl rfl ?_; rintro _ _ _ ⟨rfl, rfl, lb, rfl⟩
   refine w_ ?_
   refine i_ ?_ ?_ <;> intro h3
   · refine w_ ?_
     refine WL_callG [0] (less_tri nl tt ns n cap (first + root) (first + (2 * root + 1 + 1)) hl hn.1 (by omega) (by omega)) (callsTo_invoke msLess rfl rfl) rfl rfl t_ t_ rfl rfl rfl rfl ?_; rintro _ _ _ ⟨rfl, rfl, lb2, rfl⟩
     refine w_ ?_
     refine i_ ?_ ?_ <;> intro h5
     · refine w_ ?_
       refine W_ret ?_; (repeat (first | refine then_ret ?_ | refine inbl_ret ?_)); refine ⟨_, _, rfl, s_, SPk.mk ns (s_) hl rfl⟩
     · refine w_ ?_
       refine WL_callG [0] (swap_tri nl tt ns n cap (first + root) (first + (2 * root + 1 + 1)) hl hn.1 (by omega) (by omega)) (callsTo_invoke msSwap rfl rfl) rfl rfl t_ t_ rfl rfl rfl rfl ?_; rintro _ _ _ ⟨rfl, ns1, rfl, hl1, rfl⟩
       refine w_ ?_
       refine LP_ren [0] (ih (2 * root + 1 + 1, ns1) ⟨by show 0 ≤ 2 * root + 1 + 1; omega, by show 2 * root + 1 + 1 ≤ 1100000000; omega, hl1⟩ (by simp only; omega)) ?_ ?_ rfl rfl rfl; (focus (exact s_; done)); (focus (exact s_; done))
   · refine w_ ?_
     refine WL_callG [0] (less_tri nl tt ns n cap (first + root) (first + (2 * root + 1)) hl hn.1 (by omega) (by omega)) (callsTo_invoke msLess rfl rfl) rfl rfl t_ t_ rfl rfl rfl rfl ?_; rintro _ _ _ ⟨rfl, rfl, lb2, rfl⟩
     refine w_ ?_
     refine i_ ?_ ?_ <;> intro h5
     · refine w_ ?_
       refine W_ret ?_; (repeat (first | refine then_ret ?_ | refine inbl_ret ?_)); refine ⟨_, _, rfl, s_, SPk.mk ns (s_) hl rfl⟩
     · refine w_ ?_
       refine WL_callG [0] (swap_tri nl tt ns n cap (first + root) (first + (2 * root + 1)) hl hn.1 (by omega) (by omega)) (callsTo_invoke msSwap rfl rfl) rfl rfl t_ t_ rfl rfl rfl rfl ?_; rintro _ _ _ ⟨rfl, ns1, rfl, hl1, rfl⟩
       refine w_ ?_
       refine LP_ren [0] (ih (2 * root + 1, ns1) ⟨by show 0 ≤ 2 * root + 1; omega, by show 2 * root + 1 ≤ 1100000000; omega, hl1⟩ (by simp only; omega)) ?_ ?_ rfl rfl rfl; (focus (exact s_; done)); (focus (exact s_; done))
 · refine w_ ?_
   refine W_cond_false rfl ?_
   refine w_ ?_
   refine WL_callG [0] (less_tri nl tt ns n cap (first + root) (first + (2 * root + 1)) hl hn.1 (by omega) (by omega)) (callsTo_invoke msLess rfl rfl) rfl rfl t_ t_ rfl rfl rfl rfl ?_; rintro _ _ _ ⟨rfl, rfl, lb2, rfl⟩
   refine w_ ?_
   refine i_ ?_ ?_ <;> intro h5
   · refine w_ ?_
     refine W_ret ?_; (repeat (first | refine then_ret ?_ | refine inbl_ret ?_)); refine ⟨_, _, rfl, s_, SPk.mk ns (s_) hl rfl⟩
   · refine w_ ?_
     refine WL_callG [0] (swap_tri nl tt ns n cap (first + root) (first + (2 * root + 1)) hl hn.1 (by omega) (by omega)) (callsTo_invoke msSwap rfl rfl) rfl rfl t_ t_ rfl rfl rfl rfl ?_; rintro _ _ _ ⟨rfl, ns1, rfl, hl1, rfl⟩
     refine w_ ?_
     refine LP_ren [0] (ih (2 * root + 1, ns1) ⟨by show 0 ≤ 2 * root + 1; omega, by show 2 * root + 1 ≤ 1100000000; omega, hl1⟩ (by simp only; omega)) ?_ ?_ rfl rfl rfl; (focus (exact s_; done)); (focus (exact s_; done))
theorem heap_tri (nl : Bool) (tt : Nat) (ns : List Int) (n cap : Nat) (hl : ns.length = n) (hn : n ≤ cap ∧ n ≤ 1100000000) (a b : Int) (ha : 0 ≤ a ∧ a ≤ b ∧ b ≤ n) : Tri C0 230 1 (SB tt ns) [SI nl n cap, .int .i64 a, .int .i64 b] (SP tt n isT) := by
 refine SP.keep ?_ (fun _ => isT_lt)
 have hq : (b - a - 1).tdiv 2 ≤ 1100000000 ∧ -1 ≤ (b - a - 1).tdiv 2 := by
  rcases (show b - a - 1 = -1 ∨ 0 ≤ b - a - 1 by omega) with h | h
  · rw [h]; decide
  · rw [Int.tdiv_eq_ediv_of_nonneg h]; omega
 refine Tri.mk 44 [] Tryz.func230 rfl rfl rfl rfl cf230 ?_; intro w0 S T ρ0
 refine w_ ?_
 generalize (b - a - 1).tdiv 2 = i0 at *
 refine W_loop ?_; refine LP_ren [0] (LP_ind 1 (fun q : Int × List Int => ([(0, SI nl n cap), (6, .int .i64 a), (7, .int .i64 0), (8, .int .i64 (b - a)), (9, .int .i64 q.1)], SB tt q.2)) (fun q => (q.1 + 1).toNat) (fun q => -1 ≤ q.1 ∧ q.1 ≤ 1100000000 ∧ q.2.length = n) (i0, ns) ?_ (⟨hq.2, hq.1, hl⟩)) s_ s_ rfl rfl rfl
 clear hl
 rintro ⟨i, ns⟩ ⟨g1, g2, hl⟩ ih
 simp only at g1 g2 hl
 refine LP_round ?_; try dsimp only
 refine w_ ?_
 refine i_ ?_ ?_ <;> intro h1
 · refine w_ ?_
   refine WL_call [0] (sift_tri nl tt ns n cap hl hn i (b - a) a (by omega) (by omega)) rfl rfl rfl t_ t_ rfl rfl rfl rfl ?_; rintro _ _ _ ⟨rfl, ns1, rfl, hl1, rfl⟩
   refine w_ ?_
   refine LP_ren [0] (ih (i - 1, ns1) ⟨by show -1 ≤ i - 1; omega, by show i - 1 ≤ 1100000000; omega, hl1⟩ (by simp only; omega)) ?_ ?_ rfl rfl rfl; (focus (exact s_; done)); (focus (exact s_; done))
 refine w_ ?_
 refine x_ ?_
 refine w_ ?_
 clear ih
 refine W_loop ?_; refine LP_ren [0] (LP_ind 1 (fun q : Int × List Int => ([(0, SI nl n cap), (6, .int .i64 a), (7, .int .i64 0), (8, .int .i64 (b - a)), (10, .int .i64 q.1)], SB tt q.2)) (fun q => (q.1 + 1).toNat) (fun q => -1 ≤ q.1 ∧ q.1 ≤ b - a - 1 ∧ q.2.length = n) (b - a - 1, ns) ?_ (⟨by show -1 ≤ b - a - 1; omega, Int.le_refl _, hl⟩)) s_ s_ rfl rfl rfl
 clear hl g1 g2 h1
 rintro ⟨i, ns⟩ ⟨g1, g2, hl⟩ ih
 simp only at g1 g2 hl
 refine LP_round ?_; try dsimp only
 refine w_ ?_
 refine i_ ?_ ?_ <;> intro h1
 · refine w_ ?_
   refine WL_callG [0] (swap_tri nl tt ns n cap (a) (a + i) hl hn.1 (by omega) (by omega)) (callsTo_invoke msSwap rfl rfl) rfl rfl t_ t_ rfl rfl rfl rfl ?_; rintro _ _ _ ⟨rfl, ns1, rfl, hl1, rfl⟩
   refine w_ ?_
   refine WL_call [0] (sift_tri nl tt ns1 n cap hl1 hn 0 i a (by omega) (by omega)) rfl rfl rfl t_ t_ rfl rfl rfl rfl ?_; rintro _ _ _ ⟨rfl, ns2, rfl, hl2, rfl⟩
   refine w_ ?_
   refine LP_ren [0] (ih (i - 1, ns2) ⟨by show -1 ≤ i - 1; omega, by show i - 1 ≤ b - a - 1; omega, hl2⟩ (by simp only; omega)) ?_ ?_ rfl rfl rfl; (focus (exact s_; done)); (focus (exact s_; done))
 refine w_ ?_
 refine x_ ?_
 refine w_ ?_
 refine ⟨_, _, rfl, s_, SPk.mk ns (s_) hl rfl⟩
end Go.Eng
namespace Go.Eng
open Go.Proofs
attribute [local irreducible] W WL LP Then InBl Tri WS
def len8 : List UInt8 := [0, 1] ++ (List.replicate 2 2 ++ (List.replicate 4 3 ++ (List.replicate 8 4 ++ (List.replicate 16 5 ++ (List.replicate 32 6 ++ (List.replicate 64 7 ++ List.replicate 128 8))))))
theorem len8_ok : ∀ y < 256, (len8.getD y 0).toNat ≤ 8 ∧ (1 ≤ y → 2 ^ (len8.getD y 0).toNat ≤ 2 * y) := by
 have h : ((List.range 256).all fun y => decide ((len8.getD y 0).toNat ≤ 8) && (decide (y = 0) || decide (2 ^ (len8.getD y 0).toNat ≤ 2 * y))) = true := by kernel_rfl
 intro y hy
 have := List.all_eq_true.1 h y (List.mem_range.2 hy)
 simp only [Bool.and_eq_true, Bool.or_eq_true, decide_eq_true_eq] at this
 exact ⟨this.1, fun h1 => this.2.resolve_left (by omega)⟩
theorem len64_tri (x : Nat) (hx : x ≤ 4294967295) : Tri C0 138 0 [] [.int .u64 x] (fun k hp r => k = 0 ∧ hp = [] ∧ ∃ v : Nat, r = .int .i64 v ∧ v ≤ 32 ∧ (1 ≤ x → 2 ^ v ≤ 2 * x)) := by
 refine Tri.keep ?_ (s_) (by rintro r ⟨v, rfl, _⟩; trivial)
 refine Tri.mk 25 [.tmp 2] Tryz.func138 rfl rfl rfl rfl cf138 ?_; intro w0 S T ρ0
 refine w_ ?_
 refine i_ ?_ ?_ <;> intro h1
 · exact absurd h1 (by omega)
 refine w_ ?_
 refine i_ ?_ ?_ <;> intro h2
 · refine w_ ?_
   refine WL_shr (n := 16) rfl rfl rfl rfl rfl ?_
   refine w_ ?_
   refine i_ ?_ ?_ <;> intro h3
   · refine w_ ?_
     refine WL_shr (n := 8) rfl rfl rfl rfl rfl ?_
     refine w_ ?_
     obtain ⟨y, hy⟩ : ∃ y : Nat, y = x / 16777216 := ⟨_, rfl⟩
     rw [show ((x : Int) / 2 ^ 16 / 2 ^ 8) = (y : Int) by omega]
     have hy2 : y < 256 := by omega
     obtain ⟨t1, t2⟩ := len8_ok y hy2
     refine WL_val (φ := 0 ≤ (y : Int) ∧ (y : Int) < 256) (av := .int .u8 (bt len8 y)) (by kernel_rfl) rfl rfl (by omega) ?_
     rw [show bt len8 (y : Int) = ((len8.getD y 0).toNat : Int) by simp [bt]]
     generalize (len8.getD y 0).toNat = t at *
     refine w_ ?_
     refine k_ ?_
     refine ⟨24 + t, rfl, by omega, fun hx1 => ?_⟩
     have t3 := t2 (by omega)
     rw [Nat.pow_add]
     omega
   · refine w_ ?_
     obtain ⟨y, hy⟩ : ∃ y : Nat, y = x / 65536 := ⟨_, rfl⟩
     rw [show ((x : Int) / 2 ^ 16) = (y : Int) by omega]
     have hy2 : y < 256 := by omega
     obtain ⟨t1, t2⟩ := len8_ok y hy2
     refine WL_val (φ := 0 ≤ (y : Int) ∧ (y : Int) < 256) (av := .int .u8 (bt len8 y)) (by kernel_rfl) rfl rfl (by omega) ?_
     rw [show bt len8 (y : Int) = ((len8.getD y 0).toNat : Int) by simp [bt]]
     generalize (len8.getD y 0).toNat = t at *
     refine w_ ?_
     refine k_ ?_
     refine ⟨16 + t, rfl, by omega, fun hx1 => ?_⟩
     have t3 := t2 (by omega)
     rw [Nat.pow_add]
     omega
 · refine w_ ?_
   refine i_ ?_ ?_ <;> intro h3
   · refine w_ ?_
     refine WL_shr (n := 8) rfl rfl rfl rfl rfl ?_
     refine w_ ?_
     obtain ⟨y, hy⟩ : ∃ y : Nat, y = x / 256 := ⟨_, rfl⟩
     rw [show ((x : Int) / 2 ^ 8) = (y : Int) by omega]
     have hy2 : y < 256 := by omega
     obtain ⟨t1, t2⟩ := len8_ok y hy2
     refine WL_val (φ := 0 ≤ (y : Int) ∧ (y : Int) < 256) (av := .int .u8 (bt len8 y)) (by kernel_rfl) rfl rfl (by omega) ?_
     rw [show bt len8 (y : Int) = ((len8.getD y 0).toNat : Int) by simp [bt]]
     generalize (len8.getD y 0).toNat = t at *
     refine w_ ?_
     refine k_ ?_
     refine ⟨8 + t, rfl, by omega, fun hx1 => ?_⟩
     have t3 := t2 (by omega)
     rw [Nat.pow_add]
     omega
   · refine w_ ?_
     obtain ⟨y, hy⟩ : ∃ y : Nat, y = x := ⟨_, rfl⟩
     rw [show (x : Int) = (y : Int) by omega]
     have hy2 : y < 256 := by omega
     obtain ⟨t1, t2⟩ := len8_ok y hy2
     refine WL_val (φ := 0 ≤ (y : Int) ∧ (y : Int) < 256) (av := .int .u8 (bt len8 y)) (by kernel_rfl) rfl rfl (by omega) ?_
     rw [show bt len8 (y : Int) = ((len8.getD y 0).toNat : Int) by simp [bt]]
     generalize (len8.getD y 0).toNat = t at *
     refine w_ ?_
     refine k_ ?_
     refine ⟨0 + t, rfl, by omega, fun hx1 => ?_⟩
     have t3 := t2 (by omega)
     rw [Nat.pow_add]
     omega
theorem len_bits_tri (x : Nat) (hx : x ≤ 4294967295) : Tri C0 71 0 [] [.int .u64 x] (fun k hp r => k = 0 ∧ hp = [] ∧ ∃ v : Nat, r = .int .i64 v ∧ v ≤ 32 ∧ (1 ≤ x → 2 ^ v ≤ 2 * x)) := by
 refine Tri.keep ?_ (s_) (by rintro r ⟨v, rfl, _⟩; trivial)
 refine Tri.mk 8 [.tmp 2] Tryz.func71 rfl rfl rfl rfl cf71 ?_; intro w0 S T ρ0
 refine w_ ?_
 refine W_cond_false rfl ?_
 refine w_ ?_
 refine WL_call [] (len64_tri x hx) rfl rfl rfl t_ t_ rfl rfl rfl rfl ?_; rintro _ _ _ ⟨rfl, rfl, v, rfl, h1, h2⟩
 refine w_ ?_
 refine k_ ?_
 exact ⟨v, rfl, h1, h2⟩
theorem nextPow_tri (x : Nat) (hx : x ≤ 4294967295) : Tri C0 278 0 [] [.int .i64 x] (fun k hp r => k = 0 ∧ hp = [] ∧ ∃ v : Nat, r = .int .u64 v ∧ 1 ≤ v ∧ v ≤ 4294967296 ∧ (1 ≤ x → v ≤ 2 * x)) := by
 refine Tri.keep ?_ (s_) (by rintro r ⟨v, rfl, _⟩; trivial)
 refine Tri.mk 10 [.tmp 2] Tryz.func278 rfl rfl rfl rfl cf278 ?_; intro w0 S T ρ0
 refine w_ ?_
 refine WL_call [] (len_bits_tri x hx) rfl rfl rfl t_ t_ rfl rfl rfl rfl ?_; rintro _ _ _ ⟨rfl, rfl, v, rfl, h1, h2⟩
 refine w_ ?_
 refine WL_shl1 rfl rfl rfl rfl (by omega) ?_
 rw [show (2 : Int) ^ v = ((2 ^ v : Nat) : Int) by simp]
 refine w_ ?_
 refine k_ ?_
 refine ⟨2 ^ v, rfl, Nat.one_le_two_pow, ?_, h2⟩
 exact Nat.le_trans (Nat.pow_le_pow_right (by omega) h1) (by decide)
theorem next_tri (x : Int) : Tri C0 279 1 [(0, .cells 346 (some 1) [.int .u64 x])] [.ptr 0 0] (fun k hp r => k = 1 ∧ ∃ v, hp = [(0, .cells 346 (some 1) [.int .u64 v])] ∧ (r = .int .u64 v ∧ 0 ≤ v ∧ v ≤ 18446744073709551615)) := by
 refine Tri.keepX (H' := fun v => [(0, .cells 346 (some 1) [.int .u64 v])]) (P := fun v r => r = .int .u64 v ∧ 0 ≤ v ∧ v ≤ 18446744073709551615) ?_ (fun _ => s_) (by rintro _ r ⟨rfl, _⟩; trivial)
 refine Tri.mk 33 [.tmp 2] Tryz.func279 rfl rfl rfl rfl cf279 ?_; intro w0 S T ρ0
 refine w_ ?_
 refine W_draw [0] [] 10 mo0 (by kernel_rfl) (by kernel_rfl) (fun ρ1 hkl => ?_); refine d_ ?_
 refine WS_any (run_shl _ _ _ _ (by decide)) rfl rfl rfl rfl ⟨by simp, by simp⟩ rfl rfl (fun v1 hv1 => ?_)
 refine d_ ?_
 refine WS_any (run_xor _ _ _) rfl rfl rfl rfl ⟨by simp, by simp⟩ rfl rfl (fun v2 hv2 => ?_)
 refine d_ ?_
 refine WS_loud rfl ?_ hkl
 refine WL_store rfl rfl trivial ?_
 refine WL_nil ?_
 refine nq_walk ⟨fun h => (by cases h), ?_⟩
 refine d_ ?_
 refine W_ren [0] (n := 1) (tm' := [(0, .ptr 0 0)]) (hp' := [(0, .cells 346 (some 1) [.int .u64 v2])]) ?_ s_ s_ rfl rfl rfl
 refine W_draw [0] [] 10 mo0 (by kernel_rfl) (by kernel_rfl) (fun ρ1 hkl => ?_); refine d_ ?_
 refine WS_any (run_shr _ _ _ _ hv2 (by decide)) rfl rfl rfl rfl ⟨by simp, by simp⟩ rfl rfl (fun v3 hv3 => ?_)
 refine d_ ?_
 refine WS_any (run_xor _ _ _) rfl rfl rfl rfl ⟨by simp, by simp⟩ rfl rfl (fun v4 hv4 => ?_)
 refine d_ ?_
 refine WS_loud rfl ?_ hkl
 refine WL_store rfl rfl trivial ?_
 refine WL_nil ?_
 refine nq_walk ⟨fun h => (by cases h), ?_⟩
 refine d_ ?_
 refine W_ren [0] (n := 1) (tm' := [(0, .ptr 0 0)]) (hp' := [(0, .cells 346 (some 1) [.int .u64 v4])]) ?_ s_ s_ rfl rfl rfl
 refine W_draw [0] [] 10 mo0 (by kernel_rfl) (by kernel_rfl) (fun ρ1 hkl => ?_); refine d_ ?_
 refine WS_any (run_shl _ _ _ _ (by decide)) rfl rfl rfl rfl ⟨by simp, by simp⟩ rfl rfl (fun v5 hv5 => ?_)
 refine d_ ?_
 refine WS_any (run_xor _ _ _) rfl rfl rfl rfl ⟨by simp, by simp⟩ rfl rfl (fun v6 hv6 => ?_)
 refine d_ ?_
 refine WS_loud rfl ?_ hkl
 refine WL_store rfl rfl trivial ?_
 refine WL_nil ?_
 refine nq_walk ⟨fun h => (by cases h), ?_⟩
 refine d_ ?_
 refine W_ret ?_; (repeat (first | refine then_ret ?_ | refine inbl_ret ?_))
 exact ⟨_, _, rfl, s_, v6, s_, rfl, hv6⟩
theorem break_tri (nl : Bool) (tt : Nat) (ns : List Int) (n cap : Nat) (hl : ns.length = n) (hn : n ≤ cap ∧ n ≤ 1100000000) (a b : Int) (ha : 0 ≤ a ∧ a ≤ b ∧ b ≤ n) : Tri C0 231 1 (SB tt ns) [SI nl n cap, .int .i64 a, .int .i64 b] (SP tt n isT) := by
 refine SP.keep ?_ (fun _ => isT_lt)
 refine Tri.mk 53 [] Tryz.func231 rfl rfl rfl rfl cf231 ?_; intro w0 S T ρ0
 refine w_ ?_
 refine i_ ?_ ?_ <;> intro h1
 rotate_left 1
 · refine w_ ?_
   refine ⟨_, _, rfl, s_, SPk.mk ns (s_) hl rfl⟩
 obtain ⟨L, hL⟩ : ∃ L : Nat, (L : Int) = b - a := ⟨(b - a).toNat, by omega⟩
 rw [← hL] at h1 ⊢
 have hq : ((L : Int)).tdiv 4 = (L : Int) / 4 := Int.tdiv_eq_ediv_of_nonneg (by omega)
 refine w_ ?_
 refine WL_call [] (nextPow_tri L (by omega)) rfl rfl rfl t_ t_ rfl rfl rfl rfl ?_; rintro _ _ _ ⟨rfl, rfl, M, rfl, m1, m2, m3⟩
 have m3 := m3 (by omega)
 refine w_ ?_
 rw [hq]
 refine w_ ?_
 refine W_loop ?_; refine LP_ren [0, 1] (LP_ind 2 (fun q : Int × Int × List Int => ([(0, SI nl n cap), (1, .int .i64 a), (6, .int .i64 L), (7, .ptr 1 0), (8, .int .u64 M), (9, .int .i64 q.1)], (1, .cells 346 (some 1) [.int .u64 q.2.1]) :: SB tt q.2.2)) (fun q => (a + (L : Int) / 4 * 2 + 2 - q.1).toNat) (fun q => a + (L : Int) / 4 * 2 - 1 ≤ q.1 ∧ q.1 ≤ a + (L : Int) / 4 * 2 + 2 ∧ q.2.2.length = n) (a + (L : Int) / 4 * 2 - 1, (L : Int), ns) ?_ (⟨Int.le_refl _, by show a + (L : Int) / 4 * 2 - 1 ≤ a + (L : Int) / 4 * 2 + 2; omega, hl⟩)) s_ s_ rfl rfl rfl
 clear hl
 rintro ⟨idx, x, ns⟩ ⟨g1, g2, hl⟩ ih
 simp only at g1 g2 hl
 refine LP_round ?_; try dsimp only
 refine w_ ?_
 rw [hq]
 refine w_ ?_
 refine i_ ?_ ?_ <;> intro h2
 rotate_left 1
 · refine w_ ?_
   refine x_ ?_
   refine w_ ?_
   refine ⟨_, _, rfl, s_, SPk.mk ns (s_) hl rfl⟩
 refine w_ ?_
 refine WL_call [1] (next_tri x) rfl rfl rfl (s_) (s_) rfl rfl rfl rfl ?_; rintro _ _ _ ⟨rfl, x1, rfl, rfl, hx1⟩
 refine w_ ?_
 refine WL_and rfl rfl rfl rfl (by omega) (fun v hv => ?_)
 refine w_ ?_
 refine i_ ?_ ?_ <;> intro h3
 · refine w_ ?_
   refine WL_callG [0] (swap_tri nl tt ns n cap (idx) (a + (v - (L : Int))) hl hn.1 (by omega) (by omega)) (callsTo_invoke msSwap rfl rfl) rfl rfl t_ t_ rfl rfl rfl rfl ?_; rintro _ _ _ ⟨rfl, ns1, rfl, hl1, rfl⟩
   refine w_ ?_
   refine LP_ren [0, 1] (ih (idx + 1, x1, ns1) ⟨by show a + (L : Int) / 4 * 2 - 1 ≤ idx + 1; omega, by show idx + 1 ≤ a + (L : Int) / 4 * 2 + 2; omega, hl1⟩ (by simp only; omega)) ?_ ?_ rfl rfl rfl; (focus (exact s_; done)); (focus (exact s_; done))
 · refine w_ ?_
   refine WL_callG [0] (swap_tri nl tt ns n cap (idx) (a + v) hl hn.1 (by omega) (by omega)) (callsTo_invoke msSwap rfl rfl) rfl rfl t_ t_ rfl rfl rfl rfl ?_; rintro _ _ _ ⟨rfl, ns1, rfl, hl1, rfl⟩
   refine w_ ?_
   refine LP_ren [0, 1] (ih (idx + 1, x1, ns1) ⟨by show a + (L : Int) / 4 * 2 - 1 ≤ idx + 1; omega, by show idx + 1 ≤ a + (L : Int) / 4 * 2 + 2; omega, hl1⟩ (by simp only; omega)) ?_ ?_ rfl rfl rfl; (focus (exact s_; done)); (focus (exact s_; done))
theorem order2_tri (nl : Bool) (tt : Nat) (ns : List Int) (n cap : Nat) (hl : ns.length = n) (hn : n ≤ cap ∧ n ≤ 1100000000) (lo hi : Int) (hlo : 0 ≤ lo ∧ hi ≤ n) (a b sw : Int) (ha : lo ≤ a ∧ a < hi) (hb : lo ≤ b ∧ b < hi) (hsw : 0 ≤ sw ∧ sw ≤ 1000) : Tri C0 312 2 ((1, .cells 3 (some 1) [.int .i64 sw]) :: SB tt ns) [SI nl n cap, .int .i64 a, .int .i64 b, .ptr 1 0]
 (fun k hp r => k = 2 ∧ ∃ sw', hp = (1, .cells 3 (some 1) [.int .i64 sw']) :: SB tt ns ∧ (sw ≤ sw' ∧ sw' ≤ sw + 1 ∧ ∃ c d, r = .tup [.int .i64 c, .int .i64 d] ∧ (lo ≤ c ∧ c < hi) ∧ (lo ≤ d ∧ d < hi))) := by
 refine Tri.keepX (H' := fun sw' => (1, .cells 3 (some 1) [.int .i64 sw']) :: SB tt ns) (P := fun sw' r => sw ≤ sw' ∧ sw' ≤ sw + 1 ∧ ∃ c d, r = .tup [.int .i64 c, .int .i64 d] ∧ (lo ≤ c ∧ c < hi) ∧ (lo ≤ d ∧ d < hi)) ?_ (fun _ => s_) (by rintro _ r ⟨_, _, c, d, rfl, _⟩; exact s_)
 refine Tri.mk 23 [.tmp 8, .tmp 9] Tryz.func312 rfl rfl rfl rfl cf312 ?_; intro w0 S T ρ0
 refine w_ ?_
 refine WL_callG [0] (less_tri nl tt ns n cap (b) (a) hl hn.1 (by omega) (by omega)) (callsTo_invoke msLess rfl rfl) rfl rfl t_ t_ rfl rfl rfl rfl ?_; rintro _ _ _ ⟨rfl, rfl, lb, rfl⟩
 refine w_ ?_
 refine i_ ?_ ?_ <;> intro h1
 · refine w_ ?_
   refine W_ret ?_; (repeat (first | refine then_ret ?_ | refine inbl_ret ?_))
   exact ⟨_, _, rfl, s_, sw + 1, s_, by omega, by omega, b, a, rfl, hb, ha⟩
 · refine w_ ?_
   refine W_ret ?_; (repeat (first | refine then_ret ?_ | refine inbl_ret ?_))
   exact ⟨_, _, rfl, s_, sw, s_, by omega, by omega, a, b, rfl, ha, hb⟩
theorem median_tri (nl : Bool) (tt : Nat) (ns : List Int) (n cap : Nat) (hl : ns.length = n) (hn : n ≤ cap ∧ n ≤ 1100000000) (lo hi : Int) (hlo : 0 ≤ lo ∧ hi ≤ n) (a b c sw : Int) (ha : lo ≤ a ∧ a < hi) (hb : lo ≤ b ∧ b < hi) (hc : lo ≤ c ∧ c < hi) (hsw : 0 ≤ sw ∧ sw ≤ 900) : Tri C0 281 2 ((1, .cells 3 (some 1) [.int .i64 sw]) :: SB tt ns) [SI nl n cap, .int .i64 a, .int .i64 b, .int .i64 c, .ptr 1 0]
 (fun k hp r => k = 2 ∧ ∃ sw', hp = (1, .cells 3 (some 1) [.int .i64 sw']) :: SB tt ns ∧ (sw ≤ sw' ∧ sw' ≤ sw + 3 ∧ ∃ c, r = .int .i64 c ∧ (lo ≤ c ∧ c < hi))) := by
 refine Tri.keepX (H' := fun sw' => (1, .cells 3 (some 1) [.int .i64 sw']) :: SB tt ns) (P := fun sw' r => sw ≤ sw' ∧ sw' ≤ sw + 3 ∧ ∃ c, r = .int .i64 c ∧ (lo ≤ c ∧ c < hi)) ?_ (fun _ => s_) (by rintro _ r ⟨_, _, c, rfl, _⟩; exact s_)
 refine Tri.mk 36 [.tmp 10] Tryz.func281 rfl rfl rfl rfl cf281 ?_; intro w0 S T ρ0
 refine w_ ?_
 refine WL_call [0, 1] (order2_tri nl tt ns n cap hl hn lo hi hlo a b sw ha hb (by omega)) rfl rfl rfl (s_) (s_) rfl rfl rfl rfl ?_; rintro _ _ _ ⟨rfl, sw1, rfl, hx1, hx2, a1, b1, rfl, ha1, hb1⟩
 refine w_ ?_
 refine WL_call [0, 1] (order2_tri nl tt ns n cap hl hn lo hi hlo b1 c sw1 hb1 hc (by omega)) rfl rfl rfl (s_) (s_) rfl rfl rfl rfl ?_; rintro _ _ _ ⟨rfl, sw2, rfl, hy1, hy2, b2, c1, rfl, hb2, hc1⟩
 refine w_ ?_
 refine WL_call [0, 1] (order2_tri nl tt ns n cap hl hn lo hi hlo a1 b2 sw2 ha1 hb2 (by omega)) rfl rfl rfl (s_) (s_) rfl rfl rfl rfl ?_; rintro _ _ _ ⟨rfl, sw3, rfl, hz1, hz2, a3, b3, rfl, ha3, hb3⟩
 refine w_ ?_
 refine W_ret ?_; (repeat (first | refine then_ret ?_ | refine inbl_ret ?_))
 exact ⟨_, _, rfl, s_, sw3, s_, by omega, by omega, b3, rfl, hb3⟩
theorem medianAdj_tri (nl : Bool) (tt : Nat) (ns : List Int) (n cap : Nat) (hl : ns.length = n) (hn : n ≤ cap ∧ n ≤ 1100000000) (lo hi : Int) (hlo : 0 ≤ lo ∧ hi ≤ n) (a sw : Int) (ha : lo + 1 ≤ a ∧ a + 1 < hi) (hsw : 0 ≤ sw ∧ sw ≤ 900) : Tri C0 280 2 ((1, .cells 3 (some 1) [.int .i64 sw]) :: SB tt ns) [SI nl n cap, .int .i64 a, .ptr 1 0]
 (fun k hp r => k = 2 ∧ ∃ sw', hp = (1, .cells 3 (some 1) [.int .i64 sw']) :: SB tt ns ∧ (sw ≤ sw' ∧ sw' ≤ sw + 3 ∧ ∃ c, r = .int .i64 c ∧ (lo ≤ c ∧ c < hi))) := by
 refine Tri.keepX (H' := fun sw' => (1, .cells 3 (some 1) [.int .i64 sw']) :: SB tt ns) (P := fun sw' r => sw ≤ sw' ∧ sw' ≤ sw + 3 ∧ ∃ c, r = .int .i64 c ∧ (lo ≤ c ∧ c < hi)) ?_ (fun _ => s_) (by rintro _ r ⟨_, _, c, rfl, _⟩; exact s_)
 refine Tri.mk 15 [.tmp 6] Tryz.func280 rfl rfl rfl rfl cf280 ?_; intro w0 S T ρ0
 refine w_ ?_
 refine WL_call [0, 1] (median_tri nl tt ns n cap hl hn lo hi hlo (a - 1) a (a + 1) sw (by omega) (by omega) (by omega) hsw) rfl rfl rfl (s_) (s_) rfl rfl rfl rfl ?_; rintro _ _ _ ⟨rfl, sw1, rfl, hx1, hx2, c, rfl, hc⟩
 refine w_ ?_
 refine W_ret ?_; (repeat (first | refine then_ret ?_ | refine inbl_ret ?_))
 exact ⟨_, _, rfl, s_, sw1, s_, hx1, hx2, c, rfl, hc⟩
theorem choose_tri (nl : Bool) (tt : Nat) (ns : List Int) (n cap : Nat) (hl : ns.length = n) (hn : n ≤ cap ∧ n ≤ 1100000000) (a b : Int) (ha : 0 ≤ a ∧ a + 12 < b ∧ b ≤ n) : Tri C0 232 1 (SB tt ns) [SI nl n cap, .int .i64 a, .int .i64 b] (SP tt n fun r => ∃ c h, r = .tup [.int .i64 c, .int .i64 h] ∧ (a ≤ c ∧ c < b)) := by
 refine SP.keep ?_ (by rintro r ⟨c, h, rfl, _⟩; exact s_)
 refine Tri.mk 57 [.tmp 6, .tmp 7] Tryz.func232 rfl rfl rfl rfl cf232 ?_; intro w0 S T ρ0
 refine w_ ?_
 obtain ⟨L, hL⟩ : ∃ L : Nat, (L : Int) = b - a := ⟨(b - a).toNat, by omega⟩
 rw [← hL]
 have hq : ((L : Int)).tdiv 4 = (L : Int) / 4 := Int.tdiv_eq_ediv_of_nonneg (by omega)
 refine w_ ?_
 rw [hq]
 refine w_ ?_
 refine i_ ?_ ?_ <;> intro h1
 rotate_left 1
 · exact absurd h1 (by omega)
 refine w_ ?_
 refine i_ ?_ ?_ <;> intro h2
 · refine w_ ?_
   refine WL_call [0, 1] (medianAdj_tri nl tt ns n cap hl hn a b (by omega) (a + (L : Int) / 4 * 1) 0 (by omega) (by omega)) rfl rfl rfl (s_) (s_) rfl rfl rfl rfl ?_; rintro _ _ _ ⟨rfl, s1, rfl, hs11, hs12, i1, rfl, hi1⟩
   refine w_ ?_
   refine WL_call [0, 1] (medianAdj_tri nl tt ns n cap hl hn a b (by omega) (a + (L : Int) / 4 * 2) s1 (by omega) (by omega)) rfl rfl rfl (s_) (s_) rfl rfl rfl rfl ?_; rintro _ _ _ ⟨rfl, s2, rfl, hs21, hs22, j1, rfl, hj1⟩
   refine w_ ?_
   refine WL_call [0, 1] (medianAdj_tri nl tt ns n cap hl hn a b (by omega) (a + (L : Int) / 4 * 3) s2 (by omega) (by omega)) rfl rfl rfl (s_) (s_) rfl rfl rfl rfl ?_; rintro _ _ _ ⟨rfl, s3, rfl, hs31, hs32, k1, rfl, hk1⟩
   refine w_ ?_
   refine WL_call [0, 1] (median_tri nl tt ns n cap hl hn a b (by omega) i1 j1 k1 s3 (by omega) (by omega) (by omega) (by omega)) rfl rfl rfl (s_) (s_) rfl rfl rfl rfl ?_; rintro _ _ _ ⟨rfl, s9, rfl, hs91, hs92, mm, rfl, hmm⟩
   refine w_ ?_
   refine i_ ?_ ?_ <;> intro e1
   · refine w_ ?_
     refine W_ret ?_; (repeat (first | refine then_ret ?_ | refine inbl_ret ?_))
     exact ⟨_, _, rfl, s_, SPk.mk ns (s_) hl ⟨mm, 1, rfl, hmm⟩⟩
   refine w_ ?_
   refine i_ ?_ ?_ <;> intro e2
   · refine w_ ?_
     refine W_ret ?_; (repeat (first | refine then_ret ?_ | refine inbl_ret ?_))
     exact ⟨_, _, rfl, s_, SPk.mk ns (s_) hl ⟨mm, 2, rfl, hmm⟩⟩
   refine w_ ?_
   refine W_ret ?_; (repeat (first | refine then_ret ?_ | refine inbl_ret ?_))
   exact ⟨_, _, rfl, s_, SPk.mk ns (s_) hl ⟨mm, 0, rfl, hmm⟩⟩
 · refine w_ ?_
   refine WL_call [0, 1] (median_tri nl tt ns n cap hl hn a b (by omega) (a + (L : Int) / 4 * 1) (a + (L : Int) / 4 * 2) (a + (L : Int) / 4 * 3) 0 (by omega) (by omega) (by omega) (by omega)) rfl rfl rfl (s_) (s_) rfl rfl rfl rfl ?_; rintro _ _ _ ⟨rfl, s9, rfl, hs91, hs92, mm, rfl, hmm⟩
   refine w_ ?_
   refine i_ ?_ ?_ <;> intro e1
   · refine w_ ?_
     refine W_ret ?_; (repeat (first | refine then_ret ?_ | refine inbl_ret ?_))
     exact ⟨_, _, rfl, s_, SPk.mk ns (s_) hl ⟨mm, 1, rfl, hmm⟩⟩
   refine w_ ?_
   refine i_ ?_ ?_ <;> intro e2
   · refine w_ ?_
     refine W_ret ?_; (repeat (first | refine then_ret ?_ | refine inbl_ret ?_))
     exact ⟨_, _, rfl, s_, SPk.mk ns (s_) hl ⟨mm, 2, rfl, hmm⟩⟩
   refine w_ ?_
   refine W_ret ?_; (repeat (first | refine then_ret ?_ | refine inbl_ret ?_))
   exact ⟨_, _, rfl, s_, SPk.mk ns (s_) hl ⟨mm, 0, rfl, hmm⟩⟩
end Go.Eng
