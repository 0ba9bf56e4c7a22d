/- A part of the proof that the rows statement FnSetBack holds; no conditions. -/
import Derived.Test.YthkgjhnckakliaaGreatDoorZBI
set_option linter.unusedVariables false
set_option linter.unusedSimpArgs false
set_option linter.unusedSectionVars false
namespace Go.Eng
open Go.Proofs
attribute [local irreducible] W WL LP Then InBl Tri WS
def FamS2 (e : TypeId) : Fam e 2 (List UInt8 × List UInt8) := {
 ob k xs := .strs e (some k) (xs.flatMap fun p => [p.1, p.2])
 cf p := [.str p.1, .str p.2]
 arr _ _ := rfl
 tot _ _ := rfl
 elem _ _ := rfl
 avs _ xs := by simp [AO.avs, List.map_flatMap]
 len _ := rfl
 plain a v h := by
  have : v = .str a.1 ∨ v = .str a.2 := by simpa using h
  rcases this with rfl | rfl <;> rfl }
abbrev Prt := List (List UInt8 × List UInt8)
abbrev prtO (m : Option Nat) (L : Prt) : AO := .strs 212 m (L.flatMap fun p => [p.1, p.2])
structure PB (k : Nat) (L : Prt) (y : Bool × Nat) (m : Option Nat) : Prop where
 n : L.length ≤ k
 l : ∀ p ∈ L, p.1.length ≤ 20 ∧ p.2.length ≤ 2500
 g : GOK' 2 L y m
 e : L ≠ []
theorem PB.some {k : Nat} {L : Prt} {y : Bool × Nat} {m : Option Nat} (h : PB k L y m) : ∃ tt c, m = some tt ∧ y = (false, c) := by
 rcases h.g with ⟨_, _, h2⟩ | ⟨tt, c, h1, h2, _⟩
 · exact absurd h2 h.e
 · exact ⟨tt, c, h2, h1⟩
theorem PB.mono {k k' : Nat} {L : Prt} {y : Bool × Nat} {m : Option Nat} (h : PB k L y m) (hk : k ≤ k') : PB k' L y m := ⟨Nat.le_trans h.n hk, h.l, h.g, h.e⟩
theorem PB_snoc {k : Nat} {L : Prt} {y : Bool × Nat} {m : Option Nat} (h : PB k L y m) {a b : List UInt8} (ha : a.length ≤ 20) (hb : b.length ≤ 2500) {c t : Nat} (hg : GOK' 2 (L ++ [(a, b)]) (false, c) (some t)) : PB (k + 1) (L ++ [(a, b)]) (false, c) (some t) := by
 refine ⟨by rw [List.length_append]; have := h.n; show _ + 1 ≤ _; omega, fun p hp => ?_, hg, by simp⟩
 rcases List.mem_append.1 hp with hp | hp
 · exact h.l p hp
 · rw [List.mem_singleton.1 hp]; exact ⟨ha, hb⟩
structure PQ where
 L : Prt
 y : Bool × Nat
 m : Option Nat
set_option maxHeartbeats 1000000 in
theorem part1_tri (k : Nat) (hk : k ≤ 100) (q : PQ) (B : PB k q.L q.y q.m) (key : List UInt8) (hkey : key.length ≤ 20) (xs : List Int) (y : Bool × Nat) (hy : xs.length ≤ y.2) (hn : xs.length ≤ 40) (hx : ∀ x ∈ xs, -9223372036854775808 ≤ x ∧ x ≤ 9223372036854775807) :
 Tri C0 149 3 [(0, .cells 130 (some 1) [slI q.y 1 2 q.L.length]), (1, prtO q.m q.L), (2, isl xs)] [.str key, slI y 2 1 xs.length, .ptr 0 0]
 (Fin' (fun _ => 4) (fun r : PQ => [(0, .cells 130 (some 1) [slI r.y 3 2 r.L.length]), (2, isl xs), (3, prtO r.m r.L)]) (fun _ => .tup []) (fun r => PB (k + 1) r.L r.y r.m)) := by
 refine Tri.renX ?_
 obtain ⟨L, yl, m⟩ := q
 refine Tri.mk 15 [] Tryz.func149 rfl rfl rfl rfl cf149 ?_; intro w0 S T ρ0
 refine v_ ?_
 refine i_ ?_ ?_ <;> intro h
 · refine v_ ?_
   refine W_draw [0] [] 8 mo0 (by kernel_rfl) (by kernel_rfl) (fun ρ1 hkl => ?_); refine d_ ?_
   refine WS_loud rfl ?_ hkl
   refine WL_callR [2] (textInts_tri xs y hy hn hx) rfl rfl rfl t_ t_ rfl rfl rfl rfl ?_; rintro _ ⟨t,ht,rfl⟩
   refine WL_nil ?_; refine nq_walk ⟨fun _ => t_, ?_⟩; refine d_ ?_
   refine WS_loud rfl ?_ hkl
   refine WL_new rfl rfl rfl ?_
   refine WL_nil ?_; refine nq_walk ⟨fun _ => t_, ?_⟩; refine d_ ?_
   refine WS_loud rfl ?_ hkl
   refine WL_appK (FamS2 212) (fun m => prtO m L) (L) ([(key, t)]) (B.g) (fun _ => rfl) rfl rfl rfl rfl rfl rfl rfl rfl rfl rfl rfl rfl rfl rfl rfl rfl (Nat.le_of_ble_eq_true rfl) (Nat.le_refl _) ?_ ?_
   · have := B.n; exact ⟨by show _ + 1 ≤ _; simp only at this; omega, by show (_ + 1) * 32 ≤ _; simp only at this; omega⟩
   intro cap tt hG
   refine WL_nil ?_; refine nq_walk ⟨fun _ => t_, ?_⟩; refine d_ ?_
   refine d_ ?_
   refine WS_loud rfl ?_ hkl
   refine WL_store rfl rfl trivial ?_
   refine WL_nil ?_
   refine nq_walk ⟨fun h => (by cases h), ?_⟩
   refine d_ ?_
   exact ⟨_, _, rfl, s_, ⟨L ++ [(key, t)], (false, cap), some tt⟩, [0, 1, 2, 4], s_, rfl, rfl, rfl, rfl, s_, PB_snoc B hkey (by omega) hG⟩
 · refine v_ ?_
   exact ⟨_, _, rfl, s_, ⟨L, yl, m⟩, [0, 1, 2, 1], s_, rfl, rfl, rfl, rfl, s_, B.mono (by omega)⟩
theorem setwk (z : RZ) (k : Int) (h : z.wk = k) : z = { z with wk := k } := by cases z; simp only at h; subst h; rfl
def rpS (z : RZ) (y : LY) (q : PQ) : Nat × Tm × Hp := (13, [(1, .ptr 10 0), (3, .ptr 11 0)], (11, .cells 130 (some 1) [slI q.y 12 2 q.L.length]) :: (12, prtO q.m q.L) :: (10, .cells 25 (some 18) (cellsS z y 0)) :: lstHp 95 z 0)
def rpF (z : RZ) (y : LY) (q : PQ) : Nat × Tm × Hp := (13, [(1, .ptr 10 0), (3, .ptr 11 0), (4, .fn (.func 149) [] [.ptr 11 0])], (11, .cells 130 (some 1) [slI q.y 12 2 q.L.length]) :: (12, prtO q.m q.L) :: (10, .cells 25 (some 18) (cellsS z y 0)) :: lstHp 95 z 0)
set_option maxRecDepth 8192 in
set_option maxHeartbeats 8000000 in
theorem ruleParts_tri (z : RZ) (y : LY) (hy : LOK z y) (F : FMT z) : Tri C0 86 10 (lstHp 95 z 0) [.agg (cellsS z y 0)]
 (Fin' (fun _ => 11) (fun q : PQ => [(10, prtO q.m q.L)]) (fun q => slI q.y 10 2 q.L.length) (fun q => PB 15 q.L q.y q.m)) := by
 refine Tri.renX ?_
 obtain ⟨a0, a1, a2, a3, a4, a5, a6, a7, a8, a9⟩ := hy
 refine Tri.mk 122 [.tmp 2] Tryz.func86 rfl rfl rfl rfl cf86 ?_; intro w0 S T ρ0
 refine v_ ?_
 refine WL_callR [] (freqName_tri z.fr F.fr) rfl rfl rfl t_ t_ rfl rfl rfl rfl ?_; rintro _ ⟨t0,ht0,rfl⟩
 refine v_ ?_
 refine W_imp (Imp_conv 11 (prtO (some 2) [([70, 82, 69, 81], t0)]) rfl rfl rfl rfl (.inr rfl) ⟨[], rfl⟩) ?_
 refine W_imp (Imp_cells 12 [slI (false, 1) 11 2 1] rfl (fun _ => rfl) s_ (fun h => absurd (congrArg List.length h) (Nat.succ_ne_zero 0))) ?_
 have B : PB 1 (⟨[([70, 82, 69, 81], t0)], (false, 1), some 2⟩ : PQ).L (⟨[([70, 82, 69, 81], t0)], (false, 1), some 2⟩ : PQ).y (⟨[([70, 82, 69, 81], t0)], (false, 1), some 2⟩ : PQ).m := ⟨Nat.le_refl _, fun p hp => by rw [List.mem_singleton.1 hp]; exact ⟨Nat.le_of_ble_eq_true rfl, by show t0.length ≤ _; omega⟩, .inr ⟨_, _, rfl, rfl, Nat.le_refl _, Nat.le_refl _⟩, by simp⟩
 refine W_mid (α := PQ) (rpS z y) (fun q => PB 2 q.L q.y q.m) ?_ ?_
 · refine i_ ?_ ?_ <;> intro h
   rotate_left 1
   · refine v_ ?_
     exact ⟨(⟨[([70, 82, 69, 81], t0)], (false, 1), some 2⟩ : PQ), B.mono (by omega), Imp_renG [0, 1, 2, 3, 4, 5, 6, 7, 8, 9, 10, 12, 11] s_ s_ rfl rfl rfl⟩
   refine v_ ?_
   refine W_draw [10, 12] [] 8 mo0 (by kernel_rfl) (by kernel_rfl) (fun ρ1 hkl => ?_); refine d_ ?_
   refine WS_loud rfl ?_ hkl
   refine WL_callR [] (textNumber_tri z.iv F.iv) rfl rfl rfl t_ t_ rfl rfl rfl rfl ?_; rintro _ ⟨t,ht,rfl⟩
   refine WL_nil ?_; refine nq_walk ⟨fun _ => t_, ?_⟩; refine d_ ?_
   refine WS_loud rfl ?_ hkl
   refine WL_new rfl rfl rfl ?_
   refine WL_nil ?_; refine nq_walk ⟨fun _ => t_, ?_⟩; refine d_ ?_
   refine WS_loud rfl ?_ hkl
   refine WL_appK (FamS2 212) (fun m => prtO m [([70, 82, 69, 81], t0)]) ([([70, 82, 69, 81], t0)]) ([([73, 78, 84, 69, 82, 86, 65, 76], t)]) (B.g) (fun _ => rfl) rfl rfl rfl rfl rfl rfl rfl rfl rfl rfl rfl rfl rfl rfl rfl rfl (Nat.le_of_ble_eq_true rfl) (Nat.le_refl _) ?_ ?_
   · have := B.n; exact ⟨by show _ + 1 ≤ _; simp only at this; omega, by show (_ + 1) * 32 ≤ _; simp only at this; omega⟩
   intro cap tt hG
   refine WL_nil ?_; refine nq_walk ⟨fun _ => t_, ?_⟩; refine d_ ?_
   refine d_ ?_
   refine WS_loud rfl ?_ hkl
   refine WL_store rfl rfl trivial ?_
   refine WL_nil ?_
   refine nq_walk ⟨fun h => (by cases h), ?_⟩
   refine d_ ?_
   exact ⟨⟨[([70, 82, 69, 81], t0)] ++ [([73, 78, 84, 69, 82, 86, 65, 76], t)], (false, cap), some tt⟩, PB_snoc B (Nat.le_of_ble_eq_true rfl) (by omega) hG, Imp_renG [0, 1, 2, 3, 4, 5, 6, 7, 8, 9, 10, 12, 14] s_ s_ rfl rfl rfl⟩
 rintro ⟨L, yl, m⟩ B
 refine v_ ?_
 refine W_mid (α := PQ) (rpS z y) (fun q => PB 3 q.L q.y q.m) ?_ ?_
 · refine i_ ?_ ?_ <;> intro h
   rotate_left 1
   · refine v_ ?_
     exact ⟨⟨L, yl, m⟩, B.mono (by omega), Imp_renG [0, 1, 2, 3, 4, 5, 6, 7, 8, 9, 10, 11, 12] s_ s_ rfl rfl rfl⟩
   refine v_ ?_
   rcases i7 F.wk with h7 | h7 | h7 | h7 | h7 | h7 | h7
   all_goals
    rw [setwk z _ h7]
    refine W_draw [10, 11] [] 9 mo0 (by kernel_rfl) (by kernel_rfl) (fun ρ1 hkl => ?_); refine d_ ?_
    refine WS_loud rfl ?_ hkl
    refine WL_new rfl rfl rfl ?_
    refine WL_nil ?_; refine nq_walk ⟨fun _ => t_, ?_⟩; refine d_ ?_
    refine WS_loud rfl ?_ hkl
    refine WL_appK (FamS2 212) (fun m => prtO m L) (L) ([([87, 75, 83, 84], _)]) (B.g) (fun _ => rfl) rfl rfl rfl rfl rfl rfl rfl rfl rfl rfl rfl rfl rfl rfl rfl rfl (Nat.le_of_ble_eq_true rfl) (Nat.le_refl _) ?_ ?_
    · have := B.n; exact ⟨by show _ + 1 ≤ _; simp only at this; omega, by show (_ + 1) * 32 ≤ _; simp only at this; omega⟩
    intro cap tt hG
    refine WL_nil ?_; refine nq_walk ⟨fun _ => t_, ?_⟩; refine d_ ?_
    refine d_ ?_
    refine WS_loud rfl ?_ hkl
    refine WL_store rfl rfl trivial ?_
    refine WL_nil ?_
    refine nq_walk ⟨fun h => (by cases h), ?_⟩
    refine d_ ?_
    exact ⟨⟨L ++ [([87, 75, 83, 84], _)], (false, cap), some tt⟩, PB_snoc B (Nat.le_of_ble_eq_true rfl) (Nat.le_of_ble_eq_true rfl) hG, Imp_renG [0, 1, 2, 3, 4, 5, 6, 7, 8, 9, 10, 11, 14] s_ s_ rfl rfl rfl⟩
 rintro ⟨L, yl, m⟩ B
 refine v_ ?_
 refine W_mid (α := PQ) (rpS z y) (fun q => PB 4 q.L q.y q.m) ?_ ?_
 · refine i_ ?_ ?_ <;> intro h
   rotate_left 1
   · refine v_ ?_
     exact ⟨⟨L, yl, m⟩, B.mono (by omega), Imp_renG [0, 1, 2, 3, 4, 5, 6, 7, 8, 9, 10, 11, 12] s_ s_ rfl rfl rfl⟩
   refine v_ ?_
   refine W_draw [10, 11] [] 8 mo0 (by kernel_rfl) (by kernel_rfl) (fun ρ1 hkl => ?_); refine d_ ?_
   refine WS_loud rfl ?_ hkl
   refine WL_callR [] (textNumber_tri z.ct F.ct) rfl rfl rfl t_ t_ rfl rfl rfl rfl ?_; rintro _ ⟨t,ht,rfl⟩
   refine WL_nil ?_; refine nq_walk ⟨fun _ => t_, ?_⟩; refine d_ ?_
   refine WS_loud rfl ?_ hkl
   refine WL_new rfl rfl rfl ?_
   refine WL_nil ?_; refine nq_walk ⟨fun _ => t_, ?_⟩; refine d_ ?_
   refine WS_loud rfl ?_ hkl
   refine WL_appK (FamS2 212) (fun m => prtO m L) (L) ([([67, 79, 85, 78, 84], t)]) (B.g) (fun _ => rfl) rfl rfl rfl rfl rfl rfl rfl rfl rfl rfl rfl rfl rfl rfl rfl rfl (Nat.le_of_ble_eq_true rfl) (Nat.le_refl _) ?_ ?_
   · have := B.n; exact ⟨by show _ + 1 ≤ _; simp only at this; omega, by show (_ + 1) * 32 ≤ _; simp only at this; omega⟩
   intro cap tt hG
   refine WL_nil ?_; refine nq_walk ⟨fun _ => t_, ?_⟩; refine d_ ?_
   refine d_ ?_
   refine WS_loud rfl ?_ hkl
   refine WL_store rfl rfl trivial ?_
   refine WL_nil ?_
   refine nq_walk ⟨fun h => (by cases h), ?_⟩
   refine d_ ?_
   exact ⟨⟨L ++ [([67, 79, 85, 78, 84], t)], (false, cap), some tt⟩, PB_snoc B (Nat.le_of_ble_eq_true rfl) (by omega) hG, Imp_renG [0, 1, 2, 3, 4, 5, 6, 7, 8, 9, 10, 11, 14] s_ s_ rfl rfl rfl⟩
 rintro ⟨L, yl, m⟩ B
 refine v_ ?_
 refine WL_join 4 [(50, .bool (z.un != 0)), (1, .ptr 10 0), (3, .ptr 11 0)] ?_ ?_
 · by_cases h : z.un = 0
   · rw [show (z.un != 0) = false by simp [h]]
     refine v_ ?_
     exact s_
   · rw [show (z.un != 0) = true by simpa using h]
     refine v_ ?_
     refine ⟨rfl, rfl, rfl, ?_, rfl, rfl, trivial⟩
     show some (AV.bool (z.un != 0)) = _
     rw [show (z.un != 0) = true by simpa using h]
 refine v_ ?_
 refine W_mid (α := PQ) (rpS z y) (fun q => PB 5 q.L q.y q.m) ?_ ?_
 · refine W_cond rfl (fun h => ?_) (fun h => ?_)
   rotate_left 1
   · refine v_ ?_
     exact ⟨⟨L, yl, m⟩, B.mono (by omega), Imp_renG [0, 1, 2, 3, 4, 5, 6, 7, 8, 9, 10, 11, 12] s_ s_ rfl rfl rfl⟩
   refine v_ ?_
   refine W_draw [10, 11] [] 8 mo0 (by kernel_rfl) (by kernel_rfl) (fun ρ1 hkl => ?_); refine d_ ?_
   refine WS_loud rfl ?_ hkl
   refine WL_callR [] (textTime_tri z.un F.un) rfl rfl rfl t_ t_ rfl rfl rfl rfl ?_; rintro _ ⟨t,ht,rfl⟩
   refine WL_nil ?_; refine nq_walk ⟨fun _ => t_, ?_⟩; refine d_ ?_
   refine WS_loud rfl ?_ hkl
   refine WL_new rfl rfl rfl ?_
   refine WL_nil ?_; refine nq_walk ⟨fun _ => t_, ?_⟩; refine d_ ?_
   refine WS_loud rfl ?_ hkl
   refine WL_appK (FamS2 212) (fun m => prtO m L) (L) ([([85, 78, 84, 73, 76], t)]) (B.g) (fun _ => rfl) rfl rfl rfl rfl rfl rfl rfl rfl rfl rfl rfl rfl rfl rfl rfl rfl (Nat.le_of_ble_eq_true rfl) (Nat.le_refl _) ?_ ?_
   · have := B.n; exact ⟨by show _ + 1 ≤ _; simp only at this; omega, by show (_ + 1) * 32 ≤ _; simp only at this; omega⟩
   intro cap tt hG
   refine WL_nil ?_; refine nq_walk ⟨fun _ => t_, ?_⟩; refine d_ ?_
   refine d_ ?_
   refine WS_loud rfl ?_ hkl
   refine WL_store rfl rfl trivial ?_
   refine WL_nil ?_
   refine nq_walk ⟨fun h => (by cases h), ?_⟩
   refine d_ ?_
   exact ⟨⟨L ++ [([85, 78, 84, 73, 76], t)], (false, cap), some tt⟩, PB_snoc B (Nat.le_of_ble_eq_true rfl) (by omega) hG, Imp_renG [0, 1, 2, 3, 4, 5, 6, 7, 8, 9, 10, 11, 14] s_ s_ rfl rfl rfl⟩
 rintro ⟨L, yl, m⟩ B
 repeat (refine W_seq ?_)
 refine W_mid (α := PQ) (rpF z y) (fun q => PB 5 q.L q.y q.m) ?_ ?_
 · refine v_ ?_
   exact ⟨⟨L, yl, m⟩, B, Imp_renG [0, 1, 2, 3, 4, 5, 6, 7, 8, 9, 10, 11, 12] s_ s_ rfl rfl rfl⟩
 rintro ⟨L, yl, m⟩ B
 repeat (refine W_seq ?_)
 refine W_mid (α := PQ) (rpF z y) (fun q => PB 6 q.L q.y q.m) ?_ ?_
 · obtain ⟨tt, c, rfl, rfl⟩ := B.some
   refine v_ ?_
   refine WL_call [11, 12, 0] (part1_tri 5 (by omega) ⟨L, (false, c), some tt⟩ B [66, 89, 83, 69, 84, 80, 79, 83] (by decide) z.l0 y.y0 a0 F.n0 F.i0) rfl rfl rfl t_ t_ rfl rfl rfl rfl ?_; rintro _ _ _ ⟨⟨L9,y9,m9⟩, rfl, rfl, rfl, B9⟩
   refine v_ ?_
   exact ⟨⟨L9, y9, m9⟩, B9, Imp_renG [0, 1, 2, 3, 4, 5, 6, 7, 8, 9, 10, 11, 13] s_ s_ rfl rfl rfl⟩
 rintro ⟨L, yl, m⟩ B
 repeat (refine W_seq ?_)
 refine W_mid (α := PQ) (rpF z y) (fun q => PB 7 q.L q.y q.m) ?_ ?_
 · obtain ⟨tt, c, rfl, rfl⟩ := B.some
   refine v_ ?_
   refine WL_call [11, 12, 1] (part1_tri 6 (by omega) ⟨L, (false, c), some tt⟩ B [66, 89, 77, 79, 78, 84, 72] (by decide) z.l1 y.y1 a1 F.n1 F.i1) rfl rfl rfl t_ t_ rfl rfl rfl rfl ?_; rintro _ _ _ ⟨⟨L9,y9,m9⟩, rfl, rfl, rfl, B9⟩
   refine v_ ?_
   exact ⟨⟨L9, y9, m9⟩, B9, Imp_renG [0, 1, 2, 3, 4, 5, 6, 7, 8, 9, 10, 11, 13] s_ s_ rfl rfl rfl⟩
 rintro ⟨L, yl, m⟩ B
 repeat (refine W_seq ?_)
 refine W_mid (α := PQ) (rpF z y) (fun q => PB 8 q.L q.y q.m) ?_ ?_
 · obtain ⟨tt, c, rfl, rfl⟩ := B.some
   refine v_ ?_
   refine WL_call [11, 12, 2] (part1_tri 7 (by omega) ⟨L, (false, c), some tt⟩ B [66, 89, 77, 79, 78, 84, 72, 68, 65, 89] (by decide) z.l2 y.y2 a2 F.n2 F.i2) rfl rfl rfl t_ t_ rfl rfl rfl rfl ?_; rintro _ _ _ ⟨⟨L9,y9,m9⟩, rfl, rfl, rfl, B9⟩
   refine v_ ?_
   exact ⟨⟨L9, y9, m9⟩, B9, Imp_renG [0, 1, 2, 3, 4, 5, 6, 7, 8, 9, 10, 11, 13] s_ s_ rfl rfl rfl⟩
 rintro ⟨L, yl, m⟩ B
 repeat (refine W_seq ?_)
 refine W_mid (α := PQ) (rpF z y) (fun q => PB 9 q.L q.y q.m) ?_ ?_
 · obtain ⟨tt, c, rfl, rfl⟩ := B.some
   refine v_ ?_
   refine WL_call [11, 12, 3] (part1_tri 8 (by omega) ⟨L, (false, c), some tt⟩ B [66, 89, 89, 69, 65, 82, 68, 65, 89] (by decide) z.l3 y.y3 a3 F.n3 F.i3) rfl rfl rfl t_ t_ rfl rfl rfl rfl ?_; rintro _ _ _ ⟨⟨L9,y9,m9⟩, rfl, rfl, rfl, B9⟩
   refine v_ ?_
   exact ⟨⟨L9, y9, m9⟩, B9, Imp_renG [0, 1, 2, 3, 4, 5, 6, 7, 8, 9, 10, 11, 13] s_ s_ rfl rfl rfl⟩
 rintro ⟨L, yl, m⟩ B
 repeat (refine W_seq ?_)
 refine W_mid (α := PQ) (rpF z y) (fun q => PB 10 q.L q.y q.m) ?_ ?_
 · obtain ⟨tt, c, rfl, rfl⟩ := B.some
   refine v_ ?_
   refine WL_call [11, 12, 4] (part1_tri 9 (by omega) ⟨L, (false, c), some tt⟩ B [66, 89, 87, 69, 69, 75, 78, 79] (by decide) z.l4 y.y4 a4 F.n4 F.i4) rfl rfl rfl t_ t_ rfl rfl rfl rfl ?_; rintro _ _ _ ⟨⟨L9,y9,m9⟩, rfl, rfl, rfl, B9⟩
   refine v_ ?_
   exact ⟨⟨L9, y9, m9⟩, B9, Imp_renG [0, 1, 2, 3, 4, 5, 6, 7, 8, 9, 10, 11, 13] s_ s_ rfl rfl rfl⟩
 rintro ⟨L, yl, m⟩ B
 have hml : (prs2 z.dd).length = z.dd.length := by simp
 refine v_ ?_
 refine W_mid (α := PQ) (rpF z y) (fun q => PB 11 q.L q.y q.m) ?_ ?_
 · refine i_ ?_ ?_ <;> intro h
   rotate_left 1
   · refine v_ ?_
     exact ⟨⟨L, yl, m⟩, B.mono (by omega), Imp_renG [0, 1, 2, 3, 4, 5, 6, 7, 8, 9, 10, 11, 12] s_ s_ rfl rfl rfl⟩
   clear h
   refine v_ ?_
   refine W_loop ?_; refine LP_ren [0, 1, 2, 3, 4, 5, 6, 7, 8, 9, 10, 11, 12] (LP_ind 13 (fun q : Nat × List UInt8 => ([(1, .ptr 10 0), (3, .ptr 11 0), (4, .fn (.func 149) [] [.ptr 11 0]), (5, .str q.2), (84, slI y.yd 9 2 z.dd.length), (85, .int .i64 z.dd.length), (86, .int .i64 q.1)], (rpF z y ⟨L, yl, m⟩).2.2)) (fun q => z.dd.length - q.1) (fun q => q.1 ≤ z.dd.length ∧ q.2.length ≤ q.1 * 61) (0, []) ?_ (⟨Nat.zero_le _, Nat.le_refl _⟩)) s_ s_ rfl rfl rfl
   rintro ⟨i, t⟩ ⟨g1, g2⟩ ih
   simp only at g1 g2
   have hnd := F.nd
   refine LP_round ?_; try dsimp only
   refine v_ ?_
   refine i_ ?_ ?_ <;> intro h
   rotate_left 1
   · have h : i = z.dd.length := by omega
     refine v_ ?_
     refine x_ ?_
     refine v_ ?_
     refine WL_appK (FamS2 212) (fun m => prtO m L) (L) ([([66, 89, 68, 65, 89], t)]) (B.g) (fun _ => rfl) rfl rfl rfl rfl rfl rfl rfl rfl rfl rfl rfl rfl rfl rfl rfl rfl (Nat.le_of_ble_eq_true rfl) (Nat.le_refl _) ?_ ?_
     · have := B.n; exact ⟨by show _ + 1 ≤ _; simp only at this; omega, by show (_ + 1) * 32 ≤ _; simp only at this; omega⟩
     intro cap tt hG
     refine v_ ?_
     exact ⟨⟨L ++ [([66, 89, 68, 65, 89], t)], (false, cap), some tt⟩, PB_snoc B (Nat.le_of_ble_eq_true rfl) (by omega) hG, Imp_renG [0, 1, 2, 3, 4, 5, 6, 7, 8, 9, 10, 11, 14] s_ s_ rfl rfl rfl⟩
   have h : i < z.dd.length := by omega
   refine v_ ?_
   rw [show 0 + (i : Int).toNat = i by omega]
   refine v_ ?_
   rw [prs2_get h]
   have hd := F.id _ (getDP_mem h)
   generalize z.dd.getD i (0, 0) = e at *
   refine v_ ?_
   refine W_mid (α := List UInt8) (fun t => (14, [(1, .ptr 10 0), (3, .ptr 11 0), (4, .fn (.func 149) [] [.ptr 11 0]), (7, .ptr 13 0), (5, .str t), (84, slI y.yd 9 2 z.dd.length), (85, .int .i64 z.dd.length), (86, .int .i64 i)], (13, .cells 95 (some 2) [.int .i64 e.1, .int .i64 e.2]) :: (rpF z y ⟨L, yl, m⟩).2.2)) (fun t => t.length ≤ i * 61 + 1) ?_ ?_
   · refine i_ ?_ ?_ <;> intro h2
     · have hside : t.length + ([44] : List UInt8).length ≤ 9223372036854775807 := by show _ + 1 ≤ _; omega
       refine v_ ?_
       exact ⟨t ++ [44], by rw [List.length_append]; show _ + 1 ≤ _; omega, Imp_renG [0, 1, 2, 3, 4, 5, 6, 7, 8, 9, 10, 11, 12, 13] s_ s_ rfl rfl rfl⟩
     · refine v_ ?_
       exact ⟨t, by omega, Imp_renG [0, 1, 2, 3, 4, 5, 6, 7, 8, 9, 10, 11, 12, 13] s_ s_ rfl rfl rfl⟩
   intro t2 g3
   refine v_ ?_
   refine WL_callR [] (dayName_tri e.1 e.2 hd.1 (by have := hd.2; omega)) rfl rfl rfl t_ t_ rfl rfl rfl rfl ?_; rintro _ ⟨t3,h3,rfl⟩
   have hside : t2.length + t3.length ≤ 9223372036854775807 := by omega
   refine v_ ?_
   exact LP_renG [0, 1, 2, 3, 4, 5, 6, 7, 8, 9, 10, 11, 12] (ih (i + 1, t2 ++ t3) ⟨h, by show (t2 ++ t3).length ≤ _; rw [List.length_append]; omega⟩ (by simp only; omega)) s_ s_ rfl rfl rfl
 rintro ⟨L, yl, m⟩ B
 repeat (refine W_seq ?_)
 refine W_mid (α := PQ) (rpF z y) (fun q => PB 12 q.L q.y q.m) ?_ ?_
 · obtain ⟨tt, c, rfl, rfl⟩ := B.some
   refine v_ ?_
   refine WL_call [11, 12, 5] (part1_tri 11 (by omega) ⟨L, (false, c), some tt⟩ B [66, 89, 72, 79, 85, 82] (by decide) z.l5 y.y5 a5 F.n5 F.i5) rfl rfl rfl t_ t_ rfl rfl rfl rfl ?_; rintro _ _ _ ⟨⟨L9,y9,m9⟩, rfl, rfl, rfl, B9⟩
   refine v_ ?_
   exact ⟨⟨L9, y9, m9⟩, B9, Imp_renG [0, 1, 2, 3, 4, 5, 6, 7, 8, 9, 10, 11, 13] s_ s_ rfl rfl rfl⟩
 rintro ⟨L, yl, m⟩ B
 repeat (refine W_seq ?_)
 refine W_mid (α := PQ) (rpF z y) (fun q => PB 13 q.L q.y q.m) ?_ ?_
 · obtain ⟨tt, c, rfl, rfl⟩ := B.some
   refine v_ ?_
   refine WL_call [11, 12, 6] (part1_tri 12 (by omega) ⟨L, (false, c), some tt⟩ B [66, 89, 77, 73, 78, 85, 84, 69] (by decide) z.l6 y.y6 a6 F.n6 F.i6) rfl rfl rfl t_ t_ rfl rfl rfl rfl ?_; rintro _ _ _ ⟨⟨L9,y9,m9⟩, rfl, rfl, rfl, B9⟩
   refine v_ ?_
   exact ⟨⟨L9, y9, m9⟩, B9, Imp_renG [0, 1, 2, 3, 4, 5, 6, 7, 8, 9, 10, 11, 13] s_ s_ rfl rfl rfl⟩
 rintro ⟨L, yl, m⟩ B
 repeat (refine W_seq ?_)
 refine W_mid (α := PQ) (rpF z y) (fun q => PB 14 q.L q.y q.m) ?_ ?_
 · obtain ⟨tt, c, rfl, rfl⟩ := B.some
   refine v_ ?_
   refine WL_call [11, 12, 7] (part1_tri 13 (by omega) ⟨L, (false, c), some tt⟩ B [66, 89, 83, 69, 67, 79, 78, 68] (by decide) z.l7 y.y7 a7 F.n7 F.i7) rfl rfl rfl t_ t_ rfl rfl rfl rfl ?_; rintro _ _ _ ⟨⟨L9,y9,m9⟩, rfl, rfl, rfl, B9⟩
   refine v_ ?_
   exact ⟨⟨L9, y9, m9⟩, B9, Imp_renG [0, 1, 2, 3, 4, 5, 6, 7, 8, 9, 10, 11, 13] s_ s_ rfl rfl rfl⟩
 rintro ⟨L, yl, m⟩ B
 repeat (refine W_seq ?_)
 refine W_mid (α := PQ) (rpF z y) (fun q => PB 15 q.L q.y q.m) ?_ ?_
 · obtain ⟨tt, c, rfl, rfl⟩ := B.some
   refine v_ ?_
   refine WL_call [11, 12, 8] (part1_tri 14 (by omega) ⟨L, (false, c), some tt⟩ B [66, 89, 69, 65, 83, 84, 69, 82] (by decide) z.l8 y.y8 a8 F.n8 F.i8) rfl rfl rfl t_ t_ rfl rfl rfl rfl ?_; rintro _ _ _ ⟨⟨L9,y9,m9⟩, rfl, rfl, rfl, B9⟩
   refine v_ ?_
   exact ⟨⟨L9, y9, m9⟩, B9, Imp_renG [0, 1, 2, 3, 4, 5, 6, 7, 8, 9, 10, 11, 13] s_ s_ rfl rfl rfl⟩
 rintro ⟨L, yl, m⟩ B
 obtain ⟨tt, c, rfl, rfl⟩ := B.some
 refine v_ ?_
 refine W_ret ?_; (repeat (first | refine then_ret ?_ | refine inbl_ret ?_))
 exact ⟨_, _, rfl, s_, ⟨L, (false, c), some tt⟩, [0, 1, 2, 3, 4, 5, 6, 7, 8, 9, 12], s_, rfl, rfl, rfl, rfl, s_, B⟩
end Go.Eng
namespace Go.Eng
open Go.Proofs
theorem prt_get : ∀ {L : Prt} {i : Nat}, i < L.length → (L.flatMap fun p => [p.1, p.2])[i * 2]? = some (L.getD i ([], [])).1 ∧ (L.flatMap fun p => [p.1, p.2])[i * 2 + 1]? = some (L.getD i ([], [])).2
 | p :: l, 0, _ => ⟨rfl, rfl⟩
 | p :: l, i + 1, h => by
   have := prt_get (L := l) (i := i) (by simpa using h)
   rw [show (i + 1) * 2 = i * 2 + 1 + 1 by omega]
   exact this
section
variable {C : Cy} {E : En} {ops : Array Oper} {rest : List Oper} {nx : Nat} {tm : Tm} {hp : Hp} {Q : Po}
theorem WL_loadS2 (L : Prt) {d : Nat} {x : Operand} {t : TypeId} {ty : TypeId} {pos : String} {af : Array Edge} {g : Option (Nat × Bool)} {s : TS} {id i : Nat} {e : TypeId} {m : Option Nat}
 (hx : ev tm x = some (.pix id 2 i 0)) (hid : lk hp id = some (.strs e m (L.flatMap fun p => [p.1, p.2]))) (hs : C.ti t = some s) (ha : isAggD s.desc = true) (hz : s.size = 2) (hg : wanted ops tm g = some true) (hd : Nat.blt d E.nt = true)
 (hi : i < L.length) (h : WL C E ops rest nx ((d, .agg [.str (L.getD i ([], [])).1, .str (L.getD i ([], [])).2]) :: tm) hp Q) :
 WL C E ops (⟨some d, .load t x, ty, pos, af, g⟩ :: rest) nx tm hp Q := by
 intro ρ a w H
 obtain ⟨g1, g2⟩ := prt_get hi
 have c1 := (H.heap.cell hid (i := i * 2) (av := .str (L.getD i ([], [])).1) (by show (List.map AV.str _)[_]? = _; rw [List.getElem?_map, g1]; rfl)).1
 have c2 := (H.heap.cell hid (i := i * 2 + 1) (av := .str (L.getD i ([], [])).2) (by show (List.map AV.str _)[_]? = _; rw [List.getElem?_map, g2]; rfl)).1
 have hrun : (execOp a.eval ⟨some d, .load t x, ty, pos, af, g⟩).run C.P w = .ok (.value ((AV.agg [.str (L.getD i ([], [])).1, .str (L.getD i ([], [])).2]).den ρ)) w := by
  simp only [execOp, (H.ev hx).1]
  refine run_val ?_
  simp only [AV.den, Nat.add_zero, Instr.loadAt, Instr.sureAddr, loadVar, Sem.run_bind, Sem.run_pure, Result.andThen_ok, run_isAgg hs, ha, if_true, run_sizeOf hs, hz]
  have := run_loadCells_list (P := C.P) (w := w) ⟨(ρ id).1, (ρ id).2 + i * 2, none⟩ [(AV.str (L.getD i ([], [])).1).den ρ, (AV.str (L.getD i ([], [])).2).den ρ] (by
   intro j v hj
   rw [add_none rfl]
   match j, hj with
   | 0, hj => cases hj; exact c1
   | 1, hj => cases hj; rw [Nat.add_assoc]; exact c2)
  rw [show ([(AV.str (L.getD i ([], [])).1).den ρ, (AV.str (L.getD i ([], [])).2).den ρ] : List Value).length = 2 from rfl] at this
  rw [this]
  rfl
 exact wpList_of_run (wanted_sound H (o := ⟨some d, .load t x, ty, pos, af, g⟩) hg) hrun (h ρ _ w (H.put (av := .agg [.str (L.getD i ([], [])).1, .str (L.getD i ([], [])).2]) (by simpa [Nat.blt_eq] using hd) ⟨trivial, trivial, trivial⟩))
end
attribute [local irreducible] W WL LP Then InBl Tri WS
set_option maxRecDepth 8192 in
set_option maxHeartbeats 2000000 in
theorem partsText_tri (L : Prt) (y : Bool × Nat) (m : Option Nat) (B : PB 15 L y m) : Tri C0 85 1 [(0, prtO m L)] [slI y 0 2 L.length] (fun k hp r => k = 1 ∧ hp = [(0, prtO m L)] ∧ txr 40000 r) := by
 refine Tri.keep ?_ s_ txr_lt
 have hc := B.g.cap
 have hn := B.n
 refine Tri.mk 27 [.tmp 2] Tryz.func85 rfl rfl rfl rfl cf85 ?_; intro w0 S T ρ0
 refine v_ ?_
 refine W_loop ?_; refine LP_ren [0] (LP_ind 1 (fun q : Nat × List UInt8 => ([(3, .str q.2), (6, slI y 0 2 L.length), (7, .int .i64 L.length), (8, .int .i64 q.1)], [(0, prtO m L)])) (fun q => L.length - q.1) (fun q => q.1 ≤ L.length ∧ q.2.length ≤ q.1 * 2530) (0, []) ?_ (⟨Nat.zero_le _, Nat.le_refl _⟩)) s_ s_ rfl rfl rfl
 rintro ⟨i, t⟩ ⟨g1, g2⟩ ih
 simp only at g1 g2
 refine LP_round ?_; try dsimp only
 refine v_ ?_
 refine i_ ?_ ?_ <;> intro h
 rotate_left 1
 · refine v_ ?_
   refine x_ ?_
   refine v_ ?_
   refine W_ret ?_; (repeat (first | refine then_ret ?_ | refine inbl_ret ?_))
   exact ⟨_, _, rfl, s_, s_, t, by omega, rfl⟩
 have h : i < L.length := by omega
 have hm : L.getD i ([], []) ∈ L := by simp [List.getD, h]
 have hb := B.l _ hm
 refine v_ ?_
 rw [show 0 + (i : Int).toNat = i by omega]
 refine WL_loadS2 L rfl rfl rfl rfl rfl rfl rfl h ?_
 generalize L.getD i ([], []) = p at *
 obtain ⟨k, v⟩ := p
 simp only at hb
 refine v_ ?_
 refine W_mid (α := List UInt8) (fun t => (2, [(3, .str t), (5, .ptr 1 0), (6, slI y 0 2 L.length), (7, .int .i64 L.length), (8, .int .i64 i)], [(0, prtO m L), (1, .cells 212 (some 2) [.str k, .str v])])) (fun t => t.length ≤ i * 2530 + 1) ?_ ?_
 · refine i_ ?_ ?_ <;> intro h2
   · have hside : t.length + ([59] : List UInt8).length ≤ 9223372036854775807 := by show _ + 1 ≤ _; omega
     refine v_ ?_
     exact ⟨t ++ [59], by rw [List.length_append]; show _ + 1 ≤ _; omega, Imp_renG [0, 1] s_ s_ rfl rfl rfl⟩
   · refine v_ ?_
     exact ⟨t, by omega, Imp_renG [0, 1] s_ s_ rfl rfl rfl⟩
 intro t2 g3
 refine v_ ?_
 exact LP_renG [0] (ih (i + 1, t2 ++ (k ++ [61] ++ v)) ⟨h, by show (t2 ++ (k ++ [61] ++ v)).length ≤ _; rw [List.length_append, List.length_append, List.length_append]; show _ + (_ + 1 + _) ≤ _; omega⟩ (by simp only; omega)) s_ s_ rfl rfl rfl
theorem ruleString_tri (z : RZ) (y : LY) (hy : LOK z y) (F : FMT z) : Tri C0 39 10 (lstHp 95 z 0) [.agg (cellsS z y 0)] (fun k hp r => k = 10 ∧ hp = lstHp 95 z 0 ∧ txr 40000 r) := by
 refine Tri.keep ?_ s_ txr_lt
 refine Tri.mk 6 [.tmp 2] Tryz.func39 rfl rfl rfl rfl cf39 ?_; intro w0 S T ρ0
 refine v_ ?_
 refine WL_call [0, 1, 2, 3, 4, 5, 6, 7, 8, 9] (ruleParts_tri z y hy F) rfl rfl rfl t_ t_ rfl rfl rfl rfl ?_; rintro _ _ _ ⟨⟨L,yl,m⟩, rfl, rfl, rfl, B⟩
 refine v_ ?_
 refine WL_callR [11] (partsText_tri L yl m B) rfl rfl rfl t_ t_ rfl rfl rfl rfl ?_; rintro _ ⟨t,ht,rfl⟩
 refine v_ ?_
 refine W_ret ?_; (repeat (first | refine then_ret ?_ | refine inbl_ret ?_))
 exact ⟨_, _, rfl, s_, s_, t, ht, rfl⟩
end Go.Eng
namespace Go.Eng
open Go.Proofs
attribute [local irreducible] W WL LP Then InBl Tri WS
structure ZOK (s : SZ) : Prop where
 zero : s.has = false → s.z = RZ.zero
 fr : 0 ≤ s.z.fr ∧ s.z.fr ≤ 6
 len : LEN s.z
 rd : s.rd.length ≤ 1000000000000
 ex : s.ex.length ≤ 1000000000000
def toldZ (s : SZ) (st2 : Int) : SZ := { s with z := { s.z with st := if s.has = true then st2 else 0 } }
theorem LOKd {z : RZ} {y : LY} {p : Bool × Nat} (h : LOK z y) (hd : z.dd.length ≤ p.2) : LOK z { y with yd := p } := by
 obtain ⟨a0, a1, a2, a3, a4, a5, a6, a7, a8, _⟩ := h
 exact ⟨a0, a1, a2, a3, a4, a5, a6, a7, a8, hd⟩
theorem GOKR_le {ns : List Int} {y : Bool × Nat} {m : Option Nat} (h : GOKR (tms ns) y m) : ns.length ≤ y.2 := by
 rcases h with ⟨rfl, _, h⟩ | ⟨tt, cap, rfl, _, h, _⟩
 · have : ns = [] := by simpa using h
   rw [this]; exact Nat.zero_le _
 · simpa using h
set_option maxRecDepth 8192 in
set_option maxHeartbeats 4000000 in
theorem toldSet_tri (s : SZ) (q : PX) (hlok : LOK s.z q.y) (hyr : s.rd.length ≤ q.yr.2) (hye : s.ex.length ≤ q.ye.2) (hz : ZOK s) : Tri C0 44 14 (setHpR s q 0) [.ptr 11 0]
 (Fin' (fun _ => 26) (fun _ => setHp 110 (toldZ s q.st2) 14) (fun y => .agg (cellsT (toldZ s q.st2) y 14)) (fun y : SY => SOK (toldZ s q.st2) y)) := by
 refine Tri.renX ?_
 obtain ⟨hzero, hfr, hlen, hrd, hex⟩ := hz
 obtain ⟨st, has, z, rd, ex⟩ := s
 obtain ⟨y, vs, st2, yr, ye, mr, me⟩ := q
 simp only at hyr hye hzero hfr hlen hrd hex hlok
 cases has with
 | false =>
   obtain rfl := hzero rfl
   refine Tri.mk 26 [.cell 2 40] Tryz.func44 rfl rfl rfl rfl cf44 ?_; intro w0 S T ρ0
   refine w_ ?_
   refine WL_callR [11, 10, 12, 13] (getStart_tri st false yr rd.length ye ex.length) rfl rfl rfl t_ t_ rfl rfl rfl rfl ?_; rintro _ rfl
   refine w_ ?_
   refine WL_callR [] (seconds_tri st 0) rfl rfl rfl t_ t_ rfl rfl rfl rfl ?_; rintro _ rfl
   refine w_ ?_
   refine WL_callR [11, 10, 12, 13] (getRD_tri st false yr rd.length ye ex.length) rfl rfl rfl t_ t_ rfl rfl rfl rfl ?_; rintro _ rfl
   refine w_ ?_
   refine WL_imp (Imp_conv 12 (.recs 88 none K2 (tms rd)) rfl rfl rfl rfl (.inl rfl) ⟨[], by simp [AO.avs]⟩) ?_
   refine WL_imp (Imp_conv 13 (.recs 88 none K2 (tms ex)) rfl rfl rfl rfl (.inl rfl) ⟨[], by simp [AO.avs]⟩) ?_
   refine WL_call [12] (secs_tri rd hrd yr none hyr) rfl rfl rfl (s_) (s_) rfl rfl rfl rfl ?_; rintro _ _ _ ⟨⟨yd2, md2⟩, rfl, rfl, rfl, hg2⟩
   refine WL_imp (Imp_conv 15 (dsl none rd) rfl rfl rfl rfl (.inl rfl) ⟨[], by simp [AO.avs, AO.ren]⟩) ?_
   refine w_ ?_
   refine WL_callR [11, 10, 12, 13] (getEx_tri st false yr rd.length ye ex.length) rfl rfl rfl t_ t_ rfl rfl rfl rfl ?_; rintro _ rfl
   refine w_ ?_
   refine WL_call [13] (secs_tri ex hex ye none hye) rfl rfl rfl (s_) (s_) rfl rfl rfl rfl ?_; rintro _ _ _ ⟨⟨yd3, md3⟩, rfl, rfl, rfl, hg3⟩
   refine WL_imp (Imp_conv 16 (dsl none ex) rfl rfl rfl rfl (.inl rfl) ⟨[], by simp [AO.avs, AO.ren]⟩) ?_
   refine w_ ?_
   refine WL_callR [11, 10, 12, 13] (getRule_tri st false yr rd.length ye ex.length) rfl rfl rfl t_ t_ rfl rfl rfl rfl ?_; rintro _ rfl
   refine w_ ?_
   refine W_cond_false rfl ?_
   refine W_imp (Imp_nils (C := C0) (show 0 < 22 by omega) (nils 110) (s_)) ?_
   refine W_imp (Imp_cells 17 (.int .i64 st :: .bool false :: (cellsS RZ.zero LY.zero 18 ++ [slI yd2 15 1 rd.length, slI yd3 16 1 ex.length])) rfl (fun _ => rfl) (s_) (fun h => absurd (congrArg List.length h) (Nat.succ_ne_zero 21))) ?_
   refine w_ ?_
   refine W_ret ?_; (repeat (first | refine then_ret ?_ | refine inbl_ret ?_))
   exact ⟨_, _, rfl, s_, ⟨LY.zero, yd2, yd3⟩, [0, 1, 2, 3, 4, 5, 6, 7, 8, 9, 10, 11, 12, 13, 18, 19, 20, 21, 22, 23, 24, 25, 26, 27, 15, 16], s_, rfl, rfl, rfl, rfl, s_, ⟨LOK_zero _ rfl, GOKL_cap hg2, GOKL_cap hg3⟩⟩
 | true =>
   refine Tri.mk 26 [.cell 2 40] Tryz.func44 rfl rfl rfl rfl cf44 ?_; intro w0 S T ρ0
   refine w_ ?_
   refine WL_callR [11, 10, 12, 13] (getStart_tri st true yr rd.length ye ex.length) rfl rfl rfl t_ t_ rfl rfl rfl rfl ?_; rintro _ rfl
   refine w_ ?_
   refine WL_callR [] (seconds_tri st 0) rfl rfl rfl t_ t_ rfl rfl rfl rfl ?_; rintro _ rfl
   refine w_ ?_
   refine WL_callR [11, 10, 12, 13] (getRD_tri st true yr rd.length ye ex.length) rfl rfl rfl t_ t_ rfl rfl rfl rfl ?_; rintro _ rfl
   refine w_ ?_
   refine WL_imp (Imp_conv 12 (.recs 88 none K2 (tms rd)) rfl rfl rfl rfl (.inl rfl) ⟨[], by simp [AO.avs]⟩) ?_
   refine WL_imp (Imp_conv 13 (.recs 88 none K2 (tms ex)) rfl rfl rfl rfl (.inl rfl) ⟨[], by simp [AO.avs]⟩) ?_
   refine WL_call [12] (secs_tri rd hrd yr none hyr) rfl rfl rfl (s_) (s_) rfl rfl rfl rfl ?_; rintro _ _ _ ⟨⟨yd2, md2⟩, rfl, rfl, rfl, hg2⟩
   refine WL_imp (Imp_conv 15 (dsl none rd) rfl rfl rfl rfl (.inl rfl) ⟨[], by simp [AO.avs, AO.ren]⟩) ?_
   refine w_ ?_
   refine WL_callR [11, 10, 12, 13] (getEx_tri st true yr rd.length ye ex.length) rfl rfl rfl t_ t_ rfl rfl rfl rfl ?_; rintro _ rfl
   refine w_ ?_
   refine WL_call [13] (secs_tri ex hex ye none hye) rfl rfl rfl (s_) (s_) rfl rfl rfl rfl ?_; rintro _ _ _ ⟨⟨yd3, md3⟩, rfl, rfl, rfl, hg3⟩
   refine WL_imp (Imp_conv 16 (dsl none ex) rfl rfl rfl rfl (.inl rfl) ⟨[], by simp [AO.avs, AO.ren]⟩) ?_
   refine w_ ?_
   refine WL_callR [11, 10, 12, 13] (getRule_tri st true yr rd.length ye ex.length) rfl rfl rfl t_ t_ rfl rfl rfl rfl ?_; rintro _ rfl
   refine w_ ?_
   refine W_cond_true rfl ?_
   refine w_ ?_
   refine WL_call [0, 1, 2, 3, 4, 5, 6, 7, 8, 9, 10] (rule_tri { z with st := st2 } y hlok hlen hfr vs) rfl rfl rfl (s_) (s_) rfl rfl rfl rfl ?_; rintro _ _ _ ⟨yd4, rfl, rfl, rfl, hg4⟩
   refine w_ ?_
   refine W_ret ?_; (repeat (first | refine then_ret ?_ | refine inbl_ret ?_))
   exact ⟨_, _, rfl, s_, ⟨{ y with yd := yd4 }, yd2, yd3⟩, [0, 1, 2, 3, 4, 5, 6, 7, 8, 9, 10, 11, 12, 13, 18, 19, 20, 21, 22, 23, 24, 25, 26, 27, 15, 16], s_, rfl, rfl, rfl, rfl, s_, ⟨LOKd hlok hg4, GOKL_cap hg2, GOKL_cap hg3⟩⟩
end Go.Eng
namespace Go.Eng
open Go.Proofs
attribute [local irreducible] W WL LP Then InBl Tri WS
theorem same46g (nl nl' : Bool) (m m' : Option Nat) (xs ys : List Int) (cap cap' : Nat) (hl : xs.length ≤ cap ∧ xs.length ≤ 9223372036854775807) (hl' : ys.length ≤ cap' ∧ ys.length ≤ 9223372036854775807) :
 Tri C0 46 2 [(0, .ints 2 m .i64 xs), (1, .ints 2 m' .i64 ys)] [.sl nl 0 1 0 xs.length cap, .sl nl' 1 1 0 ys.length cap']
  (fun n hp r => n = 2 ∧ hp = [(0, .ints 2 m .i64 xs), (1, .ints 2 m' .i64 ys)] ∧ r = .bool (decide (xs = ys))) := by
 refine Tri.mk 26 [.tmp 4] Tryz.func46 rfl rfl rfl rfl cf46 ?_
 intro w0 S T ρ0
 refine w_ ?_
 refine W_cond rfl (fun hb => ?_) (fun hb => ?_)
 · refine w_ ?_
   refine r_ ?_ ?_
   · trivial
   · refine ⟨rfl, rfl, ?_⟩
     have : xs ≠ ys := by intro e; subst e; simp at hb
     simp [this]; rfl
 have hlen : xs.length = ys.length := by simp at hb; omega
 refine w_ ?_
 refine W_loop ?_
 refine LP_ren [0, 1] (LP_ind 2 (fun i : Nat => ([(0, .sl nl 0 1 0 xs.length cap), (1, .sl nl' 1 1 0 ys.length cap'), (12, .int .i64 xs.length), (13, .int .i64 i)], [(0, .ints 2 m .i64 xs), (1, .ints 2 m' .i64 ys)])) (fun i => xs.length - i)
  (fun i => i ≤ xs.length ∧ (xs = ys ↔ xs.drop i = ys.drop i)) 0 ?_ ⟨Nat.zero_le _, Iff.rfl⟩) ?_ ?_ rfl rfl rfl
 · rintro i ⟨hi, hc⟩ ih
   refine LP_round ?_
   refine w_ ?_
   refine W_cond rfl (fun hb => ?_) (fun hb => ?_)
   · simp only [decide_eq_true_eq] at hb
     have hi' : i < xs.length := by omega
     rw [drop_getD hi', drop_getD (xs := ys) (by omega), List.cons.injEq] at hc
     refine w_ ?_
     refine W_draw [0, 1] [] 9 mo0 (by kernel_rfl) (by kernel_rfl) (fun ρ1 hkl => ?_); refine d_ ?_
     refine w_ ?_
     refine W_cond rfl (fun hb2 => ?_) (fun hb2 => ?_)
     · refine w_ ?_
       refine r_ ?_ ?_
       · trivial
       · refine ⟨rfl, rfl, ?_⟩
         have : xs ≠ ys := by intro e; rw [hc] at e; simp at hb2; exact hb2 (by simpa using e.1)
         simp [this]; rfl
     · refine w_ ?_
       refine LP_ren [0, 1] (ih (i + 1) ⟨by omega, ?_⟩ (by omega)) ?_ ?_ rfl rfl rfl
       · simp at hb2
         rw [hc]; simp [hb2]
       · exact s_
       · exact s_
   · simp only [decide_eq_false_iff_not] at hb
     have hi' : i = xs.length := by omega
     refine w_ ?_
     refine x_ ?_
     refine w_ ?_
     refine r_ ?_ ?_
     · trivial
     · refine ⟨rfl, rfl, ?_⟩
       have : xs = ys := by rw [hc, hi', List.drop_length, hlen, List.drop_length]
       simp [this]; rfl
 · exact s_
 · exact s_
theorem same80g (nl nl' : Bool) (m m' : Option Nat) (xs ys : List Int) (cap cap' : Nat) (hl : xs.length ≤ cap ∧ xs.length ≤ 9223372036854775807) (hl' : ys.length ≤ cap' ∧ ys.length ≤ 9223372036854775807) :
 Tri C0 80 2 [(0, .ints 3 m .i64 xs), (1, .ints 3 m' .i64 ys)] [.sl nl 0 1 0 xs.length cap, .sl nl' 1 1 0 ys.length cap']
  (fun n hp r => n = 2 ∧ hp = [(0, .ints 3 m .i64 xs), (1, .ints 3 m' .i64 ys)] ∧ r = .bool (decide (xs = ys))) := by
 refine Tri.mk 26 [.tmp 4] Tryz.func80 rfl rfl rfl rfl cf80 ?_
 intro w0 S T ρ0
 refine w_ ?_
 refine W_cond rfl (fun hb => ?_) (fun hb => ?_)
 · refine w_ ?_
   refine r_ ?_ ?_
   · trivial
   · refine ⟨rfl, rfl, ?_⟩
     have : xs ≠ ys := by intro e; subst e; simp at hb
     simp [this]; rfl
 have hlen : xs.length = ys.length := by simp at hb; omega
 refine w_ ?_
 refine W_loop ?_
 refine LP_ren [0, 1] (LP_ind 2 (fun i : Nat => ([(0, .sl nl 0 1 0 xs.length cap), (1, .sl nl' 1 1 0 ys.length cap'), (12, .int .i64 xs.length), (13, .int .i64 i)], [(0, .ints 3 m .i64 xs), (1, .ints 3 m' .i64 ys)])) (fun i => xs.length - i)
  (fun i => i ≤ xs.length ∧ (xs = ys ↔ xs.drop i = ys.drop i)) 0 ?_ ⟨Nat.zero_le _, Iff.rfl⟩) ?_ ?_ rfl rfl rfl
 · rintro i ⟨hi, hc⟩ ih
   refine LP_round ?_
   refine w_ ?_
   refine W_cond rfl (fun hb => ?_) (fun hb => ?_)
   · simp only [decide_eq_true_eq] at hb
     have hi' : i < xs.length := by omega
     rw [drop_getD hi', drop_getD (xs := ys) (by omega), List.cons.injEq] at hc
     refine w_ ?_
     refine W_draw [0, 1] [] 9 mo0 (by kernel_rfl) (by kernel_rfl) (fun ρ1 hkl => ?_); refine d_ ?_
     refine w_ ?_
     refine W_cond rfl (fun hb2 => ?_) (fun hb2 => ?_)
     · refine w_ ?_
       refine r_ ?_ ?_
       · trivial
       · refine ⟨rfl, rfl, ?_⟩
         have : xs ≠ ys := by intro e; rw [hc] at e; simp at hb2; exact hb2 (by simpa using e.1)
         simp [this]; rfl
     · refine w_ ?_
       refine LP_ren [0, 1] (ih (i + 1) ⟨by omega, ?_⟩ (by omega)) ?_ ?_ rfl rfl rfl
       · simp at hb2
         rw [hc]; simp [hb2]
       · exact s_
       · exact s_
   · simp only [decide_eq_false_iff_not] at hb
     have hi' : i = xs.length := by omega
     refine w_ ?_
     refine x_ ?_
     refine w_ ?_
     refine r_ ?_ ?_
     · trivial
     · refine ⟨rfl, rfl, ?_⟩
       have : xs = ys := by rw [hc, hi', List.drop_length, hlen, List.drop_length]
       simp [this]; rfl
 · exact s_
 · exact s_
end Go.Eng
