/- A part of the proof that the rows statement FnSetBack holds; no conditions. -/
import Derived.Test.YthkgjhnckakliaaGreatDoorZBG
set_option linter.unusedVariables false
set_option linter.unusedSimpArgs false
set_option linter.unusedSectionVars false
namespace Go.Eng
open Go.Proofs
attribute [local irreducible] W WL LP Then InBl Tri WS
theorem lens_le {B : Nat} : ∀ {r : List (List UInt8)}, (∀ x ∈ r, x.length ≤ B) → Lib.lens r ≤ r.length * B
 | [], _ => by simp [Lib.lens]
 | x :: r, h => by
   have h1 := h x (by simp)
   have h2 := lens_le (r := r) (fun y hy => h y (List.mem_cons_of_mem _ hy))
   have e : Lib.lens (x :: r) = x.length + Lib.lens r := by simp [Lib.lens]
   rw [e, List.length_cons, Nat.add_mul, Nat.one_mul]; omega
theorem join_le {B : Nat} {xs : List (List UInt8)} {c : UInt8} (h : ∀ x ∈ xs, x.length ≤ B) : (Lib.join xs [c]).length ≤ xs.length * (B + 1) := by
 cases xs with
 | nil => simp [Lib.join_nil]
 | cons x r =>
   rw [Lib.join_length]
   have := lens_le h
   simp only [List.length_cons, List.length_nil, Nat.mul_add, Nat.mul_one, Nat.one_mul] at *
   omega
def numsZ (xs : List Int) : List UInt8 := Lib.join (xs.map Lib.itoa) [44]
def I64 (x : Int) : Prop := -9223372036854775808 ≤ x ∧ x ≤ 9223372036854775807
theorem numsZ_le {xs : List Int} (h : ∀ x ∈ xs, I64 x) : (numsZ xs).length ≤ xs.length * 22 := by
 have := join_le (B := 21) (xs := xs.map Lib.itoa) (c := 44) (by
  intro y hy
  obtain ⟨x, hx, rfl⟩ := List.mem_map.1 hy
  exact itoa_le (h x hx).1 (h x hx).2)
 rwa [List.length_map] at this
def addI (out : List (List UInt8)) (key : List UInt8) (xs : List Int) : List (List UInt8) := if xs = [] then out else out ++ [key ++ [61] ++ numsZ xs]
theorem addI_len (out : List (List UInt8)) (key : List UInt8) (xs : List Int) : (addI out key xs).length ≤ out.length + 1 := by
 unfold addI; split <;> simp
theorem getDI_mem {xs : List Int} {i : Nat} (h : i < xs.length) : xs.getD i 0 ∈ xs := by
 simp [List.getD, h]
theorem take_succI {xs : List Int} {i : Nat} (h : i < xs.length) : xs.take (i + 1) = xs.take i ++ [xs.getD i 0] := by
 rw [List.take_succ_eq_append_getElem h]; simp [List.getD, h]
theorem joinN_tri (m : Option Nat) (ss : List (List UInt8)) (n cap : Nat) (sep : UInt8) (hn : ss.length = n) (hc : n ≤ cap) (hn2 : n ≤ 100000) (hl : (Lib.join ss [sep]).length ≤ 140737488355328) :
 Tri C0 98 1 [(0, .strs 9 m ss)] [.sl false 0 1 0 n cap, .str [sep]] (fun k hp r => k = 1 ∧ hp = [(0, .strs 9 m ss)] ∧ r = .str (Lib.join ss [sep])) := by
 subst hn
 exact join_tri false m ss cap [sep] 9 hc (by omega) hl
theorem appInts_tri (key : List UInt8) (hk : key.length ≤ 100) (out : List (List UInt8)) (cap tt : Nat) (ho : out.length ≤ 1000 ∧ out.length ≤ cap ∧ cap ≤ tt) (xs : List Int) (y : Bool × Nat) (hy : xs.length ≤ y.2) (hx : xs.length ≤ 1000) (hxs : ∀ x ∈ xs, I64 x) :
 Tri C0 164 2 [(0, .strs 9 (some tt) out), (1, isl xs)] [.sl false 0 1 0 out.length cap, .str key, slI y 1 1 xs.length]
  (Fin' (fun _ => 3) (fun q : Nat × Nat => [(2, .strs 9 (some q.2) (addI out key xs)), (1, isl xs)]) (fun q => .sl false 2 1 0 (addI out key xs).length q.1) (fun q => (addI out key xs).length ≤ q.1 ∧ q.1 ≤ q.2)) := by
 refine Tri.renX ?_
 refine Tri.mk 38 [.tmp 6] Tryz.func164 rfl rfl rfl rfl cf164 ?_; intro w0 S T ρ0
 refine w_ ?_
 refine i_ ?_ ?_ <;> intro h
 · have h0 : xs = [] := List.length_eq_zero_iff.1 (by omega)
   subst h0
   refine w_ ?_
   refine r_ ?_ ?_
   · exact s_
   · exact ⟨(cap, tt), [0, 1, 0], s_, rfl, rfl, rfl, rfl, s_, ho.2⟩
 have hpos : 0 < xs.length := by omega
 have hne : xs ≠ [] := List.length_pos_iff.1 hpos
 have hae : addI out key xs = out ++ [key ++ [61] ++ numsZ xs] := if_neg hne
 refine w_ ?_
 refine WL_make (.strs 9 (some xs.length) (List.replicate xs.length [])) rfl rfl rfl rfl rfl rfl rfl rfl rfl rfl ?_ rfl rfl ?_ ?_ ?_
 · refine ⟨by omega, by omega, by omega, ?_⟩
   show (16 : Int) * (xs.length : Int) ≤ _; omega
 · simp [AO.avs]; exact .inr rfl
 · simp [AO.avs, AO.tot]
 rw [Int.toNat_natCast]
 refine w_ ?_
 refine W_loop ?_; refine LP_ren [0, 1, 2] (LP_ind 3 (fun q : Nat × List (List UInt8) => ([(0, .sl false 0 1 0 out.length cap), (1, .str key), (7, .sl false 2 1 0 xs.length xs.length), (17, slI y 1 1 xs.length), (18, .int .i64 xs.length), (19, .int .i64 q.1)], [(0, .strs 9 (some tt) out), (1, isl xs), (2, .strs 9 (some xs.length) q.2)])) (fun q => xs.length - q.1) (fun q => q.1 ≤ xs.length ∧ q.2.length = xs.length ∧ q.2.take q.1 = (xs.take q.1).map Lib.itoa) (0, List.replicate xs.length []) ?_ (⟨Nat.zero_le _, by simp, by simp⟩)) s_ s_ rfl rfl rfl
 rintro ⟨j, ss⟩ ⟨i1, i2, i3⟩ ih
 simp only at i1 i2 i3
 refine LP_round ?_; try dsimp only
 refine w_ ?_
 refine i_ ?_ ?_ <;> intro hj
 · have hj : j < xs.length := by omega
   have hb := hxs _ (getDI_mem hj)
   refine w_ ?_
   rw [show 0 + (j : Int).toNat = j by omega]
   refine w_ ?_
   refine WL_call [] (itoa_tri (xs.getD j 0) hb.1 hb.2) rfl rfl rfl t_ t_ rfl rfl rfl rfl ?_; rintro _ _ _ ⟨rfl, rfl, rfl⟩
   refine w_ ?_
   rw [show 0 + (j : Int).toNat = j by omega]
   refine LP_renG [0, 1, 2] (ih (j + 1, ss.set j (Lib.itoa (xs.getD j 0))) ⟨by omega, by simpa using i2, ?_⟩ (by simp only; omega)) s_ s_ rfl rfl rfl
   show (ss.set j _).take (j + 1) = _
   rw [take_set (by omega), i3, take_succI hj, List.map_append]; rfl
 · have hj : j = xs.length := by omega
   rw [hj, List.take_of_length_le (by omega), List.take_of_length_le (by omega)] at i3
   have hl := numsZ_le hxs
   have hlj : (Lib.join ss [44]).length ≤ 22000 := by rw [i3]; exact Nat.le_trans hl (by omega)
   have hJ := joinN_tri (some xs.length) ss xs.length xs.length 44 i2 (Nat.le_refl _) (by omega) (by omega)
   have e : addI out key xs = out ++ [key ++ [61] ++ Lib.join ss [44]] := by rw [hae, i3]; rfl
   rw [e]
   have hside : key.length + ([61] : List UInt8).length ≤ 9223372036854775807 := by show key.length + 1 ≤ _; omega
   have hsid1 : (key ++ [61]).length + (Lib.join ss [44]).length ≤ 9223372036854775807 := by rw [List.length_append]; show key.length + 1 + _ ≤ _; omega
   refine w_ ?_
   refine x_ ?_
   refine w_ ?_
   refine WL_callR [2] (hJ) rfl rfl rfl t_ t_ rfl rfl rfl rfl ?_; rintro _ rfl
   generalize Lib.join ss [44] = t at *
   refine w_ ?_
   refine WL_app1 (FamS 9) (out) ((key ++ [61] ++ t)) rfl rfl rfl rfl rfl rfl rfl rfl rfl rfl rfl rfl rfl rfl ?_ ?_ ?_
   · exact ⟨ho.2.1, by omega⟩
   · exact ⟨by omega, by show (out.length + 1) * 16 ≤ _; omega⟩
   intro cap' tt' h1 h2 _
   refine w_ ?_
   refine r_ ?_ ?_
   · exact s_
   · exact ⟨(cap', tt'), [0, 1, 4], s_, rfl, rfl, rfl, by rw [List.length_append]; rfl, s_, by rw [List.length_append]; exact h1, by simp only; omega⟩
end Go.Eng
namespace Go.Eng
open Go.Proofs
attribute [local irreducible] W WL LP Then InBl Tri WS
def cellsD (z : RZ) (y : LY) (b : Nat) (d : AV) : List AV := [.int .u8 z.fr, .bool (z.st != 0), .int .i64 z.st, .int .i64 z.iv, .int .i64 z.wk, .int .i64 z.ct, .bool (z.un != 0), .int .i64 z.un, slI y.y0 (b + 0) 1 z.l0.length, slI y.y1 (b + 1) 1 z.l1.length, slI y.y2 (b + 2) 1 z.l2.length, slI y.y3 (b + 3) 1 z.l3.length, slI y.y4 (b + 4) 1 z.l4.length, d, slI y.y5 (b + 5) 1 z.l5.length, slI y.y6 (b + 6) 1 z.l6.length, slI y.y7 (b + 7) 1 z.l7.length, slI y.y8 (b + 8) 1 z.l8.length]
theorem setLines_tri (ek : TypeId) (nl : Bool) (cap : Nat) (ls : List (List UInt8)) (hc : ls.length ≤ cap) (hL : LIM ls) (hop : (linesZ true SZ.zero ls).2 ≠ 2) :
 Tri C0 43 1 [(0, .strs ek none ls)] [.sl nl 0 1 0 ls.length cap] (setPR (linesZ true SZ.zero ls)) := by
 have TT := setInLoc_tri ek nl cap ls hc hL hop
 generalize linesZ true SZ.zero ls = O at *
 refine Tri.mk 9 [.tmp 2, .tmp 3] Tryz.func43 rfl rfl rfl rfl cf43 ?_; intro w0 S T ρ0
 refine w_ ?_
 refine WL_call [] (utc_tri) rfl rfl rfl t_ t_ rfl rfl rfl rfl ?_; rintro _ _ _ ⟨rfl, rfl, rfl⟩
 refine w_ ?_
 refine WL_call [0] TT rfl rfl rfl (s_) (s_) rfl rfl rfl rfl ?_
 rintro _ _ _ (⟨p0, q, hq, rfl, rfl, rfl⟩ | ⟨p1, rfl, rfl, t, p, rfl⟩)
 · obtain ⟨⟨st, has, z, rd, ex⟩, c⟩ := O
   obtain ⟨y, vs, st2, yr, ye, mr, me⟩ := q
   cases has with
   | false =>
     refine w_ ?_
     refine W_renG [0, 1, 2, 3, 4, 5, 6, 7, 8, 9, 10, 11, 12, 13, 14] (n := 15) (tm' := [(2, .ptr 12 0), (3, .v .nilIface)]) (hp' := setHpR ⟨st, false, z, rd, ex⟩ ⟨y, vs, st2, yr, ye, mr, me⟩ 1) ?_ s_ s_ rfl rfl rfl
     refine r_ ?_ ?_
     · exact s_
     · exact .inl ⟨p0, _, hq, rfl, rfl, rfl⟩
   | true =>
     refine w_ ?_
     refine W_renG [0, 1, 2, 3, 4, 5, 6, 7, 8, 9, 10, 11, 12, 13, 14] (n := 15) (tm' := [(2, .ptr 12 0), (3, .v .nilIface)]) (hp' := setHpR ⟨st, true, z, rd, ex⟩ ⟨y, vs, st2, yr, ye, mr, me⟩ 1) ?_ s_ s_ rfl rfl rfl
     refine r_ ?_ ?_
     · exact s_
     · exact .inl ⟨p0, _, hq, rfl, rfl, rfl⟩
 · refine w_ ?_
   refine W_renG [0] (n := 1) (tm' := [(2, .v (.pointer none)), (3, .ifc t (.v p))]) (hp' := []) ?_ s_ s_ rfl rfl rfl
   refine r_ ?_ ?_
   · exact s_
   · exact .inr ⟨p1, rfl, rfl, _, _, rfl⟩
abbrev SQ (s : Int) (hb : Bool) (ya : Bool × Nat) (na : Nat) (yb : Bool × Nat) (nb : Nat) : Hp := [(0, setO s (pQ hb 1) (slI ya 2 2 na) (slI yb 3 2 nb))]
theorem getStart_tri (s : Int) (hb : Bool) (ya : Bool × Nat) (na : Nat) (yb : Bool × Nat) (nb : Nat) : Tri C0 101 4 (SQ s hb ya na yb nb) [.ptr 0 0] (fun k hp r => k = 4 ∧ hp = SQ s hb ya na yb nb ∧ r = tsec s 0) := by
 cases hb with
 | false =>
   refine Tri.keep (Tri.mk 7 [.cell 2 88] Tryz.func101 rfl rfl rfl rfl cf101 ?_) t_ (fun r h => q_); intro w0 S T ρ0
   refine w_ ?_
   refine k_ ?_
   rfl
 | true =>
   refine Tri.keep (Tri.mk 7 [.cell 2 88] Tryz.func101 rfl rfl rfl rfl cf101 ?_) t_ (fun r h => q_); intro w0 S T ρ0
   refine w_ ?_
   refine k_ ?_
   rfl
theorem getRD_tri (s : Int) (hb : Bool) (ya : Bool × Nat) (na : Nat) (yb : Bool × Nat) (nb : Nat) : Tri C0 103 4 (SQ s hb ya na yb nb) [.ptr 0 0] (fun k hp r => k = 4 ∧ hp = SQ s hb ya na yb nb ∧ r = slI ya 2 2 na) := by
 cases hb with
 | false =>
   refine Tri.keep (Tri.mk 7 [.tmp 2] Tryz.func103 rfl rfl rfl rfl cf103 ?_) t_ (fun r h => q_); intro w0 S T ρ0
   refine w_ ?_
   refine k_ ?_
   rfl
 | true =>
   refine Tri.keep (Tri.mk 7 [.tmp 2] Tryz.func103 rfl rfl rfl rfl cf103 ?_) t_ (fun r h => q_); intro w0 S T ρ0
   refine w_ ?_
   refine k_ ?_
   rfl
theorem getEx_tri (s : Int) (hb : Bool) (ya : Bool × Nat) (na : Nat) (yb : Bool × Nat) (nb : Nat) : Tri C0 104 4 (SQ s hb ya na yb nb) [.ptr 0 0] (fun k hp r => k = 4 ∧ hp = SQ s hb ya na yb nb ∧ r = slI yb 3 2 nb) := by
 cases hb with
 | false =>
   refine Tri.keep (Tri.mk 7 [.tmp 2] Tryz.func104 rfl rfl rfl rfl cf104 ?_) t_ (fun r h => q_); intro w0 S T ρ0
   refine w_ ?_
   refine k_ ?_
   rfl
 | true =>
   refine Tri.keep (Tri.mk 7 [.tmp 2] Tryz.func104 rfl rfl rfl rfl cf104 ?_) t_ (fun r h => q_); intro w0 S T ρ0
   refine w_ ?_
   refine k_ ?_
   rfl
theorem getRule_tri (s : Int) (hb : Bool) (ya : Bool × Nat) (na : Nat) (yb : Bool × Nat) (nb : Nat) : Tri C0 105 4 (SQ s hb ya na yb nb) [.ptr 0 0] (fun k hp r => k = 4 ∧ hp = SQ s hb ya na yb nb ∧ r = pQ hb 1) := by
 cases hb with
 | false =>
   refine Tri.keep (Tri.mk 7 [.tmp 2] Tryz.func105 rfl rfl rfl rfl cf105 ?_) t_ (fun r h => q_); intro w0 S T ρ0
   refine w_ ?_
   refine k_ ?_
   rfl
 | true =>
   refine Tri.keep (Tri.mk 7 [.tmp 2] Tryz.func105 rfl rfl rfl rfl cf105 ?_) t_ (fun r h => q_); intro w0 S T ρ0
   refine w_ ?_
   refine k_ ?_
   rfl
theorem wday_tri (a b : Int) : Tri C0 174 1 [(0, .cells 142 (some 2) [.int .i64 a, .int .i64 b])] [.ptr 0 0] (fun k hp r => k = 1 ∧ hp = [(0, .cells 142 (some 2) [.int .i64 a, .int .i64 b])] ∧ r = .int .i64 a) := by
 refine Tri.keep (Tri.mk 7 [.tmp 2] Tryz.func174 rfl rfl rfl rfl cf174 ?_) t_ (fun r h => q_); intro w0 S T ρ0
 refine w_ ?_
 refine k_ ?_
 rfl
theorem wnum_tri (a b : Int) : Tri C0 175 1 [(0, .cells 142 (some 2) [.int .i64 a, .int .i64 b])] [.ptr 0 0] (fun k hp r => k = 1 ∧ hp = [(0, .cells 142 (some 2) [.int .i64 a, .int .i64 b])] ∧ r = .int .i64 b) := by
 refine Tri.keep (Tri.mk 7 [.tmp 2] Tryz.func175 rfl rfl rfl rfl cf175 ?_) t_ (fun r h => q_); intro w0 S T ρ0
 refine w_ ?_
 refine k_ ?_
 rfl
theorem secs_tri (xs : List Int) (hx : xs.length ≤ 1000000000000) (y : Bool × Nat) (m : Option Nat) (hcy : xs.length ≤ y.2) : Tri C0 102 1 [(0, .recs 88 m K2 (tms xs))] [slI y 0 2 xs.length]
 (Fin' (fun _ => 2) (fun q : (Bool × Nat) × Option Nat => [(1, .ints 2 q.2 .i64 xs)]) (fun q => slI q.1 1 1 xs.length) (fun q => GOKL xs q.1 q.2)) := by
 refine Tri.renX ?_
 have hml : (tms xs).length = xs.length := by simp
 refine Tri.mk 19 [.tmp 2] Tryz.func102 rfl rfl rfl rfl cf102 ?_; intro w0 S T ρ0
 refine w_ ?_
 refine W_loop ?_
 refine LP_imp (Imp_nils (show 0 < 22 by omega) [.ints 2 none .i64 []] (s_)) ?_
 refine LP_imp (Imp_tm 3 (.sl true 1 1 0 0 0) rfl (fun _ => rfl) (s_)) ?_
 refine LP_renG [0, 1] (LP_ind 2 (fun q : Nat × List Int × (Bool × Nat) × Option Nat => ([(3, slI q.2.2.1 1 1 q.2.1.length), (6, slI y 0 2 xs.length), (7, .int .i64 xs.length), (8, .int .i64 q.1)], [(0, .recs 88 m K2 (tms xs)), (1, .ints 2 q.2.2.2 .i64 q.2.1)])) (fun q => xs.length - q.1)
  (fun q => q.1 ≤ xs.length ∧ q.2.1 = xs.take q.1 ∧ GOKL q.2.1 q.2.2.1 q.2.2.2) (0, [], (true, 0), none) ?_ ⟨Nat.zero_le _, rfl, .inl ⟨rfl, rfl, rfl⟩⟩) ?_ ?_ rfl rfl rfl
 rotate_left 1
 · exact s_
 · exact s_
 rintro ⟨i, acc, ya, ma⟩ ⟨g1, g2, g3⟩ ih
 simp only at g1 g2 g3
 refine LP_round ?_; try dsimp only
 refine w_ ?_
 refine i_ ?_ ?_ <;> intro h
 rotate_left 1
 · have h : i = xs.length := by omega
   rw [h, List.take_length] at g2
   subst g2
   refine w_ ?_
   refine x_ ?_
   refine w_ ?_
   refine W_ret ?_; (repeat (first | refine then_ret ?_ | refine inbl_ret ?_))
   exact ⟨_, _, rfl, s_, (ya, ma), [0, 1], s_, rfl, rfl, rfl, rfl, s_, g3⟩
 have h : i < xs.length := by omega
 refine w_ ?_
 rw [show 0 + (i : Int).toNat = i by omega, tms_get h]
 refine w_ ?_
 refine WL_call [] (seconds_tri (xs.getD i 0) 0) rfl rfl rfl t_ t_ rfl rfl rfl rfl ?_; rintro _ _ _ ⟨rfl, rfl, rfl⟩
 refine w_ ?_
 rcases g3 with ⟨rfl, rfl, rfl⟩ | ⟨tt0, cap0, rfl, rfl, q1, q2⟩
 · refine WL_imp (Imp_tm 12 (.v (.slice none 0 0)) rfl (fun _ => rfl) trivial) ?_
   refine WL_appN (FamI 2 .i64) [xs.getD i 0] rfl rfl rfl rfl rfl rfl rfl rfl rfl rfl rfl rfl rfl (Nat.le_of_ble_eq_true rfl) (Nat.le_refl _) ⟨Nat.le_of_ble_eq_true rfl, Nat.le_of_ble_eq_true rfl⟩ ?_
   intro cap3 tt3 hc3 hc4
   refine w_ ?_
   have ih2 := ih (i + 1, [xs.getD i 0], (false, cap3), some tt3) ⟨h, by simp only; rw [← take_succ_getD h, ← g2]; rfl, .inr ⟨tt3, cap3, rfl, rfl, by simpa using hc3, by simpa using hc4⟩⟩ (by simp only; omega)
   dsimp only at ih2
   exact LP_renG [0, 4] ih2 s_ s_ rfl rfl rfl
 · have hal : acc.length ≤ xs.length := by rw [g2, List.length_take]; omega
   refine WL_appX (FamI 2 .i64) acc [xs.getD i 0] rfl rfl rfl rfl rfl rfl rfl rfl rfl rfl rfl rfl rfl rfl ⟨q1, by show cap0 * 1 ≤ tt0; omega⟩ (Nat.le_of_ble_eq_true rfl) (Nat.le_refl _) ⟨by show acc.length + 1 ≤ _; omega, by show (acc.length + 1) * 8 ≤ _; omega⟩ ?_
   intro cap3 tt3 hc3 hc4
   refine w_ ?_
   have ih2 := ih (i + 1, acc ++ [xs.getD i 0], (false, cap3), some tt3) ⟨h, by simp only; rw [← take_succ_getD h, ← g2], .inr ⟨tt3, cap3, rfl, rfl, by simpa using hc3, by simpa using hc4⟩⟩ (by simp only; omega)
   dsimp only at ih2
   simp only [List.length_append, List.length_cons, List.length_nil] at ih2
   exact LP_renG [0, 4] ih2 s_ s_ rfl rfl rfl
theorem bnot (x : Int) : (!decide (x = 0)) = (x != 0) := by by_cases h : x = 0 <;> simp [h]
theorem wdayR_tri (z : RZ) (y : LY) (vs : Nat → Value) : Tri C0 174 11 [(10, ruleO z y vs)] [.ptr 10 4] (fun k hp r => k = 11 ∧ hp = [(10, ruleO z y vs)] ∧ r = .int .i64 z.wk) := by
 refine Tri.keep (Tri.mk 7 [.tmp 2] Tryz.func174 rfl rfl rfl rfl cf174 ?_) t_ (fun r h => q_); intro w0 S T ρ0
 refine w_ ?_
 refine k_ ?_
 rfl
theorem takeP_succ {l : List (Int × Int)} {i : Nat} (h : i < l.length) : l.take i ++ [l.getD i (0, 0)] = l.take (i + 1) := by
 rw [List.take_succ_eq_append_getElem h]; simp [List.getD, h]
set_option maxRecDepth 8192 in
set_option maxHeartbeats 4000000 in
theorem rule_tri (z : RZ) (y : LY) (hy : LOK z y) (hL : LEN z) (hf : 0 ≤ z.fr ∧ z.fr ≤ 6) (vs : Nat → Value) : Tri C0 106 11 ((10, ruleO z y vs) :: lstHp 142 z 0) [.ptr 10 0]
 (Fin' (fun _ => 21) (fun _ => lstHp 110 z 11) (fun q => .agg (cellsS z { y with yd := q } 11)) (fun q : Bool × Nat => z.dd.length ≤ q.2)) := by
 refine Tri.renX ?_
 refine Tri.mk 101 [.cell 2 38] Tryz.func106 rfl rfl rfl rfl cf106 ?_; intro w0 S T ρ0
 refine w_ ?_
 refine W_mid (α := Unit) (fun _ => (13, [(0, .ptr 10 0), (2, .ptr 11 0), (3, .ptr 12 0)], (10, ruleO z y vs) :: (11, .cells 38 (some 18) zcS) :: (12, .cells 38 (some 18) (cellsD z y 0 (.v (.slice none 0 0)))) :: lstHp 142 z 0)) (fun _ => True) ?_ ?_
 · refine W_drawX [10] [] 78 76 mo0 (by kernel_rfl) (by kernel_rfl) (fun ρ1 hkl => ?_)
   repeat (apply WSX_val; exact rfl; exact rfl; exact rfl; exact rfl; exact rfl; first | exact trivial | omega | exact hside | (simp only [rng]; omega))
   refine WSX_loud rfl rfl rfl rfl ?_ ?_ hkl
   · refine WS_loud rfl ?_ hkl
     refine WL_new rfl rfl rfl ?_
     refine WL_nil ?_; refine nq_walk ⟨fun _ => t_, ?_⟩; refine d_ ?_
     refine WS_loud rfl ?_ hkl
     refine WL_callR [] (isZero_tri z.st) rfl rfl rfl (s_) (s_) rfl rfl rfl rfl ?_; rintro _ rfl
     refine WL_nil ?_; refine nq_walk ⟨fun _ => t_, ?_⟩; refine d_ ?_
     refine WS_loud rfl ?_ hkl
     refine WL_callR [] (seconds_tri z.st 0) rfl rfl rfl (s_) (s_) rfl rfl rfl rfl ?_; rintro _ rfl
     refine WL_nil ?_; refine nq_walk ⟨fun _ => t_, ?_⟩; refine d_ ?_
     refine WS_loud rfl ?_ hkl
     refine WL_callR [0, 1, 2, 3, 4, 5, 6, 7, 8, 9, 10] (wdayR_tri z y vs) rfl rfl rfl (s_) (s_) rfl rfl rfl rfl ?_; rintro _ rfl
     refine WL_nil ?_; refine nq_walk ⟨fun _ => t_, ?_⟩; refine d_ ?_
     refine WS_loud rfl ?_ hkl
     refine WL_callR [] (isZero_tri z.un) rfl rfl rfl (s_) (s_) rfl rfl rfl rfl ?_; rintro _ rfl
     refine WL_nil ?_; refine nq_walk ⟨fun _ => t_, ?_⟩; refine d_ ?_
     refine WS_loud rfl ?_ hkl
     refine WL_callR [] (seconds_tri z.un 0) rfl rfl rfl (s_) (s_) rfl rfl rfl rfl ?_; rintro _ rfl
     refine WL_nil ?_
     refine nq_walk ⟨fun _ => s_, ?_⟩
     iterate 36 (apply WS_val; exact rfl; exact rfl; exact rfl; exact rfl; exact rfl; exact trivial)
     refine WS_val (φ := True) (av := .agg [.int .u8 z.fr, .bool (!decide (z.st = 0)), .int .i64 z.st, .int .i64 z.iv, .int .i64 z.wk, .int .i64 z.ct, .bool (!decide (z.un = 0)), .int .i64 z.un, slI y.y0 (0 + 0) 1 z.l0.length, slI y.y1 (0 + 1) 1 z.l1.length, slI y.y2 (0 + 2) 1 z.l2.length, slI y.y3 (0 + 3) 1 z.l3.length, slI y.y4 (0 + 4) 1 z.l4.length, .v (.slice none 0 0), slI y.y5 (0 + 5) 1 z.l5.length, slI y.y6 (0 + 6) 1 z.l6.length, slI y.y7 (0 + 7) 1 z.l7.length, slI y.y8 (0 + 8) 1 z.l8.length]) rfl rfl (by kernel_rfl) rfl rfl trivial ?_
     refine WS_loud rfl ?_ hkl
     refine WL_store rfl rfl trivial ?_
     refine WL_nil ?_
     refine nq_walk ⟨fun h => (by cases h), ?_⟩
     refine d_ ?_
     rw [bnot z.st, bnot z.un]
     refine ⟨(), trivial, ?_⟩
     refine Imp_renG [0, 1, 2, 3, 4, 5, 6, 7, 8, 9, 10, 11, 12] ?_ ?_ rfl rfl rfl
     · exact s_
     · exact s_
   · refine WL_callR [] (isZero_tri z.st) rfl rfl rfl (s_) (s_) rfl rfl rfl rfl ?_; rintro _ rfl
     refine WL_nil ?_
     refine nq_walk ⟨s_, ?_⟩
     repeat (apply WSX_val; exact rfl; exact rfl; exact rfl; exact rfl; exact rfl; first | exact trivial | omega | exact hside | (simp only [rng]; omega))
     refine WSX_loud rfl rfl rfl rfl ?_ ?_ hkl
     · refine WS_loud rfl ?_ hkl
       refine WL_new rfl rfl rfl ?_
       refine WL_nil ?_; refine nq_walk ⟨fun _ => t_, ?_⟩; refine d_ ?_
       refine WS_loud rfl ?_ hkl
       refine WL_callR [] (seconds_tri z.st 0) rfl rfl rfl (s_) (s_) rfl rfl rfl rfl ?_; rintro _ rfl
       refine WL_nil ?_; refine nq_walk ⟨fun _ => t_, ?_⟩; refine d_ ?_
       refine WS_loud rfl ?_ hkl
       refine WL_callR [0, 1, 2, 3, 4, 5, 6, 7, 8, 9, 10] (wdayR_tri z y vs) rfl rfl rfl (s_) (s_) rfl rfl rfl rfl ?_; rintro _ rfl
       refine WL_nil ?_; refine nq_walk ⟨fun _ => t_, ?_⟩; refine d_ ?_
       refine WS_loud rfl ?_ hkl
       refine WL_callR [] (isZero_tri z.un) rfl rfl rfl (s_) (s_) rfl rfl rfl rfl ?_; rintro _ rfl
       refine WL_nil ?_; refine nq_walk ⟨fun _ => t_, ?_⟩; refine d_ ?_
       refine WS_loud rfl ?_ hkl
       refine WL_callR [] (seconds_tri z.un 0) rfl rfl rfl (s_) (s_) rfl rfl rfl rfl ?_; rintro _ rfl
       refine WL_nil ?_
       refine nq_walk ⟨fun _ => s_, ?_⟩
       iterate 36 (apply WS_val; exact rfl; exact rfl; exact rfl; exact rfl; exact rfl; exact trivial)
       refine WS_val (φ := True) (av := .agg [.int .u8 z.fr, .bool (!decide (z.st = 0)), .int .i64 z.st, .int .i64 z.iv, .int .i64 z.wk, .int .i64 z.ct, .bool (!decide (z.un = 0)), .int .i64 z.un, slI y.y0 (0 + 0) 1 z.l0.length, slI y.y1 (0 + 1) 1 z.l1.length, slI y.y2 (0 + 2) 1 z.l2.length, slI y.y3 (0 + 3) 1 z.l3.length, slI y.y4 (0 + 4) 1 z.l4.length, .v (.slice none 0 0), slI y.y5 (0 + 5) 1 z.l5.length, slI y.y6 (0 + 6) 1 z.l6.length, slI y.y7 (0 + 7) 1 z.l7.length, slI y.y8 (0 + 8) 1 z.l8.length]) rfl rfl (by kernel_rfl) rfl rfl trivial ?_
       refine WS_loud rfl ?_ hkl
       refine WL_store rfl rfl trivial ?_
       refine WL_nil ?_
       refine nq_walk ⟨fun h => (by cases h), ?_⟩
       refine d_ ?_
       rw [bnot z.st, bnot z.un]
       refine ⟨(), trivial, ?_⟩
       refine Imp_renG [0, 1, 2, 3, 4, 5, 6, 7, 8, 9, 10, 11, 12] ?_ ?_ rfl rfl rfl
       · exact s_
       · exact s_
     · refine WL_callR [] (seconds_tri z.st 0) rfl rfl rfl (s_) (s_) rfl rfl rfl rfl ?_; rintro _ rfl
       refine WL_nil ?_
       refine nq_walk ⟨s_, ?_⟩
       repeat (apply WSX_val; exact rfl; exact rfl; exact rfl; exact rfl; exact rfl; first | exact trivial | omega | exact hside | (simp only [rng]; omega))
       refine WSX_loud rfl rfl rfl rfl ?_ ?_ hkl
       · refine WS_loud rfl ?_ hkl
         refine WL_new rfl rfl rfl ?_
         refine WL_nil ?_; refine nq_walk ⟨fun _ => t_, ?_⟩; refine d_ ?_
         refine WS_loud rfl ?_ hkl
         refine WL_callR [0, 1, 2, 3, 4, 5, 6, 7, 8, 9, 10] (wdayR_tri z y vs) rfl rfl rfl (s_) (s_) rfl rfl rfl rfl ?_; rintro _ rfl
         refine WL_nil ?_; refine nq_walk ⟨fun _ => t_, ?_⟩; refine d_ ?_
         refine WS_loud rfl ?_ hkl
         refine WL_callR [] (isZero_tri z.un) rfl rfl rfl (s_) (s_) rfl rfl rfl rfl ?_; rintro _ rfl
         refine WL_nil ?_; refine nq_walk ⟨fun _ => t_, ?_⟩; refine d_ ?_
         refine WS_loud rfl ?_ hkl
         refine WL_callR [] (seconds_tri z.un 0) rfl rfl rfl (s_) (s_) rfl rfl rfl rfl ?_; rintro _ rfl
         refine WL_nil ?_
         refine nq_walk ⟨fun _ => s_, ?_⟩
         iterate 36 (apply WS_val; exact rfl; exact rfl; exact rfl; exact rfl; exact rfl; exact trivial)
         refine WS_val (φ := True) (av := .agg [.int .u8 z.fr, .bool (!decide (z.st = 0)), .int .i64 z.st, .int .i64 z.iv, .int .i64 z.wk, .int .i64 z.ct, .bool (!decide (z.un = 0)), .int .i64 z.un, slI y.y0 (0 + 0) 1 z.l0.length, slI y.y1 (0 + 1) 1 z.l1.length, slI y.y2 (0 + 2) 1 z.l2.length, slI y.y3 (0 + 3) 1 z.l3.length, slI y.y4 (0 + 4) 1 z.l4.length, .v (.slice none 0 0), slI y.y5 (0 + 5) 1 z.l5.length, slI y.y6 (0 + 6) 1 z.l6.length, slI y.y7 (0 + 7) 1 z.l7.length, slI y.y8 (0 + 8) 1 z.l8.length]) rfl rfl (by kernel_rfl) rfl rfl trivial ?_
         refine WS_loud rfl ?_ hkl
         refine WL_store rfl rfl trivial ?_
         refine WL_nil ?_
         refine nq_walk ⟨fun h => (by cases h), ?_⟩
         refine d_ ?_
         rw [bnot z.st, bnot z.un]
         refine ⟨(), trivial, ?_⟩
         refine Imp_renG [0, 1, 2, 3, 4, 5, 6, 7, 8, 9, 10, 11, 12] ?_ ?_ rfl rfl rfl
         · exact s_
         · exact s_
       · refine WL_callR [0, 1, 2, 3, 4, 5, 6, 7, 8, 9, 10] (wdayR_tri z y vs) rfl rfl rfl (s_) (s_) rfl rfl rfl rfl ?_; rintro _ rfl
         refine WL_nil ?_
         refine nq_walk ⟨s_, ?_⟩
         repeat (apply WSX_val; exact rfl; exact rfl; exact rfl; exact rfl; exact rfl; first | exact trivial | omega | exact hside | (simp only [rng]; omega))
         refine WSX_loud rfl rfl rfl rfl ?_ ?_ hkl
         · refine WS_loud rfl ?_ hkl
           refine WL_new rfl rfl rfl ?_
           refine WL_nil ?_; refine nq_walk ⟨fun _ => t_, ?_⟩; refine d_ ?_
           refine WS_loud rfl ?_ hkl
           refine WL_callR [] (isZero_tri z.un) rfl rfl rfl (s_) (s_) rfl rfl rfl rfl ?_; rintro _ rfl
           refine WL_nil ?_; refine nq_walk ⟨fun _ => t_, ?_⟩; refine d_ ?_
           refine WS_loud rfl ?_ hkl
           refine WL_callR [] (seconds_tri z.un 0) rfl rfl rfl (s_) (s_) rfl rfl rfl rfl ?_; rintro _ rfl
           refine WL_nil ?_
           refine nq_walk ⟨fun _ => s_, ?_⟩
           iterate 36 (apply WS_val; exact rfl; exact rfl; exact rfl; exact rfl; exact rfl; exact trivial)
           refine WS_val (φ := True) (av := .agg [.int .u8 z.fr, .bool (!decide (z.st = 0)), .int .i64 z.st, .int .i64 z.iv, .int .i64 z.wk, .int .i64 z.ct, .bool (!decide (z.un = 0)), .int .i64 z.un, slI y.y0 (0 + 0) 1 z.l0.length, slI y.y1 (0 + 1) 1 z.l1.length, slI y.y2 (0 + 2) 1 z.l2.length, slI y.y3 (0 + 3) 1 z.l3.length, slI y.y4 (0 + 4) 1 z.l4.length, .v (.slice none 0 0), slI y.y5 (0 + 5) 1 z.l5.length, slI y.y6 (0 + 6) 1 z.l6.length, slI y.y7 (0 + 7) 1 z.l7.length, slI y.y8 (0 + 8) 1 z.l8.length]) rfl rfl (by kernel_rfl) rfl rfl trivial ?_
           refine WS_loud rfl ?_ hkl
           refine WL_store rfl rfl trivial ?_
           refine WL_nil ?_
           refine nq_walk ⟨fun h => (by cases h), ?_⟩
           refine d_ ?_
           rw [bnot z.st, bnot z.un]
           refine ⟨(), trivial, ?_⟩
           refine Imp_renG [0, 1, 2, 3, 4, 5, 6, 7, 8, 9, 10, 11, 12] ?_ ?_ rfl rfl rfl
           · exact s_
           · exact s_
         · refine WL_callR [] (isZero_tri z.un) rfl rfl rfl (s_) (s_) rfl rfl rfl rfl ?_; rintro _ rfl
           refine WL_nil ?_
           refine nq_walk ⟨s_, ?_⟩
           repeat (apply WSX_val; exact rfl; exact rfl; exact rfl; exact rfl; exact rfl; first | exact trivial | omega | exact hside | (simp only [rng]; omega))
           refine WSX_loud rfl rfl rfl rfl ?_ ?_ hkl
           · refine WS_loud rfl ?_ hkl
             refine WL_new rfl rfl rfl ?_
             refine WL_nil ?_; refine nq_walk ⟨fun _ => t_, ?_⟩; refine d_ ?_
             refine WS_loud rfl ?_ hkl
             refine WL_callR [] (seconds_tri z.un 0) rfl rfl rfl (s_) (s_) rfl rfl rfl rfl ?_; rintro _ rfl
             refine WL_nil ?_
             refine nq_walk ⟨fun _ => s_, ?_⟩
             iterate 36 (apply WS_val; exact rfl; exact rfl; exact rfl; exact rfl; exact rfl; exact trivial)
             refine WS_val (φ := True) (av := .agg [.int .u8 z.fr, .bool (!decide (z.st = 0)), .int .i64 z.st, .int .i64 z.iv, .int .i64 z.wk, .int .i64 z.ct, .bool (!decide (z.un = 0)), .int .i64 z.un, slI y.y0 (0 + 0) 1 z.l0.length, slI y.y1 (0 + 1) 1 z.l1.length, slI y.y2 (0 + 2) 1 z.l2.length, slI y.y3 (0 + 3) 1 z.l3.length, slI y.y4 (0 + 4) 1 z.l4.length, .v (.slice none 0 0), slI y.y5 (0 + 5) 1 z.l5.length, slI y.y6 (0 + 6) 1 z.l6.length, slI y.y7 (0 + 7) 1 z.l7.length, slI y.y8 (0 + 8) 1 z.l8.length]) rfl rfl (by kernel_rfl) rfl rfl trivial ?_
             refine WS_loud rfl ?_ hkl
             refine WL_store rfl rfl trivial ?_
             refine WL_nil ?_
             refine nq_walk ⟨fun h => (by cases h), ?_⟩
             refine d_ ?_
             rw [bnot z.st, bnot z.un]
             refine ⟨(), trivial, ?_⟩
             refine Imp_renG [0, 1, 2, 3, 4, 5, 6, 7, 8, 9, 10, 11, 12] ?_ ?_ rfl rfl rfl
             · exact s_
             · exact s_
           · refine WL_callR [] (seconds_tri z.un 0) rfl rfl rfl (s_) (s_) rfl rfl rfl rfl ?_; rintro _ rfl
             refine WL_nil ?_
             refine nq_walk ⟨s_, ?_⟩
             iterate 36 (apply WSX_val; exact rfl; exact rfl; exact rfl; exact rfl; exact rfl; exact trivial)
             refine WSX_val (φ := True) (av := .agg [.int .u8 z.fr, .bool (!decide (z.st = 0)), .int .i64 z.st, .int .i64 z.iv, .int .i64 z.wk, .int .i64 z.ct, .bool (!decide (z.un = 0)), .int .i64 z.un, slI y.y0 (0 + 0) 1 z.l0.length, slI y.y1 (0 + 1) 1 z.l1.length, slI y.y2 (0 + 2) 1 z.l2.length, slI y.y3 (0 + 3) 1 z.l3.length, slI y.y4 (0 + 4) 1 z.l4.length, .v (.slice none 0 0), slI y.y5 (0 + 5) 1 z.l5.length, slI y.y6 (0 + 6) 1 z.l6.length, slI y.y7 (0 + 7) 1 z.l7.length, slI y.y8 (0 + 8) 1 z.l8.length]) rfl rfl (by kernel_rfl) rfl rfl trivial ?_
             refine WSX_ax rfl rfl ?_
             refine WS_loud rfl ?_ hkl
             refine WL_new rfl rfl rfl ?_
             refine WL_nil ?_; refine nq_walk ⟨fun _ => t_, ?_⟩; refine d_ ?_
             refine WS_loud rfl ?_ hkl
             refine WL_store rfl rfl trivial ?_
             refine WL_nil ?_
             refine nq_walk ⟨fun h => (by cases h), ?_⟩
             refine d_ ?_
             rw [bnot z.st, bnot z.un]
             refine ⟨(), trivial, ?_⟩
             refine Imp_renG [0, 1, 2, 3, 4, 5, 6, 7, 8, 9, 10, 11, 12] ?_ ?_ rfl rfl rfl
             · exact s_
             · exact s_
 rintro _ _
 obtain ⟨LL0, LL1, LL2, LL3, LL4, LL5, LL6, LL7, LL8, LLd⟩ := hL
 obtain ⟨OO0, OO1, OO2, OO3, OO4, OO5, OO6, OO7, OO8, OOd⟩ := hy
 have hml : (prs2 z.dd).length = z.dd.length := by simp
 refine w_ ?_
 refine W_loop ?_
 refine LP_imp (Imp_nils (show 0 < 22 by omega) [.recs 110 none K2 []] (s_)) ?_
 refine LP_imp (Imp_cells 12 (cellsD z y 0 (slI (true, 0) 13 2 0)) rfl (fun _ => rfl) (s_) (fun h => absurd (congrArg List.length h) (Nat.succ_ne_zero 17))) ?_
 refine LP_renG [0, 1, 2, 3, 4, 5, 6, 7, 8, 9, 10, 11, 12, 13] (LP_ind 14 (fun q : Nat × List (Int × Int) × (Bool × Nat) × Option Nat => ([(0, .ptr 10 0), (2, .ptr 11 0), (3, .ptr 12 0), (85, slI y.yd 9 2 z.dd.length), (86, .int .i64 z.dd.length), (87, .int .i64 q.1)],
  (10, ruleO z y vs) :: (11, .cells 38 (some 18) zcS) :: (12, .cells 38 (some 18) (cellsD z y 0 (slI q.2.2.1 13 2 q.2.1.length))) :: (13, .recs 110 q.2.2.2 K2 (prs2 q.2.1)) :: lstHp 142 z 0)) (fun q => z.dd.length - q.1)
  (fun q => q.1 ≤ z.dd.length ∧ q.2.1 = z.dd.take q.1 ∧ GOKR (prs2 q.2.1) q.2.2.1 q.2.2.2) (0, [], (true, 0), none) ?_ ⟨Nat.zero_le _, rfl, .inl ⟨rfl, rfl, rfl⟩⟩) ?_ ?_ rfl rfl rfl
 rotate_left 1
 · exact s_
 · exact s_
 rintro ⟨i, acc, ya, ma⟩ ⟨g1, g2, g3⟩ ih
 simp only at g1 g2 g3
 refine LP_round ?_; try dsimp only
 refine w_ ?_
 refine i_ ?_ ?_ <;> intro h
 rotate_left 1
 · have h : i = z.dd.length := by omega
   rw [h, List.take_length] at g2
   subst g2
   have hya : z.dd.length ≤ ya.2 := by
    rcases g3 with ⟨rfl, _, h9⟩ | ⟨tt, cap, rfl, _, h9, _⟩
    · have h10 : z.dd = [] := by simpa using h9
      rw [h10]; exact Nat.zero_le _
    · rw [hml] at h9; exact h9
   refine w_ ?_
   refine x_ ?_
   refine then_normal ?_
   refine W_imp (Imp_conv 13 (.recs 110 none K2 (prs2 z.dd)) rfl rfl rfl rfl (.inl rfl) ⟨[], by simp [AO.avs]⟩) ?_
   refine w_ ?_
   refine W_ret ?_; (repeat (first | refine then_ret ?_ | refine inbl_ret ?_))
   exact ⟨_, _, rfl, s_, ya, [0, 1, 2, 3, 4, 5, 6, 7, 8, 9, 10, 0, 1, 2, 3, 4, 5, 6, 7, 8, 13], s_, rfl, rfl, rfl, rfl, s_, hya⟩
 have h : i < z.dd.length := by omega
 refine w_ ?_
 rw [show 0 + (i : Int).toNat = i by omega]
 refine w_ ?_
 rw [prs2_get h]
 refine w_ ?_
 rcases g3 with ⟨rfl, rfl, hx9⟩ | ⟨tt0, cap0, rfl, rfl, q1, q2⟩
 · obtain rfl : acc = [] := by simpa using hx9
   refine W_draw [12] [] 9 mo0 (by kernel_rfl) (by kernel_rfl) (fun ρ1 hkl => ?_); refine d_ ?_
   refine WS_loud rfl ?_ hkl
   refine WL_callR [14] (wday_tri (z.dd.getD i (0, 0)).1 (z.dd.getD i (0, 0)).2) rfl rfl rfl (s_) (s_) rfl rfl rfl rfl ?_; rintro _ rfl
   refine WL_nil ?_; refine nq_walk ⟨fun _ => t_, ?_⟩; refine d_ ?_
   refine WS_loud rfl ?_ hkl
   refine WL_callR [14] (wnum_tri (z.dd.getD i (0, 0)).1 (z.dd.getD i (0, 0)).2) rfl rfl rfl (s_) (s_) rfl rfl rfl rfl ?_; rintro _ rfl
   refine WL_nil ?_; refine nq_walk ⟨fun _ => t_, ?_⟩; refine d_ ?_
   refine WS_loud rfl ?_ hkl
   refine WL_new rfl rfl rfl ?_
   refine WL_nil ?_; refine nq_walk ⟨fun _ => t_, ?_⟩; refine d_ ?_
   refine WS_loud rfl ?_ hkl
   refine WL_imp (Imp_tm 92 (.v (.slice none 0 0)) rfl (fun _ => rfl) trivial) ?_
   refine WL_appN (FamR 110 K2) [[(z.dd.getD i (0, 0)).1, (z.dd.getD i (0, 0)).2]] rfl rfl rfl rfl rfl rfl rfl rfl rfl rfl rfl rfl rfl (Nat.le_of_ble_eq_true rfl) (Nat.le_refl _) ⟨Nat.le_of_ble_eq_true rfl, Nat.le_of_ble_eq_true rfl⟩ ?_
   intro cap3 tt3 hc3 hc4
   refine WL_nil ?_; refine nq_walk ⟨fun _ => t_, ?_⟩; refine d_ ?_
   refine d_ ?_
   refine WS_loud rfl ?_ hkl
   refine WL_store rfl rfl trivial ?_
   refine WL_nil ?_
   refine nq_walk ⟨fun h => (by cases h), ?_⟩
   refine d_ ?_
   refine w_ ?_
   have ih2 := ih (i + 1, [z.dd.getD i (0, 0)], (false, cap3), some tt3) ⟨h, by simp only; rw [← takeP_succ h, ← g2]; rfl, .inr ⟨tt3, cap3, rfl, rfl, by simp at hc3 ⊢; omega, hc4⟩⟩ (by simp only; omega)
   dsimp only at ih2
   exact LP_renG [0, 1, 2, 3, 4, 5, 6, 7, 8, 9, 10, 11, 12, 16] ih2 s_ s_ rfl rfl rfl
 · have hal : acc.length ≤ z.dd.length := by rw [g2, List.length_take]; omega
   have htl : (prs2 acc).length = acc.length := by simp
   rw [htl] at q1
   rw [← htl]
   refine W_draw [12] [] 9 mo0 (by kernel_rfl) (by kernel_rfl) (fun ρ1 hkl => ?_); refine d_ ?_
   refine WS_loud rfl ?_ hkl
   refine WL_callR [14] (wday_tri (z.dd.getD i (0, 0)).1 (z.dd.getD i (0, 0)).2) rfl rfl rfl (s_) (s_) rfl rfl rfl rfl ?_; rintro _ rfl
   refine WL_nil ?_; refine nq_walk ⟨fun _ => t_, ?_⟩; refine d_ ?_
   refine WS_loud rfl ?_ hkl
   refine WL_callR [14] (wnum_tri (z.dd.getD i (0, 0)).1 (z.dd.getD i (0, 0)).2) rfl rfl rfl (s_) (s_) rfl rfl rfl rfl ?_; rintro _ rfl
   refine WL_nil ?_; refine nq_walk ⟨fun _ => t_, ?_⟩; refine d_ ?_
   refine WS_loud rfl ?_ hkl
   refine WL_new rfl rfl rfl ?_
   refine WL_nil ?_; refine nq_walk ⟨fun _ => t_, ?_⟩; refine d_ ?_
   refine WS_loud rfl ?_ hkl
   refine WL_app1 (FamR 110 K2) (prs2 acc) ([(z.dd.getD i (0, 0)).1, (z.dd.getD i (0, 0)).2]) rfl rfl rfl rfl rfl rfl rfl rfl rfl rfl rfl rfl rfl rfl ?_ ?_ ?_
   · exact ⟨by omega, q2⟩
   · exact ⟨by omega, by show ((prs2 acc).length + 1) * 16 ≤ _; omega⟩
   intro cap3 tt3 hc3 hc4 _
   refine WL_nil ?_; refine nq_walk ⟨fun _ => t_, ?_⟩; refine d_ ?_
   refine d_ ?_
   refine WS_loud rfl ?_ hkl
   refine WL_store rfl rfl trivial ?_
   refine WL_nil ?_
   refine nq_walk ⟨fun h => (by cases h), ?_⟩
   refine d_ ?_
   refine w_ ?_
   have ih2 := ih (i + 1, acc ++ [z.dd.getD i (0, 0)], (false, cap3), some tt3) ⟨h, by simp only; rw [← takeP_succ h, ← g2], .inr ⟨tt3, cap3, rfl, rfl, by simp at hc3 ⊢; omega, hc4⟩⟩ (by simp only; omega)
   dsimp only at ih2
   rw [show prs2 (acc ++ [z.dd.getD i (0, 0)]) = prs2 acc ++ [[(z.dd.getD i (0, 0)).1, (z.dd.getD i (0, 0)).2]] by simp, show (acc ++ [z.dd.getD i (0, 0)]).length = (prs2 acc).length + 1 by simp] at ih2
   exact LP_renG [0, 1, 2, 3, 4, 5, 6, 7, 8, 9, 10, 11, 12, 16] ih2 s_ s_ rfl rfl rfl
end Go.Eng
