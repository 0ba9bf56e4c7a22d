/- A part of the proof that the rows statement FnSetBack holds; no conditions. -/
import Derived.Test.YthkgjhnckakliaaGreatDoorZBO
import Derived.Test.YthkgjhnckakliaaGreatDoorZBQ
set_option linter.unusedVariables false
set_option linter.unusedSimpArgs false
set_option linter.unusedSectionVars false
namespace Go.Eng
open Go.Proofs
attribute [local irreducible] W WL LP Then InBl Tri WS
theorem awake0 : Tri C0 11 0 [] [] (fun k hp r => k = 0 ∧ hp = [] ∧ r = .bool true) := Tri.keep (Tri.mono awake_tri (fun _ _ _ h => ⟨trivial, h⟩)) trivial (by rintro r rfl; trivial)
theorem easter_tri (z : RZ) (y : LY) (hy : LOK z y) (hL : LEN z) : Tri C0 9 10 (lstHp 95 z 0) [.agg (cellsS z y 0)] (fun k hp r => k = 10 ∧ hp = lstHp 95 z 0 ∧ ∃ b, r = .bool b) := by
 have h8 := hL.2.2.2.2.2.2.2.2.1
 have o8 := hy.2.2.2.2.2.2.2.2.1
 refine Tri.keep ?_ (s_) (by rintro r ⟨b, rfl⟩; trivial)
 refine Tri.mk 19 [.tmp 2] Tryz.func9 rfl rfl rfl rfl cf9 ?_; intro w0 S T ρ0
 refine w_ ?_
 refine W_loop ?_; refine LP_ren [0, 1, 2, 3, 4, 5, 6, 7, 8, 9, 10] (LP_ind 11 (fun i : Nat => ([(6, slI y.y8 8 1 z.l8.length), (7, .int .i64 z.l8.length), (8, .int .i64 i)], lstHp 95 z 0)) (fun i => z.l8.length - i) (fun i => i ≤ z.l8.length) 0 ?_ (Nat.zero_le _)) s_ s_ rfl rfl rfl
 intro i g1 ih
 refine LP_round ?_; try dsimp only
 refine w_ ?_
 refine i_ ?_ ?_ <;> intro h
 rotate_left 1
 · refine w_ ?_
   refine x_ ?_
   refine w_ ?_
   refine W_ret ?_; (repeat (first | refine then_ret ?_ | refine inbl_ret ?_))
   exact ⟨_, _, rfl, s_, s_, true, rfl⟩
 have h : i < z.l8.length := by omega
 refine w_ ?_
 rw [show 0 + (i : Int).toNat = i by omega]
 refine w_ ?_
 refine j_ 14 ?_ ?_ <;> intro h2
 · refine w_ ?_
   refine W_cond_true rfl ?_
   refine w_ ?_
   refine W_ret ?_; (repeat (first | refine then_ret ?_ | refine inbl_ret ?_))
   exact ⟨_, _, rfl, s_, s_, false, rfl⟩
 · refine w_ ?_
   refine i_ ?_ ?_ <;> intro h3
   · refine w_ ?_
     refine W_ret ?_; (repeat (first | refine then_ret ?_ | refine inbl_ret ?_))
     exact ⟨_, _, rfl, s_, s_, false, rfl⟩
   · refine w_ ?_
     exact LP_renG [0, 1, 2, 3, 4, 5, 6, 7, 8, 9, 10] (ih (i + 1) (by omega) (by omega)) s_ s_ rfl rfl rfl
structure ARG (s : SZ) : Prop where
 wn : s.z.wn = 0
 fr : 0 ≤ s.z.fr ∧ s.z.fr ≤ 255
 iv : I64 s.z.iv
 ct : I64 s.z.ct
 wk : I64 s.z.wk
 i0 : ∀ x ∈ s.z.l0, I64 x
 i1 : ∀ x ∈ s.z.l1, I64 x
 i2 : ∀ x ∈ s.z.l2, I64 x
 i3 : ∀ x ∈ s.z.l3, I64 x
 i4 : ∀ x ∈ s.z.l4, I64 x
 i5 : ∀ x ∈ s.z.l5, I64 x
 i6 : ∀ x ∈ s.z.l6, I64 x
 i7 : ∀ x ∈ s.z.l7, I64 x
 i8 : ∀ x ∈ s.z.l8, I64 x
 id : ∀ p ∈ s.z.dd, I64 p.1 ∧ I64 p.2
theorem daysOK_mem : ∀ {l : List (Int × Int)}, daysOK l = true → ∀ p ∈ l, -53 ≤ p.2 ∧ p.2 ≤ 53
 | [], _, p, hp => by cases hp
 | a :: l, h, p, hp => by
   simp only [daysOK, Bool.and_eq_true, Bool.not_eq_true', Bool.or_eq_false_iff, decide_eq_false_iff_not] at h
   rcases List.mem_cons.1 hp with rfl | hp
   · omega
   · exact daysOK_mem h.2 p hp
theorem FMT_zero : FMT RZ.zero := by
 constructor <;> first | (intro x hx; cases hx; done) | (unfold I64 RZ.zero; simp only; omega) | (unfold RZ.zero; simp only; omega) | (unfold RZ.zero; simp; done) | rfl
structure GD (s : SZ) (hs hu : Bool) : Prop where
 hs : hs = (s.z.st != 0)
 hu : hu = (s.z.un != 0)
 f : FMT s.z
 st : DateR s.z.st
 no : s.has = false → s.z = RZ.zero
 ru : s.has = true → rightZ s.z = true
theorem TST.good {s : SZ} {hs hu : Bool} (T : TST s hs hu) (A : ARG s) : GD s hs hu := by
 obtain ⟨st, has, z, rd, ex⟩ := s
 cases has with
 | false =>
   have h := T.no rfl
   have hz : z = RZ.zero := by
    have hw := A.wn
    obtain ⟨fr, st, iv, wk, wn, ct, un, l0, l1, l2, l3, l4, l5, l6, l7, l8, dd⟩ := z
    obtain ⟨e1, e2, e3, e4, e5, e6, e7, e8, e9, e10, e11, e12, e13, e14, e15, e16, e17, e18⟩ := h
    simp only at hw e1 e2 e3 e4 e5 e6 e7 e8 e9 e10 e11 e12 e13 e14 e15 e16 e17 e18
    subst hw e1 e2 e4 e5 e6 e7 e9 e10 e11 e12 e13 e14 e15 e16 e17 e18
    rfl
   subst hz
   exact ⟨h.2.2.1, h.2.2.2.2.2.2.2.1, FMT_zero, by unfold DateR RZ.zero; simp only; omega, fun _ => rfl, fun h => by cases h⟩
 | true =>
   obtain ⟨T1, T2⟩ := T.ru rfl
   simp only at T1 T2
   have hd := T2
   unfold rightZ at hd
   simp only [Bool.and_eq_true] at hd
   have hd := daysOK_mem hd.1
   have n := T1.n
   refine ⟨T1.hs, T1.hu, ⟨⟨A.fr.1, T1.fr⟩, A.iv, A.ct, T1.wk, A.wn, T1.un, n 0 (by omega), A.i0, n 1 (by omega), A.i1, n 2 (by omega), A.i2, n 3 (by omega), A.i3, n 4 (by omega), A.i4, n 5 (by omega), A.i5, n 6 (by omega), A.i6, n 7 (by omega), A.i7, n 8 (by omega), A.i8, T1.nd, fun p hp => ⟨T1.wd p hp, by have := hd p hp; omega⟩⟩, T1.st, (fun h => by cases h), fun _ => T2⟩
theorem SF_of {s : SZ} {hs hu : Bool} (T : TST s hs hu) (G : GD s hs hu) : SF s ∧ SF (stS s) := by
 have h1 : ∀ n ∈ s.rd, DateR n := fun n hn => (T.rd n hn).1
 have h2 : ∀ n ∈ s.ex, DateR n := fun n hn => (T.ex n hn).1
 refine ⟨⟨G.f, T.st, h1, h2, T.nr, T.ne⟩, ⟨G.f, ?_, h1, h2, T.nr, T.ne⟩⟩
 show DateR (startOf s)
 unfold startOf
 split
 · exact G.st
 · exact T.st
theorem LEN_of {z : RZ} (F : FMT z) : LEN z := by
 have := F.n0; have := F.n1; have := F.n2; have := F.n3; have := F.n4; have := F.n5; have := F.n6; have := F.n7; have := F.n8; have := F.nd
 exact ⟨by omega, by omega, by omega, by omega, by omega, by omega, by omega, by omega, by omega, by omega⟩
theorem BND_of {z : RZ} (F : FMT z) {n : Int} (h : DateR n) : BND { z with st := n } := by
 have := F.n5; have := F.n6; have := F.n7
 exact ⟨⟨by show _ ≤ n; omega, by show n ≤ _; omega⟩, LEN_of (FMT_st F n), by show z.l5.length ≤ _; omega, by show z.l6.length ≤ _; omega, by show z.l7.length ≤ _; omega⟩
theorem SETF_of {s : SZ} {hs hu : Bool} (T : TST s hs hu) (G : GD s hs hu) : SETF s := by
 have := T.nr; have := T.ne; have := T.st
 exact ⟨BND_of G.f (n := s.z.st) G.st, G.f.wn, G.f.fr, G.ru, ⟨by omega, by omega⟩, by omega, by omega⟩
theorem ZOK_back {s : SZ} {hs hu : Bool} (T : TST s hs hu) (G : GD s hs hu) : ZOK (backZ (stS s)) := by
 have := T.nr; have := T.ne
 cases h : s.has with
 | false =>
   have e : backZ (stS s) = { stS s with z := RZ.zero } := by unfold backZ; rw [if_neg (by rw [show (stS s).has = s.has from rfl, h]; decide)]
   rw [e]
   exact ⟨fun _ => rfl, by unfold RZ.zero; simp only; omega, LEN_z, by show s.rd.length ≤ _; omega, by show s.ex.length ≤ _; omega⟩
 | true =>
   have e : backZ (stS s) = { stS s with z := { s.z with st := 0 } } := by unfold backZ; rw [if_pos (show (stS s).has = true from h)]; rfl
   rw [e]
   exact ⟨(fun h2 => by rw [show ({ stS s with z := { s.z with st := 0 } } : SZ).has = s.has from rfl, h] at h2; cases h2), G.f.fr, LEN_of (FMT_st G.f 0), by show s.rd.length ≤ _; omega, by show s.ex.length ≤ _; omega⟩
theorem ZOK_s {s : SZ} {hs hu : Bool} (T : TST s hs hu) (G : GD s hs hu) : ZOK (stS s) := by
 have := T.nr; have := T.ne
 exact ⟨G.no, G.f.fr, LEN_of G.f, by show s.rd.length ≤ _; omega, by show s.ex.length ≤ _; omega⟩
theorem same_back {s : SZ} {hs hu : Bool} (T : TST s hs hu) (G : GD s hs hu) (st2 : Int) : sameS (toldZ (backZ (stS s)) st2) ((toldZ (backZ (stS s)) st2).z.un != 0) (stS s) hu := by
 cases h : s.has with
 | false =>
   have e : backZ (stS s) = { stS s with z := RZ.zero } := by unfold backZ; rw [if_neg (by rw [show (stS s).has = s.has from rfl, h]; decide)]
   have hz := G.no h
   have hu := G.hu
   rw [hz] at hu
   rw [e]
   refine ⟨rfl, rfl, ?_, rfl, rfl⟩
   rw [show (stS s).z = s.z from rfl, hz, hu]
   exact ⟨rfl, rfl, rfl, rfl, rfl, rfl, rfl, rfl, rfl, rfl, rfl, rfl, rfl, rfl, rfl, rfl, rfl, rfl⟩
 | true =>
   have e : backZ (stS s) = { stS s with z := { s.z with st := 0 } } := by unfold backZ; rw [if_pos (show (stS s).has = true from h)]; rfl
   rw [e, G.hu]
   exact ⟨rfl, rfl, ⟨rfl, rfl, rfl, rfl, rfl, rfl, rfl, rfl, rfl, rfl, rfl, rfl, rfl, rfl, rfl, rfl, rfl, rfl⟩, rfl, rfl⟩
end Go.Eng
namespace Go.Eng
open Go.Proofs Go.Proofs.YthkgjhnckakliaaGreatDoor
open Go.ChangeShapes Go.WideShapes Go.ChangeAt Go.RowKit
theorem HR_ro {W : World} {hp : Hp} {ρ : Nat → Nat × Nat} {n : Nat} (hg : GOK C0.toCx W) (h : ∀ p ∈ hp, p.1 < n ∧ p.2.lt n ∧ p.2.is ρ (ρ p.1).2 W.heap[(ρ p.1).1]? ∧ p.2.mut = false ∧ (ρ p.1).1 < W.heap.size) : HR C0.toCx ρ n hp W := by
 refine ⟨?_, ?_, ?_, ?_, hg⟩
 · intro id o ho
   have := h _ (lk_mem ho)
   exact ⟨this.1, this.2.1, this.2.2.1⟩
 · intro id o ho _
   exact (h _ (lk_mem ho)).2.2.2.2
 · intro id o id' o' h1 h2 hm
   have := (h _ (lk_mem h1)).2.2.2.1
   simp only at this; rw [this] at hm; cases hm
 · intro id o h1 hm
   have := (h _ (lk_mem h1)).2.2.2.1
   simp only at this; rw [this] at hm; cases hm
theorem fld {H : Type} {enc : TypeId × Value → H} {W : World} {m : Nat} {t : TypeId} {off : Nat} {L : List Value} {c : Value} {y : Option (DataW H × List MemPlace)} {x : DataW H × List MemPlace}
 (h : DataW.trod enc Tryz.prog W 0 (fun _ => true) true m t ((L.drop off).take (Tryz.prog.cellsOf t)) = y) (hy : y = some x) (hc : Tryz.prog.cellsOf t = 1) (hL : L[off]? = some c) : DataW.trod enc Tryz.prog W 0 (fun _ => true) true m t [c] = some x := by
 rw [hc, hy] at h
 have e : (L.drop off).take 1 = [c] := by
  apply List.ext_getElem?
  intro i
  cases i with
  | zero => rw [List.getElem?_take_of_lt (by omega), List.getElem?_drop, Nat.add_zero, hL]; rfl
  | succ i => rw [List.getElem?_eq_none (by simp; omega), List.getElem?_eq_none (by simp)]
 rw [e] at h; exact h
set_option maxRecDepth 100000 in
theorem open_set {H : Type} {enc : TypeId × Value → H} {W : World} (hg : GOK C0.toCx W) {base n : Nat} {v : Value} {x : DataW H × List MemPlace}
 (hok : Value.okWide Tryz.prog W .any base 28 v) (h : DataW.trod enc Tryz.prog W 0 (fun _ => true) true n 28 v.cells.toList = some x) :
 ∃ (s : SZ) (hs hu : Bool) (y : SY) (β : Nat → Nat × Nat), HR C0.toCx β 12 (setHp 95 s 0) W ∧ v = (AV.agg (cellsH s hs hu y 0)).den β ∧ SOK s y ∧ ARG s := by
 have hW : 0 < W.heap.size := Nat.lt_of_lt_of_le (by decide) hg.1
 unfold Value.okWide at hok
 rw [Tryz.underlying28] at hok
 obtain ⟨cs, rfl, _, ts, hts, _, hrow⟩ := hok
 rw [show Tryz.prog.cellTypes Tryz.prog.depth 28 = some [2, 4, 5, 4, 2, 3, 3, 3, 4, 2, 22, 22, 22, 22, 22, 23, 22, 22, 22, 22, 26, 26] by kernel_rfl] at hts
 cases hts
 obtain ⟨xs, m, _, _, hl, hxl, hf⟩ := DataW.trod_struct Tryz.underlying28 h
 rw [show Tryz.prog.cellsOf 28 = 22 by kernel_rfl] at hl
 have k2 : Tryz.prog.cellsOf 2 = 1 := by kernel_rfl
 have k3 : Tryz.prog.cellsOf 3 = 1 := by kernel_rfl
 have k4 : Tryz.prog.cellsOf 4 = 1 := by kernel_rfl
 have k5 : Tryz.prog.cellsOf 5 = 1 := by kernel_rfl
 have k22 : Tryz.prog.cellsOf 22 = 1 := by kernel_rfl
 have k23 : Tryz.prog.cellsOf 23 = 1 := by kernel_rfl
 have k25 : Tryz.prog.cellsOf 25 = 18 := by kernel_rfl
 have k26 : Tryz.prog.cellsOf 26 = 1 := by kernel_rfl
 have hcs : cs = cs.toList.toArray := by simp
 have hl : cs.toList.length = 22 := hl
 have hrow' : ∀ i v, cs.toList[i]? = some v → ∃ u, [2, 4, 5, 4, 2, 3, 3, 3, 4, 2, 22, 22, 22, 22, 22, 23, 22, 22, 22, 22, 26, 26][i % 22]? = some u ∧ Cell.okWide Tryz.prog W .any base u v := fun i v hv => hrow i v (by rw [hcs]; simpa using hv)
 have hf : ∀ (i : Nat) (f : Field), _ = some f → DataW.trod enc Tryz.prog W 0 (fun _ => true) true m f.type ((cs.toList.drop f.offset).take (Tryz.prog.cellsOf f.type)) = xs[i]? := hf
 clear h hrow
 generalize cs.toList = L at *
 subst hcs
 match L, hl with
 | [c0, c1, c2, c3, c4, c5, c6, c7, c8, c9, c10, c11, c12, c13, c14, c15, c16, c17, c18, c19, c20, c21], _ =>
   have g := fun i (hi : i < 5) => List.getElem?_eq_getElem (l := xs) (show i < xs.length by rw [hxl]; exact hi)
   have f0 := fld (t := 2) (off := 0) (c := c0) (hf 0 _ rfl) (g 0 (by omega)) k2 rfl
   have f1 := fld (t := 4) (off := 1) (c := c1) (hf 1 _ rfl) (g 1 (by omega)) k4 rfl
   have f2 := (hf 2 _ rfl).trans (g 2 (by omega))
   have f3 := fld (t := 26) (off := 20) (c := c20) (hf 3 _ rfl) (g 3 (by omega)) k26 rfl
   have f4 := fld (t := 26) (off := 21) (c := c21) (hf 4 _ rfl) (g 4 (by omega)) k26 rfl
   obtain ⟨start, rfl, _⟩ := i64_cell (v := c0) Tryz.underlying2 f0
   obtain ⟨has, rfl⟩ := bool_cell (v := c1) f1
   replace f2 : DataW.trod enc Tryz.prog W 0 (fun _ => true) true m 25 (([.int .i64 start, .bool has, c2, c3, c4, c5, c6, c7, c8, c9, c10, c11, c12, c13, c14, c15, c16, c17, c18, c19, c20, c21].drop 2).take (Tryz.prog.cellsOf 25)) = _ := f2
   rw [k25] at f2
   obtain ⟨ys, m2, _, _, _, hyl, hq⟩ := DataW.trod_struct Tryz.underlying25 f2
   have hq : ∀ (i : Nat) (f : Field), _ = some f → DataW.trod enc Tryz.prog W 0 (fun _ => true) true m2 f.type (([c2, c3, c4, c5, c6, c7, c8, c9, c10, c11, c12, c13, c14, c15, c16, c17, c18, c19].drop f.offset).take (Tryz.prog.cellsOf f.type)) = ys[i]? := hq
   have g := fun i (hi : i < 18) => List.getElem?_eq_getElem (l := ys) (show i < ys.length by rw [hyl]; exact hi)
   have q0 := fld (t := 5) (off := 0) (c := c2) (hq 0 _ rfl) (g 0 (by omega)) k5 rfl
   have q1 := fld (t := 4) (off := 1) (c := c3) (hq 1 _ rfl) (g 1 (by omega)) k4 rfl
   have q2 := fld (t := 2) (off := 2) (c := c4) (hq 2 _ rfl) (g 2 (by omega)) k2 rfl
   have q3 := fld (t := 3) (off := 3) (c := c5) (hq 3 _ rfl) (g 3 (by omega)) k3 rfl
   have q4 := fld (t := 3) (off := 4) (c := c6) (hq 4 _ rfl) (g 4 (by omega)) k3 rfl
   have q5 := fld (t := 3) (off := 5) (c := c7) (hq 5 _ rfl) (g 5 (by omega)) k3 rfl
   have q6 := fld (t := 4) (off := 6) (c := c8) (hq 6 _ rfl) (g 6 (by omega)) k4 rfl
   have q7 := fld (t := 2) (off := 7) (c := c9) (hq 7 _ rfl) (g 7 (by omega)) k2 rfl
   have q8 := fld (t := 22) (off := 8) (c := c10) (hq 8 _ rfl) (g 8 (by omega)) k22 rfl
   have q9 := fld (t := 22) (off := 9) (c := c11) (hq 9 _ rfl) (g 9 (by omega)) k22 rfl
   have q10 := fld (t := 22) (off := 10) (c := c12) (hq 10 _ rfl) (g 10 (by omega)) k22 rfl
   have q11 := fld (t := 22) (off := 11) (c := c13) (hq 11 _ rfl) (g 11 (by omega)) k22 rfl
   have q12 := fld (t := 22) (off := 12) (c := c14) (hq 12 _ rfl) (g 12 (by omega)) k22 rfl
   have q13 := fld (t := 23) (off := 13) (c := c15) (hq 13 _ rfl) (g 13 (by omega)) k23 rfl
   have q14 := fld (t := 22) (off := 14) (c := c16) (hq 14 _ rfl) (g 14 (by omega)) k22 rfl
   have q15 := fld (t := 22) (off := 15) (c := c17) (hq 15 _ rfl) (g 15 (by omega)) k22 rfl
   have q16 := fld (t := 22) (off := 16) (c := c18) (hq 16 _ rfl) (g 16 (by omega)) k22 rfl
   have q17 := fld (t := 22) (off := 17) (c := c19) (hq 17 _ rfl) (g 17 (by omega)) k22 rfl
   obtain ⟨fr, rfl, wfr⟩ := i64_cell (v := c2) Tryz.underlying5 q0
   obtain ⟨hs, rfl⟩ := bool_cell (v := c3) q1
   obtain ⟨st, rfl, wst⟩ := i64_cell (v := c4) Tryz.underlying2 q2
   obtain ⟨iv, rfl, wiv⟩ := i64_cell (v := c5) Tryz.underlying3 q3
   obtain ⟨wk, rfl, wwk⟩ := i64_cell (v := c6) Tryz.underlying3 q4
   obtain ⟨ct, rfl, wct⟩ := i64_cell (v := c7) Tryz.underlying3 q5
   obtain ⟨hu, rfl⟩ := bool_cell (v := c8) q6
   obtain ⟨un, rfl, wun⟩ := i64_cell (v := c9) Tryz.underlying2 q7
   obtain ⟨_, hu8, o8⟩ := hrow' 10 c10 rfl
   cases hu8
   obtain ⟨y0, b0, x0, O0, I0⟩ := int_slice hW Tryz.underlying22 Tryz.underlying3 k3 o8 q8 3
   obtain ⟨_, hu9, o9⟩ := hrow' 11 c11 rfl
   cases hu9
   obtain ⟨y1, b1, x1, O1, I1⟩ := int_slice hW Tryz.underlying22 Tryz.underlying3 k3 o9 q9 3
   obtain ⟨_, hu10, o10⟩ := hrow' 12 c12 rfl
   cases hu10
   obtain ⟨y2, b2, x2, O2, I2⟩ := int_slice hW Tryz.underlying22 Tryz.underlying3 k3 o10 q10 3
   obtain ⟨_, hu11, o11⟩ := hrow' 13 c13 rfl
   cases hu11
   obtain ⟨y3, b3, x3, O3, I3⟩ := int_slice hW Tryz.underlying22 Tryz.underlying3 k3 o11 q11 3
   obtain ⟨_, hu12, o12⟩ := hrow' 14 c14 rfl
   cases hu12
   obtain ⟨y4, b4, x4, O4, I4⟩ := int_slice hW Tryz.underlying22 Tryz.underlying3 k3 o12 q12 3
   obtain ⟨_, hu13, o13⟩ := hrow' 15 c15 rfl
   cases hu13
   obtain ⟨yd, bd, dd, Od, Id⟩ := day_slice hW o13 q13
   obtain ⟨_, hu14, o14⟩ := hrow' 16 c16 rfl
   cases hu14
   obtain ⟨y5, b5, x5, O5, I5⟩ := int_slice hW Tryz.underlying22 Tryz.underlying3 k3 o14 q14 3
   obtain ⟨_, hu15, o15⟩ := hrow' 17 c17 rfl
   cases hu15
   obtain ⟨y6, b6, x6, O6, I6⟩ := int_slice hW Tryz.underlying22 Tryz.underlying3 k3 o15 q15 3
   obtain ⟨_, hu16, o16⟩ := hrow' 18 c18 rfl
   cases hu16
   obtain ⟨y7, b7, x7, O7, I7⟩ := int_slice hW Tryz.underlying22 Tryz.underlying3 k3 o16 q16 3
   obtain ⟨_, hu17, o17⟩ := hrow' 19 c19 rfl
   cases hu17
   obtain ⟨y8, b8, x8, O8, I8⟩ := int_slice hW Tryz.underlying22 Tryz.underlying3 k3 o17 q17 3
   obtain ⟨_, hu30, o30⟩ := hrow' 20 c20 rfl
   cases hu30
   obtain ⟨yr, br, xr, Or, Ir⟩ := int_slice hW Tryz.underlying26 Tryz.underlying2 k2 o30 f3 2
   obtain ⟨_, hu31, o31⟩ := hrow' 21 c21 rfl
   cases hu31
   obtain ⟨ye, be, xe, Oe, Ie⟩ := int_slice hW Tryz.underlying26 Tryz.underlying2 k2 o31 f4 2
   refine ⟨⟨start, has, ⟨fr, st, iv, wk, 0, ct, un, x0, x1, x2, x3, x4, x5, x6, x7, x8, dd⟩, xr, xe⟩, hs, hu, ⟨⟨y0, y1, y2, y3, y4, y5, y6, y7, y8, yd⟩, yr, ye⟩, fun i => [b0, b1, b2, b3, b4, b5, b6, b7, b8, bd, br, be].getD i (0, 0), HR_ro hg ?_, ?_, ⟨⟨O0.c, O1.c, O2.c, O3.c, O4.c, O5.c, O6.c, O7.c, O8.c, Od.c⟩, Or.c, Oe.c⟩, ⟨rfl, bounds_u8 wfr, bounds_i64 wiv, bounds_i64 wct, bounds_i64 wwk, I0, I1, I2, I3, I4, I5, I6, I7, I8, Id⟩⟩
   · intro p hp
     simp only [setHp, setHpM, lstHp, List.mem_cons, List.not_mem_nil, or_false] at hp
     rcases hp with rfl | rfl | rfl | rfl | rfl | rfl | rfl | rfl | rfl | rfl | rfl | rfl
     · exact ⟨by omega, ints_lt _ _ _, Or.i _, rfl, Or.b⟩
     · exact ⟨by omega, ints_lt _ _ _, Oe.i _, rfl, Oe.b⟩
     · exact ⟨by omega, ints_lt _ _ _, O0.i _, rfl, O0.b⟩
     · exact ⟨by omega, ints_lt _ _ _, O1.i _, rfl, O1.b⟩
     · exact ⟨by omega, ints_lt _ _ _, O2.i _, rfl, O2.b⟩
     · exact ⟨by omega, ints_lt _ _ _, O3.i _, rfl, O3.b⟩
     · exact ⟨by omega, ints_lt _ _ _, O4.i _, rfl, O4.b⟩
     · exact ⟨by omega, ints_lt _ _ _, O5.i _, rfl, O5.b⟩
     · exact ⟨by omega, ints_lt _ _ _, O6.i _, rfl, O6.b⟩
     · exact ⟨by omega, ints_lt _ _ _, O7.i _, rfl, O7.b⟩
     · exact ⟨by omega, ints_lt _ _ _, O8.i _, rfl, O8.b⟩
     · exact ⟨by omega, recs_lt _ _ _, Od.i _, rfl, Od.b⟩
   · rw [Or.v, Oe.v, Od.v, O0.v, O1.v, O2.v, O3.v, O4.v, O5.v, O6.v, O7.v, O8.v]
     rfl
end Go.Eng
