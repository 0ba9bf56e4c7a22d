/- A part of the proof that the rows statement FnSetBack holds; no conditions. -/
import Derived.Test.YthkgjhnckakliaaGreatDoorZBD
set_option linter.unusedVariables false
set_option linter.unusedSimpArgs false
set_option linter.unusedSectionVars false
namespace Go.Eng
open Go.Proofs
attribute [local irreducible] W WL LP Then InBl Tri WS
def slP : Value → Option Addr
 | .slice p _ _ => p
 | _ => none
def slN : Value → Nat
 | .slice _ n _ => n
 | _ => 0
def slC : Value → Nat
 | .slice _ _ c => c
 | _ => 0
def inV : Value → Int
 | .int _ n => n
 | _ => 0
def bS (v : Value) : AV := .v (.slice (slP v) (slN v) (slC v))
def bI (v : Value) : AV := .int .i64 (inV v)
def zeroR : List AV := [.int .i64 0, .int .i64 0, .int .i64 0, .int .i64 0, .int .i64 0, .int .i64 0, .int .i64 0, .int .i64 0, .int .i64 0, .v (.slice none 0 0), .v (.slice none 0 0), .v (.slice none 0 0), .v (.slice none 0 0), .v (.slice none 0 0), .v (.slice none 0 0), .v (.slice none 0 0), .v (.slice none 0 0), .v (.slice none 0 0), .v (.slice none 0 0), .int .i64 0, .int .i64 0, .int .i64 0, .int .i64 0, .int .i64 0, .int .i64 0, .int .i64 0, .int .i64 0, .int .i64 0, .v (.slice none 0 0), .v (.slice none 0 0), .v (.slice none 0 0), .v (.slice none 0 0), .v (.slice none 0 0), .v (.slice none 0 0), .v (.slice none 0 0), .v (.slice none 0 0), .v (.slice none 0 0), .v (.slice none 0 0), .int .i64 0, .int .i64 0, .int .i64 0, .int .i64 0, .int .i64 0, .int .i64 0, .int .i64 0, .int .i64 0, .v (.slice none 0 0), .v (.slice none 0 0), .v (.slice none 0 0), .v (.slice none 0 0), .v (.slice none 0 0), .v (.slice none 0 0), .v (.slice none 0 0), .v (.slice none 0 0), .v (.slice none 0 0), .v (.slice none 0 0), .v (.slice none 0 0), .v (.slice none 0 0), .v (.slice none 0 0), .int .i64 0]
def dst (z : RZ) : Int := if z.st = 0 then 62135596800 else z.st
def cellsR (z : RZ) (y : LY) (b : Nat) (vs : Nat → Value) : List AV := cellsP z y b ++ [bI (vs 19), bI (vs 20), bI (vs 21), bI (vs 22), bI (vs 23), bI (vs 24), bI (vs 25), bI (vs 26), bI (vs 27), bS (vs 28), bS (vs 29), bS (vs 30), bS (vs 31), bS (vs 32), bS (vs 33), bS (vs 34), bS (vs 35), bS (vs 36), bS (vs 37), bI (vs 38), .int .i64 (dst z), .int .i64 0, bI (vs 41), bI (vs 42), bI (vs 43), bI (vs 44), bI (vs 45), bS (vs 46), bS (vs 47), bS (vs 48), bS (vs 49), bS (vs 50), bS (vs 51), bS (vs 52), bS (vs 53), bS (vs 54), bS (vs 55), bS (vs 56), bS (vs 57), bS (vs 58), bI (vs 59)]
def cellsM (z : RZ) (y : LY) (z' : RZ) (y' : LY) (d : Int) (vs : Nat → Value) : List AV := cellsP z y 0 ++ (cellsP z' y' 13 ++ [bI (vs 38), .int .i64 d, .int .i64 0, bI (vs 41), bI (vs 42), bI (vs 43), bI (vs 44), bI (vs 45), bS (vs 46), bS (vs 47), bS (vs 48), bS (vs 49), bS (vs 50), bS (vs 51), bS (vs 52), bS (vs 53), bS (vs 54), bS (vs 55), bS (vs 56), bS (vs 57), bS (vs 58), bI (vs 59)])
theorem cellsM_ne {z y z' y' d vs} : cellsM z y z' y' d vs ≠ [] := fun h => List.cons_ne_nil _ _ h
theorem ar1 {a i j k m : Nat} (h1 : a ≤ i * 1000000 + j * 1000 + k) (h2 : k = m) (h3 : m ≤ 1000) : a ≤ i * 1000000 + (j + 1) * 1000 := by
 rw [Nat.add_mul j 1 1000, Nat.one_mul, ← Nat.add_assoc]
 exact Nat.le_trans h1 (Nat.add_le_add_left (h2 ▸ h3) _)
theorem rep_tms : ∀ n : Nat, (tms (List.replicate n (0 : Int))).flatMap (rowA K2) = (List.replicate n [AV.int .i64 0, AV.int .i64 0]).flatten
 | 0 => rfl
 | n + 1 => by rw [List.replicate_succ, List.replicate_succ, List.flatten_cons, ← rep_tms n]; rfl
theorem within_mem {lo up : Int} : ∀ {l : List Int}, withinZ lo up false l = true → ∀ n ∈ l, lo ≤ n ∧ n ≤ up
 | [], _, n, hn => by cases hn
 | a :: l, h, n, hn => by
   simp only [withinZ, inOne, Bool.and_eq_true, Bool.not_eq_true', Bool.and_eq_false_iff] at h
   rcases List.mem_cons.1 hn with rfl | hn
   · have := h.1
     simp at this
     omega
   · exact within_mem h.2 n hn
def GOKR (rows : List (List Int)) (y : Bool × Nat) (m : Option Nat) : Prop := (y = (true, 0) ∧ m = none ∧ rows = []) ∨ ∃ tt cap, y = (false, cap) ∧ m = some tt ∧ rows.length ≤ cap ∧ cap * 2 ≤ tt
structure INV (z z' : RZ) (y' : LY) : Prop where
 ok : LOK z' y'
 len : LEN z'
 h5 : z'.l5 = z.l5
 h6 : z'.l6 = z.l6
 h7 : z'.l7 = z.l7
set_option maxRecDepth 8192 in
set_option maxHeartbeats 8000000 in
theorem build_tri (z : RZ) (y : LY) (hy : LOK z y) (hr : rightZ z = true) (hB : BND z) : Tri C0 155 10 (lstHp 142 z 0) [.agg (cellsP z y 0)]
 (fun k hp r => k = 10 ∧ hp = lstHp 142 z 0 ∧ ∃ vs, r = .agg (cellsR z y 0 vs)) := by
 obtain ⟨hst, hL, h5l, h6l, h7l⟩ := hB
 have hw5 : ∀ n ∈ z.l5, 0 ≤ n ∧ n ≤ 23 := by
  unfold rightZ at hr; simp only [Bool.and_eq_true] at hr; exact within_mem hr.2.1.1.1.1.1.2
 have hw6 : ∀ n ∈ z.l6, 0 ≤ n ∧ n ≤ 59 := by
  unfold rightZ at hr; simp only [Bool.and_eq_true] at hr; exact within_mem hr.2.1.1.1.1.1.1.2
 have hw7 : ∀ n ∈ z.l7, 0 ≤ n ∧ n ≤ 59 := by
  unfold rightZ at hr; simp only [Bool.and_eq_true] at hr; exact within_mem hr.2.1.1.1.1.1.1.1.2
 refine Tri.keep ?_ (s_) (by rintro r ⟨vs, rfl⟩; exact s_)
 refine Tri.mk 300 [.cell 2 152] Tryz.func155 rfl rfl rfl rfl cf155 ?_; intro w0 S T ρ0
 refine w_ ?_
 refine W_mid (α := Int) (fun p => (13, [(1, .ptr 10 0), (2, .ptr 11 0), (3, .ptr 12 0)], (10, .cells 145 (some 19) (cellsP { z with iv := p } y 0)) :: (11, .cells 152 (some 60) zeroR) :: (12, .cells 152 (some 60) (cellsP z y 0 ++ [.int .i64 0, .int .i64 0, .int .i64 0, .int .i64 0, .int .i64 0, .int .i64 0, .int .i64 0, .int .i64 0, .int .i64 0, .v (.slice none 0 0), .v (.slice none 0 0), .v (.slice none 0 0), .v (.slice none 0 0), .v (.slice none 0 0), .v (.slice none 0 0), .v (.slice none 0 0), .v (.slice none 0 0), .v (.slice none 0 0), .v (.slice none 0 0), .int .i64 z.fr, .int .i64 0, .int .i64 0, .int .i64 0, .int .i64 0, .int .i64 0, .int .i64 0, .int .i64 0, .v (.slice none 0 0), .v (.slice none 0 0), .v (.slice none 0 0), .v (.slice none 0 0), .v (.slice none 0 0), .v (.slice none 0 0), .v (.slice none 0 0), .v (.slice none 0 0), .v (.slice none 0 0), .v (.slice none 0 0), .v (.slice none 0 0), .v (.slice none 0 0), .v (.slice none 0 0), .int .i64 0])) :: lstHp 142 z 0)) (fun p => True) ?_ ?_
 · refine i_ ?_ ?_ <;> intro h
   · refine w_ ?_
     refine ⟨1, trivial, Imp_renG [0, 1, 2, 3, 4, 5, 6, 7, 8, 9, 10, 11, 12] ?_ ?_ rfl rfl rfl⟩
     · exact s_
     · exact s_
   · refine w_ ?_
     refine ⟨z.iv, trivial, Imp_renG [0, 1, 2, 3, 4, 5, 6, 7, 8, 9, 10, 11, 12] ?_ ?_ rfl rfl rfl⟩
     · exact s_
     · exact s_
 intro a _
 refine w_ ?_
 refine W_mid (α := Int) (fun p => (13, [(1, .ptr 10 0), (2, .ptr 11 0), (3, .ptr 12 0)], (10, .cells 145 (some 19) (cellsP { z with iv := a, ct := p } y 0)) :: (11, .cells 152 (some 60) zeroR) :: (12, .cells 152 (some 60) (cellsP z y 0 ++ [.int .i64 0, .int .i64 0, .int .i64 0, .int .i64 0, .int .i64 0, .int .i64 0, .int .i64 0, .int .i64 0, .int .i64 0, .v (.slice none 0 0), .v (.slice none 0 0), .v (.slice none 0 0), .v (.slice none 0 0), .v (.slice none 0 0), .v (.slice none 0 0), .v (.slice none 0 0), .v (.slice none 0 0), .v (.slice none 0 0), .v (.slice none 0 0), .int .i64 z.fr, .int .i64 0, .int .i64 0, .int .i64 a, .int .i64 0, .int .i64 0, .int .i64 0, .int .i64 0, .v (.slice none 0 0), .v (.slice none 0 0), .v (.slice none 0 0), .v (.slice none 0 0), .v (.slice none 0 0), .v (.slice none 0 0), .v (.slice none 0 0), .v (.slice none 0 0), .v (.slice none 0 0), .v (.slice none 0 0), .v (.slice none 0 0), .v (.slice none 0 0), .v (.slice none 0 0), .int .i64 0])) :: lstHp 142 z 0)) (fun p => True) ?_ ?_
 · refine i_ ?_ ?_ <;> intro h
   · refine w_ ?_
     refine ⟨0, trivial, Imp_renG [0, 1, 2, 3, 4, 5, 6, 7, 8, 9, 10, 11, 12] ?_ ?_ rfl rfl rfl⟩
     · exact s_
     · exact s_
   · refine w_ ?_
     refine ⟨z.ct, trivial, Imp_renG [0, 1, 2, 3, 4, 5, 6, 7, 8, 9, 10, 11, 12] ?_ ?_ rfl rfl rfl⟩
     · exact s_
     · exact s_
 intro c _
 refine w_ ?_
 refine WL_call [] (isZero_tri z.st) rfl rfl rfl t_ t_ rfl rfl rfl rfl ?_; rintro _ _ _ ⟨rfl, rfl, rfl⟩
 refine w_ ?_
 refine W_mid (α := Int) (fun p => (13, [(1, .ptr 10 0), (2, .ptr 11 0), (3, .ptr 12 0)], (10, .cells 145 (some 19) (cellsP { z with iv := a, ct := c, st := p } y 0)) :: (11, .cells 152 (some 60) zeroR) :: (12, .cells 152 (some 60) (cellsP z y 0 ++ [.int .i64 0, .int .i64 0, .int .i64 0, .int .i64 0, .int .i64 0, .int .i64 0, .int .i64 0, .int .i64 0, .int .i64 0, .v (.slice none 0 0), .v (.slice none 0 0), .v (.slice none 0 0), .v (.slice none 0 0), .v (.slice none 0 0), .v (.slice none 0 0), .v (.slice none 0 0), .v (.slice none 0 0), .v (.slice none 0 0), .v (.slice none 0 0), .int .i64 z.fr, .int .i64 0, .int .i64 0, .int .i64 a, .int .i64 0, .int .i64 c, .int .i64 0, .int .i64 0, .v (.slice none 0 0), .v (.slice none 0 0), .v (.slice none 0 0), .v (.slice none 0 0), .v (.slice none 0 0), .v (.slice none 0 0), .v (.slice none 0 0), .v (.slice none 0 0), .v (.slice none 0 0), .v (.slice none 0 0), .v (.slice none 0 0), .v (.slice none 0 0), .v (.slice none 0 0), .int .i64 0])) :: lstHp 142 z 0)) (fun p => p = dst z) ?_ ?_
 · refine i_ ?_ ?_ <;> intro h
   · refine w_ ?_
     refine WL_call [] (at_tri 0 (by omega)) rfl rfl rfl t_ t_ rfl rfl rfl rfl ?_; rintro _ _ _ ⟨rfl, rfl, rfl⟩
     refine w_ ?_
     refine ⟨62135596800, by unfold dst; rw [if_pos h], Imp_renG [0, 1, 2, 3, 4, 5, 6, 7, 8, 9, 10, 11, 12] ?_ ?_ rfl rfl rfl⟩
     · exact s_
     · exact s_
   · refine w_ ?_
     refine ⟨z.st, by unfold dst; rw [if_neg h], Imp_renG [0, 1, 2, 3, 4, 5, 6, 7, 8, 9, 10, 11, 12] ?_ ?_ rfl rfl rfl⟩
     · exact s_
     · exact s_
 intro d hd
 have hdb : -1000000000000 ≤ d ∧ d ≤ 1000000000000 := by rw [hd]; unfold dst; split <;> omega
 refine w_ ?_
 refine WL_call [] (truncate_tri d 0 1000000000) rfl rfl rfl t_ t_ rfl rfl rfl rfl ?_; rintro _ _ _ ⟨rfl, rfl, rfl⟩
 refine w_ ?_
 refine WL_call [] (isZero_tri z.un) rfl rfl rfl t_ t_ rfl rfl rfl rfl ?_; rintro _ _ _ ⟨rfl, rfl, rfl⟩
 refine w_ ?_
 refine W_mid (α := Int × Int) (fun p => (13, [(1, .ptr 10 0), (2, .ptr 11 0), (3, .ptr 12 0)], (10, .cells 145 (some 19) (cellsP { z with iv := a, ct := c, st := d } y 0)) :: (11, .cells 152 (some 60) zeroR) :: (12, .cells 152 (some 60) (cellsP z y 0 ++ [.int .i64 0, .int .i64 0, .int .i64 0, .int .i64 0, .int .i64 0, .int .i64 0, .int .i64 0, .int .i64 0, .int .i64 0, .v (.slice none 0 0), .v (.slice none 0 0), .v (.slice none 0 0), .v (.slice none 0 0), .v (.slice none 0 0), .v (.slice none 0 0), .v (.slice none 0 0), .v (.slice none 0 0), .v (.slice none 0 0), .v (.slice none 0 0), .int .i64 z.fr, .int .i64 d, .int .i64 0, .int .i64 a, .int .i64 0, .int .i64 c, .int .i64 p.1, .int .i64 p.2, .v (.slice none 0 0), .v (.slice none 0 0), .v (.slice none 0 0), .v (.slice none 0 0), .v (.slice none 0 0), .v (.slice none 0 0), .v (.slice none 0 0), .v (.slice none 0 0), .v (.slice none 0 0), .v (.slice none 0 0), .v (.slice none 0 0), .v (.slice none 0 0), .v (.slice none 0 0), .int .i64 0])) :: lstHp 142 z 0)) (fun p => True) ?_ ?_
 · refine i_ ?_ ?_ <;> intro h
   · refine w_ ?_
     refine WL_call [] (add_tri d (by omega)) rfl rfl rfl t_ t_ rfl rfl rfl rfl ?_; rintro _ _ _ ⟨rfl, rfl, rfl⟩
     refine w_ ?_
     refine ⟨(d + 9223372036, 854775807), trivial, Imp_renG [0, 1, 2, 3, 4, 5, 6, 7, 8, 9, 10, 11, 12] ?_ ?_ rfl rfl rfl⟩
     · exact s_
     · exact s_
   · refine w_ ?_
     refine WL_call [] (truncate_tri z.un 0 1000000000) rfl rfl rfl t_ t_ rfl rfl rfl rfl ?_; rintro _ _ _ ⟨rfl, rfl, rfl⟩
     refine w_ ?_
     refine ⟨(z.un, 0), trivial, Imp_renG [0, 1, 2, 3, 4, 5, 6, 7, 8, 9, 10, 11, 12] ?_ ?_ rfl rfl rfl⟩
     · exact s_
     · exact s_
 rintro ⟨u1, u2⟩ _
 refine w_ ?_
 obtain ⟨cb, hcb⟩ : ∃ cb : Bool, cb = (((z.l4.length : Int) == 0) && ((z.l3.length : Int) == 0) && ((z.l2.length : Int) == 0) && ((z.dd.length : Int) == 0) && ((z.l8.length : Int) == 0)) := ⟨_, rfl⟩
 refine WL_join 23 [(94, .bool cb), (1, .ptr 10 0), (2, .ptr 11 0), (3, .ptr 12 0)] ?_ ?_
 · refine j_ 71 ?_ ?_ <;> intro e1
   rotate_left 1
   · have hcb : cb = false := by rw [hcb, show ((z.l4.length : Int) == 0) = false from beq_eq_false_iff_ne.2 e1]; rfl
     rw [hcb]
     refine w_ ?_
     refine ⟨rfl, rfl, rfl, rfl, rfl, rfl, rfl, trivial⟩
   refine w_ ?_
   refine j_ 77 ?_ ?_ <;> intro e2
   rotate_left 1
   · have hcb : cb = false := by rw [hcb, show ((z.l4.length : Int) == 0) = true from beq_iff_eq.2 e1, show ((z.l3.length : Int) == 0) = false from beq_eq_false_iff_ne.2 e2]; rfl
     rw [hcb]
     refine w_ ?_
     refine ⟨rfl, rfl, rfl, rfl, rfl, rfl, rfl, trivial⟩
   refine w_ ?_
   refine j_ 83 ?_ ?_ <;> intro e3
   rotate_left 1
   · have hcb : cb = false := by rw [hcb, show ((z.l4.length : Int) == 0) = true from beq_iff_eq.2 e1, show ((z.l3.length : Int) == 0) = true from beq_iff_eq.2 e2, show ((z.l2.length : Int) == 0) = false from beq_eq_false_iff_ne.2 e3]; rfl
     rw [hcb]
     refine w_ ?_
     refine ⟨rfl, rfl, rfl, rfl, rfl, rfl, rfl, trivial⟩
   refine w_ ?_
   refine j_ 89 ?_ ?_ <;> intro e4
   rotate_left 1
   · have hcb : cb = false := by rw [hcb, show ((z.l4.length : Int) == 0) = true from beq_iff_eq.2 e1, show ((z.l3.length : Int) == 0) = true from beq_iff_eq.2 e2, show ((z.l2.length : Int) == 0) = true from beq_iff_eq.2 e3, show ((z.dd.length : Int) == 0) = false from beq_eq_false_iff_ne.2 e4]; rfl
     rw [hcb]
     refine w_ ?_
     refine ⟨rfl, rfl, rfl, rfl, rfl, rfl, rfl, trivial⟩
   have hcb : cb = ((z.l8.length : Int) == 0) := by rw [hcb, show ((z.l4.length : Int) == 0) = true from beq_iff_eq.2 e1, show ((z.l3.length : Int) == 0) = true from beq_iff_eq.2 e2, show ((z.l2.length : Int) == 0) = true from beq_iff_eq.2 e3, show ((z.dd.length : Int) == 0) = true from beq_iff_eq.2 e4]; rfl
   rw [hcb]
   refine w_ ?_
   refine ⟨rfl, rfl, rfl, rfl, rfl, rfl, rfl, trivial⟩
 clear hcb
 refine w_ ?_
 refine W_mid (α := RZ × LY) (fun p => (23, [(1, .ptr 10 0), (2, .ptr 11 0), (3, .ptr 12 0)], (10, .cells 145 (some 19) (cellsP p.1 p.2 13)) :: (11, .cells 152 (some 60) zeroR) :: (12, .cells 152 (some 60) (cellsP z y 0 ++ [.int .i64 0, .int .i64 0, .int .i64 0, .int .i64 0, .int .i64 0, .int .i64 0, .int .i64 0, .int .i64 0, .int .i64 0, .v (.slice none 0 0), .v (.slice none 0 0), .v (.slice none 0 0), .v (.slice none 0 0), .v (.slice none 0 0), .v (.slice none 0 0), .v (.slice none 0 0), .v (.slice none 0 0), .v (.slice none 0 0), .v (.slice none 0 0), .int .i64 z.fr, .int .i64 d, .int .i64 0, .int .i64 a, .int .i64 z.wk, .int .i64 c, .int .i64 u1, .int .i64 u2, slI y.y0 0 1 z.l0.length, .v (.slice none 0 0), .v (.slice none 0 0), .v (.slice none 0 0), .v (.slice none 0 0), .v (.slice none 0 0), .v (.slice none 0 0), .v (.slice none 0 0), .v (.slice none 0 0), .v (.slice none 0 0), .v (.slice none 0 0), .v (.slice none 0 0), .v (.slice none 0 0), .int .i64 0])) :: (lstHp 142 z 0 ++ lstHp 142 p.1 13))) (fun p => INV z p.1 p.2) ?_ ?_
 · cases cb with
   | false =>
     refine W_cond_false rfl ?_
     refine w_ ?_
     refine ⟨({ z with iv := a, ct := c, st := d }, y), ⟨⟨hy.1, hy.2.1, hy.2.2.1, hy.2.2.2.1, hy.2.2.2.2.1, hy.2.2.2.2.2.1, hy.2.2.2.2.2.2.1, hy.2.2.2.2.2.2.2.1, hy.2.2.2.2.2.2.2.2.1, hy.2.2.2.2.2.2.2.2.2⟩, ⟨hL.1, hL.2.1, hL.2.2.1, hL.2.2.2.1, hL.2.2.2.2.1, hL.2.2.2.2.2.1, hL.2.2.2.2.2.2.1, hL.2.2.2.2.2.2.2.1, hL.2.2.2.2.2.2.2.2.1, hL.2.2.2.2.2.2.2.2.2⟩, rfl, rfl, rfl⟩, ?_⟩
     refine Imp_renG [0, 1, 2, 3, 4, 5, 6, 7, 8, 9, 10, 11, 12, 0, 1, 2, 3, 4, 5, 6, 7, 8, 9] ?_ ?_ rfl rfl rfl
     · exact s_
     · exact s_
   | true =>
     refine W_cond_true rfl ?_
     refine w_ ?_
     refine i_ ?_ ?_ <;> intro f0
     · refine w_ ?_
       refine i_ ?_ ?_ <;> intro m0
       · refine w_ ?_
         refine WL_call [] (month_tri d 0 (by omega)) rfl rfl rfl t_ t_ rfl rfl rfl rfl ?_; rintro _ _ _ ⟨rfl, rfl, rfl⟩
         refine w_ ?_
         refine WL_call [] (day_tri d 0 (by omega)) rfl rfl rfl t_ t_ rfl rfl rfl rfl ?_; rintro _ _ _ ⟨rfl, rfl, rfl⟩
         refine w_ ?_
         refine ⟨({ z with iv := a, ct := c, st := d, l1 := [(moF (d / 86400)).1], l2 := [(moF (d / 86400)).2 + 1] }, { y with y1 := (false, 1), y2 := (false, 1) }), ⟨⟨hy.1, Nat.le_refl _, Nat.le_refl _, hy.2.2.2.1, hy.2.2.2.2.1, hy.2.2.2.2.2.1, hy.2.2.2.2.2.2.1, hy.2.2.2.2.2.2.2.1, hy.2.2.2.2.2.2.2.2.1, hy.2.2.2.2.2.2.2.2.2⟩, ⟨hL.1, (Nat.le_of_ble_eq_true rfl), (Nat.le_of_ble_eq_true rfl), hL.2.2.2.1, hL.2.2.2.2.1, hL.2.2.2.2.2.1, hL.2.2.2.2.2.2.1, hL.2.2.2.2.2.2.2.1, hL.2.2.2.2.2.2.2.2.1, hL.2.2.2.2.2.2.2.2.2⟩, rfl, rfl, rfl⟩, ?_⟩
         refine Imp_trans (Imp_conv 13 (isl [(moF (d / 86400)).1]) rfl rfl rfl rfl (.inl rfl) ⟨[], rfl⟩) ?_
         refine Imp_trans (Imp_conv 14 (isl [(moF (d / 86400)).2 + 1]) rfl rfl rfl rfl (.inl rfl) ⟨[], rfl⟩) ?_
         refine Imp_renG [0, 1, 2, 3, 4, 5, 6, 7, 8, 9, 10, 11, 12, 0, 13, 14, 3, 4, 5, 6, 7, 8, 9] ?_ ?_ rfl rfl rfl
         · exact s_
         · exact s_
       · refine w_ ?_
         refine WL_call [] (day_tri d 0 (by omega)) rfl rfl rfl t_ t_ rfl rfl rfl rfl ?_; rintro _ _ _ ⟨rfl, rfl, rfl⟩
         refine w_ ?_
         refine ⟨({ z with iv := a, ct := c, st := d, l2 := [(moF (d / 86400)).2 + 1] }, { y with y2 := (false, 1) }), ⟨⟨hy.1, hy.2.1, Nat.le_refl _, hy.2.2.2.1, hy.2.2.2.2.1, hy.2.2.2.2.2.1, hy.2.2.2.2.2.2.1, hy.2.2.2.2.2.2.2.1, hy.2.2.2.2.2.2.2.2.1, hy.2.2.2.2.2.2.2.2.2⟩, ⟨hL.1, hL.2.1, (Nat.le_of_ble_eq_true rfl), hL.2.2.2.1, hL.2.2.2.2.1, hL.2.2.2.2.2.1, hL.2.2.2.2.2.2.1, hL.2.2.2.2.2.2.2.1, hL.2.2.2.2.2.2.2.2.1, hL.2.2.2.2.2.2.2.2.2⟩, rfl, rfl, rfl⟩, ?_⟩
         refine Imp_trans (Imp_conv 13 (isl [(moF (d / 86400)).2 + 1]) rfl rfl rfl rfl (.inl rfl) ⟨[], rfl⟩) ?_
         refine Imp_renG [0, 1, 2, 3, 4, 5, 6, 7, 8, 9, 10, 11, 12, 0, 1, 13, 3, 4, 5, 6, 7, 8, 9] ?_ ?_ rfl rfl rfl
         · exact s_
         · exact s_
     · refine w_ ?_
       refine i_ ?_ ?_ <;> intro f1
       · refine w_ ?_
         refine WL_call [] (day_tri d 0 (by omega)) rfl rfl rfl t_ t_ rfl rfl rfl rfl ?_; rintro _ _ _ ⟨rfl, rfl, rfl⟩
         refine w_ ?_
         refine ⟨({ z with iv := a, ct := c, st := d, l2 := [(moF (d / 86400)).2 + 1] }, { y with y2 := (false, 1) }), ⟨⟨hy.1, hy.2.1, Nat.le_refl _, hy.2.2.2.1, hy.2.2.2.2.1, hy.2.2.2.2.2.1, hy.2.2.2.2.2.2.1, hy.2.2.2.2.2.2.2.1, hy.2.2.2.2.2.2.2.2.1, hy.2.2.2.2.2.2.2.2.2⟩, ⟨hL.1, hL.2.1, (Nat.le_of_ble_eq_true rfl), hL.2.2.2.1, hL.2.2.2.2.1, hL.2.2.2.2.2.1, hL.2.2.2.2.2.2.1, hL.2.2.2.2.2.2.2.1, hL.2.2.2.2.2.2.2.2.1, hL.2.2.2.2.2.2.2.2.2⟩, rfl, rfl, rfl⟩, ?_⟩
         refine Imp_trans (Imp_conv 13 (isl [(moF (d / 86400)).2 + 1]) rfl rfl rfl rfl (.inl rfl) ⟨[], rfl⟩) ?_
         refine Imp_renG [0, 1, 2, 3, 4, 5, 6, 7, 8, 9, 10, 11, 12, 0, 1, 13, 3, 4, 5, 6, 7, 8, 9] ?_ ?_ rfl rfl rfl
         · exact s_
         · exact s_
       · refine w_ ?_
         refine i_ ?_ ?_ <;> intro f2
         · refine w_ ?_
           refine WL_call [] (weekday_tri d 0 (by omega)) rfl rfl rfl t_ t_ rfl rfl rfl rfl ?_; rintro _ _ _ ⟨rfl, rfl, rfl⟩
           refine w_ ?_
           refine WL_call [] (toPy_tri ((d / 86400 + 1) % 7) (by omega)) rfl rfl rfl t_ t_ rfl rfl rfl rfl ?_; rintro _ _ _ ⟨rfl, rfl, v, rfl⟩
           refine w_ ?_
           refine ⟨({ z with iv := a, ct := c, st := d, dd := [(v, 0)] }, { y with yd := (false, 1) }), ⟨⟨hy.1, hy.2.1, hy.2.2.1, hy.2.2.2.1, hy.2.2.2.2.1, hy.2.2.2.2.2.1, hy.2.2.2.2.2.2.1, hy.2.2.2.2.2.2.2.1, hy.2.2.2.2.2.2.2.2.1, Nat.le_refl _⟩, ⟨hL.1, hL.2.1, hL.2.2.1, hL.2.2.2.1, hL.2.2.2.2.1, hL.2.2.2.2.2.1, hL.2.2.2.2.2.2.1, hL.2.2.2.2.2.2.2.1, hL.2.2.2.2.2.2.2.2.1, (Nat.le_of_ble_eq_true rfl)⟩, rfl, rfl, rfl⟩, ?_⟩
           refine Imp_trans (Imp_conv 13 (.recs 142 none K2 (prs2 [(v, 0)])) rfl rfl rfl rfl (.inl rfl) ⟨[], rfl⟩) ?_
           refine Imp_renG [0, 1, 2, 3, 4, 5, 6, 7, 8, 9, 10, 11, 12, 0, 1, 2, 3, 4, 5, 6, 7, 8, 13] ?_ ?_ rfl rfl rfl
           · exact s_
           · exact s_
         · refine w_ ?_
           refine ⟨({ z with iv := a, ct := c, st := d }, y), ⟨⟨hy.1, hy.2.1, hy.2.2.1, hy.2.2.2.1, hy.2.2.2.2.1, hy.2.2.2.2.2.1, hy.2.2.2.2.2.2.1, hy.2.2.2.2.2.2.2.1, hy.2.2.2.2.2.2.2.2.1, hy.2.2.2.2.2.2.2.2.2⟩, ⟨hL.1, hL.2.1, hL.2.2.1, hL.2.2.2.1, hL.2.2.2.2.1, hL.2.2.2.2.2.1, hL.2.2.2.2.2.2.1, hL.2.2.2.2.2.2.2.1, hL.2.2.2.2.2.2.2.2.1, hL.2.2.2.2.2.2.2.2.2⟩, rfl, rfl, rfl⟩, ?_⟩
           refine Imp_renG [0, 1, 2, 3, 4, 5, 6, 7, 8, 9, 10, 11, 12, 0, 1, 2, 3, 4, 5, 6, 7, 8, 9] ?_ ?_ rfl rfl rfl
           · exact s_
           · exact s_
 rintro ⟨z', y'⟩ hI
 obtain ⟨hy', hL', i5, i6, i7⟩ := hI
 simp only at hy' hL' i5 i6 i7
 refine w_ ?_
 refine W_loop ?_
 refine LP_imp (Imp_nils (show 0 < 22 by omega) [.ints 3 none .i64 [], .ints 3 none .i64 []] (s_)) ?_
 refine LP_imp (Imp_cells 12 (cellsP z y 0 ++ [.int .i64 0, .int .i64 0, .int .i64 0, .int .i64 0, .int .i64 0, .int .i64 0, .int .i64 0, .int .i64 0, .int .i64 0, .v (.slice none 0 0), .v (.slice none 0 0), .v (.slice none 0 0), .v (.slice none 0 0), .v (.slice none 0 0), .v (.slice none 0 0), .v (.slice none 0 0), .v (.slice none 0 0), .v (.slice none 0 0), .v (.slice none 0 0), .int .i64 z.fr, .int .i64 d, .int .i64 0, .int .i64 a, .int .i64 z.wk, .int .i64 c, .int .i64 u1, .int .i64 u2, slI y.y0 0 1 z.l0.length, slI y'.y1 14 1 z'.l1.length, slI (true, 0) 23 1 0, slI (true, 0) 24 1 0, slI y'.y3 16 1 z'.l3.length, .v (.slice none 0 0), .v (.slice none 0 0), .v (.slice none 0 0), .v (.slice none 0 0), .v (.slice none 0 0), .v (.slice none 0 0), slI y'.y8 21 1 z'.l8.length, .v (.slice none 0 0), .int .i64 0]) rfl (fun _ => rfl) (s_) (fun h => absurd (congrArg List.length h) (Nat.succ_ne_zero 59))) ?_
 refine LP_renG [0, 1, 2, 3, 4, 5, 6, 7, 8, 9, 10, 11, 12, 13, 14, 15, 16, 17, 18, 19, 20, 21, 22, 23, 24] (LP_ind 25 (fun q : Nat × List Int × (Bool × Nat) × Option Nat × List Int × (Bool × Nat) × Option Nat => ([(1, .ptr 10 0), (2, .ptr 11 0), (3, .ptr 12 0), (140, slI y'.y2 15 1 z'.l2.length), (141, .int .i64 z'.l2.length), (142, .int .i64 q.1)],
  (23, .ints 3 q.2.2.2.1 .i64 q.2.1) :: (24, .ints 3 q.2.2.2.2.2.2 .i64 q.2.2.2.2.1) :: (10, .cells 145 (some 19) (cellsP z' y' 13)) :: (11, .cells 152 (some 60) zeroR) :: (12, .cells 152 (some 60) (cellsP z y 0 ++ [.int .i64 0, .int .i64 0, .int .i64 0, .int .i64 0, .int .i64 0, .int .i64 0, .int .i64 0, .int .i64 0, .int .i64 0, .v (.slice none 0 0), .v (.slice none 0 0), .v (.slice none 0 0), .v (.slice none 0 0), .v (.slice none 0 0), .v (.slice none 0 0), .v (.slice none 0 0), .v (.slice none 0 0), .v (.slice none 0 0), .v (.slice none 0 0), .int .i64 z.fr, .int .i64 d, .int .i64 0, .int .i64 a, .int .i64 z.wk, .int .i64 c, .int .i64 u1, .int .i64 u2, slI y.y0 0 1 z.l0.length, slI y'.y1 14 1 z'.l1.length, slI q.2.2.1 23 1 q.2.1.length, slI q.2.2.2.2.2.1 24 1 q.2.2.2.2.1.length, slI y'.y3 16 1 z'.l3.length, .v (.slice none 0 0), .v (.slice none 0 0), .v (.slice none 0 0), .v (.slice none 0 0), .v (.slice none 0 0), .v (.slice none 0 0), slI y'.y8 21 1 z'.l8.length, .v (.slice none 0 0), .int .i64 0])) :: (lstHp 142 z 0 ++ lstHp 142 z' 13))) (fun q => z'.l2.length - q.1)
  (fun q => q.1 ≤ z'.l2.length ∧ GOKL q.2.1 q.2.2.1 q.2.2.2.1 ∧ GOKL q.2.2.2.2.1 q.2.2.2.2.2.1 q.2.2.2.2.2.2 ∧ q.2.1.length ≤ q.1 ∧ q.2.2.2.2.1.length ≤ q.1) (0, [], (true, 0), none, [], (true, 0), none) ?_ ⟨Nat.zero_le _, .inl ⟨rfl, rfl, rfl⟩, .inl ⟨rfl, rfl, rfl⟩, Nat.zero_le _, Nat.zero_le _⟩) ?_ ?_ rfl rfl rfl
 rotate_left 1
 · exact s_
 · exact s_
 rintro ⟨i, p, yp, mp, q, yq, mq⟩ ⟨g1, g2, g3, g4, g5⟩ ih
 simp only at g1 g2 g3 g4 g5
 obtain ⟨LL0, LL1, LL2, LL3, LL4, LL5, LL6, LL7, LL8, LLd⟩ := hL'
 obtain ⟨OO0, OO1, OO2, OO3, OO4, OO5, OO6, OO7, OO8, OOd⟩ := hy'
 refine LP_round ?_; try dsimp only
 refine w_ ?_
 refine i_ ?_ ?_ <;> intro h
 · have h : i < z'.l2.length := by omega
   refine w_ ?_
   rw [show 0 + (i : Int).toNat = i by omega]
   refine i_ ?_ ?_ <;> intro v1
   · refine w_ ?_
     rcases g2 with ⟨rfl, rfl, rfl⟩ | ⟨tt0, cap0, rfl, rfl, q1, q2⟩
     · refine WL_imp (Imp_tm 149 (.v (.slice none 0 0)) rfl (fun _ => rfl) trivial) ?_
       refine w_ ?_
       refine WL_appN (FamI 3 .i64) [z'.l2.getD i 0] rfl rfl rfl rfl rfl rfl rfl rfl rfl rfl rfl rfl rfl (Nat.le_of_ble_eq_true rfl) (Nat.le_refl _) ⟨Nat.le_of_ble_eq_true rfl, Nat.le_of_ble_eq_true rfl⟩ ?_
       intro cap3 tt3 hc3 hc4
       refine w_ ?_
       have ih2 := ih (i + 1, [z'.l2.getD i 0], (false, cap3), some tt3, q, yq, mq) ⟨by omega, .inr ⟨tt3, cap3, rfl, rfl, by simpa using hc3, by simpa using hc4⟩, g3, by simp; try omega, Nat.le_succ_of_le g5⟩ (by simp only; omega)
       dsimp only at ih2
       exact LP_renG [0, 1, 2, 3, 4, 5, 6, 7, 8, 9, 10, 11, 12, 13, 14, 15, 16, 17, 18, 19, 20, 21, 22, 26, 24] ih2 s_ s_ rfl rfl rfl
     · refine w_ ?_
       refine WL_appX (FamI 3 .i64) p [z'.l2.getD i 0] rfl rfl rfl rfl rfl rfl rfl rfl rfl rfl rfl rfl rfl rfl ⟨q1, by show cap0 * 1 ≤ tt0; omega⟩ (Nat.le_of_ble_eq_true rfl) (Nat.le_refl _) ⟨by show p.length + 1 ≤ _; omega, by show (p.length + 1) * 8 ≤ _; omega⟩ ?_
       intro cap3 tt3 hc3 hc4
       refine w_ ?_
       have ih2 := ih (i + 1, (p ++ [z'.l2.getD i 0]), (false, cap3), some tt3, q, yq, mq) ⟨by omega, .inr ⟨tt3, cap3, rfl, rfl, by simpa using hc3, by simpa using hc4⟩, g3, by simp; try omega, Nat.le_succ_of_le g5⟩ (by simp only; omega)
       dsimp only at ih2
       simp only [List.length_append, List.length_cons, List.length_nil] at ih2
       exact LP_renG [0, 1, 2, 3, 4, 5, 6, 7, 8, 9, 10, 11, 12, 13, 14, 15, 16, 17, 18, 19, 20, 21, 22, 26, 24] ih2 s_ s_ rfl rfl rfl
   · refine w_ ?_
     refine i_ ?_ ?_ <;> intro v2
     · refine w_ ?_
       rcases g3 with ⟨rfl, rfl, rfl⟩ | ⟨tt0, cap0, rfl, rfl, q1, q2⟩
       · refine WL_imp (Imp_tm 157 (.v (.slice none 0 0)) rfl (fun _ => rfl) trivial) ?_
         refine w_ ?_
         refine WL_appN (FamI 3 .i64) [z'.l2.getD i 0] rfl rfl rfl rfl rfl rfl rfl rfl rfl rfl rfl rfl rfl (Nat.le_of_ble_eq_true rfl) (Nat.le_refl _) ⟨Nat.le_of_ble_eq_true rfl, Nat.le_of_ble_eq_true rfl⟩ ?_
         intro cap3 tt3 hc3 hc4
         refine w_ ?_
         have ih2 := ih (i + 1, p, yp, mp, [z'.l2.getD i 0], (false, cap3), some tt3) ⟨by omega, g2, .inr ⟨tt3, cap3, rfl, rfl, by simpa using hc3, by simpa using hc4⟩, Nat.le_succ_of_le g4, by simp; try omega⟩ (by simp only; omega)
         dsimp only at ih2
         exact LP_renG [0, 1, 2, 3, 4, 5, 6, 7, 8, 9, 10, 11, 12, 13, 14, 15, 16, 17, 18, 19, 20, 21, 22, 23, 26] ih2 s_ s_ rfl rfl rfl
       · refine w_ ?_
         refine WL_appX (FamI 3 .i64) q [z'.l2.getD i 0] rfl rfl rfl rfl rfl rfl rfl rfl rfl rfl rfl rfl rfl rfl ⟨q1, by show cap0 * 1 ≤ tt0; omega⟩ (Nat.le_of_ble_eq_true rfl) (Nat.le_refl _) ⟨by show q.length + 1 ≤ _; omega, by show (q.length + 1) * 8 ≤ _; omega⟩ ?_
         intro cap3 tt3 hc3 hc4
         refine w_ ?_
         have ih2 := ih (i + 1, p, yp, mp, (q ++ [z'.l2.getD i 0]), (false, cap3), some tt3) ⟨by omega, g2, .inr ⟨tt3, cap3, rfl, rfl, by simpa using hc3, by simpa using hc4⟩, Nat.le_succ_of_le g4, by simp; try omega⟩ (by simp only; omega)
         dsimp only at ih2
         simp only [List.length_append, List.length_cons, List.length_nil] at ih2
         exact LP_renG [0, 1, 2, 3, 4, 5, 6, 7, 8, 9, 10, 11, 12, 13, 14, 15, 16, 17, 18, 19, 20, 21, 22, 23, 26] ih2 s_ s_ rfl rfl rfl
     · refine w_ ?_
       exact LP_renG [0, 1, 2, 3, 4, 5, 6, 7, 8, 9, 10, 11, 12, 13, 14, 15, 16, 17, 18, 19, 20, 21, 22, 23, 24] (ih (i + 1, p, yp, mp, q, yq, mq) ⟨by omega, g2, g3, Nat.le_succ_of_le g4, Nat.le_succ_of_le g5⟩ (by simp only; omega)) s_ s_ rfl rfl rfl
 clear ih
 refine w_ ?_
 refine x_ ?_
 refine w_ ?_
 refine W_loop ?_
 refine LP_blurC 12 (fun v1 => (cellsP z y 0 ++ [.int .i64 0, .int .i64 0, .int .i64 0, .int .i64 0, .int .i64 0, .int .i64 0, .int .i64 0, .int .i64 0, .int .i64 0, .v (.slice none 0 0), .v (.slice none 0 0), .v (.slice none 0 0), .v (.slice none 0 0), .v (.slice none 0 0), .v (.slice none 0 0), .v (.slice none 0 0), .v (.slice none 0 0), .v (.slice none 0 0), .v (.slice none 0 0), .int .i64 z.fr, .int .i64 d, .int .i64 0, .int .i64 a, .int .i64 z.wk, .int .i64 c, .int .i64 u1, .int .i64 u2, slI y.y0 0 1 z.l0.length, slI y'.y1 14 1 z'.l1.length, bS (v1 48), bS (v1 49), slI y'.y3 16 1 z'.l3.length, slI y'.y4 17 1 z'.l4.length, .v (.slice none 0 0), .v (.slice none 0 0), .v (.slice none 0 0), .v (.slice none 0 0), .v (.slice none 0 0), slI y'.y8 21 1 z'.l8.length, .v (.slice none 0 0), .int .i64 0])) rfl (fun _ => rfl) (fun _ => s_) (fun h => absurd (congrArg List.length h) (Nat.succ_ne_zero 59)) ?_
 intro v1
 refine LP_imp (Imp_nils (show 0 < 22 by omega) [.ints 3 none .i64 [], .recs 142 none K2 []] (s_)) ?_
 refine LP_imp (Imp_cells 12 (cellsP z y 0 ++ [.int .i64 0, .int .i64 0, .int .i64 0, .int .i64 0, .int .i64 0, .int .i64 0, .int .i64 0, .int .i64 0, .int .i64 0, .v (.slice none 0 0), .v (.slice none 0 0), .v (.slice none 0 0), .v (.slice none 0 0), .v (.slice none 0 0), .v (.slice none 0 0), .v (.slice none 0 0), .v (.slice none 0 0), .v (.slice none 0 0), .v (.slice none 0 0), .int .i64 z.fr, .int .i64 d, .int .i64 0, .int .i64 a, .int .i64 z.wk, .int .i64 c, .int .i64 u1, .int .i64 u2, slI y.y0 0 1 z.l0.length, slI y'.y1 14 1 z'.l1.length, bS (v1 48), bS (v1 49), slI y'.y3 16 1 z'.l3.length, slI y'.y4 17 1 z'.l4.length, slI (true, 0) 25 1 0, slI (true, 0) 26 2 0, .v (.slice none 0 0), .v (.slice none 0 0), .v (.slice none 0 0), slI y'.y8 21 1 z'.l8.length, .v (.slice none 0 0), .int .i64 0]) rfl (fun _ => rfl) (s_) (fun h => absurd (congrArg List.length h) (Nat.succ_ne_zero 59))) ?_
 clear g1 g2 g3 g4 g5
 refine LP_renG [0, 1, 2, 3, 4, 5, 6, 7, 8, 9, 10, 11, 12, 13, 14, 15, 16, 17, 18, 19, 20, 21, 22, 25, 26] (LP_ind 25 (fun q : Nat × List Int × (Bool × Nat) × Option Nat × List (List Int) × (Bool × Nat) × Option Nat => ([(1, .ptr 10 0), (2, .ptr 11 0), (3, .ptr 12 0), (167, slI y'.yd 22 2 z'.dd.length), (168, .int .i64 z'.dd.length), (169, .int .i64 q.1)],
  (23, .ints 3 q.2.2.2.1 .i64 q.2.1) :: (24, .recs 142 q.2.2.2.2.2.2 K2 q.2.2.2.2.1) :: (10, .cells 145 (some 19) (cellsP z' y' 13)) :: (11, .cells 152 (some 60) zeroR) :: (12, .cells 152 (some 60) (cellsP z y 0 ++ [.int .i64 0, .int .i64 0, .int .i64 0, .int .i64 0, .int .i64 0, .int .i64 0, .int .i64 0, .int .i64 0, .int .i64 0, .v (.slice none 0 0), .v (.slice none 0 0), .v (.slice none 0 0), .v (.slice none 0 0), .v (.slice none 0 0), .v (.slice none 0 0), .v (.slice none 0 0), .v (.slice none 0 0), .v (.slice none 0 0), .v (.slice none 0 0), .int .i64 z.fr, .int .i64 d, .int .i64 0, .int .i64 a, .int .i64 z.wk, .int .i64 c, .int .i64 u1, .int .i64 u2, slI y.y0 0 1 z.l0.length, slI y'.y1 14 1 z'.l1.length, bS (v1 48), bS (v1 49), slI y'.y3 16 1 z'.l3.length, slI y'.y4 17 1 z'.l4.length, slI q.2.2.1 23 1 q.2.1.length, slI q.2.2.2.2.2.1 24 2 q.2.2.2.2.1.length, .v (.slice none 0 0), .v (.slice none 0 0), .v (.slice none 0 0), slI y'.y8 21 1 z'.l8.length, .v (.slice none 0 0), .int .i64 0])) :: (lstHp 142 z 0 ++ lstHp 142 z' 13))) (fun q => z'.dd.length - q.1)
  (fun q => q.1 ≤ z'.dd.length ∧ GOKL q.2.1 q.2.2.1 q.2.2.2.1 ∧ GOKR q.2.2.2.2.1 q.2.2.2.2.2.1 q.2.2.2.2.2.2 ∧ q.2.1.length ≤ q.1 ∧ q.2.2.2.2.1.length ≤ q.1) (0, [], (true, 0), none, [], (true, 0), none) ?_ ⟨Nat.zero_le _, .inl ⟨rfl, rfl, rfl⟩, .inl ⟨rfl, rfl, rfl⟩, Nat.zero_le _, Nat.zero_le _⟩) ?_ ?_ rfl rfl rfl
 rotate_left 1
 · exact s_
 · exact s_
 rintro ⟨i, p, yp, mp, q, yq, mq⟩ ⟨g1, g2, g3, g4, g5⟩ ih
 simp only at g1 g2 g3 g4 g5
 refine LP_round ?_; try dsimp only
 refine w_ ?_
 refine i_ ?_ ?_ <;> intro h
 · have h : i < z'.dd.length := by omega
   have hml : (prs2 z'.dd).length = z'.dd.length := by simp
   refine w_ ?_
   rw [show 0 + (i : Int).toNat = i by omega]
   refine w_ ?_
   rw [prs2_get h]
   refine w_ ?_
   refine j_ 176 ?_ ?_ <;> intro v0
   · refine w_ ?_
     refine W_cond_true rfl ?_
     refine w_ ?_
     rcases g2 with ⟨rfl, rfl, rfl⟩ | ⟨tt0, cap0, rfl, rfl, q1, q2⟩
     · refine WL_imp (Imp_tm 182 (.v (.slice none 0 0)) rfl (fun _ => rfl) trivial) ?_
       refine w_ ?_
       refine WL_appN (FamI 3 .i64) [(z'.dd.getD i (0, 0)).1] rfl rfl rfl rfl rfl rfl rfl rfl rfl rfl rfl rfl rfl (Nat.le_of_ble_eq_true rfl) (Nat.le_refl _) ⟨Nat.le_of_ble_eq_true rfl, Nat.le_of_ble_eq_true rfl⟩ ?_
       intro cap3 tt3 hc3 hc4
       refine w_ ?_
       have ih2 := ih (i + 1, [(z'.dd.getD i (0, 0)).1], (false, cap3), some tt3, q, yq, mq) ⟨by omega, .inr ⟨tt3, cap3, rfl, rfl, by simpa using hc3, by simpa using hc4⟩, g3, by simp; try omega, Nat.le_succ_of_le g5⟩ (by simp only; omega)
       dsimp only at ih2
       exact LP_renG [0, 1, 2, 3, 4, 5, 6, 7, 8, 9, 10, 11, 12, 13, 14, 15, 16, 17, 18, 19, 20, 21, 22, 27, 24] ih2 s_ s_ rfl rfl rfl
     · refine w_ ?_
       refine WL_appX (FamI 3 .i64) p [(z'.dd.getD i (0, 0)).1] rfl rfl rfl rfl rfl rfl rfl rfl rfl rfl rfl rfl rfl rfl ⟨q1, by show cap0 * 1 ≤ tt0; omega⟩ (Nat.le_of_ble_eq_true rfl) (Nat.le_refl _) ⟨by show p.length + 1 ≤ _; omega, by show (p.length + 1) * 8 ≤ _; omega⟩ ?_
       intro cap3 tt3 hc3 hc4
       refine w_ ?_
       have ih2 := ih (i + 1, (p ++ [(z'.dd.getD i (0, 0)).1]), (false, cap3), some tt3, q, yq, mq) ⟨by omega, .inr ⟨tt3, cap3, rfl, rfl, by simpa using hc3, by simpa using hc4⟩, g3, by simp; try omega, Nat.le_succ_of_le g5⟩ (by simp only; omega)
       dsimp only at ih2
       simp only [List.length_append, List.length_cons, List.length_nil] at ih2
       exact LP_renG [0, 1, 2, 3, 4, 5, 6, 7, 8, 9, 10, 11, 12, 13, 14, 15, 16, 17, 18, 19, 20, 21, 22, 27, 24] ih2 s_ s_ rfl rfl rfl
   · refine w_ ?_
     refine i_ ?_ ?_ <;> intro v3
     · refine w_ ?_
       rcases g2 with ⟨rfl, rfl, rfl⟩ | ⟨tt0, cap0, rfl, rfl, q1, q2⟩
       · refine WL_imp (Imp_tm 182 (.v (.slice none 0 0)) rfl (fun _ => rfl) trivial) ?_
         refine w_ ?_
         refine WL_appN (FamI 3 .i64) [(z'.dd.getD i (0, 0)).1] rfl rfl rfl rfl rfl rfl rfl rfl rfl rfl rfl rfl rfl (Nat.le_of_ble_eq_true rfl) (Nat.le_refl _) ⟨Nat.le_of_ble_eq_true rfl, Nat.le_of_ble_eq_true rfl⟩ ?_
         intro cap3 tt3 hc3 hc4
         refine w_ ?_
         have ih2 := ih (i + 1, [(z'.dd.getD i (0, 0)).1], (false, cap3), some tt3, q, yq, mq) ⟨by omega, .inr ⟨tt3, cap3, rfl, rfl, by simpa using hc3, by simpa using hc4⟩, g3, by simp; try omega, Nat.le_succ_of_le g5⟩ (by simp only; omega)
         dsimp only at ih2
         exact LP_renG [0, 1, 2, 3, 4, 5, 6, 7, 8, 9, 10, 11, 12, 13, 14, 15, 16, 17, 18, 19, 20, 21, 22, 27, 24] ih2 s_ s_ rfl rfl rfl
       · refine w_ ?_
         refine WL_appX (FamI 3 .i64) p [(z'.dd.getD i (0, 0)).1] rfl rfl rfl rfl rfl rfl rfl rfl rfl rfl rfl rfl rfl rfl ⟨q1, by show cap0 * 1 ≤ tt0; omega⟩ (Nat.le_of_ble_eq_true rfl) (Nat.le_refl _) ⟨by show p.length + 1 ≤ _; omega, by show (p.length + 1) * 8 ≤ _; omega⟩ ?_
         intro cap3 tt3 hc3 hc4
         refine w_ ?_
         have ih2 := ih (i + 1, (p ++ [(z'.dd.getD i (0, 0)).1]), (false, cap3), some tt3, q, yq, mq) ⟨by omega, .inr ⟨tt3, cap3, rfl, rfl, by simpa using hc3, by simpa using hc4⟩, g3, by simp; try omega, Nat.le_succ_of_le g5⟩ (by simp only; omega)
         dsimp only at ih2
         simp only [List.length_append, List.length_cons, List.length_nil] at ih2
         exact LP_renG [0, 1, 2, 3, 4, 5, 6, 7, 8, 9, 10, 11, 12, 13, 14, 15, 16, 17, 18, 19, 20, 21, 22, 27, 24] ih2 s_ s_ rfl rfl rfl
     · refine w_ ?_
       rcases g3 with ⟨rfl, rfl, rfl⟩ | ⟨tt0, cap0, rfl, rfl, q1, q2⟩
       · refine WL_imp (Imp_tm 189 (.v (.slice none 0 0)) rfl (fun _ => rfl) trivial) ?_
         refine w_ ?_
         refine WL_appN (FamR 142 K2) [[(z'.dd.getD i (0, 0)).1, (z'.dd.getD i (0, 0)).2]] rfl rfl rfl rfl rfl rfl rfl rfl rfl rfl rfl rfl rfl (Nat.le_of_ble_eq_true rfl) (Nat.le_refl _) ⟨Nat.le_of_ble_eq_true rfl, Nat.le_of_ble_eq_true rfl⟩ ?_
         intro cap3 tt3 hc3 hc4
         refine w_ ?_
         have ih2 := ih (i + 1, p, yp, mp, [[(z'.dd.getD i (0, 0)).1, (z'.dd.getD i (0, 0)).2]], (false, cap3), some tt3) ⟨by omega, g2, .inr ⟨tt3, cap3, rfl, rfl, by simpa using hc3, hc4⟩, Nat.le_succ_of_le g4, by simp; try omega⟩ (by simp only; omega)
         dsimp only at ih2
         exact LP_renG [0, 1, 2, 3, 4, 5, 6, 7, 8, 9, 10, 11, 12, 13, 14, 15, 16, 17, 18, 19, 20, 21, 22, 23, 27] ih2 s_ s_ rfl rfl rfl
       · refine w_ ?_
         refine WL_appX (FamR 142 K2) q [[(z'.dd.getD i (0, 0)).1, (z'.dd.getD i (0, 0)).2]] rfl rfl rfl rfl rfl rfl rfl rfl rfl rfl rfl rfl rfl rfl ⟨q1, by show cap0 * 2 ≤ tt0; omega⟩ (Nat.le_of_ble_eq_true rfl) (Nat.le_refl _) ⟨by show q.length + 1 ≤ _; omega, by show (q.length + 1) * 16 ≤ _; omega⟩ ?_
         intro cap3 tt3 hc3 hc4
         refine w_ ?_
         have ih2 := ih (i + 1, p, yp, mp, (q ++ [[(z'.dd.getD i (0, 0)).1, (z'.dd.getD i (0, 0)).2]]), (false, cap3), some tt3) ⟨by omega, g2, .inr ⟨tt3, cap3, rfl, rfl, by simpa using hc3, hc4⟩, Nat.le_succ_of_le g4, by simp; try omega⟩ (by simp only; omega)
         dsimp only at ih2
         simp only [List.length_append, List.length_cons, List.length_nil] at ih2
         exact LP_renG [0, 1, 2, 3, 4, 5, 6, 7, 8, 9, 10, 11, 12, 13, 14, 15, 16, 17, 18, 19, 20, 21, 22, 23, 27] ih2 s_ s_ rfl rfl rfl
 clear ih
 refine w_ ?_
 refine x_ ?_
 refine w_ ?_
 refine W_blurC 12 (fun v2 => (cellsP z y 0 ++ [.int .i64 0, .int .i64 0, .int .i64 0, .int .i64 0, .int .i64 0, .int .i64 0, .int .i64 0, .int .i64 0, .int .i64 0, .v (.slice none 0 0), .v (.slice none 0 0), .v (.slice none 0 0), .v (.slice none 0 0), .v (.slice none 0 0), .v (.slice none 0 0), .v (.slice none 0 0), .v (.slice none 0 0), .v (.slice none 0 0), .v (.slice none 0 0), .int .i64 z.fr, .int .i64 d, .int .i64 0, .int .i64 a, .int .i64 z.wk, .int .i64 c, .int .i64 u1, .int .i64 u2, slI y.y0 0 1 z.l0.length, slI y'.y1 14 1 z'.l1.length, bS (v1 48), bS (v1 49), slI y'.y3 16 1 z'.l3.length, slI y'.y4 17 1 z'.l4.length, bS (v2 52), bS (v2 53), .v (.slice none 0 0), .v (.slice none 0 0), .v (.slice none 0 0), slI y'.y8 21 1 z'.l8.length, .v (.slice none 0 0), .int .i64 0])) rfl (fun _ => rfl) (fun _ => s_) (fun h => absurd (congrArg List.length h) (Nat.succ_ne_zero 59)) ?_
 intro v2
 clear g1 g2 g3 g4 g5
 refine W_mid (α := List Int × (Bool × Nat)) (fun p => (24, [(1, .ptr 10 0), (2, .ptr 11 0), (3, .ptr 12 0)], (23, isl p.1) :: (10, .cells 145 (some 19) (cellsP z' y' 13)) :: (11, .cells 152 (some 60) zeroR) :: (12, .cells 152 (some 60) (cellsP z y 0 ++ [.int .i64 0, .int .i64 0, .int .i64 0, .int .i64 0, .int .i64 0, .int .i64 0, .int .i64 0, .int .i64 0, .int .i64 0, .v (.slice none 0 0), .v (.slice none 0 0), .v (.slice none 0 0), .v (.slice none 0 0), .v (.slice none 0 0), .v (.slice none 0 0), .v (.slice none 0 0), .v (.slice none 0 0), .v (.slice none 0 0), .v (.slice none 0 0), .int .i64 z.fr, .int .i64 d, .int .i64 0, .int .i64 a, .int .i64 z.wk, .int .i64 c, .int .i64 u1, .int .i64 u2, slI y.y0 0 1 z.l0.length, slI y'.y1 14 1 z'.l1.length, bS (v1 48), bS (v1 49), slI y'.y3 16 1 z'.l3.length, slI y'.y4 17 1 z'.l4.length, bS (v2 52), bS (v2 53), slI p.2 23 1 p.1.length, .v (.slice none 0 0), .v (.slice none 0 0), slI y'.y8 21 1 z'.l8.length, .v (.slice none 0 0), .int .i64 0])) :: (lstHp 142 z 0 ++ lstHp 142 z' 13))) (fun p => p.1.length ≤ p.2.2 ∧ p.1.length ≤ 1000 ∧ ∀ n ∈ p.1, 0 ≤ n ∧ n ≤ 59) ?_ ?_
 · refine i_ ?_ ?_ <;> intro e0
   · refine w_ ?_
     refine i_ ?_ ?_ <;> intro f0
     · refine w_ ?_
       refine WL_call [] (hour_tri d 0 (by omega)) rfl rfl rfl t_ t_ rfl rfl rfl rfl ?_; rintro _ _ _ ⟨rfl, rfl, rfl⟩
       refine w_ ?_
       refine ⟨([(d - d / 86400 * 86400) / 3600], (false, 1)), ⟨Nat.le_refl _, Nat.le_of_ble_eq_true rfl, fun n hn => by rw [List.mem_singleton] at hn; subst hn; omega⟩, ?_⟩
       refine Imp_trans (Imp_conv 25 (isl [(d - d / 86400 * 86400) / 3600]) rfl rfl rfl rfl (.inl rfl) ⟨[], rfl⟩) ?_
       refine Imp_renG [0, 1, 2, 3, 4, 5, 6, 7, 8, 9, 10, 11, 12, 13, 14, 15, 16, 17, 18, 19, 20, 21, 22, 25] ?_ ?_ rfl rfl rfl
       · exact s_
       · exact s_
     · refine w_ ?_
       refine ⟨([], (true, 0)), ⟨Nat.le_refl _, Nat.zero_le _, fun n hn => by cases hn⟩, ?_⟩
       refine Imp_trans (Imp_nils (show 0 < 22 by omega) [isl []] (s_)) ?_
       refine Imp_trans (Imp_cells 12 (cellsP z y 0 ++ [.int .i64 0, .int .i64 0, .int .i64 0, .int .i64 0, .int .i64 0, .int .i64 0, .int .i64 0, .int .i64 0, .int .i64 0, .v (.slice none 0 0), .v (.slice none 0 0), .v (.slice none 0 0), .v (.slice none 0 0), .v (.slice none 0 0), .v (.slice none 0 0), .v (.slice none 0 0), .v (.slice none 0 0), .v (.slice none 0 0), .v (.slice none 0 0), .int .i64 z.fr, .int .i64 d, .int .i64 0, .int .i64 a, .int .i64 z.wk, .int .i64 c, .int .i64 u1, .int .i64 u2, slI y.y0 0 1 z.l0.length, slI y'.y1 14 1 z'.l1.length, bS (v1 48), bS (v1 49), slI y'.y3 16 1 z'.l3.length, slI y'.y4 17 1 z'.l4.length, bS (v2 52), bS (v2 53), slI (true, 0) 25 1 0, .v (.slice none 0 0), .v (.slice none 0 0), slI y'.y8 21 1 z'.l8.length, .v (.slice none 0 0), .int .i64 0]) rfl (fun _ => rfl) (s_) (fun h => absurd (congrArg List.length h) (Nat.succ_ne_zero 59))) ?_
       refine Imp_renG [0, 1, 2, 3, 4, 5, 6, 7, 8, 9, 10, 11, 12, 13, 14, 15, 16, 17, 18, 19, 20, 21, 22, 25] ?_ ?_ rfl rfl rfl
       · exact s_
       · exact s_
   · refine w_ ?_
     refine ⟨(z'.l5, y'.y5), ⟨OO5, by rw [i5]; exact h5l, fun n hn => by rw [i5] at hn; have := hw5 n hn; omega⟩, ?_⟩
     refine Imp_renG [0, 1, 2, 3, 4, 5, 6, 7, 8, 9, 10, 11, 12, 13, 14, 15, 16, 17, 18, 19, 20, 21, 22, 18] ?_ ?_ rfl rfl rfl
     · exact s_
     · exact s_
 rintro ⟨hs, hsy⟩ ⟨hs1, hs2, hs3⟩
 simp only at hs1 hs2 hs3
 refine w_ ?_
 refine W_mid (α := List Int × (Bool × Nat)) (fun p => (25, [(1, .ptr 10 0), (2, .ptr 11 0), (3, .ptr 12 0)], (24, isl p.1) :: (23, isl (hs, 0).1) :: (10, .cells 145 (some 19) (cellsP z' y' 13)) :: (11, .cells 152 (some 60) zeroR) :: (12, .cells 152 (some 60) (cellsP z y 0 ++ [.int .i64 0, .int .i64 0, .int .i64 0, .int .i64 0, .int .i64 0, .int .i64 0, .int .i64 0, .int .i64 0, .int .i64 0, .v (.slice none 0 0), .v (.slice none 0 0), .v (.slice none 0 0), .v (.slice none 0 0), .v (.slice none 0 0), .v (.slice none 0 0), .v (.slice none 0 0), .v (.slice none 0 0), .v (.slice none 0 0), .v (.slice none 0 0), .int .i64 z.fr, .int .i64 d, .int .i64 0, .int .i64 a, .int .i64 z.wk, .int .i64 c, .int .i64 u1, .int .i64 u2, slI y.y0 0 1 z.l0.length, slI y'.y1 14 1 z'.l1.length, bS (v1 48), bS (v1 49), slI y'.y3 16 1 z'.l3.length, slI y'.y4 17 1 z'.l4.length, bS (v2 52), bS (v2 53), slI hsy 23 1 hs.length, slI p.2 24 1 p.1.length, .v (.slice none 0 0), slI y'.y8 21 1 z'.l8.length, .v (.slice none 0 0), .int .i64 0])) :: (lstHp 142 z 0 ++ lstHp 142 z' 13))) (fun p => p.1.length ≤ p.2.2 ∧ p.1.length ≤ 1000 ∧ ∀ n ∈ p.1, 0 ≤ n ∧ n ≤ 59) ?_ ?_
 · refine i_ ?_ ?_ <;> intro e0
   · refine w_ ?_
     refine i_ ?_ ?_ <;> intro f0
     · refine w_ ?_
       refine WL_call [] (minute_tri d 0 (by omega)) rfl rfl rfl t_ t_ rfl rfl rfl rfl ?_; rintro _ _ _ ⟨rfl, rfl, rfl⟩
       refine w_ ?_
       refine ⟨([(d - d / 86400 * 86400) / 60 % 60], (false, 1)), ⟨Nat.le_refl _, Nat.le_of_ble_eq_true rfl, fun n hn => by rw [List.mem_singleton] at hn; subst hn; omega⟩, ?_⟩
       refine Imp_trans (Imp_conv 24 (isl [(d - d / 86400 * 86400) / 60 % 60]) rfl rfl rfl rfl (.inl rfl) ⟨[], rfl⟩) ?_
       refine Imp_renG [0, 1, 2, 3, 4, 5, 6, 7, 8, 9, 10, 11, 12, 13, 14, 15, 16, 17, 18, 19, 20, 21, 22, 23, 24] ?_ ?_ rfl rfl rfl
       · exact s_
       · exact s_
     · refine w_ ?_
       refine ⟨([], (true, 0)), ⟨Nat.le_refl _, Nat.zero_le _, fun n hn => by cases hn⟩, ?_⟩
       refine Imp_trans (Imp_nils (show 0 < 22 by omega) [isl []] (s_)) ?_
       refine Imp_trans (Imp_cells 12 (cellsP z y 0 ++ [.int .i64 0, .int .i64 0, .int .i64 0, .int .i64 0, .int .i64 0, .int .i64 0, .int .i64 0, .int .i64 0, .int .i64 0, .v (.slice none 0 0), .v (.slice none 0 0), .v (.slice none 0 0), .v (.slice none 0 0), .v (.slice none 0 0), .v (.slice none 0 0), .v (.slice none 0 0), .v (.slice none 0 0), .v (.slice none 0 0), .v (.slice none 0 0), .int .i64 z.fr, .int .i64 d, .int .i64 0, .int .i64 a, .int .i64 z.wk, .int .i64 c, .int .i64 u1, .int .i64 u2, slI y.y0 0 1 z.l0.length, slI y'.y1 14 1 z'.l1.length, bS (v1 48), bS (v1 49), slI y'.y3 16 1 z'.l3.length, slI y'.y4 17 1 z'.l4.length, bS (v2 52), bS (v2 53), slI hsy 23 1 hs.length, slI (true, 0) 24 1 0, .v (.slice none 0 0), slI y'.y8 21 1 z'.l8.length, .v (.slice none 0 0), .int .i64 0]) rfl (fun _ => rfl) (s_) (fun h => absurd (congrArg List.length h) (Nat.succ_ne_zero 59))) ?_
       refine Imp_renG [0, 1, 2, 3, 4, 5, 6, 7, 8, 9, 10, 11, 12, 13, 14, 15, 16, 17, 18, 19, 20, 21, 22, 23, 24] ?_ ?_ rfl rfl rfl
       · exact s_
       · exact s_
   · refine w_ ?_
     refine ⟨(z'.l6, y'.y6), ⟨OO6, by rw [i6]; exact h6l, fun n hn => by rw [i6] at hn; have := hw6 n hn; omega⟩, ?_⟩
     refine Imp_renG [0, 1, 2, 3, 4, 5, 6, 7, 8, 9, 10, 11, 12, 13, 14, 15, 16, 17, 18, 19, 20, 21, 22, 23, 19] ?_ ?_ rfl rfl rfl
     · exact s_
     · exact s_
 rintro ⟨ms, msy⟩ ⟨ms1, ms2, ms3⟩
 simp only at ms1 ms2 ms3
 refine w_ ?_
 refine W_mid (α := List Int × (Bool × Nat)) (fun p => (26, [(1, .ptr 10 0), (2, .ptr 11 0), (3, .ptr 12 0)], (25, isl p.1) :: (23, isl (hs, 0).1) :: (24, isl (ms, 0).1) :: (10, .cells 145 (some 19) (cellsP z' y' 13)) :: (11, .cells 152 (some 60) zeroR) :: (12, .cells 152 (some 60) (cellsP z y 0 ++ [.int .i64 0, .int .i64 0, .int .i64 0, .int .i64 0, .int .i64 0, .int .i64 0, .int .i64 0, .int .i64 0, .int .i64 0, .v (.slice none 0 0), .v (.slice none 0 0), .v (.slice none 0 0), .v (.slice none 0 0), .v (.slice none 0 0), .v (.slice none 0 0), .v (.slice none 0 0), .v (.slice none 0 0), .v (.slice none 0 0), .v (.slice none 0 0), .int .i64 z.fr, .int .i64 d, .int .i64 0, .int .i64 a, .int .i64 z.wk, .int .i64 c, .int .i64 u1, .int .i64 u2, slI y.y0 0 1 z.l0.length, slI y'.y1 14 1 z'.l1.length, bS (v1 48), bS (v1 49), slI y'.y3 16 1 z'.l3.length, slI y'.y4 17 1 z'.l4.length, bS (v2 52), bS (v2 53), slI hsy 23 1 hs.length, slI msy 24 1 ms.length, slI p.2 25 1 p.1.length, slI y'.y8 21 1 z'.l8.length, .v (.slice none 0 0), .int .i64 0])) :: (lstHp 142 z 0 ++ lstHp 142 z' 13))) (fun p => p.1.length ≤ p.2.2 ∧ p.1.length ≤ 1000 ∧ ∀ n ∈ p.1, 0 ≤ n ∧ n ≤ 59) ?_ ?_
 · refine i_ ?_ ?_ <;> intro e0
   · refine w_ ?_
     refine i_ ?_ ?_ <;> intro f0
     · refine w_ ?_
       refine WL_call [] (second_tri d 0 (by omega)) rfl rfl rfl t_ t_ rfl rfl rfl rfl ?_; rintro _ _ _ ⟨rfl, rfl, rfl⟩
       refine w_ ?_
       refine ⟨([(d - d / 86400 * 86400) % 60], (false, 1)), ⟨Nat.le_refl _, Nat.le_of_ble_eq_true rfl, fun n hn => by rw [List.mem_singleton] at hn; subst hn; omega⟩, ?_⟩
       refine Imp_trans (Imp_conv 25 (isl [(d - d / 86400 * 86400) % 60]) rfl rfl rfl rfl (.inl rfl) ⟨[], rfl⟩) ?_
       refine Imp_renG [0, 1, 2, 3, 4, 5, 6, 7, 8, 9, 10, 11, 12, 13, 14, 15, 16, 17, 18, 19, 20, 21, 22, 23, 24, 25] ?_ ?_ rfl rfl rfl
       · exact s_
       · exact s_
     · refine w_ ?_
       refine ⟨([], (true, 0)), ⟨Nat.le_refl _, Nat.zero_le _, fun n hn => by cases hn⟩, ?_⟩
       refine Imp_trans (Imp_nils (show 0 < 22 by omega) [isl []] (s_)) ?_
       refine Imp_trans (Imp_cells 12 (cellsP z y 0 ++ [.int .i64 0, .int .i64 0, .int .i64 0, .int .i64 0, .int .i64 0, .int .i64 0, .int .i64 0, .int .i64 0, .int .i64 0, .v (.slice none 0 0), .v (.slice none 0 0), .v (.slice none 0 0), .v (.slice none 0 0), .v (.slice none 0 0), .v (.slice none 0 0), .v (.slice none 0 0), .v (.slice none 0 0), .v (.slice none 0 0), .v (.slice none 0 0), .int .i64 z.fr, .int .i64 d, .int .i64 0, .int .i64 a, .int .i64 z.wk, .int .i64 c, .int .i64 u1, .int .i64 u2, slI y.y0 0 1 z.l0.length, slI y'.y1 14 1 z'.l1.length, bS (v1 48), bS (v1 49), slI y'.y3 16 1 z'.l3.length, slI y'.y4 17 1 z'.l4.length, bS (v2 52), bS (v2 53), slI hsy 23 1 hs.length, slI msy 24 1 ms.length, slI (true, 0) 25 1 0, slI y'.y8 21 1 z'.l8.length, .v (.slice none 0 0), .int .i64 0]) rfl (fun _ => rfl) (s_) (fun h => absurd (congrArg List.length h) (Nat.succ_ne_zero 59))) ?_
       refine Imp_renG [0, 1, 2, 3, 4, 5, 6, 7, 8, 9, 10, 11, 12, 13, 14, 15, 16, 17, 18, 19, 20, 21, 22, 23, 24, 25] ?_ ?_ rfl rfl rfl
       · exact s_
       · exact s_
   · refine w_ ?_
     refine ⟨(z'.l7, y'.y7), ⟨OO7, by rw [i7]; exact h7l, fun n hn => by rw [i7] at hn; have := hw7 n hn; omega⟩, ?_⟩
     refine Imp_renG [0, 1, 2, 3, 4, 5, 6, 7, 8, 9, 10, 11, 12, 13, 14, 15, 16, 17, 18, 19, 20, 21, 22, 23, 24, 20] ?_ ?_ rfl rfl rfl
     · exact s_
     · exact s_
 rintro ⟨ss, ssy⟩ ⟨ss1, ss2, ss3⟩
 simp only at ss1 ss2 ss3
 refine w_ ?_
 refine i_ ?_ ?_ <;> intro ff
 rotate_left 1
 · refine W_blurC 12 (fun vs => cellsP z y 0 ++ [bI (vs 19), bI (vs 20), bI (vs 21), bI (vs 22), bI (vs 23), bI (vs 24), bI (vs 25), bI (vs 26), bI (vs 27), bS (vs 28), bS (vs 29), bS (vs 30), bS (vs 31), bS (vs 32), bS (vs 33), bS (vs 34), bS (vs 35), bS (vs 36), bS (vs 37), bI (vs 38), .int .i64 d, .int .i64 0, bI (vs 41), bI (vs 42), bI (vs 43), bI (vs 44), bI (vs 45), bS (vs 46), bS (vs 47), bS (vs 48), bS (vs 49), bS (vs 50), bS (vs 51), bS (vs 52), bS (vs 53), bS (vs 54), bS (vs 55), bS (vs 56), bS (vs 57), bS (vs 58), bI (vs 59)]) rfl (fun _ => rfl) (fun _ => s_) (fun h => absurd (congrArg List.length h) (Nat.succ_ne_zero 59)) ?_
   intro vs
   refine w_ ?_
   refine W_blurC (e := 152) (m := some 60) (cs := (cellsM z y z' y' d vs)) 11 (fun vs => cellsP z y 0 ++ [bI (vs 19), bI (vs 20), bI (vs 21), bI (vs 22), bI (vs 23), bI (vs 24), bI (vs 25), bI (vs 26), bI (vs 27), bS (vs 28), bS (vs 29), bS (vs 30), bS (vs 31), bS (vs 32), bS (vs 33), bS (vs 34), bS (vs 35), bS (vs 36), bS (vs 37), bI (vs 38), .int .i64 d, .int .i64 0, bI (vs 41), bI (vs 42), bI (vs 43), bI (vs 44), bI (vs 45), bS (vs 46), bS (vs 47), bS (vs 48), bS (vs 49), bS (vs 50), bS (vs 51), bS (vs 52), bS (vs 53), bS (vs 54), bS (vs 55), bS (vs 56), bS (vs 57), bS (vs 58), bI (vs 59)]) (by kernel_rfl) (fun _ => by kernel_rfl) (fun _ => s_) cellsM_ne ?_
   intro vs2
   refine k_ ?_
   subst hd
   exact ⟨vs2, rfl⟩
 have hN1 : hs.length * ms.length ≤ 1000 * 1000 := Nat.mul_le_mul hs2 ms2
 have hN2 : hs.length * ms.length * ss.length ≤ 1000 * 1000 * 1000 := Nat.mul_le_mul hN1 ss2
 have hc1 : (hs.length : Int) * (ms.length : Int) = ((hs.length * ms.length : Nat) : Int) := by simp
 have hc2 : (hs.length : Int) * (ms.length : Int) * (ss.length : Int) = ((hs.length * ms.length * ss.length : Nat) : Int) := by simp
 have hsid1 : rng .i64 ((hs.length : Int) * (ms.length : Int)) := by rw [hc1]; simp only [rng]; omega
 have hsid2 : rng .i64 ((hs.length : Int) * (ms.length : Int) * (ss.length : Int)) := by rw [hc2]; simp only [rng]; omega
 refine w_ ?_
 rw [hc2]
 generalize hs.length * ms.length * ss.length = NN at *
 refine WL_make (.recs 88 (some (NN * 2)) K2 (tms (List.replicate NN 0))) rfl rfl rfl rfl rfl rfl rfl rfl rfl rfl ?_ rfl rfl ?_ ?_ ?_
 · refine ⟨by omega, by omega, by omega, ?_⟩
   show (16 : Int) * (NN : Int) ≤ _; omega
 · show _ = _
   rw [Int.toNat_natCast]
   exact rep_tms _
 · show some (NN * 2) = some _
   congr 1
   simp only [AO.avs, flat_length, List.length_map, List.length_replicate]; rfl
 rw [Int.toNat_natCast]
 refine WL_conv 26 (.recs 88 (some (NN * 2)) K2 (tms [])) rfl rfl rfl rfl (.inr rfl) ⟨_, rfl⟩ ?_
 refine w_ ?_
 refine W_loop ?_
 refine LP_renG [0, 1, 2, 3, 4, 5, 6, 7, 8, 9, 10, 11, 12, 13, 14, 15, 16, 17, 18, 19, 20, 21, 22, 23, 24, 25, 26] (LP_ind 27 (fun q : Nat × List Int × Nat × Nat => ([(1, .ptr 10 0), (2, .ptr 11 0), (3, .ptr 12 0), (258, slI hsy 23 1 hs.length), (259, .int .i64 hs.length), (260, .int .i64 q.1)], (26, .recs 88 (some q.2.2.2) K2 (tms q.2.1)) :: (23, isl hs) :: (24, isl ms) :: (25, isl ss) :: (10, .cells 145 (some 19) (cellsP z' y' 13)) :: (11, .cells 152 (some 60) zeroR) :: (12, .cells 152 (some 60) (cellsP z y 0 ++ [.int .i64 0, .int .i64 0, .int .i64 0, .int .i64 0, .int .i64 0, .int .i64 0, .int .i64 0, .int .i64 0, .int .i64 0, .v (.slice none 0 0), .v (.slice none 0 0), .v (.slice none 0 0), .v (.slice none 0 0), .v (.slice none 0 0), .v (.slice none 0 0), .v (.slice none 0 0), .v (.slice none 0 0), .v (.slice none 0 0), .v (.slice none 0 0), .int .i64 z.fr, .int .i64 d, .int .i64 0, .int .i64 a, .int .i64 z.wk, .int .i64 c, .int .i64 u1, .int .i64 u2, slI y.y0 0 1 z.l0.length, slI y'.y1 14 1 z'.l1.length, bS (v1 48), bS (v1 49), slI y'.y3 16 1 z'.l3.length, slI y'.y4 17 1 z'.l4.length, bS (v2 52), bS (v2 53), slI hsy 23 1 hs.length, slI msy 24 1 ms.length, slI ssy 25 1 ss.length, slI y'.y8 21 1 z'.l8.length, .sl false 26 2 0 q.2.1.length q.2.2.1, .int .i64 0])) :: (lstHp 142 z 0 ++ lstHp 142 z' 13))) (fun q => hs.length - q.1)
  (fun q => q.1 ≤ hs.length ∧ q.2.1.length ≤ q.1 * 1000000 ∧ q.2.1.length ≤ q.2.2.1 ∧ q.2.2.1 * 2 ≤ q.2.2.2) (0, [], NN, NN * 2) ?_ ⟨Nat.zero_le _, Nat.zero_le _, Nat.zero_le _, Nat.le_refl _⟩) ?_ ?_ rfl rfl rfl
 rotate_left 1
 · exact s_
 · exact s_
 rintro ⟨i, acc, cp, tt⟩ ⟨a1, a2, a3, a4⟩ ih1
 simp only at a1 a2 a3 a4
 refine LP_round ?_; try dsimp only
 refine w_ ?_
 refine i_ ?_ ?_ <;> intro b1
 rotate_left 1
 · have b1 : i = hs.length := by omega
   refine w_ ?_
   refine x_ ?_
   refine w_ ?_
   refine WL_call [26] (sort_tri false acc cp tt a3 (by omega)) rfl rfl rfl t_ t_ rfl rfl rfl rfl ?_; rintro _ _ _ ⟨rfl, ns9, rfl, _, rfl⟩
   refine WL_blurC 12 (fun vs => cellsP z y 0 ++ [bI (vs 19), bI (vs 20), bI (vs 21), bI (vs 22), bI (vs 23), bI (vs 24), bI (vs 25), bI (vs 26), bI (vs 27), bS (vs 28), bS (vs 29), bS (vs 30), bS (vs 31), bS (vs 32), bS (vs 33), bS (vs 34), bS (vs 35), bS (vs 36), bS (vs 37), bI (vs 38), .int .i64 d, .int .i64 0, bI (vs 41), bI (vs 42), bI (vs 43), bI (vs 44), bI (vs 45), bS (vs 46), bS (vs 47), bS (vs 48), bS (vs 49), bS (vs 50), bS (vs 51), bS (vs 52), bS (vs 53), bS (vs 54), bS (vs 55), bS (vs 56), bS (vs 57), bS (vs 58), bI (vs 59)]) rfl (fun _ => rfl) (fun _ => s_) (fun h => absurd (congrArg List.length h) (Nat.succ_ne_zero 59)) ?_
   intro vs
   refine w_ ?_
   refine W_blurC (e := 152) (m := some 60) (cs := (cellsM z y z' y' d vs)) 11 (fun vs => cellsP z y 0 ++ [bI (vs 19), bI (vs 20), bI (vs 21), bI (vs 22), bI (vs 23), bI (vs 24), bI (vs 25), bI (vs 26), bI (vs 27), bS (vs 28), bS (vs 29), bS (vs 30), bS (vs 31), bS (vs 32), bS (vs 33), bS (vs 34), bS (vs 35), bS (vs 36), bS (vs 37), bI (vs 38), .int .i64 d, .int .i64 0, bI (vs 41), bI (vs 42), bI (vs 43), bI (vs 44), bI (vs 45), bS (vs 46), bS (vs 47), bS (vs 48), bS (vs 49), bS (vs 50), bS (vs 51), bS (vs 52), bS (vs 53), bS (vs 54), bS (vs 55), bS (vs 56), bS (vs 57), bS (vs 58), bI (vs 59)]) (by kernel_rfl) (fun _ => by kernel_rfl) (fun _ => s_) cellsM_ne ?_
   intro vs2
   refine k_ ?_
   subst hd
   exact ⟨vs2, rfl⟩
 have b1 : i < hs.length := by omega
 have hh := hs3 _ (List.getElem_mem b1)
 rw [show hs[i] = hs.getD i 0 by simp [List.getD, b1]] at hh
 refine w_ ?_
 rw [show 0 + (i : Int).toNat = i by omega]
 refine w_ ?_
 refine W_loop ?_
 refine LP_renG [0, 1, 2, 3, 4, 5, 6, 7, 8, 9, 10, 11, 12, 13, 14, 15, 16, 17, 18, 19, 20, 21, 22, 23, 24, 25, 26] (LP_ind 27 (fun q : Nat × List Int × Nat × Nat => ([(1, .ptr 10 0), (2, .ptr 11 0), (3, .ptr 12 0), (258, slI hsy 23 1 hs.length), (259, .int .i64 hs.length), (260, .int .i64 i), (9, .int .i64 (hs.getD i 0)), (265, slI msy 24 1 ms.length), (266, .int .i64 ms.length), (267, .int .i64 q.1)], (26, .recs 88 (some q.2.2.2) K2 (tms q.2.1)) :: (23, isl hs) :: (24, isl ms) :: (25, isl ss) :: (10, .cells 145 (some 19) (cellsP z' y' 13)) :: (11, .cells 152 (some 60) zeroR) :: (12, .cells 152 (some 60) (cellsP z y 0 ++ [.int .i64 0, .int .i64 0, .int .i64 0, .int .i64 0, .int .i64 0, .int .i64 0, .int .i64 0, .int .i64 0, .int .i64 0, .v (.slice none 0 0), .v (.slice none 0 0), .v (.slice none 0 0), .v (.slice none 0 0), .v (.slice none 0 0), .v (.slice none 0 0), .v (.slice none 0 0), .v (.slice none 0 0), .v (.slice none 0 0), .v (.slice none 0 0), .int .i64 z.fr, .int .i64 d, .int .i64 0, .int .i64 a, .int .i64 z.wk, .int .i64 c, .int .i64 u1, .int .i64 u2, slI y.y0 0 1 z.l0.length, slI y'.y1 14 1 z'.l1.length, bS (v1 48), bS (v1 49), slI y'.y3 16 1 z'.l3.length, slI y'.y4 17 1 z'.l4.length, bS (v2 52), bS (v2 53), slI hsy 23 1 hs.length, slI msy 24 1 ms.length, slI ssy 25 1 ss.length, slI y'.y8 21 1 z'.l8.length, .sl false 26 2 0 q.2.1.length q.2.2.1, .int .i64 0])) :: (lstHp 142 z 0 ++ lstHp 142 z' 13))) (fun q => ms.length - q.1)
  (fun q => q.1 ≤ ms.length ∧ q.2.1.length ≤ i * 1000000 + q.1 * 1000 ∧ q.2.1.length ≤ q.2.2.1 ∧ q.2.2.1 * 2 ≤ q.2.2.2) (0, acc, cp, tt) ?_ ⟨Nat.zero_le _, by simpa using a2, a3, a4⟩) ?_ ?_ rfl rfl rfl
 rotate_left 1
 · exact s_
 · exact s_
 clear a2 a3 a4
 rintro ⟨j, acc, cp, tt⟩ ⟨c1, a2, a3, a4⟩ ih2
 simp only at c1 a2 a3 a4
 refine LP_round ?_; try dsimp only
 refine w_ ?_
 refine i_ ?_ ?_ <;> intro b2
 rotate_left 1
 · have b2 : j = ms.length := by omega
   refine w_ ?_
   refine x_ ?_
   refine w_ ?_
   exact LP_renG [0, 1, 2, 3, 4, 5, 6, 7, 8, 9, 10, 11, 12, 13, 14, 15, 16, 17, 18, 19, 20, 21, 22, 23, 24, 25, 26] (ih1 (i + 1, acc, cp, tt) ⟨b1, by show acc.length ≤ (i + 1) * 1000000; omega, a3, a4⟩ (by show hs.length - (i + 1) < hs.length - i; omega)) s_ s_ rfl rfl rfl
 have b2 : j < ms.length := by omega
 have hm := ms3 _ (List.getElem_mem b2)
 rw [show ms[j] = ms.getD j 0 by simp [List.getD, b2]] at hm
 refine w_ ?_
 rw [show 0 + (j : Int).toNat = j by omega]
 refine w_ ?_
 refine W_loop ?_
 refine LP_renG [0, 1, 2, 3, 4, 5, 6, 7, 8, 9, 10, 11, 12, 13, 14, 15, 16, 17, 18, 19, 20, 21, 22, 23, 24, 25, 26] (LP_ind 27 (fun q : Nat × List Int × Nat × Nat => ([(1, .ptr 10 0), (2, .ptr 11 0), (3, .ptr 12 0), (258, slI hsy 23 1 hs.length), (259, .int .i64 hs.length), (260, .int .i64 i), (9, .int .i64 (hs.getD i 0)), (265, slI msy 24 1 ms.length), (266, .int .i64 ms.length), (267, .int .i64 j), (11, .int .i64 (ms.getD j 0)), (272, slI ssy 25 1 ss.length), (273, .int .i64 ss.length), (274, .int .i64 q.1)], (26, .recs 88 (some q.2.2.2) K2 (tms q.2.1)) :: (23, isl hs) :: (24, isl ms) :: (25, isl ss) :: (10, .cells 145 (some 19) (cellsP z' y' 13)) :: (11, .cells 152 (some 60) zeroR) :: (12, .cells 152 (some 60) (cellsP z y 0 ++ [.int .i64 0, .int .i64 0, .int .i64 0, .int .i64 0, .int .i64 0, .int .i64 0, .int .i64 0, .int .i64 0, .int .i64 0, .v (.slice none 0 0), .v (.slice none 0 0), .v (.slice none 0 0), .v (.slice none 0 0), .v (.slice none 0 0), .v (.slice none 0 0), .v (.slice none 0 0), .v (.slice none 0 0), .v (.slice none 0 0), .v (.slice none 0 0), .int .i64 z.fr, .int .i64 d, .int .i64 0, .int .i64 a, .int .i64 z.wk, .int .i64 c, .int .i64 u1, .int .i64 u2, slI y.y0 0 1 z.l0.length, slI y'.y1 14 1 z'.l1.length, bS (v1 48), bS (v1 49), slI y'.y3 16 1 z'.l3.length, slI y'.y4 17 1 z'.l4.length, bS (v2 52), bS (v2 53), slI hsy 23 1 hs.length, slI msy 24 1 ms.length, slI ssy 25 1 ss.length, slI y'.y8 21 1 z'.l8.length, .sl false 26 2 0 q.2.1.length q.2.2.1, .int .i64 0])) :: (lstHp 142 z 0 ++ lstHp 142 z' 13))) (fun q => ss.length - q.1)
  (fun q => q.1 ≤ ss.length ∧ q.2.1.length ≤ i * 1000000 + j * 1000 + q.1 ∧ q.2.1.length ≤ q.2.2.1 ∧ q.2.2.1 * 2 ≤ q.2.2.2) (0, acc, cp, tt) ?_ ⟨Nat.zero_le _, by simpa using a2, a3, a4⟩) ?_ ?_ rfl rfl rfl
 rotate_left 1
 · exact s_
 · exact s_
 clear a2 a3 a4
 rintro ⟨k, acc, cp, tt⟩ ⟨d1, a2, a3, a4⟩ ih3
 simp only at d1 a2 a3 a4
 refine LP_round ?_; try dsimp only
 refine w_ ?_
 refine i_ ?_ ?_ <;> intro b3
 rotate_left 1
 · have b3 : k = ss.length := by omega
   refine w_ ?_
   refine x_ ?_
   refine w_ ?_
   exact LP_renG [0, 1, 2, 3, 4, 5, 6, 7, 8, 9, 10, 11, 12, 13, 14, 15, 16, 17, 18, 19, 20, 21, 22, 23, 24, 25, 26] (ih2 (j + 1, acc, cp, tt) ⟨b2, ar1 a2 b3 ss2, a3, a4⟩ (by show ms.length - (j + 1) < ms.length - j; omega)) s_ s_ rfl rfl rfl
 have b3 : k < ss.length := by omega
 have hs0 := ss3 _ (List.getElem_mem b3)
 rw [show ss[k] = ss.getD k 0 by simp [List.getD, b3]] at hs0
 have htl : (tms acc).length = acc.length := by simp
 refine w_ ?_
 rw [show 0 + (k : Int).toNat = k by omega]
 refine w_ ?_
 rw [← htl]
 refine W_draw [12] [] 11 mo0 (by kernel_rfl) (by kernel_rfl) (fun ρ1 hkl => ?_); refine d_ ?_
 refine WS_loud rfl ?_ hkl; refine WL_call [] (location_tri d 0) rfl rfl rfl t_ t_ rfl rfl rfl rfl ?_; rintro _ _ _ ⟨rfl, rfl, rfl⟩; refine WL_nil ?_; refine nq_walk ⟨fun _ => t_, ?_⟩; refine d_ ?_
 refine WS_loud rfl ?_ hkl; refine WL_call [] (dateOf0_tri 1 1 1 (hs.getD i 0) (ms.getD j 0) (ss.getD k 0) (by omega) (by omega) (by omega) (by omega) (by omega) (by omega)) rfl rfl rfl t_ t_ rfl rfl rfl rfl ?_; rintro _ _ _ ⟨rfl, rfl, rfl⟩; refine WL_nil ?_; refine nq_walk ⟨fun _ => t_, ?_⟩; refine d_ ?_
 obtain ⟨tv, htv⟩ : ∃ v, v = dateZ 1 1 1 * 86400 + hs.getD i 0 * 3600 + ms.getD j 0 * 60 + ss.getD k 0 := ⟨_, rfl⟩
 refine WS_loud rfl ?_ hkl
 refine WL_new rfl rfl rfl ?_
 refine WL_nil ?_; refine nq_walk ⟨fun _ => t_, ?_⟩; refine d_ ?_
 refine WS_loud rfl ?_ hkl
 refine WL_app1 (FamR 88 K2) (tms acc) ([dateZ 1 1 1 * 86400 + hs.getD i 0 * 3600 + ms.getD j 0 * 60 + ss.getD k 0, 0]) rfl rfl rfl rfl rfl rfl rfl rfl rfl rfl rfl rfl rfl rfl ?_ ?_ ?_
 · exact ⟨by show (tms acc).length ≤ cp; omega, a4⟩
 · exact ⟨by omega, by show ((tms acc).length + 1) * 16 ≤ _; omega⟩
 rw [← htv]
 intro cap4 tt4 hc3 hc4 _
 refine WL_nil ?_; refine nq_walk ⟨fun _ => t_, ?_⟩; refine d_ ?_
 refine w_ ?_
 have ih4 := ih3 (k + 1, acc ++ [tv], cap4, tt4) ⟨b3, by simp; omega, by simp at hc3 ⊢; omega, hc4⟩ (by simp only; omega)
 dsimp only at ih4
 rw [show tms (acc ++ [tv]) = tms acc ++ [[tv, 0]] by simp, show (acc ++ [tv]).length = (tms acc).length + 1 by simp] at ih4
 exact LP_renG [0, 1, 2, 3, 4, 5, 6, 7, 8, 9, 10, 11, 12, 13, 14, 15, 16, 17, 18, 19, 20, 21, 22, 23, 24, 25, 28] ih4 s_ s_ rfl rfl rfl
end Go.Eng
