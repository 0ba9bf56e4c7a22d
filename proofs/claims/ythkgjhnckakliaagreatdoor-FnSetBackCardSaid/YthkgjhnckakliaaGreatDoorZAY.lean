/- A part of the proof that the rows statement FnSetBack holds; no conditions. -/
import Derived.Test.YthkgjhnckakliaaGreatDoorZAX
set_option linter.unusedVariables false
set_option linter.unusedSimpArgs false
set_option linter.unusedSectionVars false
namespace Go.Eng
open Go.Proofs
abbrev RRL : List UInt8 := [82, 82, 85, 76, 69]
abbrev RDT : List UInt8 := [82, 68, 65, 84, 69]
abbrev EXT : List UInt8 := [69, 88, 68, 65, 84, 69]
def withRule (s : SZ) (z : RZ) : SZ := { s with has := true, z := z, start := startOf { s with has := true, z := z } }
def blankZ (l : List UInt8) : Bool := !decide (l = []) && Lib.isSp (l.getD 0 0)
def nameLine (first : Bool) (s : SZ) (n rest : List UInt8) : SZ × Nat :=
 if first = true ∧ n = DTS then (if (startZ rest).2 = 0 then ({ s with start := (startZ rest).1 }, 0) else (SZ.zero, (startZ rest).2))
 else if n = RRL then (if (optZ rest).2 = 0 then (if rightZ (optZ rest).1 = true then (withRule s (optZ rest).1, 0) else (SZ.zero, 1)) else (SZ.zero, (optZ rest).2))
 else if n = RDT then (if (datesZ rest).2 = 0 then ({ s with rd := s.rd ++ (datesZ rest).1 }, 0) else (SZ.zero, (datesZ rest).2))
 else if n = EXT then (if (datesZ rest).2 = 0 then ({ s with ex := s.ex ++ (datesZ rest).1 }, 0) else (SZ.zero, (datesZ rest).2))
 else (s, 0)
def lineC (first : Bool) (s : SZ) (l : List UInt8) : SZ × Nat :=
 match nameZ l with
 | none => (SZ.zero, 1)
 | some n => nameLine first s n (l.drop (n.length + 1))
def lineZ (first : Bool) (s : SZ) (l : List UInt8) : SZ × Nat :=
 if ascB l = false ∨ blankZ l = true then (SZ.zero, 2) else lineC first s l
def linesZ : Bool → SZ → List (List UInt8) → SZ × Nat
 | _, s, [] => (s, 0)
 | f, s, l :: ls => if (lineZ f s l).2 = 0 then linesZ false (lineZ f s l).1 ls else (SZ.zero, (lineZ f s l).2)
theorem momsZ_len : ∀ {l : List (List UInt8)}, (momsZ l).2 = 0 → (momsZ l).1.length = l.length
 | [], _ => rfl
 | x :: l, h => by
   simp only [momsZ] at h ⊢
   split
   · rename_i h0
     rw [if_pos h0] at h
     split at h
     · rename_i h1
       rw [if_pos h1]; simp [momsZ_len h1]
     · rename_i h1; exact absurd h h1
   · rename_i h0; rw [if_neg h0] at h; exact absurd h h0
theorem datesZ_pos {s : List UInt8} (h : (datesZ s).2 = 0) (hs : s.length ≤ 536870912) : 0 < (datesZ s).1.length ∧ (datesZ s).1.length ≤ 536870913 := by
 have hm := splitB_mem 58 s
 unfold datesZ at *
 generalize splitB 58 s = l at *
 match l with
 | [] => exact absurd h Nat.one_ne_zero
 | [x] =>
   dsimp only at h ⊢
   rw [momsZ_len h]
   have := splitB_ne 44 x
   have := splitB_count 44 x
   have := (hm x (by simp)).1
   exact ⟨List.length_pos_iff.2 ‹_›, by omega⟩
 | [p, x] =>
   dsimp only at h ⊢
   split at h
   · rename_i h0
     rw [if_pos h0, momsZ_len h]
     have := splitB_ne 44 x
     have := splitB_count 44 x
     have := (hm x (by simp)).1
     exact ⟨List.length_pos_iff.2 ‹_›, by omega⟩
   · rename_i h0; exact absurd h h0
 | a :: b :: c :: l => exact absurd h Nat.one_ne_zero
end Go.Eng
namespace Go.Eng
open Go.Proofs
attribute [local irreducible] W WL LP Then InBl Tri WS
def zcT : List AV := .int .i64 0 :: .bool false :: (zcS ++ [.v (.slice none 0 0), .v (.slice none 0 0)])
def SY.zero : SY := ⟨LY.zero, (true, 0), (true, 0)⟩
abbrev dsl (m : Option Nat) (xs : List Int) : AO := .ints 2 m .i64 xs
def setHpM (e : TypeId) (s : SZ) (mr me : Option Nat) (b : Nat) : Hp := (b + 10, dsl mr s.rd) :: (b + 11, dsl me s.ex) :: lstHp e s.z b
def setHp (e : TypeId) (s : SZ) (b : Nat) : Hp := setHpM e s none none b
def GOKL (xs : List Int) (y : Bool × Nat) (m : Option Nat) : Prop := (y = (true, 0) ∧ m = none ∧ xs = []) ∨ ∃ tt cap, y = (false, cap) ∧ m = some tt ∧ xs.length ≤ cap ∧ cap ≤ tt
theorem GOKL_cap {xs : List Int} {y : Bool × Nat} {m : Option Nat} (h : GOKL xs y m) : xs.length ≤ y.2 := by
 rcases h with ⟨rfl, _, rfl⟩ | ⟨tt, cap, rfl, _, h, _⟩
 · exact Nat.le_refl _
 · exact h
def SOK (s : SZ) (y : SY) : Prop := LOK s.z y.y ∧ s.rd.length ≤ y.yr.2 ∧ s.ex.length ≤ y.ye.2
theorem linesZ_ok {f : Bool} {s S' : SZ} {l : List UInt8} {ls : List (List UInt8)} {O : SZ × Nat} (hO : O = linesZ f s (l :: ls)) (h : lineZ f s l = (S', 0)) : O = linesZ false S' ls := by
 rw [hO, linesZ, h]; exact if_pos rfl
theorem linesZ_bad {f : Bool} {s S' : SZ} {l : List UInt8} {ls : List (List UInt8)} {O : SZ × Nat} {c : Nat} (hO : O = linesZ f s (l :: ls)) (h : lineZ f s l = (S', c)) (hc : c ≠ 0) : O = (SZ.zero, c) := by
 rw [hO, linesZ, h]; exact if_neg hc
end Go.Eng
