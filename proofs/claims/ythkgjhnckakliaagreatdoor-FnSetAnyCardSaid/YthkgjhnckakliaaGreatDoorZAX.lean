/- A part of the proof that the rows statement FnSetAny holds: the engine of abstract states, the walks through the program, the bridge; no conditions. -/
import Derived.Test.YthkgjhnckakliaaGreatDoorZAO
import Derived.Test.YthkgjhnckakliaaGreatDoorZAW
set_option linter.unusedVariables false
set_option linter.unusedSimpArgs false
set_option linter.unusedSectionVars false
namespace Go.Eng
open Go.Proofs
structure RZ where
  fr : Int
  st : Int
  iv : Int
  wk : Int
  wn : Int
  ct : Int
  un : Int
  l0 : List Int
  l1 : List Int
  l2 : List Int
  l3 : List Int
  l4 : List Int
  l5 : List Int
  l6 : List Int
  l7 : List Int
  l8 : List Int
  dd : List (Int × Int)
structure LY where
  y0 : Bool × Nat
  y1 : Bool × Nat
  y2 : Bool × Nat
  y3 : Bool × Nat
  y4 : Bool × Nat
  y5 : Bool × Nat
  y6 : Bool × Nat
  y7 : Bool × Nat
  y8 : Bool × Nat
  yd : Bool × Nat
def RZ.zero : RZ := ⟨0, 0, 0, 0, 0, 0, 0, [], [], [], [], [], [], [], [], [], []⟩
def LY.zero : LY := ⟨(true, 0), (true, 0), (true, 0), (true, 0), (true, 0), (true, 0), (true, 0), (true, 0), (true, 0), (true, 0)⟩
def LOK (z : RZ) (y : LY) : Prop := z.l0.length ≤ y.y0.2 ∧ z.l1.length ≤ y.y1.2 ∧ z.l2.length ≤ y.y2.2 ∧ z.l3.length ≤ y.y3.2 ∧ z.l4.length ≤ y.y4.2 ∧ z.l5.length ≤ y.y5.2 ∧ z.l6.length ≤ y.y6.2 ∧ z.l7.length ≤ y.y7.2 ∧ z.l8.length ≤ y.y8.2 ∧ z.dd.length ≤ y.yd.2
abbrev slI (y : Bool × Nat) (id n len : Nat) : AV := .sl y.1 id n 0 len y.2
abbrev prs2 (l : List (Int × Int)) : List (List Int) := l.map fun p => [p.1, p.2]
abbrev isl (xs : List Int) : AO := .ints 3 none .i64 xs
def cellsS (z : RZ) (y : LY) (b : Nat) : List AV := [.int .u8 z.fr, .bool (z.st != 0), .int .i64 z.st, .int .i64 z.iv, .int .i64 z.wk, .int .i64 z.ct, .bool (z.un != 0), .int .i64 z.un, slI y.y0 (b + 0) 1 z.l0.length, slI y.y1 (b + 1) 1 z.l1.length, slI y.y2 (b + 2) 1 z.l2.length, slI y.y3 (b + 3) 1 z.l3.length, slI y.y4 (b + 4) 1 z.l4.length, slI y.yd (b + 9) 2 z.dd.length, slI y.y5 (b + 5) 1 z.l5.length, slI y.y6 (b + 6) 1 z.l6.length, slI y.y7 (b + 7) 1 z.l7.length, slI y.y8 (b + 8) 1 z.l8.length]
def cellsSd (z : RZ) (y : LY) (b d : Nat) : List AV := [.int .u8 z.fr, .bool (z.st != 0), .int .i64 z.st, .int .i64 z.iv, .int .i64 z.wk, .int .i64 z.ct, .bool (z.un != 0), .int .i64 z.un, slI y.y0 (b + 0) 1 z.l0.length, slI y.y1 (b + 1) 1 z.l1.length, slI y.y2 (b + 2) 1 z.l2.length, slI y.y3 (b + 3) 1 z.l3.length, slI y.y4 (b + 4) 1 z.l4.length, slI y.yd d 2 z.dd.length, slI y.y5 (b + 5) 1 z.l5.length, slI y.y6 (b + 6) 1 z.l6.length, slI y.y7 (b + 7) 1 z.l7.length, slI y.y8 (b + 8) 1 z.l8.length]
def cellsP (z : RZ) (y : LY) (b : Nat) : List AV := [.int .i64 z.fr, .int .i64 z.st, .int .i64 0, .int .i64 z.iv, .int .i64 z.wk, .int .i64 z.wn, .int .i64 z.ct, .int .i64 z.un, .int .i64 0, slI y.y0 (b + 0) 1 z.l0.length, slI y.y1 (b + 1) 1 z.l1.length, slI y.y2 (b + 2) 1 z.l2.length, slI y.y3 (b + 3) 1 z.l3.length, slI y.y4 (b + 4) 1 z.l4.length, slI y.yd (b + 9) 2 z.dd.length, slI y.y5 (b + 5) 1 z.l5.length, slI y.y6 (b + 6) 1 z.l6.length, slI y.y7 (b + 7) 1 z.l7.length, slI y.y8 (b + 8) 1 z.l8.length]
def lstHp (e : TypeId) (z : RZ) (b : Nat) : Hp := [(b + 0, isl z.l0), (b + 1, isl z.l1), (b + 2, isl z.l2), (b + 3, isl z.l3), (b + 4, isl z.l4), (b + 5, isl z.l5), (b + 6, isl z.l6), (b + 7, isl z.l7), (b + 8, isl z.l8), (b + 9, .recs e none K2 (prs2 z.dd))]
def okZ {α : Type} (z : RZ) (o : Option α) (f : α → RZ) : RZ × Nat := match o with | some a => (f a, 0) | none => (z, 1)
def partZ (z : RZ) (k v : List UInt8) : RZ × Nat :=
  if k = [70, 82, 69, 81] then okZ z (freqZ v) fun f => { z with fr := f } else
  if k = [68, 84, 83, 84, 65, 82, 84] then if (momZ v).2 = 0 then ({ z with st := (momZ v).1 }, 0) else (z, (momZ v).2) else
  if k = [85, 78, 84, 73, 76] then if (momZ v).2 = 0 then ({ z with un := (momZ v).1 }, 0) else (z, (momZ v).2) else
  if k = [73, 78, 84, 69, 82, 86, 65, 76] then okZ z (intZ v) fun n => { z with iv := n } else
  if k = [67, 79, 85, 78, 84] then okZ z (intZ v) fun n => { z with ct := n } else
  if k = [87, 75, 83, 84] then match dayZ v with | some p => if p.2 = 0 then ({ z with wk := p.1, wn := 0 }, 0) else (z, 2) | none => (z, 1) else
  if k = [66, 89, 68, 65, 89] then okZ z (mapZ dayZ (splitB 44 v)) fun l => { z with dd := l } else
  if k = [66, 89, 83, 69, 84, 80, 79, 83] then okZ z (mapZ intZ (splitB 44 v)) fun l => { z with l0 := l } else
  if k = [66, 89, 77, 79, 78, 84, 72] then okZ z (mapZ intZ (splitB 44 v)) fun l => { z with l1 := l } else
  if k = [66, 89, 77, 79, 78, 84, 72, 68, 65, 89] then okZ z (mapZ intZ (splitB 44 v)) fun l => { z with l2 := l } else
  if k = [66, 89, 89, 69, 65, 82, 68, 65, 89] then okZ z (mapZ intZ (splitB 44 v)) fun l => { z with l3 := l } else
  if k = [66, 89, 87, 69, 69, 75, 78, 79] then okZ z (mapZ intZ (splitB 44 v)) fun l => { z with l4 := l } else
  if k = [66, 89, 72, 79, 85, 82] then okZ z (mapZ intZ (splitB 44 v)) fun l => { z with l5 := l } else
  if k = [66, 89, 77, 73, 78, 85, 84, 69] then okZ z (mapZ intZ (splitB 44 v)) fun l => { z with l6 := l } else
  if k = [66, 89, 83, 69, 67, 79, 78, 68] then okZ z (mapZ intZ (splitB 44 v)) fun l => { z with l7 := l } else
  if k = [66, 89, 69, 65, 83, 84, 69, 82] then okZ z (mapZ intZ (splitB 44 v)) fun l => { z with l8 := l } else (z, 1)
theorem partZ_FREQ (z : RZ) (v : List UInt8) : partZ z [70, 82, 69, 81] v = okZ z (freqZ v) fun f => { z with fr := f } := by unfold partZ; simp (config := {decide := true}) only [if_true, if_false]
theorem partZ_DTSTART (z : RZ) (v : List UInt8) : partZ z [68, 84, 83, 84, 65, 82, 84] v = if (momZ v).2 = 0 then ({ z with st := (momZ v).1 }, 0) else (z, (momZ v).2) := by unfold partZ; simp (config := {decide := true}) only [if_true, if_false]
theorem partZ_UNTIL (z : RZ) (v : List UInt8) : partZ z [85, 78, 84, 73, 76] v = if (momZ v).2 = 0 then ({ z with un := (momZ v).1 }, 0) else (z, (momZ v).2) := by unfold partZ; simp (config := {decide := true}) only [if_true, if_false]
theorem partZ_INTERVAL (z : RZ) (v : List UInt8) : partZ z [73, 78, 84, 69, 82, 86, 65, 76] v = okZ z (intZ v) fun n => { z with iv := n } := by unfold partZ; simp (config := {decide := true}) only [if_true, if_false]
theorem partZ_COUNT (z : RZ) (v : List UInt8) : partZ z [67, 79, 85, 78, 84] v = okZ z (intZ v) fun n => { z with ct := n } := by unfold partZ; simp (config := {decide := true}) only [if_true, if_false]
theorem partZ_WKST (z : RZ) (v : List UInt8) : partZ z [87, 75, 83, 84] v = match dayZ v with | some p => if p.2 = 0 then ({ z with wk := p.1, wn := 0 }, 0) else (z, 2) | none => (z, 1) := by unfold partZ; simp (config := {decide := true}) only [if_true, if_false]
theorem partZ_BYDAY (z : RZ) (v : List UInt8) : partZ z [66, 89, 68, 65, 89] v = okZ z (mapZ dayZ (splitB 44 v)) fun l => { z with dd := l } := by unfold partZ; simp (config := {decide := true}) only [if_true, if_false]
theorem partZ_BYSETPOS (z : RZ) (v : List UInt8) : partZ z [66, 89, 83, 69, 84, 80, 79, 83] v = okZ z (mapZ intZ (splitB 44 v)) fun l => { z with l0 := l } := by unfold partZ; simp (config := {decide := true}) only [if_true, if_false]
theorem partZ_BYMONTH (z : RZ) (v : List UInt8) : partZ z [66, 89, 77, 79, 78, 84, 72] v = okZ z (mapZ intZ (splitB 44 v)) fun l => { z with l1 := l } := by unfold partZ; simp (config := {decide := true}) only [if_true, if_false]
theorem partZ_BYMONTHDAY (z : RZ) (v : List UInt8) : partZ z [66, 89, 77, 79, 78, 84, 72, 68, 65, 89] v = okZ z (mapZ intZ (splitB 44 v)) fun l => { z with l2 := l } := by unfold partZ; simp (config := {decide := true}) only [if_true, if_false]
theorem partZ_BYYEARDAY (z : RZ) (v : List UInt8) : partZ z [66, 89, 89, 69, 65, 82, 68, 65, 89] v = okZ z (mapZ intZ (splitB 44 v)) fun l => { z with l3 := l } := by unfold partZ; simp (config := {decide := true}) only [if_true, if_false]
theorem partZ_BYWEEKNO (z : RZ) (v : List UInt8) : partZ z [66, 89, 87, 69, 69, 75, 78, 79] v = okZ z (mapZ intZ (splitB 44 v)) fun l => { z with l4 := l } := by unfold partZ; simp (config := {decide := true}) only [if_true, if_false]
theorem partZ_BYHOUR (z : RZ) (v : List UInt8) : partZ z [66, 89, 72, 79, 85, 82] v = okZ z (mapZ intZ (splitB 44 v)) fun l => { z with l5 := l } := by unfold partZ; simp (config := {decide := true}) only [if_true, if_false]
theorem partZ_BYMINUTE (z : RZ) (v : List UInt8) : partZ z [66, 89, 77, 73, 78, 85, 84, 69] v = okZ z (mapZ intZ (splitB 44 v)) fun l => { z with l6 := l } := by unfold partZ; simp (config := {decide := true}) only [if_true, if_false]
theorem partZ_BYSECOND (z : RZ) (v : List UInt8) : partZ z [66, 89, 83, 69, 67, 79, 78, 68] v = okZ z (mapZ intZ (splitB 44 v)) fun l => { z with l7 := l } := by unfold partZ; simp (config := {decide := true}) only [if_true, if_false]
theorem partZ_BYEASTER (z : RZ) (v : List UInt8) : partZ z [66, 89, 69, 65, 83, 84, 69, 82] v = okZ z (mapZ intZ (splitB 44 v)) fun l => { z with l8 := l } := by unfold partZ; simp (config := {decide := true}) only [if_true, if_false]
theorem partZ_other (z : RZ) (k v : List UInt8) (h0 : ¬ k = [70, 82, 69, 81]) (h1 : ¬ k = [68, 84, 83, 84, 65, 82, 84]) (h2 : ¬ k = [85, 78, 84, 73, 76]) (h3 : ¬ k = [73, 78, 84, 69, 82, 86, 65, 76]) (h4 : ¬ k = [67, 79, 85, 78, 84]) (h5 : ¬ k = [87, 75, 83, 84]) (h6 : ¬ k = [66, 89, 68, 65, 89]) (h7 : ¬ k = [66, 89, 83, 69, 84, 80, 79, 83]) (h8 : ¬ k = [66, 89, 77, 79, 78, 84, 72]) (h9 : ¬ k = [66, 89, 77, 79, 78, 84, 72, 68, 65, 89]) (h10 : ¬ k = [66, 89, 89, 69, 65, 82, 68, 65, 89]) (h11 : ¬ k = [66, 89, 87, 69, 69, 75, 78, 79]) (h12 : ¬ k = [66, 89, 72, 79, 85, 82]) (h13 : ¬ k = [66, 89, 77, 73, 78, 85, 84, 69]) (h14 : ¬ k = [66, 89, 83, 69, 67, 79, 78, 68]) (h15 : ¬ k = [66, 89, 69, 65, 83, 84, 69, 82]) : partZ z k v = (z, 1) := by unfold partZ; rw [if_neg h0, if_neg h1, if_neg h2, if_neg h3, if_neg h4, if_neg h5, if_neg h6, if_neg h7, if_neg h8, if_neg h9, if_neg h10, if_neg h11, if_neg h12, if_neg h13, if_neg h14, if_neg h15]
end Go.Eng
