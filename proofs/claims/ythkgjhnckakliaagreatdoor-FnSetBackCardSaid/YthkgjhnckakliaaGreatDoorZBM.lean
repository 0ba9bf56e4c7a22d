/- A part of the proof that the rows statement FnSetBack holds; no conditions. -/
import Derived.Test.YthkgjhnckakliaaGreatDoorZBL
set_option linter.unusedVariables false
set_option linter.unusedSimpArgs false
set_option linter.unusedSectionVars false
namespace Go.Eng
def Rd (l : List (List UInt8)) (z : RZ) (fq : Bool) : Prop := ∀ r, loopZ RZ.zero false (l ++ r) = loopZ z fq r
theorem Rd_snoc {l : List (List UInt8)} {z z' : RZ} {fq : Bool} (h : Rd l z fq) (k v : List UInt8) (hk : 61 ∉ k) (hv : 61 ∉ v) (hne : v ≠ []) (hp : partZ z k v = (z', 0)) : Rd (l ++ [k ++ 61 :: v]) z' (fq || decide (k = FRQ)) := by
 intro r
 rw [List.append_assoc, h]
 show loopZ z fq ((k ++ 61 :: v) :: r) = _
 rw [loopZ, splitB_app v hk, splitB_o1 hv]
 dsimp only
 rw [if_neg hne, hp]; exact if_pos rfl
theorem CL_not {l : List UInt8} (h : CL l) {c : UInt8} (hc : ¬ (c.toNat = 44 ∨ plainB c)) : c ∉ l := fun hm => hc (h c hm)
theorem Rd_I {l : List (List UInt8)} {z : RZ} (h : Rd l z true) (k : List UInt8) (xs : List Int) (f : List Int → RZ) (hk : 61 ∉ k) (hx : ∀ x ∈ xs, I64 x) (h0 : f [] = z)
 (hp : ∀ v, partZ z k v = okZ z (mapZ intZ (splitB 44 v)) f) : Rd (addI l k xs) (f xs) true := by
 unfold addI
 split
 · rename_i e; subst e; rw [h0]; exact h
 · rename_i e
   have := Rd_snoc h k (numsZ xs) (z' := f xs) hk (CL_not (nums_CL xs) (by decide)) (nums_ne e) (by rw [hp, nums_back e hx]; rfl)
   rw [Bool.true_or] at this
   rw [show k ++ [61] ++ numsZ xs = k ++ 61 :: numsZ xs by simp]
   exact this
theorem Rd_X {l : List (List UInt8)} {z z' : RZ} (h : Rd l z true) (b : Bool) (k v : List UInt8) (hk : 61 ∉ k) (hv : 61 ∉ v) (h0 : b = false → z' = z) (hne : v ≠ []) (hp : partZ z k v = (z', 0)) : Rd (addX b l (k ++ 61 :: v)) z' true := by
 unfold addX
 cases b with
 | false => rw [h0 rfl]; exact h
 | true =>
   have := Rd_snoc h k v hk hv hne hp
   rw [Bool.true_or] at this
   exact this
theorem prt_back {z : RZ} (F : FMT z) : Rd (prt14 z) { z with st := 0 } true := by
 have hz : Rd [] RZ.zero false := fun r => rfl
 have h0 : Rd (prt0 z) ({ RZ.zero with fr := z.fr } : RZ) true := by
  have := Rd_snoc hz [70, 82, 69, 81] (freqN z.fr) (z' := ({ RZ.zero with fr := z.fr } : RZ)) (by decide) (PL_not (freqN_PL _) (by decide)) (by unfold freqN; (repeat' split) <;> simp) (by rw [partZ_FREQ, freqZ_N F.fr]; rfl)
  exact this
 have h1 : Rd (prt1 z) ({ RZ.zero with fr := z.fr, iv := z.iv } : RZ) true := Rd_X h0 (z.iv != 0) [73, 78, 84, 69, 82, 86, 65, 76] (Lib.itoa z.iv) (by decide) (PL_not (itoa_PL _) (by decide)) (fun e => by rw [show z.iv = 0 by simpa using e]; rfl) (itoa_ne _) (by rw [partZ_INTERVAL, intZ_itoa F.iv]; rfl)
 have h2 : Rd (prt2 z) ({ RZ.zero with fr := z.fr, iv := z.iv, wk := z.wk } : RZ) true := Rd_X h1 (z.wk != 0) [87, 75, 83, 84] (wdZ z.wk z.wn) (by decide) (PL_not (wdZ_PL _ _) (by decide)) (fun e => by rw [show z.wk = 0 by simpa using e]; rfl) (wdZ_ne _ _) (by rw [partZ_WKST, F.wn, dayZ_wd F.wk (show I64 0 by unfold I64; omega)]; rfl)
 have h3 : Rd (prt3 z) ({ RZ.zero with fr := z.fr, iv := z.iv, wk := z.wk, ct := z.ct } : RZ) true := Rd_X h2 (z.ct != 0) [67, 79, 85, 78, 84] (Lib.itoa z.ct) (by decide) (PL_not (itoa_PL _) (by decide)) (fun e => by rw [show z.ct = 0 by simpa using e]; rfl) (itoa_ne _) (by rw [partZ_COUNT, intZ_itoa F.ct]; rfl)
 have h4 : Rd (prt4 z) ({ RZ.zero with fr := z.fr, iv := z.iv, wk := z.wk, ct := z.ct, un := z.un } : RZ) true := Rd_X h3 (z.un != 0) [85, 78, 84, 73, 76] (stampZ z.un) (by decide) (PL_not (stamp_PL F.un) (by decide)) (fun e => by rw [show z.un = 0 by simpa using e]; rfl) (stamp_ne F.un) (by rw [partZ_UNTIL, show momZ (stampZ z.un) = (z.un, 0) from momZ_fmt F.un]; rfl)
 have h5 : Rd (prt5 z) ({ RZ.zero with fr := z.fr, iv := z.iv, wk := z.wk, ct := z.ct, un := z.un, l0 := z.l0 } : RZ) true := Rd_I h4 [66, 89, 83, 69, 84, 80, 79, 83] z.l0 (fun l => { ({ RZ.zero with fr := z.fr, iv := z.iv, wk := z.wk, ct := z.ct, un := z.un } : RZ) with l0 := l }) (by decide) F.i0 rfl (fun v => partZ_BYSETPOS _ v)
 have h6 : Rd (prt6 z) ({ RZ.zero with fr := z.fr, iv := z.iv, wk := z.wk, ct := z.ct, un := z.un, l0 := z.l0, l1 := z.l1 } : RZ) true := Rd_I h5 [66, 89, 77, 79, 78, 84, 72] z.l1 (fun l => { ({ RZ.zero with fr := z.fr, iv := z.iv, wk := z.wk, ct := z.ct, un := z.un, l0 := z.l0 } : RZ) with l1 := l }) (by decide) F.i1 rfl (fun v => partZ_BYMONTH _ v)
 have h7 : Rd (prt7 z) ({ RZ.zero with fr := z.fr, iv := z.iv, wk := z.wk, ct := z.ct, un := z.un, l0 := z.l0, l1 := z.l1, l2 := z.l2 } : RZ) true := Rd_I h6 [66, 89, 77, 79, 78, 84, 72, 68, 65, 89] z.l2 (fun l => { ({ RZ.zero with fr := z.fr, iv := z.iv, wk := z.wk, ct := z.ct, un := z.un, l0 := z.l0, l1 := z.l1 } : RZ) with l2 := l }) (by decide) F.i2 rfl (fun v => partZ_BYMONTHDAY _ v)
 have h8 : Rd (prt8 z) ({ RZ.zero with fr := z.fr, iv := z.iv, wk := z.wk, ct := z.ct, un := z.un, l0 := z.l0, l1 := z.l1, l2 := z.l2, l3 := z.l3 } : RZ) true := Rd_I h7 [66, 89, 89, 69, 65, 82, 68, 65, 89] z.l3 (fun l => { ({ RZ.zero with fr := z.fr, iv := z.iv, wk := z.wk, ct := z.ct, un := z.un, l0 := z.l0, l1 := z.l1, l2 := z.l2 } : RZ) with l3 := l }) (by decide) F.i3 rfl (fun v => partZ_BYYEARDAY _ v)
 have h9 : Rd (prt9 z) ({ RZ.zero with fr := z.fr, iv := z.iv, wk := z.wk, ct := z.ct, un := z.un, l0 := z.l0, l1 := z.l1, l2 := z.l2, l3 := z.l3, l4 := z.l4 } : RZ) true := Rd_I h8 [66, 89, 87, 69, 69, 75, 78, 79] z.l4 (fun l => { ({ RZ.zero with fr := z.fr, iv := z.iv, wk := z.wk, ct := z.ct, un := z.un, l0 := z.l0, l1 := z.l1, l2 := z.l2, l3 := z.l3 } : RZ) with l4 := l }) (by decide) F.i4 rfl (fun v => partZ_BYWEEKNO _ v)
 have h10 : Rd (prt10 z) ({ RZ.zero with fr := z.fr, iv := z.iv, wk := z.wk, ct := z.ct, un := z.un, l0 := z.l0, l1 := z.l1, l2 := z.l2, l3 := z.l3, l4 := z.l4, dd := z.dd } : RZ) true := by
  show Rd (addD (prt9 z) z.dd) _ true
  unfold addD
  split
  · rename_i e; rw [e]; exact h9
  · rename_i e
    have := Rd_snoc h9 [66, 89, 68, 65, 89] (daysT z.dd) (z' := ({ RZ.zero with fr := z.fr, iv := z.iv, wk := z.wk, ct := z.ct, un := z.un, l0 := z.l0, l1 := z.l1, l2 := z.l2, l3 := z.l3, l4 := z.l4, dd := z.dd } : RZ)) (by decide) (CL_not (days_CL _) (by decide)) (daysT_ne e) (by rw [partZ_BYDAY, days_back e fun p hp => ⟨(F.id p hp).1, by have := (F.id p hp).2; unfold I64; omega⟩]; rfl)
    exact this
 have h11 : Rd (prt11 z) ({ RZ.zero with fr := z.fr, iv := z.iv, wk := z.wk, ct := z.ct, un := z.un, l0 := z.l0, l1 := z.l1, l2 := z.l2, l3 := z.l3, l4 := z.l4, dd := z.dd, l5 := z.l5 } : RZ) true := Rd_I h10 [66, 89, 72, 79, 85, 82] z.l5 (fun l => { ({ RZ.zero with fr := z.fr, iv := z.iv, wk := z.wk, ct := z.ct, un := z.un, l0 := z.l0, l1 := z.l1, l2 := z.l2, l3 := z.l3, l4 := z.l4, dd := z.dd } : RZ) with l5 := l }) (by decide) F.i5 rfl (fun v => partZ_BYHOUR _ v)
 have h12 : Rd (prt12 z) ({ RZ.zero with fr := z.fr, iv := z.iv, wk := z.wk, ct := z.ct, un := z.un, l0 := z.l0, l1 := z.l1, l2 := z.l2, l3 := z.l3, l4 := z.l4, dd := z.dd, l5 := z.l5, l6 := z.l6 } : RZ) true := Rd_I h11 [66, 89, 77, 73, 78, 85, 84, 69] z.l6 (fun l => { ({ RZ.zero with fr := z.fr, iv := z.iv, wk := z.wk, ct := z.ct, un := z.un, l0 := z.l0, l1 := z.l1, l2 := z.l2, l3 := z.l3, l4 := z.l4, dd := z.dd, l5 := z.l5 } : RZ) with l6 := l }) (by decide) F.i6 rfl (fun v => partZ_BYMINUTE _ v)
 have h13 : Rd (prt13 z) ({ RZ.zero with fr := z.fr, iv := z.iv, wk := z.wk, ct := z.ct, un := z.un, l0 := z.l0, l1 := z.l1, l2 := z.l2, l3 := z.l3, l4 := z.l4, dd := z.dd, l5 := z.l5, l6 := z.l6, l7 := z.l7 } : RZ) true := Rd_I h12 [66, 89, 83, 69, 67, 79, 78, 68] z.l7 (fun l => { ({ RZ.zero with fr := z.fr, iv := z.iv, wk := z.wk, ct := z.ct, un := z.un, l0 := z.l0, l1 := z.l1, l2 := z.l2, l3 := z.l3, l4 := z.l4, dd := z.dd, l5 := z.l5, l6 := z.l6 } : RZ) with l7 := l }) (by decide) F.i7 rfl (fun v => partZ_BYSECOND _ v)
 have h14 : Rd (prt14 z) ({ RZ.zero with fr := z.fr, iv := z.iv, wk := z.wk, ct := z.ct, un := z.un, l0 := z.l0, l1 := z.l1, l2 := z.l2, l3 := z.l3, l4 := z.l4, dd := z.dd, l5 := z.l5, l6 := z.l6, l7 := z.l7, l8 := z.l8 } : RZ) true := Rd_I h13 [66, 89, 69, 65, 83, 84, 69, 82] z.l8 (fun l => { ({ RZ.zero with fr := z.fr, iv := z.iv, wk := z.wk, ct := z.ct, un := z.un, l0 := z.l0, l1 := z.l1, l2 := z.l2, l3 := z.l3, l4 := z.l4, dd := z.dd, l5 := z.l5, l6 := z.l6, l7 := z.l7 } : RZ) with l8 := l }) (by decide) F.i8 rfl (fun v => partZ_BYEASTER _ v)
 have e : ({ RZ.zero with fr := z.fr, iv := z.iv, wk := z.wk, ct := z.ct, un := z.un, l0 := z.l0, l1 := z.l1, l2 := z.l2, l3 := z.l3, l4 := z.l4, dd := z.dd, l5 := z.l5, l6 := z.l6, l7 := z.l7, l8 := z.l8 } : RZ) = { z with st := 0 } := by have := F.wn; obtain ⟨fr, st, iv, wk, wn, ct, un, l0, l1, l2, l3, l4, l5, l6, l7, l8, dd⟩ := z; simp only at this; subst this; rfl
 rw [← e]; exact h14
theorem sp_plain {b : UInt8} (h : 33 ≤ b.toNat) : Lib.isSp b = false := by
 unfold Lib.isSp
 simp only [Bool.or_eq_false_iff, beq_eq_false_iff_ne]
 refine ⟨⟨⟨⟨⟨?_, ?_⟩, ?_⟩, ?_⟩, ?_⟩, ?_⟩ <;> (intro e; subst e; revert h; decide)
theorem trim_same {l : List UInt8} (h1 : ∀ b, l.head? = some b → Lib.isSp b = false) (h2 : ∀ b, l.getLast? = some b → Lib.isSp b = false) : Lib.trimSpace l = l := by
 have d : ∀ m : List UInt8, (∀ b, m.head? = some b → Lib.isSp b = false) → m.dropWhile Lib.isSp = m := by
  intro m hm
  cases m with
  | nil => rfl
  | cons a r => rw [List.dropWhile_cons, hm a rfl]; rfl
 unfold Lib.trimSpace
 rw [d l h1, d l.reverse (by rw [List.head?_reverse]; exact h2), List.reverse_reverse]
theorem trim_all {l : List UInt8} (h : ∀ b ∈ l, 33 ≤ b.toNat) : Lib.trimSpace l = l :=
 trim_same (fun b hb => sp_plain (h b (List.mem_of_head? hb))) (fun b hb => sp_plain (h b (List.mem_of_getLast? hb)))
abbrev TL (l : List UInt8) : Prop := ∀ b ∈ l, 43 ≤ b.toNat ∧ b.toNat ≤ 90 ∧ b.toNat ≠ 58
theorem PL_TL {l : List UInt8} (h : PL l) : TL l := fun b hb => by have := h b hb; unfold plainB at this; omega
theorem CL_TL {l : List UInt8} (h : CL l) : TL l := fun b hb => by have := h b hb; unfold plainB at this; omega
theorem TL_app {l m : List UInt8} (h : TL l) (h' : TL m) : TL (l ++ m) := fun b hb => (List.mem_append.1 hb).elim (h b) (h' b)
theorem TL_part {k v : List UInt8} (h : TL k) (h' : TL v) (h2 : 59 ∉ k) (h3 : 59 ∉ v) : TL (k ++ 61 :: v) ∧ 59 ∉ (k ++ 61 :: v) := by
 refine ⟨TL_app h fun b hb => ?_, fun hm => ?_⟩
 · rcases List.mem_cons.1 hb with rfl | hb
   · decide
   · exact h' b hb
 · rcases List.mem_append.1 hm with hm | hm
   · exact h2 hm
   · rcases List.mem_cons.1 hm with hm | hm
     · revert hm; decide
     · exact h3 hm
abbrev GP (l : List (List UInt8)) : Prop := ∀ t ∈ l, TL t ∧ 59 ∉ t
theorem GP_snoc {l : List (List UInt8)} {k v : List UInt8} (h : GP l) (hk : PL k) (hv : CL v) : GP (l ++ [k ++ 61 :: v]) := by
 intro t ht
 rcases List.mem_append.1 ht with ht | ht
 · exact h t ht
 · rw [List.mem_singleton.1 ht]
   exact TL_part (PL_TL hk) (CL_TL hv) (PL_not hk (by decide)) (CL_not hv (by decide))
theorem GP_I {l : List (List UInt8)} {k : List UInt8} {xs : List Int} (h : GP l) (hk : PL k) : GP (addI l k xs) := by
 unfold addI; split
 · exact h
 · rw [show k ++ [61] ++ numsZ xs = k ++ 61 :: numsZ xs by simp]; exact GP_snoc h hk (nums_CL xs)
theorem GP_X {b : Bool} {l : List (List UInt8)} {k v : List UInt8} (h : GP l) (hk : PL k) (hv : PL v) : GP (addX b l (k ++ 61 :: v)) := by
 unfold addX; split
 · exact GP_snoc h hk fun b hb => .inr (hv b hb)
 · exact h
theorem prt_GP {z : RZ} (F : FMT z) : GP (prt14 z) := by
 have g0 : GP (prt0 z) := GP_snoc (l := []) (k := [70, 82, 69, 81]) (fun t ht => by cases ht) (by decide) fun b hb => .inr (freqN_PL z.fr b hb)
 have g1 : GP (prt1 z) := GP_X (k := [73, 78, 84, 69, 82, 86, 65, 76]) g0 (by decide) (itoa_PL z.iv)
 have g2 : GP (prt2 z) := GP_X (k := [87, 75, 83, 84]) g1 (by decide) (wdZ_PL z.wk z.wn)
 have g3 : GP (prt3 z) := GP_X (k := [67, 79, 85, 78, 84]) g2 (by decide) (itoa_PL z.ct)
 have g4 : GP (prt4 z) := GP_X (k := [85, 78, 84, 73, 76]) g3 (by decide) (stamp_PL F.un)
 have g9 : GP (prt9 z) := GP_I (GP_I (GP_I (GP_I (GP_I g4 (by decide)) (by decide)) (by decide)) (by decide)) (by decide)
 have g10 : GP (prt10 z) := by
  show GP (addD (prt9 z) z.dd)
  unfold addD; split
  · exact g9
  · exact GP_snoc (k := [66, 89, 68, 65, 89]) g9 (by decide) (days_CL z.dd)
 exact GP_I (GP_I (GP_I (GP_I g10 (by decide)) (by decide)) (by decide)) (by decide)
theorem prt_hd (z : RZ) : ∃ t l, prt14 z = (70 :: t) :: l := by
 have kI : ∀ {l : List (List UInt8)} {k : List UInt8} {xs : List Int}, (∃ t m, l = (70 :: t) :: m) → ∃ t m, addI l k xs = (70 :: t) :: m := by
  rintro l k xs ⟨t, m, rfl⟩; unfold addI; split
  · exact ⟨_, _, rfl⟩
  · exact ⟨_, _, rfl⟩
 have kX : ∀ {b : Bool} {l : List (List UInt8)} {x : List UInt8}, (∃ t m, l = (70 :: t) :: m) → ∃ t m, addX b l x = (70 :: t) :: m := by
  rintro b l x ⟨t, m, rfl⟩; unfold addX; split
  · exact ⟨_, _, rfl⟩
  · exact ⟨_, _, rfl⟩
 have kD : ∀ {l : List (List UInt8)} {x : List (Int × Int)}, (∃ t m, l = (70 :: t) :: m) → ∃ t m, addD l x = (70 :: t) :: m := by
  rintro l x ⟨t, m, rfl⟩; unfold addD; split
  · exact ⟨_, _, rfl⟩
  · exact ⟨_, _, rfl⟩
 exact kI (kI (kI (kI (kD (kI (kI (kI (kI (kI (kX (kX (kX (kX ⟨_, _, rfl⟩)))))))))))))
theorem ruleT_TL {z : RZ} (F : FMT z) : TL (ruleT z) := by
 intro b hb
 rcases mem_join hb with rfl | ⟨x, hx, hb⟩
 · decide
 · exact (prt_GP F x hx).1 b hb
theorem optZ_rule {z : RZ} (F : FMT z) : optZ (ruleT z) = ({ z with st := 0 }, 0) := by
 have hT := ruleT_TL F
 obtain ⟨t, l, e⟩ := prt_hd z
 have hh : ∃ r, ruleT z = 70 :: r := by unfold ruleT; rw [e, Lib.join_cons]; exact ⟨_, rfl⟩
 obtain ⟨r, hr⟩ := hh
 have h10 : (10 : UInt8) ∉ ruleT z := fun hm => by have := hT _ hm; revert this; decide
 unfold optZ
 rw [trim_all fun b hb => by have := hT b hb; omega, splitB_o1 h10]
 show loopZ RZ.zero false (splitB 59 (bareZ (ruleT z))) = _
 have hb : bareZ (ruleT z) = ruleT z := by
  unfold bareZ
  rw [if_neg (by rw [hr]; simp [Lib.hasPrefix, List.isPrefixOf])]
 rw [hb, show splitB 59 (ruleT z) = prt14 z from splitB_join (by rw [e]; simp) fun x hx => (prt_GP F x hx).2]
 have := prt_back F []
 rw [List.append_nil] at this
 rw [this]; rfl
end Go.Eng
namespace Go.Eng
abbrev LB (l : List UInt8) : Prop := ∀ b ∈ l, 43 ≤ b.toNat ∧ b.toNat ≤ 90
theorem LB_asc {l : List UInt8} (h : LB l) : ascB l = true := ascB_iff.2 fun b hb => by have := h b hb; omega
theorem LB_up {l : List UInt8} (h : LB l) : Lib.toUpperA l = l := by
 unfold Lib.toUpperA
 conv => rhs; rw [← List.map_id l]
 refine List.map_congr_left fun b hb => ?_
 unfold Lib.upperB
 rw [if_neg]; · rfl
 have := h b hb
 simp only [Lib.isLowerB, Bool.and_eq_true, decide_eq_true_eq, not_and]
 intro h1
 have : (97 : UInt8).toNat ≤ b.toNat := UInt8.le_iff_toNat_le.1 h1
 have e : (97 : UInt8).toNat = 97 := rfl
 omega
theorem LB_blank {l : List UInt8} (h : LB l) : blankZ l = false := by
 unfold blankZ
 cases l with
 | nil => rfl
 | cons a r =>
   have := h a (by simp)
   show (!decide (a :: r = []) && Lib.isSp a) = false
   rw [sp_plain (by omega), Bool.and_false]
theorem TL_LB {l : List UInt8} (h : TL l) : LB l := fun b hb => by have := h b hb; omega
theorem PL_LB {l : List UInt8} (h : PL l) : LB l := TL_LB (PL_TL h)
theorem LB_line {k v : List UInt8} (hk : LB k) (hv : LB v) : LB (k ++ 58 :: v) := by
 intro b hb
 rcases List.mem_append.1 hb with hb | hb
 · exact hk b hb
 · rcases List.mem_cons.1 hb with rfl | hb
   · decide
   · exact hv b hb
theorem cutL_app {cs : List UInt8} : ∀ {k : List UInt8} {c : UInt8} {r : List UInt8}, (∀ b ∈ k, b ∉ cs) → c ∈ cs → cutL cs (k ++ c :: r) = k.length
 | [], c, r, _, hc => by simp [cutL, hc]
 | b :: k, c, r, h, hc => by
   rw [List.cons_append, cutL, if_neg (h b (by simp)), cutL_app (fun x hx => h x (List.mem_cons_of_mem _ hx)) hc]; rfl
theorem cutL_none {cs : List UInt8} : ∀ {k : List UInt8}, (∀ b ∈ k, b ∉ cs) → cutL cs k = k.length
 | [], _ => rfl
 | b :: k, h => by rw [cutL, if_neg (h b (by simp)), cutL_none fun x hx => h x (List.mem_cons_of_mem _ hx)]; rfl
theorem nameZ_line {k v : List UInt8} (hne : k ≠ []) (hk : PL k) (hv : LB v) : nameZ (k ++ 58 :: v) = some k := by
 have hL := LB_line (PL_LB hk) hv
 unfold nameZ
 rw [trim_all fun b hb => by have := hL b hb; omega, LB_up hL]
 have hc : cutL [59, 58] (k ++ 58 :: v) = k.length := cutL_app (fun b hb hm => by
  have := hk b hb
  have : b = 59 ∨ b = 58 := by simpa using hm
  rcases this with rfl | rfl <;> revert ‹plainB _› <;> decide) (by simp)
 have h2 : cutL [61] k = k.length := cutL_none fun b hb hm => by
  have := hk b hb
  have : b = 61 := by simpa using hm
  subst this; revert ‹plainB _›; decide
 unfold nameU
 rw [if_neg (by simp), hc, List.take_left' rfl, h2, if_neg (by
  have : k.length ≠ 0 := by simpa using hne
  rw [List.length_append, List.length_cons]; omega), if_neg (by omega)]
theorem lineZ_line {f : Bool} {s : SZ} {k v : List UInt8} (hne : k ≠ []) (hk : PL k) (hv : LB v) : lineZ f s (k ++ 58 :: v) = nameLine f s k v := by
 have hL := LB_line (PL_LB hk) hv
 unfold lineZ
 rw [if_neg (by rw [LB_asc hL, LB_blank hL]; simp)]
 unfold lineC
 rw [nameZ_line hne hk hv]
 dsimp only
 rw [show (k ++ 58 :: v).drop (k.length + 1) = v by rw [← List.drop_drop, List.drop_left' rfl]; rfl]
def Rl (l : List (List UInt8)) (s : SZ) : Prop := ∀ r, linesZ true SZ.zero (l ++ r) = linesZ (decide (l = [])) s r
theorem Rl_snoc {l : List (List UInt8)} {s s' : SZ} {x : List UInt8} (h : Rl l s) (hz : lineZ (decide (l = [])) s x = (s', 0)) : Rl (l ++ [x]) s' := by
 intro r
 rw [List.append_assoc, h, show decide (l ++ [x] = []) = false by simp]
 show linesZ _ s (x :: r) = _
 rw [linesZ, hz]; exact if_pos rfl
theorem startZ_stamp {n : Int} (h : DateR n) : startZ (stampZ n) = (n, 0) := by
 unfold startZ
 rw [splitB_o1 (PL_not (stamp_PL h) (by decide))]
 exact momZ_fmt h
theorem datesZ_stamp {n : Int} (h : DateR n) : datesZ (stampZ n) = ([n], 0) := by
 unfold datesZ
 rw [splitB_o1 (PL_not (stamp_PL h) (by decide))]
 dsimp only
 rw [splitB_o1 (PL_not (stamp_PL h) (by decide))]
 simp only [momsZ, show momZ (stampZ n) = (n, 0) from momZ_fmt h, if_true]
def backZ (s : SZ) : SZ := { s with z := if s.has = true then { s.z with st := 0 } else RZ.zero }
theorem rightZ_st (z : RZ) (n : Int) : rightZ { z with st := n } = rightZ z := rfl
theorem dates_back {f : SZ → List Int → SZ} {K : List UInt8} (hK : PL K) (hne : K ≠ []) {s : SZ} {xs : List Int} (hf : ∀ l b v, nameLine b (f s l) K v = if (datesZ v).2 = 0 then (f s (l ++ (datesZ v).1), 0) else (SZ.zero, (datesZ v).2)) (hx : ∀ n ∈ xs, DateR n)
 {l : List (List UInt8)} (h : Rl l (f s [])) : ∀ k, k ≤ xs.length → Rl (l ++ (xs.take k).map (dtT K)) (f s (xs.take k))
 | 0, _ => by rw [List.take_zero, List.map_nil, List.append_nil]; exact h
 | k + 1, hk => by
   have ih := dates_back hK hne hf hx h k (by omega)
   have hd := hx _ (getDI_mem (show k < xs.length by omega))
   rw [take_succI (show k < xs.length by omega), List.map_append, ← List.append_assoc]
   refine Rl_snoc ih ?_
   show lineZ _ _ (K ++ 58 :: stampZ _) = _
   rw [lineZ_line hne hK (PL_LB (stamp_PL hd)), hf, datesZ_stamp hd, if_pos rfl]
theorem lines_back {s : SZ} (F : SF s) (hr : s.has = true → rightZ s.z = true) : Rl (linesT s) (backZ s) := by
 have h0 : Rl [] SZ.zero := fun r => rfl
 have h1 : Rl (ln1 s) { SZ.zero with start := s.start } := by
  unfold ln1
  split
  · rename_i e; rw [e]; exact h0
  · refine Rl_snoc (l := []) h0 ?_
    show lineZ true _ (DTS ++ 58 :: stampZ s.start) = _
    rw [lineZ_line (by decide) (by decide) (PL_LB (stamp_PL F.st))]
    unfold nameLine
    rw [if_pos ⟨rfl, rfl⟩, startZ_stamp F.st, if_pos rfl]
 have h2 : Rl (ln2 s) { backZ s with rd := [], ex := [] } := by
  unfold ln2 backZ
  split
  · rename_i e
    refine Rl_snoc h1 ?_
    show lineZ _ _ (RRL ++ 58 :: ruleT s.z) = _
    rw [lineZ_line (by decide) (by decide) (TL_LB (ruleT_TL F.z))]
    unfold nameLine
    rw [if_neg (fun h => absurd h.2 (by decide)), if_pos rfl, optZ_rule F.z, if_pos rfl, rightZ_st, if_pos (hr e)]
    simp only [withRule, startOf, e, ne_eq, not_true_eq_false, and_false, if_false, if_true]
    rfl
  · rename_i e
    have e : s.has = false := by simpa using e
    rw [e]; exact h1
 have h3 : Rl (ln3 s s.rd.length) { backZ s with ex := [] } := by
  have := dates_back (f := fun t l => { t with rd := l }) (K := RDT) (s := { backZ s with rd := [], ex := [] }) (xs := s.rd) (by decide) (by decide) (by
   intro l b v
   unfold nameLine
   rw [if_neg (fun h => absurd h.2 (by decide)), if_neg (by decide), if_pos rfl]) F.rd h2 s.rd.length (Nat.le_refl _)
  rw [List.take_length] at this
  unfold ln3; rw [List.take_length]; exact this
 have := dates_back (f := fun t l => { t with ex := l }) (K := EXT) (s := { backZ s with ex := [] }) (xs := s.ex) (by decide) (by decide) (by
  intro l b v
  unfold nameLine
  rw [if_neg (fun h => absurd h.2 (by decide)), if_neg (by decide), if_neg (by decide), if_pos rfl]) F.ex h3 s.ex.length (Nat.le_refl _)
 rw [List.take_length] at this
 unfold linesT ln4; rw [List.take_length]; exact this
theorem lines_all {s : SZ} (F : SF s) (hr : s.has = true → rightZ s.z = true) : linesZ true SZ.zero (linesT s) = (backZ s, 0) := by
 have := lines_back F hr []
 rw [List.append_nil] at this
 rw [this]; rfl
theorem lines_mem {s : SZ} (F : SF s) {l : List UInt8} (h : l ∈ linesT s) : ∃ k v, l = k ++ 58 :: v ∧ PL k ∧ k ≠ [] ∧ LB v ∧ v ≠ [] ∧ l.length ≤ 20000 ∧ (k = RRL → v = ruleT s.z) := by
 have hd : ∀ (k : List UInt8) (n : Int), DateR n → PL k → k ≠ [] → k.length ≤ 10 → k ≠ RRL → ∃ k' v, dtT k n = k' ++ 58 :: v ∧ PL k' ∧ k' ≠ [] ∧ LB v ∧ v ≠ [] ∧ (dtT k n).length ≤ 20000 ∧ (k' = RRL → v = ruleT s.z) := fun k n hn hk hne hl hr =>
  ⟨k, stampZ n, rfl, hk, hne, PL_LB (stamp_PL hn), stamp_ne hn, by rw [dtT_len hn]; omega, fun e => absurd e hr⟩
 unfold linesT ln4 at h
 rcases List.mem_append.1 h with h | h
 · unfold ln3 at h
   rcases List.mem_append.1 h with h | h
   · have h1 : l ∈ ln1 s ∨ (s.has = true ∧ l = RRL ++ 58 :: ruleT s.z) := by
      unfold ln2 at h
      split at h
      · rename_i e
        rcases List.mem_append.1 h with h | h
        · exact .inl h
        · exact .inr ⟨e, List.mem_singleton.1 h⟩
      · exact .inl h
     rcases h1 with h | ⟨e, rfl⟩
     · unfold ln1 at h
       split at h
       · cases h
       · rw [List.mem_singleton.1 h]
         exact hd _ _ F.st (by decide) (by decide) (by decide) (by decide)
     · obtain ⟨t, m, e2⟩ := prt_hd s.z
       refine ⟨_, _, rfl, by decide, by decide, TL_LB (ruleT_TL F.z), ?_, ?_, fun _ => rfl⟩
       · unfold ruleT; rw [e2]; exact join_ne ⟨_, _, rfl, by simp⟩
       · have := ruleT_le F.z
         rw [List.length_append, List.length_cons]
         show 5 + (_ + 1) ≤ 20000
         omega
   · obtain ⟨n, hn, rfl⟩ := List.mem_map.1 h
     exact hd _ _ (F.rd n (List.mem_of_mem_take hn)) (by decide) (by decide) (by decide) (by decide)
 · obtain ⟨n, hn, rfl⟩ := List.mem_map.1 h
   exact hd _ _ (F.ex n (List.mem_of_mem_take hn)) (by decide) (by decide) (by decide) (by decide)
theorem lines_LIM {s : SZ} (F : SF s) (hB : BND { s.z with st := 0 }) : LIM (linesT s) := by
 refine ⟨?_, ?_, ?_⟩
 · have := (ln_len s).2.2.2 s.ex.length
   have := F.nr; have := F.ne
   unfold linesT; omega
 · intro l hl
   obtain ⟨k, v, rfl, h1, h2, h3, h4, h5, h6⟩ := lines_mem F hl
   omega
 · intro l hl hn
   obtain ⟨k, v, rfl, h1, h2, h3, h4, h5, h6⟩ := lines_mem F hl
   rw [nameZ_line h2 h1 h3] at hn
   cases hn
   rw [h6 rfl]
   show BND (optZ (ruleT s.z)).1
   rw [optZ_rule F.z]; exact hB
theorem text_back {s : SZ} (F : SF s) (hne : linesT s ≠ []) : Lib.trimSpace (Lib.join (linesT s) [10]) = Lib.join (linesT s) [10] ∧ Lib.join (linesT s) [10] ≠ [] ∧ splitB 10 (Lib.join (linesT s) [10]) = linesT s := by
 have hm : ∀ x ∈ linesT s, LB x ∧ x ≠ [] := by
  intro x hx
  obtain ⟨k, v, rfl, h1, h2, h3, h4, h5, h6⟩ := lines_mem F hx
  exact ⟨LB_line (PL_LB h1) h3, by simp⟩
 refine ⟨?_, ?_, ?_⟩
 · generalize linesT s = L at *
   have hh : ∀ b, (Lib.join L [10]).head? = some b → Lib.isSp b = false := by
    intro b hb
    cases L with
    | nil => exact absurd rfl hne
    | cons x l =>
      rw [Lib.join_cons] at hb
      obtain ⟨h1, h2⟩ := hm x (by simp)
      cases x with
      | nil => exact absurd rfl h2
      | cons a r =>
        have : a = b := by simpa using hb
        subst this
        exact sp_plain (by have := h1 a (by simp); omega)
   have hl : ∀ (L : List (List UInt8)), L ≠ [] → (∀ x ∈ L, LB x ∧ x ≠ []) → ∀ b, (Lib.join L [10]).getLast? = some b → Lib.isSp b = false := by
    intro L
    induction L with
    | nil => intro h; exact absurd rfl h
    | cons x l ih =>
      intro _ hm b hb
      cases l with
      | nil =>
        rw [Lib.join_one] at hb
        exact sp_plain (by have := (hm x (by simp)).1 b (List.mem_of_getLast? hb); omega)
      | cons y m =>
        have ih := ih (by simp) (fun z hz => hm z (List.mem_cons_of_mem _ hz))
        rw [join_cc] at hb
        have hn : Lib.join (y :: m) [10] ≠ [] := join_ne ⟨_, _, rfl, (hm y (by simp)).2⟩
        have e : (x ++ 10 :: Lib.join (y :: m) [10]).getLast? = (Lib.join (y :: m) [10]).getLast? := by
         rw [List.getLast?_append, List.getLast?_cons]
         cases h : (Lib.join (y :: m) [10]).getLast? with
         | none => exact absurd (List.getLast?_eq_none_iff.1 h) hn
         | some c => simp
        rw [e] at hb
        exact ih b hb
   exact trim_same hh (hl L hne hm)
 · cases h : linesT s with
   | nil => exact absurd h hne
   | cons x l => exact join_ne ⟨_, _, rfl, (hm x (by rw [h]; simp)).2⟩
 · exact splitB_join hne fun x hx hm2 => by have := (hm x hx).1 _ hm2; revert this; decide
theorem text_len {s : SZ} (F : SF s) : (Lib.join (linesT s) [10]).length ≤ 100 * 20001 := by
 have h1 := join_le (B := 20000) (xs := linesT s) (c := 10) fun x hx => by
  obtain ⟨k, v, rfl, h1, h2, h3, h4, h5, h6⟩ := lines_mem F hx
  exact h5
 have h2 : (linesT s).length ≤ 100 := by
  have := (ln_len s).2.2.2 s.ex.length
  have := F.nr; have := F.ne
  unfold linesT; omega
 exact Nat.le_trans h1 (Nat.mul_le_mul_right _ h2)
end Go.Eng
namespace Go.Eng
open Go.Proofs
attribute [local irreducible] W WL LP Then InBl Tri WS
theorem lines_le {s : SZ} (F : SF s) : (linesT s).length ≤ 100 := by
 have := (ln_len s).2.2.2 s.ex.length
 have := F.nr; have := F.ne
 unfold linesT; omega
set_option maxRecDepth 8192 in
set_option maxHeartbeats 4000000 in
theorem setStr_tri (s : SZ) (q : PX) (hq : LOK s.z q.y) (hyr : s.rd.length ≤ q.yr.2) (hye : s.ex.length ≤ q.ye.2) (F : SF s) : Tri C0 42 14 (setHpR s q 0) [.ptr 11 0]
 (Fin' (fun _ => 14) (fun _ => []) (fun _ => .str (Lib.join (linesT s) [10])) (fun _ : Unit => True)) := by
 refine Tri.renX ?_
 have TT := recur_tri s q hq hyr hye F
 have j1 := text_len F
 have j2 := lines_le F
 obtain ⟨st, has, z, rd, ex⟩ := s
 obtain ⟨y, vs, st2, yr, ye, mr, me⟩ := q
 generalize linesT _ = L at *
 cases has
 all_goals
  refine Tri.mk 8 [.tmp 2] Tryz.func42 rfl rfl rfl rfl cf42 ?_; intro w0 S T ρ0
  refine w_ ?_
  refine WL_call [0, 1, 2, 3, 4, 5, 6, 7, 8, 9, 10, 11, 12, 13] (TT) rfl rfl rfl t_ t_ rfl rfl rfl rfl ?_; rintro _ _ _ ⟨⟨ya,ma⟩, rfl, rfl, rfl, hG⟩
  refine w_ ?_
  refine WL_callR [14] (join_tri ya.1 ma L ya.2 [10] 9 (by have := hG.cap; simpa using this) (by omega) (by omega)) rfl rfl rfl t_ t_ rfl rfl rfl rfl ?_; rintro _ rfl
  refine w_ ?_
  refine W_ret ?_; (repeat (first | refine then_ret ?_ | refine inbl_ret ?_))
  exact ⟨_, _, rfl, s_, (), [0, 1, 2, 3, 4, 5, 6, 7, 8, 9, 10, 11, 12, 13], s_, rfl, rfl, rfl, rfl, s_, trivial⟩
def stS (s : SZ) : SZ := { s with start := startOf s }
set_option maxRecDepth 8192 in
set_option maxHeartbeats 4000000 in
theorem setLinesI_tri (s : SZ) (y : SY) (hy : SOK s y) (G : SETF s) (F : SF (stS s)) : Tri C0 12 12 (setHp 110 s 0) [.agg (cellsT s y 0)]
 (Fin' (fun _ => 13) (fun p : (Bool × Nat) × Option Nat => [(12, .strs 9 p.2 (linesT (stS s)))]) (fun p => .tup [slI p.1 12 1 (linesT (stS s)).length, .bool true]) (fun p => GOK' 1 (linesT (stS s)) p.1 p.2)) := by
 refine Tri.renX ?_
 have TS := set_tri s y hy G
 obtain ⟨st, has, z, rd, ex⟩ := s
 refine Tri.mk 14 [.tmp 2, .tmp 3] Tryz.func12 rfl rfl rfl rfl cf12 ?_; intro w0 S T ρ0
 refine w_ ?_
 refine WL_call [0, 1, 2, 3, 4, 5, 6, 7, 8, 9, 10, 11] (TS) rfl rfl rfl t_ t_ rfl rfl rfl rfl ?_; rintro _ _ _ ⟨q, rfl, rfl, rfl, hq⟩
 refine w_ ?_
 refine W_cond_false rfl ?_
 cases has with
 | false =>
   refine w_ ?_
   refine WL_call [13, 14, 15, 16, 17, 18, 19, 20, 21, 22, 23, 24, 25, 26] (recur_tri (stS ⟨st, false, z, rd, ex⟩) q hq.lok (GOKR_le hq.gr) (GOKR_le hq.ge) F) rfl rfl rfl t_ t_ rfl rfl rfl rfl ?_; rintro _ _ _ ⟨⟨ya,ma⟩, rfl, rfl, rfl, hG⟩
   refine w_ ?_
   refine W_ret ?_; (repeat (first | refine then_ret ?_ | refine inbl_ret ?_))
   exact ⟨_, _, rfl, s_, (ya, ma), [0, 1, 2, 3, 4, 5, 6, 7, 8, 9, 10, 11, 27], s_, rfl, rfl, rfl, rfl, s_, hG⟩
 | true =>
   refine w_ ?_
   refine WL_call [13, 14, 15, 16, 17, 18, 19, 20, 21, 22, 23, 24, 25, 26] (recur_tri (stS ⟨st, true, z, rd, ex⟩) q hq.lok (GOKR_le hq.gr) (GOKR_le hq.ge) F) rfl rfl rfl t_ t_ rfl rfl rfl rfl ?_; rintro _ _ _ ⟨⟨ya,ma⟩, rfl, rfl, rfl, hG⟩
   refine w_ ?_
   refine W_ret ?_; (repeat (first | refine then_ret ?_ | refine inbl_ret ?_))
   exact ⟨_, _, rfl, s_, (ya, ma), [0, 1, 2, 3, 4, 5, 6, 7, 8, 9, 10, 11, 27], s_, rfl, rfl, rfl, rfl, s_, hG⟩
set_option maxRecDepth 8192 in
set_option maxHeartbeats 4000000 in
theorem setText_tri (s : SZ) (y : SY) (hy : SOK s y) (G : SETF s) (F : SF (stS s)) : Tri C0 14 12 (setHp 110 s 0) [.agg (cellsT s y 0)]
 (Fin' (fun _ => 12) (fun _ => []) (fun _ => .tup [.str (Lib.join (linesT (stS s)) [10]), .bool true]) (fun _ : Unit => True)) := by
 refine Tri.renX ?_
 have TS := set_tri s y hy G
 obtain ⟨st, has, z, rd, ex⟩ := s
 refine Tri.mk 14 [.tmp 2, .tmp 3] Tryz.func14 rfl rfl rfl rfl cf14 ?_; intro w0 S T ρ0
 refine w_ ?_
 refine WL_call [0, 1, 2, 3, 4, 5, 6, 7, 8, 9, 10, 11] (TS) rfl rfl rfl t_ t_ rfl rfl rfl rfl ?_; rintro _ _ _ ⟨q, rfl, rfl, rfl, hq⟩
 refine w_ ?_
 refine W_cond_false rfl ?_
 cases has with
 | false =>
   refine w_ ?_
   refine WL_call [13, 14, 15, 16, 17, 18, 19, 20, 21, 22, 23, 24, 25, 26] (setStr_tri (stS ⟨st, false, z, rd, ex⟩) q hq.lok (GOKR_le hq.gr) (GOKR_le hq.ge) F) rfl rfl rfl t_ t_ rfl rfl rfl rfl ?_; rintro _ _ _ ⟨_, rfl, rfl, rfl, _⟩
   refine w_ ?_
   refine W_ret ?_; (repeat (first | refine then_ret ?_ | refine inbl_ret ?_))
   exact ⟨_, _, rfl, s_, (), [0, 1, 2, 3, 4, 5, 6, 7, 8, 9, 10, 11], s_, rfl, rfl, rfl, rfl, s_, trivial⟩
 | true =>
   refine w_ ?_
   refine WL_call [13, 14, 15, 16, 17, 18, 19, 20, 21, 22, 23, 24, 25, 26] (setStr_tri (stS ⟨st, true, z, rd, ex⟩) q hq.lok (GOKR_le hq.gr) (GOKR_le hq.ge) F) rfl rfl rfl t_ t_ rfl rfl rfl rfl ?_; rintro _ _ _ ⟨_, rfl, rfl, rfl, _⟩
   refine w_ ?_
   refine W_ret ?_; (repeat (first | refine then_ret ?_ | refine inbl_ret ?_))
   exact ⟨_, _, rfl, s_, (), [0, 1, 2, 3, 4, 5, 6, 7, 8, 9, 10, 11], s_, rfl, rfl, rfl, rfl, s_, trivial⟩
end Go.Eng
namespace Go.Eng
open Go.Proofs
attribute [local irreducible] W WL LP Then InBl Tri WS
structure LQ where
 l : List (List UInt8)
 y : Bool × Nat
 m : Option Nat
def slS (tm : Tm) (s : SZ) (y : SY) (q : LQ) : Nat × Tm × Hp := (14, (1, .ptr 12 0) :: (3, slI q.y 13 1 q.l.length) :: tm, (12, .cells 28 (some 22) (cellsT s y 0)) :: (13, .strs 9 q.m q.l) :: setHp 95 s 0)
structure LI (n : Nat) (q : LQ) : Prop where
 n : q.l.length = n
 g : GOK' 1 q.l q.y q.m
theorem LI_snoc {n : Nat} {q : LQ} {x : List UInt8} (h : LI n q) {c t : Nat} (hg : GOK' 1 (q.l ++ [x]) (false, c) (some t)) : LI (n + 1) ⟨q.l ++ [x], (false, c), some t⟩ := ⟨by rw [List.length_append, h.n]; rfl, hg⟩
theorem ln3_len (s : SZ) {k : Nat} (h : k ≤ s.rd.length) : (ln3 s k).length = (ln2 s).length + k := by
 unfold ln3; rw [List.length_append, List.length_map, List.length_take]; omega
theorem ln4_len (s : SZ) {k : Nat} (h : k ≤ s.ex.length) : (ln4 s k).length = (ln2 s).length + s.rd.length + k := by
 unfold ln4; rw [List.length_append, List.length_map, List.length_take, ln3_len s (Nat.le_refl _)]; omega
set_option maxRecDepth 8192 in
set_option maxHeartbeats 4000000 in
theorem setLinesS_tri (s : SZ) (y : SY) (hy : SOK s y) (F : SF s) (F2 : SF (stS s)) : Tri C0 10 12 (setHp 95 s 0) [.agg (cellsT s y 0)]
 (Fin' (fun _ => 13) (fun _ => []) (fun q : (Bool × Nat) × Nat => slI q.1 12 1 q.2) (fun q => q.2 = (linesT (stS s)).length)) := by
 refine Tri.renX ?_
 obtain ⟨l1, l2, l3, l4⟩ := ln_len (stS s)
 have hnr : s.rd.length ≤ 40 := F.nr
 have hne : s.ex.length ≤ 40 := F.ne
 have hy1 := hy.2.1
 have hy2 := hy.2.2
 refine Tri.mk 57 [.tmp 2] Tryz.func10 rfl rfl rfl rfl cf10 ?_; intro w0 S T ρ0
 refine v_ ?_
 refine WL_callR [0, 1, 2, 3, 4, 5, 6, 7, 8, 9, 10, 11] (setStart_tri s y) rfl rfl rfl t_ t_ rfl rfl rfl rfl ?_; rintro _ rfl
 refine v_ ?_
 refine W_mid (α := LQ) (slS [] s y) (LI (ln1 (stS s)).length) ?_ ?_
 · refine i_ ?_ ?_ <;> intro h
   · refine v_ ?_
     refine WL_callR [] (textTime_tri (startOf s) F2.st) rfl rfl rfl t_ t_ rfl rfl rfl rfl ?_; rintro _ ⟨t,ht,rfl⟩
     have hside : ([68, 84, 83, 84, 65, 82, 84, 58] : List UInt8).length + t.length ≤ 9223372036854775807 := by show 8 + _ ≤ _; omega
     refine v_ ?_
     refine WL_appN (FamS 9) [[68, 84, 83, 84, 65, 82, 84, 58] ++ t] rfl rfl rfl rfl rfl rfl rfl rfl rfl rfl rfl rfl rfl (Nat.le_of_ble_eq_true rfl) (Nat.le_refl _) ⟨Nat.le_of_ble_eq_true rfl, Nat.le_of_ble_eq_true rfl⟩ ?_
     intro cap tt h1 h2
     refine v_ ?_
     exact ⟨⟨[[68, 84, 83, 84, 65, 82, 84, 58] ++ t], (false, cap), some tt⟩, ⟨by unfold ln1; rw [show (stS s).start = startOf s from rfl, if_neg h]; rfl, .inr ⟨_, _, rfl, rfl, h1, h2⟩⟩, Imp_renG [0, 1, 2, 3, 4, 5, 6, 7, 8, 9, 10, 11, 12, 14] s_ s_ rfl rfl rfl⟩
   · refine v_ ?_
     exact ⟨⟨[], (true, 0), none⟩, ⟨by unfold ln1; rw [show (stS s).start = startOf s from rfl, if_pos h], .inl ⟨rfl, rfl, rfl⟩⟩, Imp_trans (Imp_nils (C := C0) (show 0 < 22 by omega) [.strs 9 none []] s_) (Imp_trans (Imp_tm 3 (slI (true, 0) 13 1 0) rfl (fun _ => rfl) s_) (Imp_renG [0, 1, 2, 3, 4, 5, 6, 7, 8, 9, 10, 11, 12, 13] s_ s_ rfl rfl rfl))⟩
 rintro ⟨l, yl, m⟩ I
 refine v_ ?_
 refine W_mid (α := LQ) (slS [] s y) (LI (ln2 (stS s)).length) ?_ ?_
 · refine W_cond rfl (fun h => ?_) (fun h => ?_)
   rotate_left 1
   · refine v_ ?_
     exact ⟨⟨l, yl, m⟩, ⟨by rw [I.n]; unfold ln2; simp only [show (stS s).has = s.has from rfl, show s.has = false from h]; rfl, I.g⟩, Imp_renG [0, 1, 2, 3, 4, 5, 6, 7, 8, 9, 10, 11, 12, 13] s_ s_ rfl rfl rfl⟩
   have h : s.has = true := h
   refine v_ ?_
   refine WL_callR [0, 1, 2, 3, 4, 5, 6, 7, 8, 9] (ruleString_tri s.z y.y hy.1 F.z) rfl rfl rfl t_ t_ rfl rfl rfl rfl ?_; rintro _ ⟨t,ht,rfl⟩
   have hside : ([82, 82, 85, 76, 69, 58] : List UInt8).length + t.length ≤ 9223372036854775807 := by show 6 + _ ≤ _; omega
   refine v_ ?_
   refine WL_appK (FamS 9) (fun m => .strs 9 m l) (l) ([[82, 82, 85, 76, 69, 58] ++ t]) (I.g) (fun _ => rfl) rfl rfl rfl rfl rfl rfl rfl rfl rfl rfl rfl rfl rfl rfl rfl rfl (Nat.le_of_ble_eq_true rfl) (Nat.le_refl _) ?_ ?_
   · have := I.n; simp only at this; exact ⟨by show _ + 1 ≤ _; omega, by show (_ + 1) * 16 ≤ _; omega⟩
   intro cap tt hG
   refine v_ ?_
   exact ⟨⟨l ++ [[82, 82, 85, 76, 69, 58] ++ t], (false, cap), some tt⟩, by rw [show (ln2 (stS s)).length = (ln1 (stS s)).length + 1 by unfold ln2; rw [show (stS s).has = s.has from rfl, h, if_pos rfl, List.length_append]; rfl]; exact LI_snoc I hG, Imp_renG [0, 1, 2, 3, 4, 5, 6, 7, 8, 9, 10, 11, 12, 15] s_ s_ rfl rfl rfl⟩
 clear I l yl m
 rintro ⟨l, yl, m⟩ I
 refine v_ ?_
 refine W_loop ?_
 refine LP_renG [0, 1, 2, 3, 4, 5, 6, 7, 8, 9, 10, 11, 12, 13] (LP_ind 14 (fun q : Nat × LQ => ((slS [(29, slI y.yr 10 1 s.rd.length), (30, .int .i64 s.rd.length), (31, .int .i64 q.1)] s y q.2).2.1, (slS [] s y q.2).2.2)) (fun q => s.rd.length - q.1)
  (fun q => q.1 ≤ s.rd.length ∧ LI ((ln2 (stS s)).length + q.1) q.2) (0, ⟨l, yl, m⟩) ?_ ⟨Nat.zero_le _, I⟩) s_ s_ rfl rfl rfl
 clear I l yl m
 rintro ⟨i, ⟨l, yl, m⟩⟩ ⟨g1, I⟩ ih
 simp only at g1 I
 refine LP_round ?_; try dsimp only
 refine v_ ?_
 refine i_ ?_ ?_ <;> intro h
 rotate_left 1
 · have h : i = s.rd.length := by omega
   subst h
   refine v_ ?_
   refine x_ ?_
   clear ih g1
   refine v_ ?_
   refine W_loop ?_
   refine LP_renG [0, 1, 2, 3, 4, 5, 6, 7, 8, 9, 10, 11, 12, 13] (LP_ind 14 (fun q : Nat × LQ => ((slS [(43, slI y.ye 11 1 s.ex.length), (44, .int .i64 s.ex.length), (45, .int .i64 q.1)] s y q.2).2.1, (slS [] s y q.2).2.2)) (fun q => s.ex.length - q.1)
    (fun q => q.1 ≤ s.ex.length ∧ LI ((ln2 (stS s)).length + s.rd.length + q.1) q.2) (0, ⟨l, yl, m⟩) ?_ ⟨Nat.zero_le _, I⟩) s_ s_ rfl rfl rfl
   clear I l yl m
   rintro ⟨i, ⟨l, yl, m⟩⟩ ⟨g1, I⟩ ih
   simp only at g1 I
   refine LP_round ?_; try dsimp only
   refine v_ ?_
   refine i_ ?_ ?_ <;> intro h
   rotate_left 1
   · have h : i = s.ex.length := by omega
     subst h
     refine v_ ?_
     refine x_ ?_
     refine v_ ?_
     refine W_ret ?_; (repeat (first | refine then_ret ?_ | refine inbl_ret ?_))
     exact ⟨_, _, rfl, s_, (yl, l.length), [0, 1, 2, 3, 4, 5, 6, 7, 8, 9, 10, 11, 13], s_, rfl, rfl, rfl, rfl, s_, by rw [I.n]; exact (ln4_len (stS s) (Nat.le_refl _)).symm⟩
   have h : i < s.ex.length := by omega
   refine v_ ?_
   rw [show 0 + (i : Int).toNat = i by omega]
   refine v_ ?_
   refine WL_callR [] (textTime_tri (s.ex.getD i 0) (F.ex _ (getDI_mem h))) rfl rfl rfl t_ t_ rfl rfl rfl rfl ?_; rintro _ ⟨t,ht,rfl⟩
   have hside : ([69, 88, 68, 65, 84, 69, 58] : List UInt8).length + t.length ≤ 9223372036854775807 := by show 7 + _ ≤ _; omega
   refine v_ ?_
   refine WL_appK (FamS 9) (fun m => .strs 9 m l) (l) ([[69, 88, 68, 65, 84, 69, 58] ++ t]) (I.g) (fun _ => rfl) rfl rfl rfl rfl rfl rfl rfl rfl rfl rfl rfl rfl rfl rfl rfl rfl (Nat.le_of_ble_eq_true rfl) (Nat.le_refl _) ?_ ?_
   · have := I.n; simp only at this; exact ⟨by show _ + 1 ≤ _; omega, by show (_ + 1) * 16 ≤ _; omega⟩
   intro cap tt hG
   refine v_ ?_
   exact LP_renG [0, 1, 2, 3, 4, 5, 6, 7, 8, 9, 10, 11, 12, 15] (ih (i + 1, ⟨l ++ [[69, 88, 68, 65, 84, 69, 58] ++ t], (false, cap), some tt⟩) ⟨h, LI_snoc I hG⟩ (by simp only; omega)) s_ s_ rfl rfl rfl
 have h : i < s.rd.length := by omega
 refine v_ ?_
 rw [show 0 + (i : Int).toNat = i by omega]
 refine v_ ?_
 refine WL_callR [] (textTime_tri (s.rd.getD i 0) (F.rd _ (getDI_mem h))) rfl rfl rfl t_ t_ rfl rfl rfl rfl ?_; rintro _ ⟨t,ht,rfl⟩
 have hside : ([82, 68, 65, 84, 69, 58] : List UInt8).length + t.length ≤ 9223372036854775807 := by show 6 + _ ≤ _; omega
 refine v_ ?_
 refine WL_appK (FamS 9) (fun m => .strs 9 m l) (l) ([[82, 68, 65, 84, 69, 58] ++ t]) (I.g) (fun _ => rfl) rfl rfl rfl rfl rfl rfl rfl rfl rfl rfl rfl rfl rfl rfl rfl rfl (Nat.le_of_ble_eq_true rfl) (Nat.le_refl _) ?_ ?_
 · have := I.n; simp only at this; exact ⟨by show _ + 1 ≤ _; omega, by show (_ + 1) * 16 ≤ _; omega⟩
 intro cap tt hG
 refine v_ ?_
 exact LP_renG [0, 1, 2, 3, 4, 5, 6, 7, 8, 9, 10, 11, 12, 15] (ih (i + 1, ⟨l ++ [[82, 68, 65, 84, 69, 58] ++ t], (false, cap), some tt⟩) ⟨h, LI_snoc I hG⟩ (by simp only; omega)) s_ s_ rfl rfl rfl
end Go.Eng
