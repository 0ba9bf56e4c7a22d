/- A part of the proof that the rows statement FnSetBack holds; no conditions. -/
import Derived.Test.YthkgjhnckakliaaGreatDoorZAB
import Derived.Laws.StructEq
set_option linter.unusedVariables false
set_option linter.unusedSimpArgs false
set_option linter.unusedSectionVars false
namespace Go.Eng
def nilR : AV → AV → Option Bool
 | .ptr _ _, .v (.pointer none) => some false
 | .v (.pointer none), .v (.pointer none) => some true
 | .ifc _ _, .v .nilIface => some false
 | .v .nilIface, .v .nilIface => some true
 | .v .nilIface, .ifc _ _ => some false
 | _, _ => none
def isConstO : Operand → Bool
 | .const _ => true
 | _ => false
def nilOK : TypeDesc → AV → Bool
 | .pointer _, .v (.pointer none) => true
 | .pointer _, .ptr _ _ => true
 | .interface _, .v .nilIface => true
 | .interface _, .ifc _ _ => true
 | _, _ => false
def eqnV (C : Cx) (op : BinOp) (t : TypeId) (oy : Operand) (x y : AV) : RV :=
 (C.ti t).bind fun s => bif isConstO oy && nilOK s.desc x && nilOK s.desc y then
  (nilR x y).bind fun b => match op with | .eql => some (True, .bool b) | .neq => some (True, .bool (!b)) | _ => none
 else none
theorem run_equalIn_nil {C : Cx} {w : World} {ρ : Nat → Nat × Nat} {t : TypeId} {s : TS} {x y : AV} {b : Bool} (d : Nat) (hs : C.ti t = some s) (h1 : nilOK s.desc x = true) (h2 : nilOK s.desc y = true) (h : nilR x y = some b) :
 (Op.equalIn (d + 1) t (x.den ρ) (y.den ρ)).run C.P w = .ok b w := by
 simp only [Op.equalIn, Sem.run_bind, run_underlying hs, Result.andThen_ok]
 unfold nilR at h
 split at h <;> simp only [Option.some.injEq, reduceCtorEq] at h <;> subst h <;>
  (revert h1 h2; cases s.desc <;> intro h1 h2 <;> simp only [nilOK, Bool.false_eq_true] at h1 h2 <;> rfl)
theorem run_equal_nil {C : Cx} {w : World} {ρ : Nat → Nat × Nat} {t : TypeId} {s : TS} {x y : AV} {b : Bool} (hs : C.ti t = some s) (h1 : nilOK s.desc x = true) (h2 : nilOK s.desc y = true) (h : nilR x y = some b) :
 (Op.equal t (x.den ρ) (y.den ρ)).run C.P w = .ok b w := run_equalIn_nil 9999 hs h1 h2 h
theorem eqnV_sound {C : Cx} {w : World} {ρ : Nat → Nat × Nat} {op : BinOp} {t : TypeId} {ox oy : Operand} {x y av : AV} {φ : Prop} (h : eqnV C op t oy x y = some (φ, av)) :
 (do eqGuard op t ox oy (x.den ρ) (y.den ρ); binOp op t (x.den ρ) (y.den ρ)).run C.P w = .ok (av.den ρ) w ∧ ∀ n, av.lt n := by
 unfold eqnV at h
 cases hs : C.ti t with
 | none => rw [hs] at h; cases h
 | some s =>
   rw [hs] at h
   simp only [Option.bind_some] at h
   cases hc : (isConstO oy && nilOK s.desc x && nilOK s.desc y) <;> rw [hc] at h
   · cases h
   · simp only [cond_true] at h
     simp only [Bool.and_eq_true] at hc
     obtain ⟨⟨hc, h1⟩, h2⟩ := hc
     cases hr : nilR x y with
     | none => rw [hr] at h; cases h
     | some b =>
       rw [hr] at h
       simp only [Option.bind_some] at h
       have hg : (eqGuard op t ox oy (x.den ρ) (y.den ρ)).run C.P w = .ok () w := by
        unfold eqGuard
        cases oy <;> simp only [isConstO, Bool.false_eq_true] at hc
        split at h
        all_goals (simp only [Option.some.injEq, Prod.mk.injEq, reduceCtorEq] at h)
        all_goals
         unfold nilR at hr
         split at hr <;> simp only [Option.some.injEq, reduceCtorEq] at hr <;> first | rfl | (simp [AV.den]; done)
       have he := run_equal_nil (w := w) (ρ := ρ) hs h1 h2 hr
       split at h
       all_goals (simp only [Option.some.injEq, Prod.mk.injEq, reduceCtorEq] at h)
       all_goals
        obtain ⟨rfl, rfl⟩ := h
        refine ⟨?_, fun _ => trivial⟩
        simp only [Sem.run_bind, hg, Result.andThen_ok]
        unfold nilR at hr
        split at hr <;> simp only [Option.some.injEq, reduceCtorEq] at hr <;> subst hr <;>
         (simp only [AV.den] at he ⊢; simp only [binOp, Sem.run_bind, he, Result.andThen_ok, Sem.run_pure])
def setL (cs : List AV) (off : Nat) (l : List AV) : List AV := cs.take off ++ l ++ cs.drop (off + l.length)
def fillL (place : Nat → Option (Nat × Nat)) : List AV → List (Nat × AV) → Option (List AV)
 | cs, [] => some cs
 | cs, (i, v) :: rest =>
   match place i with
   | none => none
   | some (off, size) =>
     match v.cellsL with
     | none => none
     | some l => bif Nat.beq l.length size && Nat.ble (off + size) cs.length then fillL place (setL cs off l) rest else none
def Value.plain1 : Value → Bool
 | .agg _ | .tuple _ => false
 | _ => true
theorem den_plain {ρ : Nat → Nat × Nat} {a : AV} (h : a.plain1 = true) : (a.den ρ).cells = #[a.den ρ] ∧ Value.plain1 (a.den ρ) = true := by
 cases a <;> simp only [AV.plain1, Bool.false_eq_true] at h <;> try exact ⟨rfl, rfl⟩
 case v x => cases x <;> simp only [Bool.false_eq_true] at h <;> exact ⟨rfl, rfl⟩
theorem cellsL_den {ρ : Nat → Nat × Nat} {v : AV} {l : List AV} (h : v.cellsL = some l) : (v.den ρ).cells = (denL ρ l).toArray ∧ ∀ a ∈ l, a.plain1 = true := by
 unfold AV.cellsL at h
 split at h
 · rename_i cs
   cases hc : cs.all AV.plain1 <;> rw [hc] at h
   · cases h
   · simp only [cond_true, Option.some.injEq] at h
     subst h
     exact ⟨rfl, List.all_eq_true.1 hc⟩
 · cases hc : v.plain1 <;> rw [hc] at h
   · cases h
   · simp only [cond_true, Option.some.injEq] at h
     subst h
     refine ⟨?_, by intro a ha; simp only [List.mem_singleton] at ha; subst ha; exact hc⟩
     rw [(den_plain hc).1]; rfl
theorem cellsL_lt {n : Nat} {v : AV} {l : List AV} (h : v.cellsL = some l) (hl : v.lt n) : ltL n l := by
 unfold AV.cellsL at h
 split at h
 · rename_i cs
   cases hc : cs.all AV.plain1 <;> rw [hc] at h
   · cases h
   · simp only [cond_true, Option.some.injEq] at h; subst h; exact hl
 · cases hc : v.plain1 <;> rw [hc] at h
   · cases h
   · simp only [cond_true, Option.some.injEq] at h; subst h; exact ⟨hl, trivial⟩
theorem setL_length {cs l : List AV} {off : Nat} (h : off + l.length ≤ cs.length) : (setL cs off l).length = cs.length := by
 simp only [setL, List.length_append, List.length_take, List.length_drop]; omega
theorem setL_lt {n : Nat} {cs l : List AV} {off : Nat} (h1 : ltL n cs) (h2 : ltL n l) : ltL n (setL cs off l) := by
 simp only [setL, ltL_append]
 refine ⟨⟨?_, h2⟩, ?_⟩
 · rw [ltL_iff] at *; exact fun a ha => h1 a (List.mem_of_mem_take ha)
 · rw [ltL_iff] at *; exact fun a ha => h1 a (List.mem_of_mem_drop ha)
theorem denL_setL (ρ : Nat → Nat × Nat) (cs l : List AV) (off : Nat) : denL ρ (setL cs off l) = (denL ρ cs).take off ++ denL ρ l ++ (denL ρ cs).drop (off + l.length) := by
 simp only [setL, denL_eq_map, List.map_append, List.map_take, List.map_drop]
theorem foldl_set (vs : List Value) : ∀ (k off : Nat) (cs : List Value), off + k + vs.length ≤ cs.length →
 (vs.zipIdx k).foldl (fun (cs : Array Value) (p : Value × Nat) => cs.setIfInBounds (off + p.2) p.1) cs.toArray = (cs.take (off + k) ++ vs ++ cs.drop (off + k + vs.length)).toArray := by
 induction vs with
 | nil => intro k off cs h; simp
 | cons v vs ih =>
   intro k off cs h
   simp only [List.zipIdx_cons, List.foldl_cons, List.length_cons] at *
   have hl : off + k < cs.length := by omega
   rw [show cs.toArray.setIfInBounds (off + k) v = (cs.set (off + k) v).toArray from by simp]
   rw [ih (k + 1) off (cs.set (off + k) v) (by simp; omega)]
   congr 1
   rw [List.set_eq_take_append_cons_drop, if_pos hl]
   have e1 : off + (k + 1) = off + k + 1 := by omega
   rw [e1]
   have e2 : (List.take (off + k) cs).length = off + k := by rw [List.length_take]; omega
   rw [List.take_append, e2, List.take_of_length_le (by rw [e2]; omega), show off + k + 1 - (off + k) = 1 from by omega, List.take_succ_cons, List.take_zero]
   rw [List.drop_append, e2, List.drop_of_length_le (by rw [e2]; omega), show off + k + 1 + vs.length - (off + k) = vs.length + 1 from by omega, List.drop_succ_cons, List.drop_drop]
   simp only [List.append_assoc, List.nil_append, List.cons_append]
   rw [show off + k + 1 + vs.length = off + k + (vs.length + 1) from by omega]
theorem fillL_sound {ρ : Nat → Nat × Nat} {place : Nat → Option (Nat × Nat)} : ∀ (parts : List (Nat × AV)) (cs : List AV) {out : List AV}, fillL place cs parts = some out →
 Instr.fill place (denL ρ cs).toArray (parts.map fun p => (p.1, p.2.den ρ)) = some (denL ρ out).toArray := by
 intro parts
 induction parts with
 | nil => intro cs out h; simp only [fillL, Option.some.injEq] at h; subst h; rfl
 | cons p parts ih =>
   obtain ⟨i, v⟩ := p
   intro cs out h
   simp only [fillL] at h
   simp only [List.map_cons, Instr.fill]
   split at h
   · cases h
   · rename_i off size hp
     rw [hp]
     split at h
     · cases h
     · rename_i l hl
       obtain ⟨h1, h2⟩ := cellsL_den (ρ := ρ) hl
       cases hb : (Nat.beq l.length size && Nat.ble (off + size) cs.length) <;> rw [hb] at h
       · cases h
       · simp only [cond_true] at h
         simp only [Bool.and_eq_true] at hb
         have hb1 := Nat.eq_of_beq_eq_true hb.1
         have hb2 := Nat.le_of_ble_eq_true hb.2
         simp only [h1, List.size_toArray, denL_length]
         rw [if_neg (by simp; omega)]
         have := foldl_set (denL ρ l) 0 off (denL ρ cs) (by simp only [denL_length]; omega)
         rw [← Array.foldl_toList, Array.toList_zipIdx]
         show Instr.fill place (List.foldl (fun (cs : Array Value) (p : Value × Nat) => cs.setIfInBounds (off + p.2) p.1) (denL ρ cs).toArray ((denL ρ l).zipIdx 0)) _ = _
         rw [this, Nat.add_zero, denL_length, ← denL_setL]
         exact ih _ h
theorem fillL_lt {n : Nat} {place : Nat → Option (Nat × Nat)} : ∀ (parts : List (Nat × AV)) (cs : List AV) {out : List AV}, fillL place cs parts = some out → ltL n cs → (∀ p ∈ parts, p.2.lt n) → ltL n out := by
 intro parts
 induction parts with
 | nil => intro cs out h h1 h2; simp only [fillL, Option.some.injEq] at h; subst h; exact h1
 | cons p parts ih =>
   obtain ⟨i, v⟩ := p
   intro cs out h h1 h2
   simp only [fillL] at h
   split at h
   · cases h
   · split at h
     · cases h
     · rename_i l hl
       revert h
       cases (Nat.beq l.length _ && Nat.ble _ cs.length) <;> intro h
       · cases h
       · exact ih _ h (setL_lt h1 (cellsL_lt hl (h2 (i, v) (by simp)))) (fun p hp => h2 p (by simp [hp]))
end Go.Eng
namespace Go.Eng
structure Cy extends Cx where
 eqts : List Nat
 eq2 : ∀ t, eqts.any (Nat.beq t) = true → (P.eqGuardType P.depth t = false) ∧
  ∀ a b c d w, (Op.equal t (.agg #[.int .i64 a, .int .i64 b]) (.agg #[.int .i64 c, .int .i64 d])).run P w = .ok (a == c && b == d) w
def eqsV (C : Cy) (op : BinOp) (t : TypeId) : AV → AV → RV
 | .agg [.int .i64 a, .int .i64 b], .agg [.int .i64 c, .int .i64 d] => bif C.eqts.any (Nat.beq t) then
  (match op with | .eql => some (True, .bool (a == c && b == d)) | .neq => some (True, .bool (!(a == c && b == d))) | _ => none) else none
 | .bool a, .bool b => (C.ti t).bind fun s => match s.desc, op with
   | .bool, .eql => some (True, .bool (a == b))
   | .bool, .neq => some (True, .bool (!(a == b)))
   | _, _ => none
 | _, _ => none
theorem eqsV_sound {C : Cy} {w : World} {ρ : Nat → Nat × Nat} {op : BinOp} {t : TypeId} {ox oy : Operand} {x y av : AV} {φ : Prop} (h : eqsV C op t x y = some (φ, av)) :
 (do eqGuard op t ox oy (x.den ρ) (y.den ρ); binOp op t (x.den ρ) (y.den ρ)).run C.P w = .ok (av.den ρ) w ∧ ∀ n, av.lt n := by
 unfold eqsV at h
 split at h
 · rename_i a b c d
   cases hc : C.eqts.any (Nat.beq t) <;> rw [hc] at h
   · cases h
   · simp only [cond_true] at h
     obtain ⟨h1, h2⟩ := C.eq2 t hc
     have hg : (eqGuard op t ox oy (.agg #[.int .i64 a, .int .i64 b]) (.agg #[.int .i64 c, .int .i64 d])).run C.P w = .ok () w := run_eqGuard_agg w op t ox oy _ _ h1
     have he := h2 a b c d w
     simp only [AV.den, denL]
     split at h
     all_goals (simp only [Option.some.injEq, Prod.mk.injEq, reduceCtorEq] at h)
     all_goals
      obtain ⟨rfl, rfl⟩ := h
      refine ⟨?_, fun _ => trivial⟩
      simp only [Sem.run_bind, hg, Result.andThen_ok, binOp, he, Sem.run_pure, AV.den]
 · rename_i a b
   cases hs : C.ti t with
   | none => rw [hs] at h; cases h
   | some s =>
     rw [hs] at h
     simp only [Option.bind_some] at h
     have he : s.desc = .bool → (Op.equal t (.bool a) (.bool b)).run C.P w = .ok (a == b) w := by
      intro hd
      have key : ∀ d, (Op.equalIn (d + 1) t (.bool a) (.bool b)).run C.P w = .ok (a == b) w := fun d => by
       simp only [Op.equalIn, Sem.run_bind, run_underlying hs, Result.andThen_ok, hd, Sem.run_pure]
      exact key 9999
     have hg : (eqGuard op t ox oy (.bool a) (.bool b)).run C.P w = .ok () w := by
      unfold eqGuard; cases op <;> rfl
     simp only [AV.den]
     split at h
     · rename_i hd
       simp only [Option.some.injEq, Prod.mk.injEq] at h
       obtain ⟨rfl, rfl⟩ := h
       refine ⟨?_, fun _ => trivial⟩
       simp only [Sem.run_bind, hg, Result.andThen_ok, binOp, he hd, Sem.run_pure, AV.den]
     · rename_i hd
       simp only [Option.some.injEq, Prod.mk.injEq] at h
       obtain ⟨rfl, rfl⟩ := h
       refine ⟨?_, fun _ => trivial⟩
       simp only [Sem.run_bind, hg, Result.andThen_ok, binOp, he hd, Sem.run_pure, AV.den]
     · cases h
 · cases h
def orElse (a b : RV) : RV := match a with | some x => some x | none => b
theorem orElse_some {a b : RV} {x : Prop × AV} (h : orElse a b = some x) : a = some x ∨ b = some x := by
 unfold orElse at h; split at h
 · exact .inl h
 · exact .inr h
def evs (tm : Tm) : List Operand → Option (List AV)
 | [] => some []
 | x :: l => (ev tm x).bind fun a => (evs tm l).map fun r => a :: r
def evi (tm : Tm) : Option Operand → Option (Option Int)
 | none => some none
 | some x => match ev tm x with | some (.int _ i) => some (some i) | _ => none
def isSlD : TypeDesc → Bool
 | .slice _ => true
 | _ => false
def lenOK : TypeDesc → AV → Bool
 | .string, .str _ => true
 | .slice _, .sl _ _ _ _ _ _ => true
 | .slice _, .v (.slice none 0 _) => true
 | _, _ => false
def notArr : TypeDesc → Bool
 | .array _ _ => false
 | _ => true
def pv (C : Cy) (tm : Tm) (hp : Hp) : Op → RV
 | .move x => (ev tm x).map fun a => (True, a)
 | .assign x => (ev tm x).map fun a => (True, a)
 | .pick c a b => (ev tm c).bind fun r => match r with
   | .bool true => (ev tm a).map fun a => (True, a)
   | .bool false => (ev tm b).map fun a => (True, a)
   | _ => none
 | .binOp op t x y _ => (ev tm x).bind fun a => (ev tm y).bind fun b => orElse (bin op a b) (orElse (eqnV C.toCx op t y a b) (eqsV C op t a b))
 | .unOp op _ x => (ev tm x).bind (unV op)
 | .convert s d x => (ev tm x).bind (convV C.toCx s d)
 | .load t x => (ev tm x).bind (loadV C.toCx hp t)
 | .field t x f => (ev tm x).bind (fieldV C.toCx t f)
 | .fieldAddr t x f => (ev tm x).bind (fieldAddrV C.toCx t f)
 | .indexAddr t x i => (ev tm x).bind fun a => (ev tm i).bind (indexAddrV C.toCx t a)
 | .index t x i => (ev tm x).bind fun a => (ev tm i).bind (indexV C.toCx t a)
 | .slice t x lo hi none => (C.ti t).bind fun s => bif notArr s.desc then (ev tm x).bind fun a => (evi tm lo).bind fun l => (evi tm hi).bind fun h => sliceV C.toCx t a l h else none
 | .extract x i => (ev tm x).bind (extrV i)
 | .makeInterface t x => (ev tm x).bind (mkifV C.toCx t)
 | .makeFunc f a b => (evs tm a.toList).bind fun l => (evs tm b.toList).map fun r => (True, .fn f l r)
 | .nilCheck x => (ev tm x).bind nilV
 | .build t parts => (C.ti t).bind fun s => (s.zero).bind fun z => (absV z).cellsL.bind fun zs => (evs tm (parts.toList.map (·.2))).bind fun vs =>
  match s.desc with
  | .struct fs => (fillL (fun i => (fs[i]?).bind fun f => (C.ti f.type).map fun ts => (f.offset, ts.size)) zs ((parts.toList.map (·.1)).zip vs)).bind fun l =>
   bif fs.toList.all fun f => (C.ti f.type).isSome then some (True, .agg l) else none
  | .array _ e => (C.ti e).bind fun te => (fillL (fun i => some (i * te.size, te.size)) zs ((parts.toList.map (·.1)).zip vs)).map fun l => (True, .agg l)
  | _ => none
 | .call c => match c.callee, c.args.toList, c.argTypes.toList with
   | .builtin .len, [x], [t] => (C.ti t).bind fun s => (ev tm x).bind fun a => bif lenOK s.desc a then lenV a else none
   | .builtin .cap, [x], [t] => (C.ti t).bind fun s => (ev tm x).bind fun a => bif isSlD s.desc then capV a else none
   | _, _, _ => none
 | _ => none
theorem evs_sound {C : Cx} {E : En} {ρ : Nat → Nat × Nat} {nx : Nat} {tm : Tm} {hp : Hp} {a : Act} {w : World} (H : ST C E ρ nx tm hp a w) : ∀ (l : List Operand) {r : List AV},
 evs tm l = some r → l.map a.eval = denL ρ r ∧ ltL nx r := by
 intro l
 induction l with
 | nil => intro r h; simp only [evs, Option.some.injEq] at h; subst h; exact ⟨rfl, trivial⟩
 | cons x l ih =>
   intro r h
   simp only [evs] at h
   cases hx : ev tm x with
   | none => rw [hx] at h; cases h
   | some v =>
     cases hl : evs tm l with
     | none => rw [hx, hl] at h; cases h
     | some q =>
       rw [hx, hl] at h
       simp only [Option.bind_some, Option.map_some, Option.some.injEq] at h
       subst h
       obtain ⟨h1, h2⟩ := H.ev hx
       obtain ⟨h3, h4⟩ := ih hl
       exact ⟨by simp only [List.map_cons, h1, h3, denL], h2, h4⟩
theorem evi_sound {C : Cx} {E : En} {ρ : Nat → Nat × Nat} {nx : Nat} {tm : Tm} {hp : Hp} {a : Act} {w : World} (H : ST C E ρ nx tm hp a w) {x : Option Operand} {r : Option Int}
 (h : evi tm x = some r) : ∃ k, x.map a.eval = BO k r := by
 cases x with
 | none => simp only [evi, Option.some.injEq] at h; subst h; exact ⟨none, rfl⟩
 | some x =>
   simp only [evi] at h
   split at h
   · rename_i k i hx
     simp only [Option.some.injEq] at h
     subst h
     exact ⟨some k, by simp only [Option.map_some, (H.ev hx).1, AV.den, BO, Option.getD_some]⟩
   · cases h
theorem bind_some' {α β : Type} {a : Option α} {f : α → Option β} {b : β} (h : a.bind f = some b) : ∃ x, a = some x ∧ f x = some b := by
 cases a with
 | none => cases h
 | some x => exact ⟨x, rfl, h⟩
theorem map_some' {α β : Type} {a : Option α} {f : α → β} {b : β} (h : a.map f = some b) : ∃ x, a = some x ∧ f x = b := by
 cases a with
 | none => cases h
 | some x => exact ⟨x, rfl, by simpa using h⟩
theorem run_val {P : Program} {w : World} {s : Sem Value} {v : Value} (h : s.run P w = .ok v w) : (do pure (.value (← s)) : Sem Next).run P w = .ok (.value v) w := by
 simp only [Sem.run_bind, h, Result.andThen_ok, Sem.run_pure]
theorem mapM_places {C : Cx} {w : World} (fs : List Field) (h : fs.all (fun f => (C.ti f.type).isSome) = true) :
 ∃ ps : List (Nat × Nat), (fs.mapM (m := Sem) fun (f : Field) => do pure (f.offset, ← sizeOf f.type)).run C.P w = .ok ps w ∧ ∀ i : Nat, ps[i]? = (fs[i]?).bind fun (f : Field) => (C.ti f.type).map fun ts => (f.offset, ts.size) := by
 induction fs with
 | nil => exact ⟨[], rfl, fun i => by simp⟩
 | cons f fs ih =>
   simp only [List.all_cons, Bool.and_eq_true] at h
   obtain ⟨ps, h1, h2⟩ := ih h.2
   obtain ⟨ts, hts⟩ := Option.isSome_iff_exists.1 h.1
   refine ⟨(f.offset, ts.size) :: ps, ?_, ?_⟩
   · simp only [List.mapM_cons, Sem.run_bind, run_sizeOf hts, Result.andThen_ok, Sem.run_pure, h1]
   · intro i
     cases i with
     | zero => simp [hts]
     | succ i => simpa using h2 i
theorem pv_sound {C : Cy} {E : En} {ρ : Nat → Nat × Nat} {nx : Nat} {tm : Tm} {hp : Hp} {a : Act} {w : World} (H : ST C.toCx E ρ nx tm hp a w) {o : Oper} {φ : Prop} {av : AV}
 (h : pv C tm hp o.op = some (φ, av)) (hφ : φ) : (execOp a.eval o).run C.P w = .ok (.value (av.den ρ)) w ∧ av.lt nx := by
 unfold execOp
 generalize o.op = op at h
 unfold pv at h
 split at h
 · obtain ⟨v, hv, e⟩ := map_some' h
   cases e
   obtain ⟨h1, h2⟩ := H.ev hv
   exact ⟨by simp only [h1]; rfl, h2⟩
 · obtain ⟨v, hv, e⟩ := map_some' h
   cases e
   obtain ⟨h1, h2⟩ := H.ev hv
   exact ⟨by simp only [h1]; rfl, h2⟩
 · obtain ⟨c, hc, h⟩ := bind_some' h
   have hc1 := (H.ev hc).1
   split at h
   · obtain ⟨v, hv, e⟩ := map_some' h
     cases e
     obtain ⟨h1, h2⟩ := H.ev hv
     refine ⟨?_, h2⟩
     simp only [hc1, AV.den, asBool, Sem.run_bind, Sem.run_pure, Result.andThen_ok, if_true, h1]
   · obtain ⟨v, hv, e⟩ := map_some' h
     cases e
     obtain ⟨h1, h2⟩ := H.ev hv
     refine ⟨?_, h2⟩
     simp only [hc1, AV.den, asBool, Sem.run_bind, Sem.run_pure, Result.andThen_ok, Bool.false_eq_true, if_false, h1]
   · cases h
 · obtain ⟨x, hx, h⟩ := bind_some' h
   obtain ⟨y, hy, h⟩ := bind_some' h
   have hx1 := (H.ev hx).1
   have hy1 := (H.ev hy).1
   simp only [hx1, hy1]
   rcases orElse_some h with h | h
   · obtain ⟨h1, h2⟩ := bin_sound (P := C.P) (w := w) (ρ := ρ) _ _ _ h hφ
     exact ⟨run_val h1, h2 _⟩
   · rcases orElse_some h with h | h
     · obtain ⟨h1, h2⟩ := eqnV_sound (w := w) (ρ := ρ) h
       exact ⟨run_val h1, h2 _⟩
     · obtain ⟨h1, h2⟩ := eqsV_sound (w := w) (ρ := ρ) h
       exact ⟨run_val h1, h2 _⟩
 · obtain ⟨x, hx, h⟩ := bind_some' h
   obtain ⟨h1, h2⟩ := unV_sound (P := C.P) (w := w) (ρ := ρ) h hφ
   simp only [(H.ev hx).1]
   exact ⟨run_val h1, h2 _⟩
 · obtain ⟨x, hx, h⟩ := bind_some' h
   obtain ⟨h1, h2⟩ := convV_sound (w := w) (ρ := ρ) h hφ
   simp only [(H.ev hx).1]
   exact ⟨run_val h1, h2 _⟩
 · obtain ⟨x, hx, h⟩ := bind_some' h
   obtain ⟨h1, h2⟩ := loadV_sound H.heap h hφ
   simp only [(H.ev hx).1]
   exact ⟨run_val h1, h2⟩
 · obtain ⟨x, hx, h⟩ := bind_some' h
   obtain ⟨h1, h2⟩ := fieldV_sound (w := w) (ρ := ρ) h (H.ev hx).2
   simp only [(H.ev hx).1]
   exact ⟨run_val h1, h2⟩
 · obtain ⟨x, hx, h⟩ := bind_some' h
   obtain ⟨h1, h2⟩ := fieldAddrV_sound (w := w) (ρ := ρ) h (H.ev hx).2
   simp only [(H.ev hx).1]
   exact ⟨run_val h1, h2⟩
 · obtain ⟨x, hx, h⟩ := bind_some' h
   obtain ⟨y, hy, h⟩ := bind_some' h
   obtain ⟨h1, h2⟩ := indexAddrV_sound (w := w) (ρ := ρ) h hφ (H.ev hx).2
   simp only [(H.ev hx).1, (H.ev hy).1]
   exact ⟨run_val h1, h2⟩
 · obtain ⟨x, hx, h⟩ := bind_some' h
   obtain ⟨y, hy, h⟩ := bind_some' h
   obtain ⟨h1, h2⟩ := indexV_sound (w := w) (ρ := ρ) h hφ (H.ev hx).2
   simp only [(H.ev hx).1, (H.ev hy).1]
   exact ⟨run_val h1, h2⟩
 · obtain ⟨s, hs, h⟩ := bind_some' h
   cases hna : notArr s.desc <;> rw [hna] at h
   · cases h
   simp only [cond_true] at h
   obtain ⟨x, hx, h⟩ := bind_some' h
   obtain ⟨lo, hlo, h⟩ := bind_some' h
   obtain ⟨hi, hhi, h⟩ := bind_some' h
   obtain ⟨kl, hkl⟩ := evi_sound H hlo
   obtain ⟨kh, hkh⟩ := evi_sound H hhi
   obtain ⟨h1, h2⟩ := sliceV_sound (w := w) (ρ := ρ) kl kh h hφ (H.ev hx).2
   simp only [(H.ev hx).1, hkl, hkh]
   refine ⟨run_val ?_, h2⟩
   simp only [Instr.sliceAt, Sem.run_bind, run_underlying hs, Result.andThen_ok]
   revert hna
   cases s.desc <;> intro hna <;> first | exact h1 | cases hna
 · obtain ⟨x, hx, h⟩ := bind_some' h
   obtain ⟨h1, h2⟩ := extrV_sound (P := C.P) (w := w) (ρ := ρ) h (H.ev hx).2
   simp only [(H.ev hx).1]
   exact ⟨run_val h1, h2⟩
 · obtain ⟨x, hx, h⟩ := bind_some' h
   obtain ⟨h1, h2⟩ := mkifV_sound (w := w) (ρ := ρ) h (H.ev hx).2
   simp only [(H.ev hx).1]
   exact ⟨run_val h1, h2⟩
 · rename_i f fa fb
   obtain ⟨l, hl, h⟩ := bind_some' h
   obtain ⟨r, hr, e⟩ := map_some' h
   cases e
   obtain ⟨h1, h2⟩ := evs_sound H _ hl
   obtain ⟨h3, h4⟩ := evs_sound H _ hr
   refine ⟨run_val ?_, h2, h4⟩
   have e1 : (denL ρ l).toArray = fa.map a.eval := by rw [← h1, ← Array.toList_map, Array.toArray_toList]
   have e3 : (denL ρ r).toArray = fb.map a.eval := by rw [← h3, ← Array.toList_map, Array.toArray_toList]
   simp only [Instr.makeFunc, Sem.run_pure, AV.den, e1, e3]
 · obtain ⟨x, hx, h⟩ := bind_some' h
   simp only [(H.ev hx).1]
   unfold nilV at h
   split at h
   all_goals (simp only [Option.some.injEq, Prod.mk.injEq, reduceCtorEq] at h)
   all_goals
    obtain ⟨rfl, rfl⟩ := h
    exact ⟨rfl, (H.ev hx).2⟩
 · rename_i t parts
   obtain ⟨s, hs, h⟩ := bind_some' h
   obtain ⟨z, hz, h⟩ := bind_some' h
   obtain ⟨zs, hzs, h⟩ := bind_some' h
   obtain ⟨vs, hvs, h⟩ := bind_some' h
   obtain ⟨h1, h2⟩ := evs_sound H _ hvs
   have hcz : z.cells = (denL ρ zs).toArray := by have := (cellsL_den (ρ := ρ) hzs).1; rwa [den_absV] at this
   have hlen : vs.length = parts.toList.length := by
    have := congrArg List.length h1
    simpa [denL_length] using this.symm
   have hparts : (parts.map fun (i, x) => (i, a.eval x)).toList = (((parts.toList.map (·.1)).zip vs).map fun p => (p.1, p.2.den ρ)) := by
    simp only [Array.toList_map]
    rw [denL_eq_map] at h1
    have e1 : parts.toList.map (fun p => (p.1, a.eval p.2)) = (parts.toList.map (·.1)).zip ((parts.toList.map (·.2)).map a.eval) := by
     rw [List.map_map]
     exact (List.zip_map' ..).symm
    rw [show (List.map (fun x => match x with | (i, x) => (i, a.eval x)) parts.toList) = parts.toList.map (fun p => (p.1, a.eval p.2)) from rfl]
    rw [e1, h1, List.zip_map_right]; rfl
   have hzl : ltL nx zs := cellsL_lt hzs (lt_absV nx z)
   have hpl : ∀ p ∈ (parts.toList.map (·.1)).zip vs, p.2.lt nx := by
    intro p hp
    exact (ltL_iff nx vs).1 h2 p.2 (List.of_mem_zip hp).2
   split at h
   · rename_i fs hd
     obtain ⟨l, hl, h⟩ := bind_some' h
     cases hall : fs.toList.all (fun f => (C.ti f.type).isSome) <;> rw [hall] at h
     · cases h
     simp only [cond_true, Option.some.injEq, Prod.mk.injEq] at h
     obtain ⟨rfl, rfl⟩ := h
     refine ⟨run_val ?_, fillL_lt _ _ hl hzl hpl⟩
     obtain ⟨ps, hps1, hps2⟩ := mapM_places (C := C.toCx) (w := w) fs.toList hall
     have hps3 : (fs.mapM (m := Sem) fun f => do pure (f.offset, ← sizeOf f.type)).run C.P w = .ok ps.toArray w := by
      rw [Array.mapM_eq_mapM_toList]
      simp only [Sem.run_map, hps1, Result.andThen_ok]
     simp only [Instr.build, Sem.run_bind, run_zeroValue hs hz, Result.andThen_ok, run_underlying hs, hd, hps3, hcz, hparts]
     have := fillL_sound (ρ := ρ) _ _ hl
     rw [show (fun i => ps.toArray[i]?) = (fun i => (fs[i]?).bind fun f => (C.ti f.type).map fun ts => (f.offset, ts.size)) from by
      funext i; rw [List.getElem?_toArray, hps2 i, Array.getElem?_toList]]
     rw [this]; rfl
   · rename_i n e hd
     obtain ⟨te, hte, h⟩ := bind_some' h
     obtain ⟨l, hl, e'⟩ := map_some' h
     cases e'
     refine ⟨run_val ?_, fillL_lt _ _ hl hzl hpl⟩
     simp only [Instr.build, Sem.run_bind, run_zeroValue hs hz, Result.andThen_ok, run_underlying hs, hd, run_sizeOf hte, hcz, hparts]
     rw [fillL_sound (ρ := ρ) _ _ hl]; rfl
   · cases h
 · rename_i c
   obtain ⟨callee, args, argTypes⟩ := c
   simp only at h
   split at h
   · rename_i x t he2 he3
     obtain ⟨s, hs, h⟩ := bind_some' h
     obtain ⟨v, hv, h⟩ := bind_some' h
     cases hlo : lenOK s.desc v <;> rw [hlo] at h
     · cases h
     simp only [cond_true] at h
     have ha : args = #[x] := by cases args; simp only at he2; subst he2; rfl
     have ht : argTypes = #[t] := by cases argTypes; simp only at he3; subst he3; rfl
     subst ha ht
     have hv1 := (H.ev hv).1
     refine ⟨?_, by unfold lenV at h; split at h <;> (simp only [Option.some.injEq, Prod.mk.injEq, reduceCtorEq] at h) <;> (obtain ⟨_, rfl⟩ := h; trivial)⟩
     simp only [resolve, Sem.run_bind, Sem.run_pure, Result.andThen_ok, invoke, builtin]
     simp only [Builtin.len_, List.map_toArray, List.map_cons, List.map_nil, hv1, Sem.run_bind, Sem.run_pure, Result.andThen_ok, List.getElem?_toArray, List.getElem?_cons_zero, run_underlying hs]
     revert hlo
     generalize s.desc = d
     unfold lenV at h
     split at h <;> (simp only [Option.some.injEq, Prod.mk.injEq, reduceCtorEq] at h) <;> (obtain ⟨rfl, rfl⟩ := h; cases d <;> intro hlo <;> simp only [lenOK, Bool.false_eq_true] at hlo)
     · simp only [AV.den, size_mk]; rfl
     · rfl
     · rfl
   · rename_i x t he2 he3
     obtain ⟨s, hs, h⟩ := bind_some' h
     obtain ⟨v, hv, h⟩ := bind_some' h
     cases hlo : isSlD s.desc <;> rw [hlo] at h
     · cases h
     simp only [cond_true] at h
     have ha : args = #[x] := by cases args; simp only at he2; subst he2; rfl
     have ht : argTypes = #[t] := by cases argTypes; simp only at he3; subst he3; rfl
     subst ha ht
     have hv1 := (H.ev hv).1
     refine ⟨?_, by unfold capV at h; split at h <;> (simp only [Option.some.injEq, Prod.mk.injEq, reduceCtorEq] at h) <;> (obtain ⟨_, rfl⟩ := h; trivial)⟩
     simp only [resolve, Sem.run_bind, Sem.run_pure, Result.andThen_ok, invoke, builtin]
     simp only [Builtin.cap_, List.map_toArray, List.map_cons, List.map_nil, hv1, Sem.run_bind, Sem.run_pure, Result.andThen_ok, List.getElem?_toArray, List.getElem?_cons_zero, run_underlying hs]
     revert hlo
     generalize s.desc = d
     unfold capV at h
     split at h <;> (simp only [Option.some.injEq, Prod.mk.injEq, reduceCtorEq] at h) <;> (obtain ⟨rfl, rfl⟩ := h; cases d <;> intro hlo <;> simp only [isSlD, Bool.false_eq_true] at hlo)
     · rfl
     · rfl
   · cases h
 · cases h
end Go.Eng
