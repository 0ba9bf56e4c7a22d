/- A part of the proof that the rows statement FnSetBack holds; no conditions. -/
import Derived.Test.YthkgjhnckakliaaGreatDoorZAA
set_option linter.unusedVariables false
set_option linter.unusedSimpArgs false
set_option linter.unusedSectionVars false
namespace Go.Eng
def isAggD : TypeDesc → Bool
 | .struct _ | .array _ _ => true
 | _ => false
section
variable {C : Cx} {w : World}
theorem run_underlying {t : TypeId} {s : TS} (h : C.ti t = some s) : (underlying t).run C.P w = .ok s.desc w := by
 simp [underlying, (C.tiok t s h).1]
theorem run_typeInfo {t : TypeId} {s : TS} (h : C.ti t = some s) : ∃ i, (typeInfo t).run C.P w = .ok i w ∧ i.size = s.size ∧ i.bytes = s.bytes ∧ i.zero = s.zero := by
 obtain ⟨i, h1, h2⟩ := (C.tiok t s h).2
 exact ⟨i, by simp [typeInfo, h1], h2⟩
theorem run_sizeOf {t : TypeId} {s : TS} (h : C.ti t = some s) : (sizeOf t).run C.P w = .ok s.size w := by
 obtain ⟨i, h1, h2, _⟩ := run_typeInfo (w := w) h
 simp [sizeOf, h1, h2]
theorem run_zeroValue {t : TypeId} {s : TS} {z : Value} (h : C.ti t = some s) (hz : s.zero = some z) : (zeroValue t).run C.P w = .ok z w := by
 obtain ⟨i, h1, h2, h3, h4⟩ := run_typeInfo (w := w) h
 simp [zeroValue, h1, h4, hz]
theorem run_isAgg {t : TypeId} {s : TS} (h : C.ti t = some s) : (isAgg t).run C.P w = .ok (isAggD s.desc) w := by
 simp only [isAgg, Sem.run_bind, run_underlying h, Result.andThen_ok]
 cases s.desc <;> rfl
theorem run_part {t : TypeId} {s : TS} (h : C.ti t = some s) (cs : Array Value) (off : Nat) :
 (part t cs off).run C.P w = if isAggD s.desc = true then .ok (.agg (cs.extract off (off + s.size))) w else
  match cs[off]? with | some v => .ok v w | none => .halt (.stuck "part: no such cell") w := by
 simp only [part, Sem.run_bind, run_isAgg h, Result.andThen_ok]
 cases isAggD s.desc
 · simp only [Bool.false_eq_true, if_false]
   cases cs[off]? <;> rfl
 · simp only [if_true, Sem.run_bind, run_sizeOf h, Result.andThen_ok, Sem.run_pure]
end
def fit (φ : Prop) (l : List AV) (n : Nat) : Option (Prop × List AV) := bif Nat.beq l.length n then some (φ, l) else none
def cellsIn (o : AO) (off size : Nat) : Option (Prop × List AV) := fit True ((o.avs.drop off).take size) size
def rowsIn (n i j size : Nat) : AO → Option (Prop × List AV)
 | .ints _ _ k xs => bif Nat.beq n 1 && Nat.beq j 0 && Nat.beq size 1 then some (i < xs.length, [.int k (xs.getD i 0)]) else none
 | .strs _ _ xs => bif Nat.beq n 1 && Nat.beq j 0 && Nat.beq size 1 then some (i < xs.length, [.str (xs.getD i [])]) else none
 | .recs _ _ ks xs => bif Nat.beq n ks.length then fit (i < xs.length) (((rowA ks (xs.getD i [])).drop j).take size) size else none
 | .cells e m cs => cellsIn (.cells e m cs) (i * n + j) size
 | _ => none
def cellsAt (G : List (Nat × List AV)) (hp : Hp) (size : Nat) : AV → Option (Prop × List AV)
 | .ptr id off => (lk hp id).bind fun o => cellsIn o off size
 | .pix id n i j => (lk hp id).bind (rowsIn n i j size)
 | .v (.pointer (some ⟨g, off, none⟩)) => (lk G g).bind fun cs => fit True ((cs.drop off).take size) size
 | _ => none
theorem fit_some {φ ψ : Prop} {l m : List AV} {n : Nat} (h : fit φ l n = some (ψ, m)) : l.length = n ∧ ψ = φ ∧ m = l := by
 unfold fit at h
 cases e : Nat.beq l.length n <;> rw [e] at h
 · cases h
 · simp only [cond_true, Option.some.injEq, Prod.mk.injEq] at h
   exact ⟨Nat.eq_of_beq_eq_true e, h.1.symm, h.2.symm⟩
theorem flat_get (ks : List CK) : ∀ (xs : List (List Int)) (i j : Nat), i < xs.length → j < ks.length →
 (xs.flatMap (rowA ks))[i * ks.length + j]? = (rowA ks (xs.getD i []))[j]? := by
 intro xs
 induction xs with
 | nil => intro i j h; simp at h
 | cons r xs ih =>
   intro i j h hj
   rw [List.flatMap_cons]
   cases i with
   | zero => rw [Nat.zero_mul, Nat.zero_add, List.getElem?_append_left (by rw [rowA_length]; exact hj)]; rfl
   | succ i =>
     rw [List.getElem?_append_right (by rw [rowA_length]; rw [Nat.succ_mul]; omega), rowA_length]
     have : (i + 1) * ks.length + j - ks.length = i * ks.length + j := by rw [Nat.succ_mul]; omega
     rw [this, ih i j (by simp at h; omega) hj]; rfl
def AtC (C : Cx) (ρ : Nat → Nat × Nat) (nx : Nat) (w : World) (a : Addr) (l : List AV) : Prop :=
 a.spot = none ∧ ∀ j av, l[j]? = some av → w.cell? ⟨a.block, a.off + j, none⟩ = some (av.den ρ) ∧ av.lt nx
theorem get_drop_take {α : Type} {l : List α} {off n j : Nat} {x : α} (h : ((l.drop off).take n)[j]? = some x) : l[off + j]? = some x := by
 rw [List.getElem?_take] at h
 split at h
 · rw [List.getElem?_drop] at h; exact h
 · cases h
theorem cellsAt_sound {C : Cx} {ρ : Nat → Nat × Nat} {nx : Nat} {hp : Hp} {w : World} (H : HR C ρ nx hp w) {size : Nat} {x : AV} {φ : Prop} {l : List AV}
 (h : cellsAt C.G hp size x = some (φ, l)) (hφ : φ) : ∃ a, x.den ρ = .pointer (some a) ∧ AtC C ρ nx w a l ∧ l.length = size := by
 unfold cellsAt at h
 split at h
 · rename_i id off
   cases ho : lk hp id with
   | none => rw [ho] at h; cases h
   | some o =>
     rw [ho] at h
     obtain ⟨h1, rfl, rfl⟩ := fit_some (show fit True _ _ = _ from h)
     exact ⟨_, rfl, ⟨rfl, fun j av hj => by rw [Nat.add_assoc]; exact H.cell ho (get_drop_take hj)⟩, h1⟩
 · rename_i id n i j
   cases ho : lk hp id with
   | none => rw [ho] at h; cases h
   | some o =>
     rw [ho] at h
     simp only [Option.bind_some] at h
     refine ⟨_, rfl, ?_⟩
     cases o <;> simp only [rowsIn] at h
     case cells e m cs =>
      obtain ⟨h1, rfl, rfl⟩ := fit_some (show fit True _ _ = _ from h)
      exact ⟨⟨rfl, fun j av hj => by rw [Nat.add_assoc]; exact H.cell ho (get_drop_take hj)⟩, h1⟩
     case ints e m k xs =>
      cases e1 : (Nat.beq n 1 && Nat.beq j 0 && Nat.beq size 1) <;> rw [e1] at h
      · cases h
      · simp only [cond_true, Option.some.injEq, Prod.mk.injEq] at h
        obtain ⟨rfl, rfl⟩ := h
        simp only [Bool.and_eq_true] at e1
        obtain ⟨⟨e1, e2⟩, e3⟩ := e1
        have e1 := Nat.eq_of_beq_eq_true e1
        have e2 := Nat.eq_of_beq_eq_true e2
        have e3 := Nat.eq_of_beq_eq_true e3
        subst e1 e2 e3
        refine ⟨⟨rfl, fun j av hj => ?_⟩, rfl⟩
        cases j with
        | succ j => simp at hj
        | zero =>
          simp only [List.getElem?_cons_zero, Option.some.injEq] at hj
          subst hj
          have := H.cell ho (i := i) (av := .int k (xs.getD i 0)) (by simp [AO.avs, List.getElem?_eq_getElem hφ])
          simpa using this
     case strs e m xs =>
      cases e1 : (Nat.beq n 1 && Nat.beq j 0 && Nat.beq size 1) <;> rw [e1] at h
      · cases h
      · simp only [cond_true, Option.some.injEq, Prod.mk.injEq] at h
        obtain ⟨rfl, rfl⟩ := h
        simp only [Bool.and_eq_true] at e1
        obtain ⟨⟨e1, e2⟩, e3⟩ := e1
        have e1 := Nat.eq_of_beq_eq_true e1
        have e2 := Nat.eq_of_beq_eq_true e2
        have e3 := Nat.eq_of_beq_eq_true e3
        subst e1 e2 e3
        refine ⟨⟨rfl, fun j av hj => ?_⟩, rfl⟩
        cases j with
        | succ j => simp at hj
        | zero =>
          simp only [List.getElem?_cons_zero, Option.some.injEq] at hj
          subst hj
          have := H.cell ho (i := i) (av := .str (xs.getD i [])) (by simp [AO.avs, List.getElem?_eq_getElem hφ])
          simpa using this
     case recs e m ks xs =>
      cases e1 : Nat.beq n ks.length <;> rw [e1] at h
      · cases h
      · have e1 := Nat.eq_of_beq_eq_true e1
        subst e1
        obtain ⟨h1, rfl, rfl⟩ := fit_some (show fit _ _ _ = _ from h)
        refine ⟨⟨rfl, fun j' av hj => ?_⟩, h1⟩
        have hj' := get_drop_take hj
        have hlt : j + j' < ks.length := by
         rcases Nat.lt_or_ge (j + j') ks.length with h | h
         · exact h
         · rw [List.getElem?_eq_none (by rw [rowA_length]; exact h)] at hj'; cases hj'
        have := H.cell ho (i := i * ks.length + (j + j')) (av := av) (by
         show (xs.flatMap (rowA ks))[_]? = _
         rw [flat_get ks xs i _ hφ hlt]; exact hj')
        have e0 : (ρ id).2 + (i * ks.length + j) + j' = (ρ id).2 + (i * ks.length + (j + j')) := by simp only [Nat.add_assoc]
        show w.cell? ⟨_, (ρ id).2 + (i * ks.length + j) + j', none⟩ = _ ∧ _
        rw [e0]; exact this
     all_goals cases h
 · rename_i g off
   cases ho : lk C.G g with
   | none => rw [ho] at h; cases h
   | some cs =>
     rw [ho] at h
     obtain ⟨h1, rfl, rfl⟩ := fit_some (show fit True _ _ = _ from h)
     exact ⟨_, rfl, ⟨rfl, fun j av hj => H.gcell ho (get_drop_take hj)⟩, h1⟩
 · cases h
def loadV (C : Cx) (hp : Hp) (t : TypeId) (x : AV) : RV :=
 (C.ti t).bind fun s => bif isAggD s.desc then (cellsAt C.G hp s.size x).map fun p => (p.1, .agg p.2)
  else (cellsAt C.G hp 1 x).bind fun p => p.2.head?.map fun v => (p.1, v)
theorem add_none {a : Addr} (h : a.spot = none) (n : Nat) : a.add n = ⟨a.block, a.off + n, none⟩ := by
 unfold Addr.add
 split
 · rename_i e; subst e; cases a; simp only [] at h; subst h; rfl
 · rfl
theorem loadV_sound {C : Cx} {ρ : Nat → Nat × Nat} {nx : Nat} {hp : Hp} {w : World} (H : HR C ρ nx hp w) {t : TypeId} {x : AV} {φ : Prop} {av : AV}
 (h : loadV C hp t x = some (φ, av)) (hφ : φ) : (Instr.loadAt t (x.den ρ)).run C.P w = .ok (av.den ρ) w ∧ av.lt nx := by
 unfold loadV at h
 cases hs : C.ti t with
 | none => rw [hs] at h; cases h
 | some s =>
   rw [hs] at h
   simp only [Option.bind_some] at h
   cases hagg : isAggD s.desc <;> rw [hagg] at h
   · simp only [cond_false] at h
     cases hc : cellsAt C.G hp 1 x with
     | none => rw [hc] at h; cases h
     | some p =>
       obtain ⟨ψ, l⟩ := p
       rw [hc] at h
       simp only [Option.bind_some] at h
       cases l with
       | nil => cases h
       | cons v l =>
         simp only [List.head?_cons, Option.map_some, Option.some.injEq, Prod.mk.injEq] at h
         obtain ⟨rfl, rfl⟩ := h
         obtain ⟨a, ha, ⟨hs0, hat⟩, hl⟩ := cellsAt_sound H hc hφ
         obtain ⟨h1, h2⟩ := hat 0 v rfl
         refine ⟨?_, h2⟩
         rw [ha]
         simp only [Instr.loadAt, Instr.sureAddr, loadVar, Sem.run_bind, Sem.run_pure, Result.andThen_ok, run_isAgg hs, hagg, Bool.false_eq_true, if_false, run_load]
         have : (⟨a.block, a.off + 0, none⟩ : Addr) = a := by cases a; simp only [] at hs0; subst hs0; rfl
         rw [this] at h1
         rw [h1]
   · simp only [cond_true] at h
     cases hc : cellsAt C.G hp s.size x with
     | none => rw [hc] at h; cases h
     | some p =>
       obtain ⟨ψ, l⟩ := p
       rw [hc] at h
       simp only [Option.map_some, Option.some.injEq, Prod.mk.injEq] at h
       obtain ⟨rfl, rfl⟩ := h
       obtain ⟨a, ha, ⟨hs0, hat⟩, hl⟩ := cellsAt_sound H hc hφ
       refine ⟨?_, ?_⟩
       · rw [ha]
         simp only [Instr.loadAt, Instr.sureAddr, loadVar, Sem.run_bind, Sem.run_pure, Result.andThen_ok, run_isAgg hs, hagg, if_true, run_sizeOf hs]
         have := run_loadCells_list (P := C.P) (w := w) a (denL ρ l) (by
          intro j v hj
          rw [denL_get] at hj
          cases hlj : l[j]? with
          | none => rw [hlj] at hj; cases hj
          | some av =>
            rw [hlj] at hj
            simp only [Option.map_some, Option.some.injEq] at hj
            subst hj
            rw [add_none hs0]
            exact (hat j av hlj).1)
         rw [denL_length, hl] at this
         rw [this]
         rfl
       · simp only [AV.lt, ltL_iff]
         intro v hv
         obtain ⟨j, hj⟩ := List.getElem?_of_mem hv
         exact (hat j v hj).2
end Go.Eng
namespace Go.Eng
section
variable {C : Cx} {w : World} {ρ : Nat → Nat × Nat}
def unV : UnOp → AV → RV
 | .not, .bool b => some (True, .bool (!b))
 | .neg, .int k n => some (rng k (0 - n), .int k (0 - n))
 | _, _ => none
theorem unV_sound {P : Program} {op : UnOp} {x : AV} {φ : Prop} {av : AV} (h : unV op x = some (φ, av)) (hφ : φ) : (Op.unary op (x.den ρ)).run P w = .ok (av.den ρ) w ∧ ∀ n, av.lt n := by
 unfold unV at h
 split at h
 · simp only [Option.some.injEq, Prod.mk.injEq] at h; obtain ⟨rfl, rfl⟩ := h; exact ⟨rfl, fun _ => trivial⟩
 · simp only [Option.some.injEq, Prod.mk.injEq] at h; obtain ⟨rfl, rfl⟩ := h
   refine ⟨?_, fun _ => trivial⟩
   simp only [AV.den, Op.unary, Op.intArith, rng_wrap hφ]; rfl
 · cases h
def convV (C : Cx) (s d : TypeId) (x : AV) : RV :=
 (C.ti s).bind fun _ => (C.ti d).bind fun td => match td.desc, x with
  | .int k, .int _ n => some (rng k n, .int k n)
  | .string, .str l => some (True, .str l)
  | .float k, .int _ n => some (True, .v (.float k (k.nearest n)))
  | _, _ => none
theorem convV_sound {s d : TypeId} {x : AV} {φ : Prop} {av : AV} (h : convV C s d x = some (φ, av)) (hφ : φ) :
 (convert s d (x.den ρ)).run C.P w = .ok (av.den ρ) w ∧ ∀ n, av.lt n := by
 unfold convV at h
 cases hs : C.ti s with
 | none => rw [hs] at h; cases h
 | some ts =>
   cases hd : C.ti d with
   | none => rw [hs, hd] at h; cases h
   | some td =>
     rw [hs, hd] at h
     simp only [Option.bind_some] at h
     simp only [convert, Sem.run_bind, run_underlying hs, run_underlying hd, Result.andThen_ok]
     split at h
     · rename_i k k' n e
       simp only [Option.some.injEq, Prod.mk.injEq] at h; obtain ⟨rfl, rfl⟩ := h
       rw [e]; refine ⟨?_, fun _ => trivial⟩
       simp only [AV.den, Conv.intToInt, rng_wrap hφ]; rfl
     · rename_i l e
       simp only [Option.some.injEq, Prod.mk.injEq] at h; obtain ⟨rfl, rfl⟩ := h
       rw [e]; exact ⟨rfl, fun _ => trivial⟩
     · rename_i k k' n e
       simp only [Option.some.injEq, Prod.mk.injEq] at h; obtain ⟨rfl, rfl⟩ := h
       rw [e]; exact ⟨rfl, fun _ => trivial⟩
     · cases h
def fieldOf (C : Cx) (t : TypeId) (f : Nat) : Option (Field × TS) :=
 (C.ti t).bind fun s => match s.desc with
  | .struct fs => (fs[f]?).bind fun fl => (C.ti fl.type).map fun ts => (fl, ts)
  | _ => none
theorem fieldOf_some {t : TypeId} {f : Nat} {fl : Field} {ts : TS} (h : fieldOf C t f = some (fl, ts)) :
 ∃ s fs, C.ti t = some s ∧ s.desc = .struct fs ∧ fs[f]? = some fl ∧ C.ti fl.type = some ts := by
 unfold fieldOf at h
 cases hs : C.ti t with
 | none => rw [hs] at h; cases h
 | some s =>
   rw [hs] at h
   simp only [Option.bind_some] at h
   split at h
   · rename_i fs hd
     cases hf : fs[f]? with
     | none => rw [hf] at h; cases h
     | some fl' =>
       rw [hf] at h
       simp only [Option.bind_some] at h
       cases ht : C.ti fl'.type with
       | none => rw [ht] at h; cases h
       | some ts' =>
         rw [ht] at h
         simp only [Option.map_some, Option.some.injEq, Prod.mk.injEq] at h
         obtain ⟨rfl, rfl⟩ := h
         exact ⟨s, fs, rfl, hd, hf, ht⟩
   · cases h
def partL (ts : TS) (off : Nat) (cs : List AV) : RV :=
 bif isAggD ts.desc then some (True, .agg ((cs.drop off).take ts.size)) else (cs[off]?).map fun v => (True, v)
def fieldV (C : Cx) (t : TypeId) (f : Nat) : AV → RV
 | .agg cs => (fieldOf C t f).bind fun p => partL p.2 p.1.offset cs
 | _ => none
theorem partL_sound {t : TypeId} {ts : TS} {off : Nat} {cs : List AV} {n : Nat} {φ : Prop} {av : AV} (ht : C.ti t = some ts) (h : partL ts off cs = some (φ, av)) (hl : ltL n cs) :
 (part t (denL ρ cs).toArray off).run C.P w = .ok (av.den ρ) w ∧ av.lt n := by
 rw [run_part ht]
 unfold partL at h
 cases hagg : isAggD ts.desc <;> rw [hagg] at h
 · simp only [cond_false] at h
   cases hc : cs[off]? with
   | none => rw [hc] at h; cases h
   | some v =>
     rw [hc] at h
     simp only [Option.map_some, Option.some.injEq, Prod.mk.injEq] at h
     obtain ⟨rfl, rfl⟩ := h
     simp only [Bool.false_eq_true, if_false, List.getElem?_toArray, denL_get, hc, Option.map_some, true_and]
     exact ltL_get hl hc
 · simp only [cond_true, Option.some.injEq, Prod.mk.injEq] at h
   obtain ⟨rfl, rfl⟩ := h
   refine ⟨?_, ?_⟩
   · simp only [if_true, AV.den]
     congr 2
     simp only [List.extract_toArray, List.extract_eq_take_drop, denL_eq_map, List.map_take, List.map_drop]
     rw [show off + ts.size - off = ts.size from by omega]
   · simp only [AV.lt, ltL_iff]
     intro a ha
     exact (ltL_iff n cs).1 hl a (List.mem_of_mem_drop (List.mem_of_mem_take ha))
theorem fieldV_sound {t : TypeId} {f n : Nat} {x : AV} {φ : Prop} {av : AV} (h : fieldV C t f x = some (φ, av)) (hl : x.lt n) :
 (Instr.field t (x.den ρ) f).run C.P w = .ok (av.den ρ) w ∧ av.lt n := by
 unfold fieldV at h
 split at h
 · rename_i cs
   cases hf : fieldOf C t f with
   | none => rw [hf] at h; cases h
   | some p =>
     obtain ⟨fl, ts⟩ := p
     rw [hf] at h
     obtain ⟨s, fs, h1, h2, h3, h4⟩ := fieldOf_some hf
     simp only [Option.bind_some] at h
     simp only [Instr.field, Sem.run_bind, run_underlying h1, Result.andThen_ok, h2, h3, AV.den, asAgg, Sem.run_pure]
     exact partL_sound h4 h hl
 · cases h
def fieldAddrV (C : Cx) (t : TypeId) (f : Nat) (x : AV) : RV :=
 (fieldOf C t f).bind fun p => bif Nat.beq p.2.size 0 then none else match x with
  | .ptr id off => some (True, .ptr id (off + p.1.offset))
  | .pix id n i j => some (True, .pix id n i (j + p.1.offset))
  | .v (.pointer (some ⟨g, off, none⟩)) => some (True, .v (.pointer (some ⟨g, off + p.1.offset, none⟩)))
  | _ => none
theorem fieldAddrV_sound {t : TypeId} {f n : Nat} {x : AV} {φ : Prop} {av : AV} (h : fieldAddrV C t f x = some (φ, av)) (hl : x.lt n) :
 (Instr.fieldAt t (x.den ρ) f).run C.P w = .ok (av.den ρ) w ∧ av.lt n := by
 unfold fieldAddrV at h
 cases hf : fieldOf C t f with
 | none => rw [hf] at h; cases h
 | some p =>
   obtain ⟨fl, ts⟩ := p
   rw [hf] at h
   obtain ⟨s, fs, h1, h2, h3, h4⟩ := fieldOf_some hf
   simp only [Option.bind_some] at h
   cases hz : Nat.beq ts.size 0 <;> rw [hz] at h
   case true => cases h
   have hz' : ts.size ≠ 0 := by intro e; rw [e] at hz; cases hz
   simp only [cond_false] at h
   have key : ∀ a : Addr, a.spot = none → (Instr.fieldAt t (.pointer (some a)) f).run C.P w = .ok (.pointer (some ⟨a.block, a.off + fl.offset, none⟩)) w := by
    intro a ha
    simp only [Instr.fieldAt, Sem.run_bind, run_underlying h1, Result.andThen_ok, h2, h3, Instr.sureAddr, Sem.run_pure, fieldPlace, run_sizeOf h4, hz', if_false, add_none ha]
   split at h
   · simp only [Option.some.injEq, Prod.mk.injEq] at h; obtain ⟨rfl, rfl⟩ := h
     refine ⟨?_, hl⟩
     simp only [AV.den]; rw [key _ rfl]; simp only [Nat.add_assoc]
   · simp only [Option.some.injEq, Prod.mk.injEq] at h; obtain ⟨rfl, rfl⟩ := h
     refine ⟨?_, hl⟩
     simp only [AV.den]; rw [key _ rfl]; simp only [Nat.add_assoc]
   · simp only [Option.some.injEq, Prod.mk.injEq] at h; obtain ⟨rfl, rfl⟩ := h
     exact ⟨key _ rfl, trivial⟩
   · cases h
def indexAddrV (C : Cx) (t : TypeId) (x ix : AV) : RV :=
 match ix with
 | .int _ i => (C.ti t).bind fun s => match s.desc, x with
   | .slice e, .sl nl id n off len cap => (C.ti e).bind fun te => bif Nat.beq te.size n then some (0 ≤ i ∧ i < len ∧ len ≤ cap, .pix id n (off + i.toNat) 0) else none
   | .array len e, .ptr id off => (C.ti e).bind fun te => some (0 ≤ i ∧ i < len, .ptr id (off + i.toNat * te.size))
   | .array len e, .v (.pointer (some ⟨g, off, none⟩)) => (C.ti e).bind fun te => some (0 ≤ i ∧ i < len, .v (.pointer (some ⟨g, off + i.toNat * te.size, none⟩)))
   | _, _ => none
 | _ => none
theorem indexAddrV_sound {t : TypeId} {n : Nat} {x ix : AV} {φ : Prop} {av : AV} (h : indexAddrV C t x ix = some (φ, av)) (hφ : φ) (hl : x.lt n) :
 (Instr.indexAt t (x.den ρ) (ix.den ρ)).run C.P w = .ok (av.den ρ) w ∧ av.lt n := by
 unfold indexAddrV at h
 split at h
 · rename_i k i
   cases hs : C.ti t with
   | none => rw [hs] at h; cases h
   | some s =>
     rw [hs] at h
     simp only [Option.bind_some] at h
     split at h
     · rename_i e nl id m off len cap hd
       cases he : C.ti e with
       | none => rw [he] at h; cases h
       | some te =>
         rw [he] at h
         simp only [Option.bind_some] at h
         cases hb : Nat.beq te.size m <;> rw [hb] at h
         · cases h
         · have hb := Nat.eq_of_beq_eq_true hb
           simp only [cond_true, Option.some.injEq, Prod.mk.injEq] at h
           obtain ⟨rfl, rfl⟩ := h
           refine ⟨?_, hl⟩
           obtain ⟨q1, q2, q3⟩ := hφ
           have hnl : (nl && Nat.beq cap 0) = false := nlz (by omega)
           simp only [AV.den, hnl, cond_false, Instr.indexAt, asIntOf, Sem.run_bind, Sem.run_pure, Result.andThen_ok, run_underlying hs, hd, q1, q2, and_self, if_true, run_sizeOf he, hb, add_none]
           simp only [Nat.add_mul, Nat.add_zero, Nat.add_assoc]
     · rename_i len e id off hd
       cases he : C.ti e with
       | none => rw [he] at h; cases h
       | some te =>
         rw [he] at h
         simp only [Option.bind_some, Option.some.injEq, Prod.mk.injEq] at h
         obtain ⟨rfl, rfl⟩ := h
         refine ⟨?_, hl⟩
         simp only [AV.den, Instr.indexAt, asIntOf, Sem.run_bind, Sem.run_pure, Result.andThen_ok, run_underlying hs, hd, hφ, and_self, if_true, run_sizeOf he, Instr.sureAddr, add_none, Nat.add_assoc]
     · rename_i len e g off hd
       cases he : C.ti e with
       | none => rw [he] at h; cases h
       | some te =>
         rw [he] at h
         simp only [Option.bind_some, Option.some.injEq, Prod.mk.injEq] at h
         obtain ⟨rfl, rfl⟩ := h
         refine ⟨?_, trivial⟩
         simp only [AV.den, Instr.indexAt, asIntOf, Sem.run_bind, Sem.run_pure, Result.andThen_ok, run_underlying hs, hd, hφ, and_self, if_true, run_sizeOf he, Instr.sureAddr, add_none]
     · cases h
 · cases h
def indexV (C : Cx) (t : TypeId) (x ix : AV) : RV :=
 match ix with
 | .int _ i => (C.ti t).bind fun s => match s.desc, x with
   | .string, .str l => some (0 ≤ i ∧ i < l.length, .int .u8 (bt l i))
   | .array len e, .agg cs => (C.ti e).bind fun te => (partL te (i.toNat * te.size) cs).map fun p => (0 ≤ i ∧ i < len, p.2)
   | _, _ => none
 | _ => none
theorem indexV_sound {t : TypeId} {n : Nat} {x ix : AV} {φ : Prop} {av : AV} (h : indexV C t x ix = some (φ, av)) (hφ : φ) (hl : x.lt n) :
 (Instr.index t (x.den ρ) (ix.den ρ)).run C.P w = .ok (av.den ρ) w ∧ av.lt n := by
 unfold indexV at h
 split at h
 · rename_i k i
   cases hs : C.ti t with
   | none => rw [hs] at h; cases h
   | some s =>
     rw [hs] at h
     simp only [Option.bind_some] at h
     split at h
     · rename_i l hd
       simp only [Option.some.injEq, Prod.mk.injEq] at h
       obtain ⟨rfl, rfl⟩ := h
       refine ⟨?_, trivial⟩
       have hlt : i.toNat < l.length := by omega
       have hg : (ByteArray.mk l.toArray)[i.toNat]? = some l[i.toNat] := by
        rw [getElem?_pos (ByteArray.mk l.toArray) i.toNat (by rw [size_mk]; exact hlt)]
        rfl
       simp only [AV.den, Instr.index, asIntOf, Sem.run_bind, Sem.run_pure, Result.andThen_ok, run_underlying hs, hd, hφ.1, if_true, hg]
       simp [bt, List.getElem?_eq_getElem hlt]
     · rename_i len e cs hd
       cases he : C.ti e with
       | none => rw [he] at h; cases h
       | some te =>
         rw [he] at h
         simp only [Option.bind_some] at h
         cases hp : partL te (i.toNat * te.size) cs with
         | none => rw [hp] at h; cases h
         | some p =>
           obtain ⟨ψ, v⟩ := p
           rw [hp] at h
           simp only [Option.map_some, Option.some.injEq, Prod.mk.injEq] at h
           obtain ⟨rfl, rfl⟩ := h
           simp only [AV.den, Instr.index, asIntOf, Sem.run_bind, Sem.run_pure, Result.andThen_ok, run_underlying hs, hd, hφ, and_self, if_true, run_sizeOf he]
           exact partL_sound he hp hl
     · cases h
 · cases h
def sliceV (C : Cx) (t : TypeId) (x : AV) (lo hi : Option Int) : RV :=
 (C.ti t).bind fun s => match s.desc, x with
  | .string, .str l => (match lo, hi with
    | none, none => some (True, .str l)
    | some a, none => some (0 ≤ a ∧ a ≤ l.length, .str (l.drop a.toNat))
    | none, some b => some (0 ≤ b ∧ b ≤ l.length, .str (l.take b.toNat))
    | some a, some b => some (0 ≤ a ∧ a ≤ b ∧ b ≤ l.length, .str ((l.take b.toNat).drop a.toNat)))
  | .slice e, .sl nl id n off len cap => (C.ti e).bind fun te => bif Nat.beq te.size n then (match lo, hi with
    | none, none => some (len ≤ cap, .sl nl id n off len cap)
    | some a, none => some (0 ≤ a ∧ a ≤ len ∧ len ≤ cap ∧ a < cap, .sl nl id n (off + a.toNat) (len - a.toNat) (cap - a.toNat))
    | none, some b => some (0 ≤ b ∧ b ≤ cap, .sl nl id n off b.toNat cap)
    | some a, some b => some (0 ≤ a ∧ a ≤ b ∧ b ≤ cap ∧ a < cap, .sl nl id n (off + a.toNat) (b.toNat - a.toNat) (cap - a.toNat))) else none
  | _, _ => none
theorem extract_mk (l : List UInt8) (a b : Nat) : (ByteArray.mk l.toArray).extract a b = ByteArray.mk ((l.take b).drop a).toArray := by
 apply ByteArray.ext
 simp only [ByteArray.data_extract, List.extract_toArray, List.extract_eq_take_drop]
 rw [List.drop_take]
def BO (k : Option IntKind) : Option Int → Option Value
 | none => none
 | some i => some (.int (k.getD .i64) i)
theorem sliceV_sound {t : TypeId} {n : Nat} {x : AV} {lo hi : Option Int} {φ : Prop} {av : AV} (kl kh : Option IntKind) (h : sliceV C t x lo hi = some (φ, av)) (hφ : φ) (hl : x.lt n) :
 (Instr.slice t (x.den ρ) (BO kl lo) (BO kh hi) none).run C.P w = .ok (av.den ρ) w ∧ av.lt n := by
 unfold sliceV at h
 cases hs : C.ti t with
 | none => rw [hs] at h; cases h
 | some s =>
   rw [hs] at h
   simp only [Option.bind_some] at h
   split at h
   · rename_i l hd
     simp only [Instr.slice, Sem.run_bind, run_underlying hs, Result.andThen_ok, hd, AV.den, Option.isSome_none, Bool.false_eq_true, if_false, Sem.run_pure, Instr.sliceBounds, size_mk]
     split at h
     all_goals simp only [Option.some.injEq, Prod.mk.injEq] at h; obtain ⟨rfl, rfl⟩ := h
     · refine ⟨?_, trivial⟩
       simp only [BO, Sem.run_bind, Sem.run_pure, Result.andThen_ok, extract_mk, List.take_length, List.drop_zero, AV.den]
     · refine ⟨?_, trivial⟩
       rename_i a
       simp only [BO, Sem.run_pure, Sem.run_bind, Result.andThen_ok, Instr.sliceBound, asIntOf, hφ, and_self, if_true, extract_mk, AV.den, List.take_length]
     · refine ⟨?_, trivial⟩
       rename_i b
       simp only [BO, Sem.run_pure, Sem.run_bind, Result.andThen_ok, Instr.sliceBound, asIntOf, hφ, and_self, if_true, extract_mk, AV.den, List.drop_zero]
     · refine ⟨?_, trivial⟩
       rename_i a b
       have h1 : 0 ≤ b ∧ b ≤ ↑l.length := by omega
       have h2 : 0 ≤ a ∧ a ≤ ↑b.toNat := by omega
       simp only [BO, Sem.run_pure, Sem.run_bind, Result.andThen_ok, Instr.sliceBound, asIntOf, h1, h2, and_self, if_true, extract_mk, AV.den]
   · rename_i e nl id m off len cap hd
     cases he : C.ti e with
     | none => rw [he] at h; cases h
     | some te =>
       rw [he] at h
       simp only [Option.bind_some] at h
       cases hb : Nat.beq te.size m <;> rw [hb] at h
       · cases h
       · have hb := Nat.eq_of_beq_eq_true hb
         simp only [cond_true] at h
         simp only [Instr.slice, Sem.run_bind, run_underlying hs, Result.andThen_ok, hd, AV.den, Sem.run_pure, Instr.sliceBounds]
         split at h
         all_goals simp only [Option.some.injEq, Prod.mk.injEq] at h; obtain ⟨rfl, rfl⟩ := h
         · refine ⟨?_, hl⟩
           simp only [BO, Sem.run_bind, Sem.run_pure, Result.andThen_ok, run_sizeOf he, AV.den, Nat.sub_zero]
           split
           · rfl
           · cases (nl && Nat.beq cap 0) <;> simp [add_none]
         · refine ⟨?_, hl⟩
           rename_i a
           have hnl : (nl && Nat.beq cap 0) = false := nlz (by omega)
           have hnl' : (nl && Nat.beq (cap - a.toNat) 0) = false := nlz (by omega)
           have h1 : 0 ≤ a ∧ a ≤ ↑len := by omega
           have h2 : ¬ cap = a.toNat := by omega
           simp only [hnl, hnl', cond_false, BO, Sem.run_pure, Sem.run_bind, Result.andThen_ok, Instr.sliceBound, asIntOf, h1, and_self, if_true, h2, if_false, run_sizeOf he, hb, AV.den, Option.map_some, add_none, Nat.add_mul, Nat.add_assoc]
         · refine ⟨?_, hl⟩
           rename_i b
           simp only [BO, Sem.run_pure, Sem.run_bind, Result.andThen_ok, Instr.sliceBound, asIntOf, hφ, and_self, if_true, run_sizeOf he, AV.den, Nat.sub_zero]
           split
           · rfl
           · cases (nl && Nat.beq cap 0) <;> simp [add_none]
         · refine ⟨?_, hl⟩
           rename_i a b
           have h1 : 0 ≤ b ∧ b ≤ ↑cap := by omega
           have h2 : 0 ≤ a ∧ a ≤ ↑b.toNat := by omega
           have h3 : ¬ cap = a.toNat := by omega
           have hnl : (nl && Nat.beq cap 0) = false := nlz (by omega)
           have hnl' : (nl && Nat.beq (cap - a.toNat) 0) = false := nlz (by omega)
           simp only [hnl, hnl', cond_false, BO, Sem.run_pure, Sem.run_bind, Result.andThen_ok, Instr.sliceBound, asIntOf, h1, h2, and_self, if_true, h3, if_false, run_sizeOf he, hb, AV.den, Option.map_some, add_none, Nat.add_mul, Nat.add_assoc]
   · cases h
end
section
variable {C : Cx} {w : World} {ρ : Nat → Nat × Nat}
def extrV (i : Nat) : AV → RV
 | .tup l => (l[i]?).map fun v => (True, v)
 | _ => none
theorem extrV_sound {P : Program} {i n : Nat} {x av : AV} {φ : Prop} (h : extrV i x = some (φ, av)) (hl : x.lt n) : (Instr.extract (x.den ρ) i).run P w = .ok (av.den ρ) w ∧ av.lt n := by
 unfold extrV at h
 split at h
 · rename_i l
   cases hi : l[i]? with
   | none => rw [hi] at h; cases h
   | some v =>
     rw [hi] at h
     simp only [Option.map_some, Option.some.injEq, Prod.mk.injEq] at h
     obtain ⟨rfl, rfl⟩ := h
     refine ⟨?_, ltL_get hl hi⟩
     simp [AV.den, Instr.extract, denL_get, hi]
 · cases h
def isIface : TypeDesc → Bool
 | .interface _ => true
 | _ => false
def mkifV (C : Cx) (t : TypeId) (x : AV) : RV := (C.ti t).bind fun s => bif isIface s.desc then none else some (True, .ifc t x)
theorem mkifV_sound {t : TypeId} {n : Nat} {x av : AV} {φ : Prop} (h : mkifV C t x = some (φ, av)) (hl : x.lt n) : (Instr.makeInterface t (x.den ρ)).run C.P w = .ok (av.den ρ) w ∧ av.lt n := by
 unfold mkifV at h
 cases hs : C.ti t with
 | none => rw [hs] at h; cases h
 | some s =>
   rw [hs] at h
   simp only [Option.bind_some] at h
   cases hd : isIface s.desc <;> rw [hd] at h
   · simp only [cond_false, Option.some.injEq, Prod.mk.injEq] at h
     obtain ⟨rfl, rfl⟩ := h
     refine ⟨?_, hl⟩
     simp only [Instr.makeInterface, Sem.run_bind, run_underlying hs, Result.andThen_ok]
     revert hd
     cases s.desc <;> intro hd <;> first | rfl | cases hd
   · cases h
def lenV : AV → RV
 | .str l => some (True, .int .i64 l.length)
 | .sl _ _ _ _ len _ => some (True, .int .i64 len)
 | .v (.slice none 0 _) => some (True, .int .i64 0)
 | _ => none
def capV : AV → RV
 | .sl _ _ _ _ _ cap => some (True, .int .i64 cap)
 | .v (.slice none 0 0) => some (True, .int .i64 0)
 | _ => none
def nilV : AV → RV
 | .ptr id off => some (True, .ptr id off)
 | .pix id n i j => some (True, .pix id n i j)
 | .v (.pointer (some a)) => some (True, .v (.pointer (some a)))
 | .fn (.func f) a b => some (True, .fn (.func f) a b)
 | _ => none
end
end Go.Eng
