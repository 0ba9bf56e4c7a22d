/- A part of the proof that the rows statement FnSetBack holds; no conditions. -/
import Derived.Test.YthkgjhnckakliaaGreatDoorZAE
import Derived.Laws.AppendOwn
set_option linter.unusedVariables false
set_option linter.unusedSimpArgs false
set_option linter.unusedSectionVars false
namespace Go.Eng
section
variable {C : Cy} {E : En} {ops : Array Oper} {rest : List Oper} {nx : Nat} {tm : Tm} {hp : Hp} {Q : Po}
def isArr : AO → Bool
 | .iter _ _ | .smap _ | .dead => false
 | _ => true
theorem isArr_is {ρ : Nat → Nat × Nat} {β : Nat} {o : AO} {b : Option Obj} (hk : isArr o = true) : o.is ρ β b ↔ (o.tot = none ∧ o.avs = []) ∨ ∃ pre rest fz e, b = some (.cells (pre ++ (denL ρ o.avs ++ rest)).toArray e fz) ∧ pre.length = β ∧ (∀ k, o.tot = some k → β = 0 ∧ (denL ρ o.avs ++ rest).length = k ∧ unfz fz k ∧ e = o.elem) := by
 cases o <;> first | rfl | cases hk
theorem isArr_ex {ρ : Nat → Nat × Nat} {β : Nat} {o : AO} {b : Option Obj} {tt : Nat} (hk : isArr o = true) (ht : o.tot = some tt) (h : o.is ρ β b) :
 ∃ rest fz, β = 0 ∧ b = some (.cells (denL ρ o.avs ++ rest).toArray o.elem fz) ∧ (∀ k, o.tot = some k → (denL ρ o.avs ++ rest).length = k ∧ unfz fz k) := by
 obtain ⟨pre, rest, fz, e, h1, h2, h3⟩ := ((isArr_is hk).1 h).resolve_left fun h' => by rw [h'.1] at ht; cases ht
 have hp : pre = [] := List.length_eq_zero_iff.1 (h2.trans (h3 tt ht).1)
 subst hp
 have he := (h3 tt ht).2.2.2
 subst he
 exact ⟨rest, fz, (h3 tt ht).1, by simpa using h1, fun k hk => ⟨(h3 k hk).2.1, (h3 k hk).2.2.1⟩⟩
theorem isArr_mk {ρ : Nat → Nat × Nat} {o : AO} {b : Option Obj} (hk : isArr o = true) (h : ∃ rest fz, b = some (.cells (denL ρ o.avs ++ rest).toArray o.elem fz) ∧ (∀ k, o.tot = some k → (denL ρ o.avs ++ rest).length = k ∧ unfz fz k)) : o.is ρ 0 b := by
 obtain ⟨rest, fz, h1, h2⟩ := h
 exact (isArr_is hk).2 (.inr ⟨[], rest, fz, o.elem, by simpa using h1, rfl, fun k hk => ⟨rfl, (h2 k hk).1, (h2 k hk).2, rfl⟩⟩)
theorem isArr_live {o : AO} (h : isArr o = true) : o.live = true := by cases o <;> first | rfl | cases h
theorem ST.conv {ρ : Nat → Nat × Nat} {a : Act} {w : World} (H : ST C.toCx E ρ nx tm hp a w) {id : Nat} {o o' : AO} (ho : lk hp id = some o) (hk : isArr o = true) (hk' : isArr o' = true) (he : o'.elem = o.elem)
 (hm : o'.tot = none ∨ o'.tot = o.tot) (ha : ∃ r, o.avs = o'.avs ++ r) : ST C.toCx E ρ nx tm ((id, o') :: hp) a w := by
 obtain ⟨r, hr⟩ := ha
 obtain ⟨g1, g2, g3⟩ := H.heap.objs id o ho
 have hl : o'.lt nx := by have := g2; unfold AO.lt at *; rw [hr, ltL_append] at this; exact this.1
 have hi : o'.is ρ (ρ id).2 w.heap[(ρ id).1]? := by
  rw [isArr_is hk']
  rcases (isArr_is hk).1 g3 with ⟨q1, q2⟩ | ⟨pre, rest, fz, el, h1, h0, h2⟩
  · refine .inl ⟨?_, ?_⟩
    · rcases hm with hm | hm
      · exact hm
      · rw [hm, q1]
    · rw [hr] at q2; exact (List.append_eq_nil_iff.1 q2).1
  refine .inr ⟨pre, denL ρ r ++ rest, fz, el, ?_, h0, fun k hk => ?_⟩
  · rw [h1, hr, denL_append]; simp only [List.append_assoc]
  · rcases hm with hm | hm
    · rw [hm] at hk; cases hk
    · rw [hm] at hk
      obtain ⟨k1, k2, k3, k4⟩ := h2 k hk
      rw [hr, denL_append, List.append_assoc] at k2
      exact ⟨k1, k2, k3, k4.trans he.symm⟩
 have hm : o'.mut = true → o.mut = true := by
  intro h
  rcases hm with hm | hm
  · simp only [AO.mut, hm] at h; cases h
  · simp only [AO.mut, hm] at h; exact h
 refine ⟨H.defers, H.size, H.tmps, ⟨?_, ?_, ?_, ?_, H.heap.glob⟩, ⟨H.fr.frame, ?_, ?_, H.fr.hsize, H.fr.tape, H.fr.os, H.fr.output⟩, H.n0, H.agree⟩
 · intro i p h
   rw [lk_cons] at h; split at h
   · rename_i e; subst e; cases h; exact ⟨g1, hl, hi⟩
   · exact H.heap.objs i p h
 · intro i p h hv
   rw [lk_cons] at h; split at h
   · rename_i e; subst e; exact H.heap.bound _ _ ho (isArr_live hk)
   · exact H.heap.bound i p h hv
 · intro i p j q h1 h2 hm' hv hne
   rw [lk_cons] at h1 h2
   split at h1 <;> split at h2
   · rename_i e e'; omega
   · rename_i e e'; subst e; cases h1; exact H.heap.sep _ _ j q ho h2 (hm hm') hv hne
   · rename_i e e'; subst e'; exact H.heap.sep i p _ _ h1 ho hm' (isArr_live hk) hne
   · exact H.heap.sep i p j q h1 h2 hm' hv hne
 · intro i p h hm'
   rw [lk_cons] at h; split at h
   · rename_i e; subst e; cases h; exact H.heap.apart _ _ ho (hm hm')
   · exact H.heap.apart i p h hm'
 · intro i p h hm'
   rw [lk_cons] at h; split at h
   · rename_i e; subst e; cases h; exact H.fr.own _ _ ho (hm hm')
   · exact H.fr.own i p h hm'
 · intro i p h hm'
   rw [lk_cons] at h; split at h
   · rename_i e; subst e; exact H.fr.own2 _ _ ho (isArr_live hk)
   · exact H.fr.own2 i p h hm'
theorem W_conv {c : Code} (id : Nat) {o : AO} (o' : AO) (ho : lk hp id = some o) (hk : isArr o = true) (hk' : isArr o' = true) (he : o'.elem = o.elem) (hm : o'.tot = none ∨ o'.tot = o.tot) (ha : ∃ r, o.avs = o'.avs ++ r)
 (h : W C E c nx tm ((id, o') :: hp) Q) : W C E c nx tm hp Q := fun ρ a w H => h ρ a w (H.conv ho hk hk' he hm ha)
theorem WL_conv (id : Nat) {o : AO} (o' : AO) (ho : lk hp id = some o) (hk : isArr o = true) (hk' : isArr o' = true) (he : o'.elem = o.elem) (hm : o'.tot = none ∨ o'.tot = o.tot) (ha : ∃ r, o.avs = o'.avs ++ r)
 (h : WL C E ops rest nx tm ((id, o') :: hp) Q) : WL C E ops rest nx tm hp Q := fun ρ a w H => h ρ a w (H.conv ho hk hk' he hm ha)
theorem decode_ascii (s : ByteArray) (i : Nat) (h : i < s.size) (ha : (s[i]'h).toNat < 128) : Utf8.decode s i = ((s[i]'h).toNat, 1) := by
 have e : s.get! i = s[i] := by
  obtain ⟨b⟩ := s
  show b[i]! = b[i]
  exact getElem!_pos b i h
 unfold Utf8.decode
 simp only [Nat.add_zero, e, ha, if_true]
theorem WL_next {d : Nat} {x : Operand} {ty : TypeId} {pos : String} {af : Array Edge} {g : Option (Nat × Bool)} {id p : Nat} {l : List UInt8}
 (hx : ev tm x = some (.ptr id 0)) (ho : lk hp id = some (.iter l p)) (hg : wanted ops tm g = some true) (hd : Nat.blt d E.nt = true) (hlt : p < l.length) (ha : bt l p < 128)
 (h : WL C E ops rest nx ((d, .tup [.bool true, .int .i64 p, .int .i32 (bt l p)]) :: tm) ((id, .iter l (p + 1)) :: hp) Q) : WL C E ops (⟨some d, .next x true, ty, pos, af, g⟩ :: rest) nx tm hp Q := by
 intro ρ a w H
 obtain ⟨g1, g2, g3⟩ := H.heap.objs id _ ho
 obtain ⟨hβ, g3⟩ := g3
 have g3 : w.heap[(ρ id).1]? = some (.stringIter ⟨l.toArray⟩ p) := g3
 have hb : (ByteArray.mk l.toArray)[p]'(by rw [size_mk]; exact hlt) = l[p] := rfl
 have ha' : ((ByteArray.mk l.toArray)[p]'(by rw [size_mk]; exact hlt)).toNat < 128 := by
  rw [hb]; simp only [bt, Int.toNat_natCast, List.getD_eq_getElem?_getD, List.getElem?_eq_getElem hlt, Option.getD_some] at ha; omega
 have hdec := decode_ascii ⟨l.toArray⟩ p (by rw [size_mk]; exact hlt) ha'
 have hblt : (ρ id).1 < w.heap.size := H.heap.bound id _ ho rfl
 have hrun : (execOp a.eval ⟨some d, .next x true, ty, pos, af, g⟩).run C.P w = .ok (.value ((AV.tup [.bool true, .int .i64 p, .int .i32 (bt l p)]).den ρ)) { w with heap := w.heap.setIfInBounds (ρ id).1 (.stringIter ⟨l.toArray⟩ (p + 1)) } := by
  simp only [execOp, Instr.next, (H.ev hx).1, AV.den, hβ, Nat.add_zero, getObj, Sem.run_bind, Sem.run, g3, Result.andThen_ok]
  simp only [size_mk, hlt, if_true, hdec, setObj, Sem.run_bind, Sem.run, g3, Result.andThen_ok, Sem.run_pure, denL, AV.den, goInt]
  simp only [hb, bt, Int.toNat_natCast, List.getD_eq_getElem?_getD, List.getElem?_eq_getElem hlt, Option.getD_some]
 refine wpList_of_run (wanted_sound H (o := ⟨some d, .next x true, ty, pos, af, g⟩) hg) hrun (h ρ _ _ (ST.put ?_ (by simpa [Nat.blt_eq] using hd) ⟨trivial, trivial, trivial, trivial⟩))
 refine H.set ho rfl trivial ?_ (by simp) ?_ rfl rfl rfl
 · refine ⟨hβ, ?_⟩
   show (w.heap.setIfInBounds (ρ id).1 _)[(ρ id).1]? = _
   simp [hblt]
 · intro b hb
   show (w.heap.setIfInBounds (ρ id).1 _)[b]? = _
   rw [Array.getElem?_setIfInBounds_ne (by omega)]
theorem WL_next_end {d : Nat} {x : Operand} {ty : TypeId} {pos : String} {af : Array Edge} {g : Option (Nat × Bool)} {id p : Nat} {l : List UInt8}
 (hx : ev tm x = some (.ptr id 0)) (ho : lk hp id = some (.iter l p)) (hg : wanted ops tm g = some true) (hd : Nat.blt d E.nt = true) (hlt : l.length ≤ p)
 (h : WL C E ops rest nx ((d, .tup [.bool false]) :: tm) hp Q) : WL C E ops (⟨some d, .next x true, ty, pos, af, g⟩ :: rest) nx tm hp Q := by
 intro ρ a w H
 obtain ⟨g1, g2, g3⟩ := H.heap.objs id _ ho
 obtain ⟨hβ, g3⟩ := g3
 have g3 : w.heap[(ρ id).1]? = some (.stringIter ⟨l.toArray⟩ p) := g3
 have hrun : (execOp a.eval ⟨some d, .next x true, ty, pos, af, g⟩).run C.P w = .ok (.value ((AV.tup [.bool false]).den ρ)) w := by
  simp only [execOp, Instr.next, (H.ev hx).1, AV.den, hβ, Nat.add_zero, getObj, Sem.run_bind, Sem.run, g3, Result.andThen_ok]
  simp only [size_mk, Nat.not_lt.2 hlt, if_false, Sem.run_pure, Sem.run, Result.andThen_ok, denL, AV.den]
 exact wpList_of_run (wanted_sound H (o := ⟨some d, .next x true, ty, pos, af, g⟩) hg) hrun (h ρ _ _ (H.put (by simpa [Nat.blt_eq] using hd) ⟨trivial, trivial⟩))
theorem WL_make {d : Nat} {t : TypeId} {lo co : Operand} {ty : TypeId} {pos : String} {af : Array Edge} {g : Option (Nat × Bool)} {s te : TS} {e : TypeId} {kl kc : IntKind} {l c : Int} {z : Value} {zs : List AV} (o : AO)
 (hs : C.ti t = some s) (hsd : s.desc = .slice e) (hte : C.ti e = some te) (hz : te.zero = some z) (hzs : (absV z).cellsL = some zs) (hzl : zs.length = te.size)
 (hl : ev tm lo = some (.int kl l)) (hc : ev tm co = some (.int kc c)) (hg : wanted ops tm g = some true) (hd : Nat.blt d E.nt = true)
 (hb : 0 ≤ l ∧ l ≤ c ∧ c ≤ 9223372036854775807 ∧ te.bytes * c ≤ 281474976710656) (hk : isArr o = true) (hoe : o.elem = e) (hoa : o.avs = (List.replicate c.toNat zs).flatten) (hot : o.tot = some o.avs.length)
 (h : WL C E ops rest (nx + 1) ((d, .sl false nx te.size 0 l.toNat c.toNat) :: tm) ((nx, o) :: hp) Q) : WL C E ops (⟨some d, .makeSlice t lo co, ty, pos, af, g⟩ :: rest) nx tm hp Q := by
 intro ρ a w H
 obtain ⟨h1, h2, h3, h4⟩ := hb
 have w1 : IntKind.i64.wrap l = l := rng_wrap (k := .i64) (by simp only [rng]; omega)
 have w2 : IntKind.i64.wrap c = c := rng_wrap (k := .i64) (by simp only [rng]; omega)
 obtain ⟨i, hi1, hi2, hi3, hi4⟩ := run_typeInfo (C := C.toCx) (w := w) hte
 have hcz : z.cells = (denL ρ zs).toArray := by have := (cellsL_den (ρ := ρ) hzs).1; rwa [den_absV] at this
 have hzz : (Array.range (c.toNat * te.size)).map ((if c.toNat * te.size = 0 then #[] else z.cells)[· % (if c.toNat * te.size = 0 then #[] else z.cells).size]!) = (denL ρ o.avs).toArray := by
  rw [hoa]
  apply Array.ext'
  by_cases h0 : c.toNat * te.size = 0
  · rw [h0]
    have : (List.replicate c.toNat zs).flatten = [] := by
     rw [← List.length_eq_zero_iff]
     simp only [List.length_flatten, List.map_replicate, List.sum_replicate_nat, hzl, h0]
    rw [this]; simp [denL]
  · rw [if_neg h0, hcz]
    have := zeros_eq (denL ρ zs) c.toNat
    rw [denL_length, hzl] at this
    simp only [List.size_toArray, denL_length, hzl]
    rw [this]
    simp only [denL_eq_map, List.map_flatten, List.map_replicate]
 have hrun : (execOp a.eval ⟨some d, .makeSlice t lo co, ty, pos, af, g⟩).run C.P w = .ok (.value ((AV.sl false nx te.size 0 l.toNat c.toNat).den (upd ρ nx w.heap.size))) (w.alloc (.cells (denL ρ o.avs).toArray e)) := by
  have ht1 : ¬ ((i.bytes : Int) * c > 2 ^ 48) := by rw [hi3]; have e48 : (2 : Int) ^ 48 = 281474976710656 := rfl; rw [e48]; omega
  simp only [execOp, Instr.makeSlice, (H.ev hl).1, (H.ev hc).1, AV.den, Bool.false_and, cond_false, Sem.run_bind, run_underlying hs, hsd, Result.andThen_ok, asInt, asIntOf, Sem.run_pure, hi1, w1, w2, upd_same]
  have hcond : ((decide (c < 0) || decide ((i.bytes : Int) * c > 2 ^ 48)) || decide (l < 0) || decide (l > c)) = false := by
   simp only [Bool.or_eq_false_iff, decide_eq_false_iff_not]
   exact ⟨⟨⟨by omega, ht1⟩, by omega⟩, by omega⟩
  simp only [hcond, Bool.false_eq_true, if_false, Sem.run_bind, run_askRoom, Result.andThen_ok, run_sizeOf hte]
  have key : ∀ zero : Array Value, zero = (if c.toNat * te.size = 0 then #[] else z.cells) → (Array.range (c.toNat * te.size)).map (zero[· % zero.size]!) = (denL ρ o.avs).toArray := by
   intro zero hz0; subst hz0; exact hzz
  by_cases h0 : c.toNat * te.size = 0
  · have k := key #[] (by rw [if_pos h0])
    simp only [h0, if_true, Sem.run_pure, Result.andThen_ok] at k ⊢
    simp only [k, newRow, Sem.run_bind, run_newObj, Result.andThen_ok, Sem.run_pure, World.alloc_eq, Nat.zero_mul]
  · have k := key z.cells (by rw [if_neg h0])
    simp only [h0, if_false, Sem.run_bind, run_zeroValue hte hz, Sem.run_pure, Result.andThen_ok] at k ⊢
    simp only [k, newRow, Sem.run_bind, run_newObj, Result.andThen_ok, Sem.run_pure, World.alloc_eq, Nat.zero_mul]
 have hol : o.lt nx := by
  unfold AO.lt; rw [hoa, ltL_iff]
  intro x hx
  obtain ⟨l', hl', hx'⟩ := List.mem_flatten.1 hx
  rw [(List.mem_replicate.1 hl').2] at hx'
  exact (ltL_iff nx zs).1 (cellsL_lt hzs (lt_absV nx z)) x hx'
 have hoi : o.is ρ 0 (some (.cells (denL ρ o.avs).toArray e)) := by
  exact isArr_mk hk ⟨[], (0, 0), by rw [hoe]; simp, fun k hk' => ⟨by rw [hot] at hk'; cases hk'; simp [denL_length], unfz_zero _⟩⟩
 exact wpList_of_run (wanted_sound H (o := ⟨some d, .makeSlice t lo co, ty, pos, af, g⟩) hg) hrun (h _ _ _ ((H.alloc hol hoi).put (by simpa [Nat.blt_eq] using hd) (by simp only [AV.lt]; omega)))
end
end Go.Eng
namespace Go.Eng
def dstA (hp : Hp) (n : Nat) : AV → Option (Prop × Nat × List AV × Option Nat)
 | .v (.slice none 0 0) => some (True, 0, [], none)
 | .sl false id m off len cap => (lk hp id).bind fun o => match o.tot with
   | some tt => bif Nat.beq m n && isArr o && Nat.beq off 0 then some (len * n ≤ o.avs.length ∧ cap * n ≤ tt ∧ len ≤ cap, len, o.avs.take (len * n), some id) else none
   | none => none
 | _ => none
def capOf : AV → Option Nat
 | .sl _ _ _ _ _ cap => some cap
 | _ => none
def killH (d : Option Nat) (hp : Hp) : Hp := match d with | some id => (id, .dead) :: hp | none => hp
section
variable {C : Cy} {E : En} {ops : Array Oper} {rest : List Oper} {nx : Nat} {tm : Tm} {hp : Hp} {Q : Po}
theorem ST.move {ρ : Nat → Nat × Nat} {a : Act} {w w' : World} (H : ST C.toCx E ρ nx tm hp a w) {id : Nat} {o o' : AO}
 (ho : lk hp id = some o) (hm : o.mut = true) (hl : o'.lt nx) (hi : o'.is ρ 0 w'.heap[(ρ id).1]?) (hlv : o'.live = true)
 (hs : w'.heap.size = w.heap.size) (hkp : ∀ b, b ≠ (ρ id).1 → w'.heap[b]? = w.heap[b]?) (ht : w'.tape = w.tape) (hos : w'.os = w.os) (hout : w'.output = w.output) :
 ST C.toCx E (upd ρ nx (ρ id).1) (nx + 1) tm ((nx, o') :: (id, .dead) :: hp) a w' := by
 have hc : ∀ i, i < nx → upd ρ nx (ρ id).1 i = ρ i := fun i h => upd_lt ρ nx _ i h
 have hlive : o.live = true := AO.mut_live hm
 have hidlt := (H.heap.objs id o ho).1
 have cls : ∀ {i p}, lk ((nx, o') :: (id, .dead) :: hp) i = some p → (i = nx ∧ p = o') ∨ (i = id ∧ p = .dead) ∨ (i ≠ id ∧ lk hp i = some p ∧ i < nx) := by
  intro i p h
  rw [lk_cons, lk_cons] at h
  split at h
  · rename_i e; cases h; exact .inl ⟨e.symm, rfl⟩
  · split at h
    · rename_i e; cases h; exact .inr (.inl ⟨e.symm, rfl⟩)
    · rename_i e; exact .inr (.inr ⟨fun e' => e e'.symm, h, (H.heap.objs i p h).1⟩)
 refine ⟨H.defers, H.size, ?_, ⟨?_, ?_, ?_, ?_, ?_⟩, ⟨?_, ?_, ?_, by rw [hs]; exact H.fr.hsize, ht.trans H.fr.tape, hos.trans H.fr.os, hout.trans H.fr.output⟩, by have := H.n0; omega, ?_⟩
 · intro t av h
   obtain ⟨h1, h2⟩ := H.tmps t av h
   exact ⟨AV.lt_mono (by omega) _ h1, by rw [AV.den_congr hc _ h1]; exact h2⟩
 · intro i p h
   rcases cls h with ⟨rfl, rfl⟩ | ⟨rfl, rfl⟩ | ⟨hne, h, hlt⟩
   · refine ⟨by omega, AO.lt_mono (by omega) _ hl, ?_⟩
     rw [upd_same, AO.is_congr hc _ hl]; exact hi
   · exact ⟨by omega, trivial, trivial⟩
   · obtain ⟨h1, h2, h3⟩ := H.heap.objs i p h
     refine ⟨by omega, AO.lt_mono (by omega) _ h2, ?_⟩
     rw [hc i h1, AO.is_congr hc _ h2]
     by_cases hv : p.live = true
     · rw [hkp _ (H.heap.sep id o i p ho h hm hv hne.symm).symm]; exact h3
     · cases p <;> simp only [AO.live, not_true_eq_false, reduceCtorEq] at hv
       trivial
 · intro i p h hv
   rw [hs]
   rcases cls h with ⟨rfl, rfl⟩ | ⟨rfl, rfl⟩ | ⟨hne, h, hlt⟩
   · rw [upd_same]; exact H.heap.bound _ _ ho hlive
   · cases hv
   · rw [hc i hlt]; exact H.heap.bound i p h hv
 · intro i p j q h1 h2 hm' hv hne
   rcases cls h1 with ⟨rfl, rfl⟩ | ⟨rfl, rfl⟩ | ⟨hne1, h1', hlt1⟩ <;> rcases cls h2 with ⟨rfl, rfl⟩ | ⟨rfl, rfl⟩ | ⟨hne2, h2', hlt2⟩
   · exact absurd rfl hne
   · cases hv
   · rw [upd_same, hc j hlt2]; exact H.heap.sep id o j q ho h2' hm hv hne2.symm
   · cases hm'
   · cases hm'
   · cases hm'
   · rw [upd_same, hc i hlt1]; exact H.heap.sep i p id o h1' ho hm' hlive hne1
   · cases hv
   · rw [hc i hlt1, hc j hlt2]; exact H.heap.sep i p j q h1' h2' hm' hv hne
 · intro i p h hm'
   rcases cls h with ⟨rfl, rfl⟩ | ⟨rfl, rfl⟩ | ⟨hne, h, hlt⟩
   · rw [upd_same]; exact H.heap.apart _ _ ho hm
   · cases hm'
   · rw [hc i hlt]; exact H.heap.apart i p h hm'
 · refine H.heap.glob.keep (by omega) fun g hg => ?_
   rw [hkp _ (by have := H.heap.apart id o ho hm; omega)]
 · intro b hb hS
   have hne : b ≠ (ρ id).1 := by
    intro e; subst e
    rcases H.fr.own id o ho hm with h | h
    · exact hS h
    · omega
   rw [hkp b hne]; exact H.fr.frame b hb hS
 · intro i p h hm'
   rcases cls h with ⟨rfl, rfl⟩ | ⟨rfl, rfl⟩ | ⟨hne, h, hlt⟩
   · rw [upd_same]; exact H.fr.own _ _ ho hm
   · cases hm'
   · rw [hc i hlt]; exact H.fr.own i p h hm'
 · intro i p h hm'
   rcases cls h with ⟨rfl, rfl⟩ | ⟨rfl, rfl⟩ | ⟨hne, h, hlt⟩
   · rw [upd_same]; exact H.fr.own2 _ _ ho hlive
   · cases hm'
   · rw [hc i hlt]; exact H.fr.own2 i p h hm'
 · intro i h; rw [hc i (by have := H.n0; omega)]; exact H.agree i h
theorem run_append_room' {P : Program} {w w' : World} (t ty e : TypeId) (i : TypeInfo) (ht : P.underlying t = some (.slice e)) (hi : P.info? e = some i)
 (g sLen sCap : Nat) (a : Addr) (m c : Nat) (news : List Value) (hl : news.length = m * i.size) (hnews : ∀ j u, news[j]? = some u → w.cell? (a.add j) = some u)
 (hroom : sLen + m ≤ sCap) (hst : (storeCells ⟨g, sLen * i.size, none⟩ news).run P w = .ok () w') :
 (Builtin.append_ #[t, t] ty #[.slice (some ⟨g, 0, none⟩) sLen sCap, .slice (some a) m c]).run P w = .ok (.slice (some ⟨g, 0, none⟩) (sLen + m) sCap) w' := by
 have hf := run_firstCells_some (P := P) w i.size m a m c news hl hnews
 simp [Builtin.append_, Go.run_underlying ht, sizeOf, typeInfo, hi, Builtin.lenOf, hroom, hf, add_none, hst]
theorem cellsNews {ρ : Nat → Nat × Nat} {w : World} {n : Nat} (H : HR C.toCx ρ n hp w) {id off : Nat} {o : AO} (ho : lk hp id = some o) (k cnt : Nat) :
 ∀ j u, (denL ρ ((o.avs.drop k).take cnt))[j]? = some u → w.cell? ((⟨(ρ id).1, (ρ id).2 + k, none⟩ : Addr).add j) = some u := by
 intro j v hj
 rw [denL_get] at hj
 cases hlj : ((o.avs.drop k).take cnt)[j]? with
 | none => rw [hlj] at hj; cases hj
 | some av =>
   rw [hlj] at hj
   simp only [Option.map_some, Option.some.injEq] at hj
   subst hj
   rw [add_none rfl, Nat.add_assoc]
   exact (H.cell ho (get_drop_take hlj)).1
theorem WL_append {d : Nat} {x y : Operand} {t : TypeId} {ty : TypeId} {pos : String} {af : Array Edge} {g : Option (Nat × Bool)} {s te : TS} {e : TypeId} {z : Value}
 {dst : AV} {φ1 : Prop} {len : Nat} {dcs : List AV} {did : Option Nat} {nl : Bool} {sid soff m scap : Nat} {so : AO} (mk : Nat → AO)
 (hx : ev tm x = some dst) (hy : ev tm y = some (.sl nl sid te.size soff m scap)) (hs : C.ti t = some s) (hsd : s.desc = .slice e) (hte : C.ti e = some te)
 (hz : te.zero = some z) (hzc : Nat.beq z.cells.size te.size = true) (hg : wanted ops tm g = some true) (hd : Nat.blt d E.nt = true)
 (hdst : dstA hp te.size dst = some (φ1, len, dcs, did)) (hφ1 : φ1) (hso : lk hp sid = some so) (hsa : isArr so = true) (hsl : (soff + m) * te.size ≤ so.avs.length)
 (hm : 0 < m) (hms : m ≤ scap) (hbound : len + m ≤ 140737488355328 ∧ (len + m) * te.bytes ≤ 140737488355328)
 (hk : ∀ k, isArr (mk k) = true ∧ (mk k).tot = some k ∧ (mk k).elem = e ∧ (mk k).avs = dcs ++ (so.avs.drop (soff * te.size)).take (m * te.size))
 (hpl : ∀ a ∈ (so.avs.drop (soff * te.size)).take (m * te.size), a.plain1 = true) (hoe : ∀ id o, did = some id → lk hp id = some o → o.elem = e)
 (h : ∀ cap' tt, len + m ≤ cap' → cap' * te.size ≤ tt → (∀ c, capOf dst = some c → len + m ≤ c → cap' = c) → WL C E ops rest (nx + 1) ((d, .sl false nx te.size 0 (len + m) cap') :: tm) ((nx, mk tt) :: killH did hp) Q) :
 WL C E ops (⟨some d, .call ⟨.builtin .append, #[x, y], #[t, t]⟩, ty, pos, af, g⟩ :: rest) nx tm hp Q := by
 intro ρ a w H
 obtain ⟨i, hi0, hi2, hi3, hi4⟩ := (C.tiok e te hte).2
 have hu : C.P.underlying t = some (.slice e) := by rw [(C.tiok t s hs).1, hsd]
 have hd' : d < E.nt := by simpa [Nat.blt_eq] using hd
 have hw := wanted_sound H (o := ⟨some d, .call ⟨.builtin .append, #[x, y], #[t, t]⟩, ty, pos, af, g⟩) hg
 have hxv := (H.ev hx).1
 have hyv := (H.ev hy).1
 have hz' : i.zero = some z := hi4.trans hz
 have hzs : z.cells.size = te.size := Nat.eq_of_beq_eq_true hzc
 have hpre : ∀ (v : Value) (w' : World), (Builtin.append_ #[t, t] ty #[dst.den ρ, .slice (some ⟨(ρ sid).1, (ρ sid).2 + soff * te.size, none⟩) m scap]).run C.P w = .ok v w' →
  (execOp a.eval ⟨some d, .call ⟨.builtin .append, #[x, y], #[t, t]⟩, ty, pos, af, g⟩).run C.P w = .ok (.value v) w' := by
  intro v w' hr
  simp only [execOp, resolve, Sem.run_bind, Sem.run_pure, Result.andThen_ok, invoke, builtin, List.map_toArray, List.map_cons, List.map_nil, hxv, hyv]
  have hnl : (nl && Nat.beq scap 0) = false := nlz (by omega)
  simp only [AV.den, hnl, cond_false, hr, Result.andThen_ok]
 have hsl2 : ((so.avs.drop (soff * te.size)).take (m * te.size)).length = m * te.size := by
  rw [List.length_take, List.length_drop]; rw [Nat.add_mul] at hsl; omega
 have hnl : (denL ρ ((so.avs.drop (soff * te.size)).take (m * te.size))).length = m * i.size := by rw [denL_length, hsl2, hi2]
 have hnews := cellsNews H.heap (off := 0) hso (soff * te.size) (m * te.size)
 have hslt : ltL nx ((so.avs.drop (soff * te.size)).take (m * te.size)) := by
  have := (H.heap.objs sid so hso).2.1
  unfold AO.lt at this
  rw [ltL_iff] at this ⊢
  intro a ha
  exact this a (List.mem_of_mem_drop (List.mem_of_mem_take ha))
 generalize hsc : (so.avs.drop (soff * te.size)).take (m * te.size) = scs at *
 have grow : ∀ (cap' : Nat) (zs : List Value), len + m ≤ cap' → (∀ c, capOf dst = some c → len + m ≤ c → cap' = c) → zs.length = (cap' - (len + m)) * te.size → dcs.length = len * te.size → ltL nx dcs →
  wpList C.P ops (QQ C E Q) rest (a.put (some d) (.slice (some ⟨w.heap.size, 0, none⟩) (len + m) cap')) (w.drew.alloc (.cells (denL ρ dcs ++ denL ρ scs ++ zs).toArray e)) := by
  intro cap' zs hc hcap hzl hdl hdlt
  obtain ⟨k1, k2, k3, k4⟩ := hk (cap' * te.size)
  have htl : (denL ρ dcs ++ denL ρ scs ++ zs).length = cap' * te.size := by
   simp only [List.length_append, denL_length, hdl, hsl2, hzl, ← Nat.add_mul]
   congr 1; omega
  have hol : (mk (cap' * te.size)).lt nx := by unfold AO.lt; rw [k4, ltL_append]; exact ⟨hdlt, hslt⟩
  have hoi : (mk (cap' * te.size)).is ρ 0 (some (.cells (denL ρ dcs ++ denL ρ scs ++ zs).toArray e)) := by
   refine isArr_mk k1 ?_
   rw [k2, k3, k4]
   refine ⟨zs, (0, 0), by rw [denL_append], fun k hk' => ?_⟩
   cases hk'
   rw [denL_append]
   exact ⟨htl, unfz_zero _⟩
  have S1 := H.drew.alloc hol hoi
  have S2 : ST C.toCx E (upd ρ nx w.drew.heap.size) (nx + 1) tm ((nx, mk (cap' * te.size)) :: killH did hp) a (w.drew.alloc (.cells (denL ρ dcs ++ denL ρ scs ++ zs).toArray e)) := by
   refine S1.drop ?_
   intro id o h
   rw [lk_cons] at h
   split at h
   · rename_i e; cases h; exact .inr (by rw [lk_cons, if_pos e])
   · rename_i hne
     unfold killH at h
     cases hdid : did with
     | none => rw [hdid] at h; exact .inr (by rw [lk_cons, if_neg hne]; exact h)
     | some q =>
       rw [hdid] at h
       simp only at h
       rw [lk_cons] at h
       split at h
       · rename_i e; cases h; subst e
         refine .inl ⟨rfl, ?_⟩
         have : ∃ o, lk hp q = some o := by
          unfold dstA at hdst
          split at hdst
          · simp only [Option.some.injEq, Prod.mk.injEq] at hdst; rw [hdid] at hdst; exact absurd hdst.2.2.2 (by simp)
          · obtain ⟨o, ho, hdst⟩ := bind_some' hdst
            split at hdst
            · rename_i tt _
              revert hdst
              cases (Nat.beq _ te.size && isArr o && Nat.beq _ 0)
              · intro h; cases h
              · intro h
                simp only [cond_true, Option.some.injEq, Prod.mk.injEq] at h
                rw [hdid] at h; have := h.2.2.2; cases this; exact ⟨o, ho⟩
            · cases hdst
          · cases hdst
         obtain ⟨o, ho⟩ := this
         have := (H.heap.objs q o ho).1
         omega
       · exact .inr (by rw [lk_cons, if_neg hne]; exact h)
  have S3 := S2.put (d := d) (av := .sl false nx te.size 0 (len + m) cap') hd' (by simp only [AV.lt]; omega)
  have e1 : (AV.sl false nx te.size 0 (len + m) cap').den (upd ρ nx w.drew.heap.size) = .slice (some ⟨w.heap.size, 0, none⟩) (len + m) cap' := by
   simp only [AV.den, upd_same, Nat.zero_mul, Bool.false_and, cond_false]; rfl
  rw [e1] at S3
  exact h cap' _ hc (Nat.le_refl _) hcap _ _ _ S3
 unfold dstA at hdst
 split at hdst
 ·
  simp only [Option.some.injEq, Prod.mk.injEq] at hdst
  obtain ⟨_, rfl, rfl, rfl⟩ := hdst
  have hb2 : m * te.bytes ≤ 281474976710656 := by have := hbound.2; rw [Nat.zero_add] at this; omega
  have hr := run_append_nil (P := C.P) w t ty e i z hu hi0 hz' ⟨(ρ sid).1, (ρ sid).2 + soff * te.size, none⟩ m scap (denL ρ scs) hnl hnews hm (by omega) (by rw [hi3]; exact hb2)
  refine wpList_of_run hw (hpre _ _ hr) ?_
  have hg := grow (grownCap w m 0 e) (Builtin.zeroCells z.cells (grownCap w m 0 e - m)).toList (by have := grownCap_ge w m 0 e; omega) (by intro c hc; cases hc)
   (by rw [Array.length_toList, size_zeroCells, hzs, Nat.zero_add]) (by simp) trivial
  have e2 : (denL ρ [] ++ denL ρ scs ++ (Builtin.zeroCells z.cells (grownCap w m 0 e - m)).toList).toArray = (denL ρ scs).toArray ++ Builtin.zeroCells z.cells (grownCap w m 0 e - m) := by
   apply Array.ext'; simp [denL]
  rw [e2, Nat.zero_add] at hg
  exact hg
 · rename_i id n off len' cap
   obtain ⟨o, ho, hdst⟩ := bind_some' hdst
   split at hdst
   case h_2 => cases hdst
   rename_i tt htt
   cases hb : (Nat.beq n te.size && isArr o && Nat.beq off 0) <;> rw [hb] at hdst
   · cases hdst
   simp only [cond_true, Option.some.injEq, Prod.mk.injEq] at hdst
   obtain ⟨rfl, rfl, rfl, rfl⟩ := hdst
   simp only [Bool.and_eq_true] at hb
   obtain ⟨⟨hb1, hb2⟩, hb3⟩ := hb
   have hb1 := Nat.eq_of_beq_eq_true hb1
   have hb3 := Nat.eq_of_beq_eq_true hb3
   subst hb1 hb3
   obtain ⟨q1, q2, q3⟩ := hφ1
   obtain ⟨g1, g2, g3⟩ := H.heap.objs id o ho
   obtain ⟨rst, fz, hβ, hcell, htot⟩ := isArr_ex hb2 htt g3
   obtain ⟨htl, hfz⟩ := htot tt htt
   have hdl : (o.avs.take (len' * te.size)).length = len' * te.size := by rw [List.length_take]; omega
   have hdlt : ltL nx (o.avs.take (len' * te.size)) := by
    have := g2
    unfold AO.lt at this
    rw [ltL_iff] at this ⊢
    exact fun a ha => this a (List.mem_of_mem_take ha)
   have helem := hoe id o rfl ho
   have hdv : (AV.sl false id te.size 0 len' cap).den ρ = .slice (some ⟨(ρ id).1, 0, none⟩) len' cap := by simp only [AV.den, hβ, Nat.zero_add, Nat.zero_mul, Bool.false_and, cond_false]
   rw [hdv] at hpre
   by_cases hroom : len' + m ≤ cap
   ·
    have hfit : (len' + m) * te.size ≤ tt := Nat.le_trans (Nat.mul_le_mul_right _ hroom) q2
    rw [Nat.add_mul] at hfit
    obtain ⟨w', s1, s2, s3, s4, s5, s6, s7⟩ := run_storeCells (P := C.P) (b := (ρ id).1) (e := o.elem) (len' * te.size) (denL ρ scs) 0 w _ hcell (by simpa [htl] using hfz)
     (by simp only [List.size_toArray, htl, denL_length, hsl2]; omega) (by intro v hv; rw [denL_eq_map] at hv; obtain ⟨x, hx, rfl⟩ := List.mem_map.1 hv; exact (den_plain (hpl x hx)).2)
    have hr := run_append_room' (P := C.P) t ty e i hu hi0 (ρ id).1 len' cap ⟨(ρ sid).1, (ρ sid).2 + soff * te.size, none⟩ m scap (denL ρ scs) hnl hnews hroom (by rw [hi2]; exact s1)
    refine wpList_of_run hw (hpre _ _ hr) ?_
    obtain ⟨k1, k2, k3, k4⟩ := hk tt
    have hol : (mk tt).lt nx := by unfold AO.lt; rw [k4, ltL_append]; exact ⟨hdlt, hslt⟩
    have hoi : (mk tt).is ρ 0 w'.heap[(ρ id).1]? := by
     refine isArr_mk k1 ?_
     rw [k2, k3, k4, s2, ← helem]
     refine ⟨(denL ρ o.avs ++ rst).drop (len' * te.size + m * te.size), fz, ?_, ?_⟩
     · congr 3
       rw [denL_append]
       simp only [Nat.add_zero, denL_length, hsl2]
       rw [List.take_append_of_le_length (by rw [denL_length]; omega)]
       simp only [denL_eq_map, List.map_take]
     · intro k hk'
       cases hk'
       refine ⟨?_, hfz⟩
       simp only [denL_append, List.length_append, denL_length, hdl, hsl2, List.length_drop] at htl ⊢
       omega
    have S1 := H.move ho (by simp only [AO.mut, htt]; rfl) hol hoi (isArr_live k1) s4 s3 s5 s6 s7
    have S3 := S1.put (d := d) (av := .sl false nx te.size 0 (len' + m) cap) hd' (by simp only [AV.lt]; omega)
    have e1 : (AV.sl false nx te.size 0 (len' + m) cap).den (upd ρ nx (ρ id).1) = .slice (some ⟨(ρ id).1, 0, none⟩) (len' + m) cap := by
     simp only [AV.den, upd_same, Nat.zero_mul, Bool.false_and, cond_false]
    rw [e1] at S3
    exact h cap tt hroom q2 (by intro c hc _; cases hc; rfl) _ _ _ S3
   · have holds : ∀ j v, (denL ρ (o.avs.take (len' * te.size)))[j]? = some v → w.cell? ((⟨(ρ id).1, 0, none⟩ : Addr).add j) = some v := by
      have := cellsNews H.heap (off := 0) ho 0 (len' * te.size)
      simpa [hβ] using this
     have hgf : Builtin.nextslicecap (len' + m) cap * i.bytes ≤ 281474976710656 := growslice_fits (by omega) (by rw [hi3]; exact hbound.2)
     have hr := run_append_grow (P := C.P) w t ty e i z hu hi0 hz' ⟨(ρ id).1, 0, none⟩ len' cap (denL ρ (o.avs.take (len' * te.size))) (by rw [denL_length, hdl, hi2]) holds
      ⟨(ρ sid).1, (ρ sid).2 + soff * te.size, none⟩ m scap (denL ρ scs) hnl hnews (by omega) (by have := hbound.1; omega) hgf
     refine wpList_of_run hw (hpre _ _ hr) ?_
     have hg := grow (grownCap w (len' + m) cap e) (Builtin.zeroCells z.cells (grownCap w (len' + m) cap e - (len' + m))).toList (grownCap_ge w _ _ e) (by intro c hc hle; cases hc; exact absurd hle hroom)
      (by rw [Array.length_toList, size_zeroCells, hzs]) hdl hdlt
     have e2 : (denL ρ (o.avs.take (len' * te.size)) ++ denL ρ scs ++ (Builtin.zeroCells z.cells (grownCap w (len' + m) cap e - (len' + m))).toList).toArray =
      (denL ρ (o.avs.take (len' * te.size))).toArray ++ (denL ρ scs).toArray ++ Builtin.zeroCells z.cells (grownCap w (len' + m) cap e - (len' + m)) := by
      apply Array.ext'; simp
     rw [e2] at hg
     exact hg
 · cases hdst
end
end Go.Eng
