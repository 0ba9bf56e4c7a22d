/- A part of the proof that the rows statement FnSetAny holds: the engine of abstract states, the walks through the program, the bridge; no conditions. -/
import Derived.Test.YthkgjhnckakliaaGreatDoorZAP
import Derived.Test.YthkgjhnckakliaaGreatDoorZAO
import Derived.Test.YthkgjhnckakliaaGreatDoorZAU
set_option linter.unusedVariables false
set_option linter.unusedSimpArgs false
set_option linter.unusedSectionVars false
namespace Go.Eng
variable {C : Cy} {E : En} {ops : Array Oper} {rest : List Oper} {nx : Nat} {tm : Tm} {hp : Hp} {Q : Po}
theorem WL_negw {d : Nat} {t : TypeId} {x : Operand} {k : IntKind} {n : Int} {ty : TypeId} {pos : String} {af : Array Edge} {g : Option (Nat × Bool)}
    (hx : ev tm x = some (.int k n)) (hg : wanted ops tm g = some true) (hd : Nat.blt d E.nt = true) (h : WL C E ops rest nx ((d, .int k (k.wrap (0 - n))) :: tm) hp Q) :
    WL C E ops (⟨some d, .unOp .neg t x, ty, pos, af, g⟩ :: rest) nx tm hp Q := by
  intro ρ a w H
  have hrun : (execOp a.eval ⟨some d, .unOp .neg t x, ty, pos, af, g⟩).run C.P w = .ok (.value ((AV.int k (k.wrap (0 - n))).den ρ)) w := by
    simp only [execOp, (H.ev hx).1, AV.den]
    exact run_val rfl
  exact wpList_of_run (wanted_sound H (o := ⟨some d, .unOp .neg t x, ty, pos, af, g⟩) hg) hrun (h ρ _ w (H.put (av := .int k (k.wrap (0 - n))) (by simpa [Nat.blt_eq] using hd) trivial))
theorem WL_convw {d : Nat} {s t : TypeId} {x : Operand} {k k' : IntKind} {n : Int} {ts tt : TS} {ty : TypeId} {pos : String} {af : Array Edge} {g : Option (Nat × Bool)}
    (hx : ev tm x = some (.int k' n)) (hs : C.ti s = some ts) (hss : ts.desc = .int k') (ht : C.ti t = some tt) (htt : tt.desc = .int k) (hg : wanted ops tm g = some true) (hd : Nat.blt d E.nt = true)
    (h : WL C E ops rest nx ((d, .int k (k.wrap n)) :: tm) hp Q) :
    WL C E ops (⟨some d, .convert s t x, ty, pos, af, g⟩ :: rest) nx tm hp Q := by
  intro ρ a w H
  have hrun : (execOp a.eval ⟨some d, .convert s t x, ty, pos, af, g⟩).run C.P w = .ok (.value ((AV.int k (k.wrap n)).den ρ)) w := by
    simp only [execOp, (H.ev hx).1, AV.den]
    refine run_val ?_
    simp only [convert, Sem.run_bind, run_underlying hs, run_underlying ht, Result.andThen_ok, hss, htt]
    rfl
  exact wpList_of_run (wanted_sound H (o := ⟨some d, .convert s t x, ty, pos, af, g⟩) hg) hrun (h ρ _ w (H.put (av := .int k (k.wrap n)) (by simpa [Nat.blt_eq] using hd) trivial))
def Imp (C : Cy) (E : En) (nx : Nat) (tm : Tm) (hp : Hp) (n' : Nat) (tm' : Tm) (hp' : Hp) : Prop :=
  ∀ ρ a w, ST C.toCx E ρ nx tm hp a w → ∃ ρ', ST C.toCx E ρ' n' tm' hp' a w
theorem Imp_refl : Imp C E nx tm hp nx tm hp := fun ρ _ _ H => ⟨ρ, H⟩
theorem Imp_trans {n1 n2 : Nat} {tm1 tm2 : Tm} {hp1 hp2 : Hp} (h : Imp C E nx tm hp n1 tm1 hp1) (h2 : Imp C E n1 tm1 hp1 n2 tm2 hp2) : Imp C E nx tm hp n2 tm2 hp2 :=
  fun ρ a w H => by obtain ⟨ρ', H'⟩ := h ρ a w H; exact h2 ρ' a w H'
theorem Imp_ren (pl : List Nat) {n : Nat} {tm' : Tm} {hp' : Hp} (ht : subTm (pm pl) n tm tm') (hh : subHp (pm pl) n hp hp')
    (hd : nodupB (hp'.map fun p => pm pl p.1) = true) (hn : Nat.ble E.n0 n = true) (hi : upto E.n0 (fun i => Nat.beq (pm pl i) i) = true) : Imp C E nx tm hp n tm' hp' :=
  fun ρ a w H => ⟨_, H.ren ht hh hd (Nat.le_of_ble_eq_true hn) fun i h => Nat.eq_of_beq_eq_true (upto_spec hi h)⟩
theorem Imp_conv (id : Nat) {o : AO} (o' : AO) (ho : lk hp id = some o) (hk : isArr o = true) (hk' : isArr o' = true) (he : o'.elem = o.elem) (hm : o'.tot = none ∨ o'.tot = o.tot) (ha : ∃ r, o.avs = o'.avs ++ r) :
    Imp C E nx tm hp nx tm ((id, o') :: hp) := fun ρ a w H => ⟨ρ, H.conv ho hk hk' he hm ha⟩
theorem W_imp {c : Code} {n' : Nat} {tm' : Tm} {hp' : Hp} (h : Imp C E nx tm hp n' tm' hp') (hw : W C E c n' tm' hp' Q) : W C E c nx tm hp Q :=
  fun ρ a w H => by obtain ⟨ρ', H'⟩ := h ρ a w H; exact hw ρ' a w H'
theorem WL_imp {n' : Nat} {tm' : Tm} {hp' : Hp} (h : Imp C E nx tm hp n' tm' hp') (hw : WL C E ops rest n' tm' hp' Q) : WL C E ops rest nx tm hp Q :=
  fun ρ a w H => by obtain ⟨ρ', H'⟩ := h ρ a w H; exact hw ρ' a w H'
theorem LP_imp {c : Code} {n' : Nat} {tm' : Tm} {hp' : Hp} (h : Imp C E nx tm hp n' tm' hp') (hw : LP C E c n' tm' hp' Q) : LP C E c nx tm hp Q :=
  fun ρ a w H => by obtain ⟨ρ', H'⟩ := h ρ a w H; exact hw ρ' a w H'
theorem W_mid {c r : Code} {Q' : Po} {α : Type} (S : α → Nat × Tm × Hp) (Inv : α → Prop)
    (h1 : W C E c nx tm hp (Then (fun nx' tm' hp' => ∃ p, Inv p ∧ Imp C E nx' tm' hp' (S p).1 (S p).2.1 (S p).2.2) Q)) (h2 : ∀ p, Inv p → W C E r (S p).1 (S p).2.1 (S p).2.2 Q') :
    W C E c nx tm hp (Then (fun nx tm hp => W C E r nx tm hp Q') Q) := by
  refine W_mono h1 ?_
  intro e nx' tm' hp' h
  cases e <;> first | exact h | skip
  obtain ⟨p, hi, him⟩ := h
  exact W_imp him (h2 p hi)
theorem ST.nilO {ρ : Nat → Nat × Nat} {a : Act} {w : World} (H : ST C.toCx E ρ nx tm hp a w) (hng : 0 < C.ng) {o : AO} (h1 : o.tot = none) (h2 : o.avs = []) (h3 : isArr o = true) :
    ST C.toCx E (fun i => if i = nx then (0, 0) else ρ i) (nx + 1) tm ((nx, o) :: hp) a w := by
  have hs : 0 < w.heap.size := Nat.lt_of_lt_of_le hng H.heap.glob.1
  have hne : ∀ i, i < nx → (if i = nx then ((0, 0) : Nat × Nat) else ρ i) = ρ i := fun i hi => if_neg (by omega)
  have hmut : o.mut = false := by simp [AO.mut, h1]
  refine ⟨H.defers, H.size, ?_, ⟨?_, ?_, ?_, ?_, H.heap.glob⟩, ⟨H.fr.frame, ?_, ?_, H.fr.hsize, H.fr.tape, H.fr.os, H.fr.output⟩, by have := H.n0; omega, ?_⟩
  · intro t av ht
    obtain ⟨g1, g2⟩ := H.tmps t av ht
    exact ⟨AV.lt_mono (by omega) _ g1, by rw [AV.den_congr hne _ g1]; exact g2⟩
  · intro id p hp'
    rw [lk_cons] at hp'
    split at hp'
    · rename_i e; subst e; cases hp'
      refine ⟨by omega, by unfold AO.lt; rw [h2]; trivial, (isArr_is h3).2 (.inl ⟨h1, h2⟩)⟩
    · obtain ⟨g1, g2, g3⟩ := H.heap.objs id p hp'
      refine ⟨by omega, AO.lt_mono (by omega) _ g2, ?_⟩
      rw [hne id g1]
      exact (AO.is_congr hne p g2 _ _).2 g3
  · intro id p hp' hl
    rw [lk_cons] at hp'
    split at hp'
    · rename_i e; subst e; simpa using hs
    · rw [hne id (H.heap.objs id p hp').1]; exact H.heap.bound id p hp' hl
  · intro id p id' p' hp1 hp2 hm hl hn
    rw [lk_cons] at hp1 hp2
    split at hp1
    · cases hp1; rw [hmut] at hm; cases hm
    · split at hp2
      · rename_i e; subst e
        rw [hne id (H.heap.objs id p hp1).1]
        have := H.heap.apart id p hp1 hm
        simp only [if_true]; omega
      · rw [hne id (H.heap.objs id p hp1).1, hne id' (H.heap.objs id' p' hp2).1]
        exact H.heap.sep id p id' p' hp1 hp2 hm hl hn
  · intro id p hp' hm
    rw [lk_cons] at hp'
    split at hp'
    · cases hp'; rw [hmut] at hm; cases hm
    · rw [hne id (H.heap.objs id p hp').1]; exact H.heap.apart id p hp' hm
  · intro id p hp' hm
    rw [lk_cons] at hp'
    split at hp'
    · cases hp'; rw [hmut] at hm; cases hm
    · rw [hne id (H.heap.objs id p hp').1]; exact H.fr.own id p hp' hm
  · intro id p hp' hm
    rw [lk_cons] at hp'
    split at hp'
    · rename_i e; subst e
      simp only [if_true]
      exact .inl (.inr hng)
    · rw [hne id (H.heap.objs id p hp').1]; exact H.fr.own2 id p hp' hm
  · intro i hi
    rw [hne i (by have := H.n0; omega)]; exact H.agree i hi
theorem Imp_nil (o : AO) (hng : 0 < C.ng) (h1 : o.tot = none) (h2 : o.avs = []) (h3 : isArr o = true) : Imp C E nx tm hp (nx + 1) tm ((nx, o) :: hp) :=
  fun ρ a w H => ⟨_, H.nilO hng h1 h2 h3⟩
def nilHp : Nat → List AO → Hp → Hp
  | _, [], hp => hp
  | n, o :: l, hp => nilHp (n + 1) l ((n, o) :: hp)
def nilOs : List AO → Prop
  | [] => True
  | o :: l => (o.tot = none ∧ o.avs = [] ∧ isArr o = true) ∧ nilOs l
theorem Imp_nils (hng : 0 < C.ng) : ∀ (os : List AO) {nx : Nat} {hp : Hp}, nilOs os → Imp C E nx tm hp (nx + os.length) tm (nilHp nx os hp)
  | [], _, _, _ => Imp_refl
  | o :: l, nx, hp, h => by
    have h2 : Imp C E (nx + 1) tm ((nx, o) :: hp) (nx + 1 + l.length) tm (nilHp (nx + 1) l ((nx, o) :: hp)) := Imp_nils hng l h.2
    rw [show nx + 1 + l.length = nx + (o :: l).length by simp; omega] at h2
    exact Imp_trans (Imp_nil o hng h.1.1 h.1.2.1 h.1.2.2) h2
theorem Imp_tm (t : Nat) {av : AV} (av' : AV) (hl : lk tm t = some av) (hd : ∀ ρ, av'.den ρ = av.den ρ) (hn : av'.lt nx) : Imp C E nx tm hp nx ((t, av') :: tm) hp :=
  fun ρ a w H => ⟨ρ, H.blur hl (hd ρ) hn⟩
theorem Imp_cells (id : Nat) {e : TypeId} {m : Option Nat} {cs : List AV} (cs' : List AV) (ho : lk hp id = some (.cells e m cs)) (hd : ∀ ρ, denL ρ cs' = denL ρ cs) (hn : ltL nx cs') (hne : cs ≠ []) :
    Imp C E nx tm hp nx tm ((id, .cells e m cs') :: hp) := by
  intro ρ a w H
  have hne' : cs' ≠ [] := by
    intro h
    have := congrArg List.length (hd ρ)
    rw [denL_length, denL_length, h] at this
    cases cs with
    | nil => exact hne rfl
    | cons => simp at this
  have hmem : ∀ i p, lk ((id, AO.cells e m cs') :: hp) i = some p → ∃ q, lk hp i = some q ∧ q.mut = p.mut ∧ q.live = p.live := by
    intro i p h
    rw [lk_cons] at h
    split at h
    · rename_i e; subst e; cases h; exact ⟨_, ho, rfl, rfl⟩
    · exact ⟨p, h, rfl, rfl⟩
  refine ⟨ρ, ⟨H.defers, H.size, H.tmps, ⟨?_, ?_, ?_, ?_, H.heap.glob⟩, ⟨H.fr.frame, ?_, ?_, H.fr.hsize, H.fr.tape, H.fr.os, H.fr.output⟩, H.n0, H.agree⟩⟩
  · intro i p h
    rw [lk_cons] at h
    split at h
    · rename_i e; subst e; cases h
      obtain ⟨g1, g2, g3⟩ := H.heap.objs _ _ ho
      refine ⟨g1, hn, ?_⟩
      rcases g3 with ⟨_, g4⟩ | ⟨pre, rest, fz, g4, g5, g6⟩
      · exact absurd g4 hne
      · refine .inr ⟨pre, rest, fz, ?_, g5, ?_⟩
        · simp only [AO.avs, AO.elem] at g4 ⊢; rw [hd]; exact g4
        · simp only [AO.avs, AO.tot] at g6 ⊢; rw [hd]; exact g6
    · exact H.heap.objs i p h
  · intro i p h hl
    obtain ⟨q, g1, _, g3⟩ := hmem i p h
    exact H.heap.bound i q g1 (by rw [g3]; exact hl)
  · intro i p i' p' h h' hm hl hne
    obtain ⟨q, g1, g2, _⟩ := hmem i p h
    obtain ⟨q', g1', _, g3'⟩ := hmem i' p' h'
    exact H.heap.sep i q i' q' g1 g1' (by rw [g2]; exact hm) (by rw [g3']; exact hl) hne
  · intro i p h hm
    obtain ⟨q, g1, g2, _⟩ := hmem i p h
    exact H.heap.apart i q g1 (by rw [g2]; exact hm)
  · intro i p h hm
    obtain ⟨q, g1, g2, _⟩ := hmem i p h
    exact H.fr.own i q g1 (by rw [g2]; exact hm)
  · intro i p h hm
    obtain ⟨q, g1, _, g3⟩ := hmem i p h
    exact H.fr.own2 i q g1 (by rw [g3]; exact hm)
def CallsTo (C : Cy) (E : En) (nx : Nat) (tm : Tm) (hp : Hp) (o : Oper) (f : FuncId) (vs : List AV) : Prop :=
  ∀ ρ a w, ST C.toCx E ρ nx tm hp a w → (execOp a.eval o).run C.P w = .ok (.enter f (denL ρ vs).toArray) w
theorem WL_callG {d : Option Nat} {op : Op} {ty : TypeId} {pos : String} {af : Array Edge} {g : Option (Nat × Bool)} {f : FuncId} {vs : List AV} {n0 : Nat} {hp0 : Hp} {args0 : List AV} {R : Rs} (pl : List Nat)
    (T : Tri C f n0 hp0 args0 R) (hv : CallsTo C E nx tm hp ⟨d, op, ty, pos, af, g⟩ f vs) (hg : wanted ops tm g = some true)
    (ha : renL (pm pl) args0 = vs) (hl : ltL n0 args0) (hh : subHp (pm pl) n0 hp hp0) (hd : nodupB (hp0.map fun p => pm pl p.1) = true)
    (hi : nodupB ((List.range n0).map (pm pl)) = true) (hb : upto n0 (fun i => Nat.blt (pm pl i) nx) = true)
    (hdd : (match d with | none => true | some d => Nat.blt d E.nt) = true)
    (h : ∀ n1 hp1 r, R n1 hp1 r → WL C E ops rest (nx + (n1 - n0)) (match d with | none => tm | some d => (d, r.ren (pn (pm pl) n0 nx)) :: tm) (appH (renH (pn (pm pl) n0 nx) hp1) (appH (deadH (pm pl) hp0) hp)) Q) :
    WL C E ops (⟨d, op, ty, pos, af, g⟩ :: rest) nx tm hp Q := by
  intro ρ a w H
  have h1 := hv ρ a w H
  refine wpList_of_call (wanted_sound H (o := ⟨d, op, ty, pos, af, g⟩) hg) h1 ?_
  have hHR := H.heap.ren hh hd
  have hc := T.2 _ w hHR hl
  rw [← denL_ren, ha] at hc
  refine hc.mono ?_
  rintro e w' ⟨ρ', n1, hp1, r, hR, rfl, hr, hn, hag, H1, F⟩
  refine ⟨_, rfl, ?_⟩
  have hb' : ∀ i, i < n0 → pm pl i < nx := fun i hi' => by have := upto_spec hb hi'; simpa [Nat.blt_eq] using this
  obtain ⟨ρ2, S2, e2, l2⟩ := H.after hh hd (nodupB_id hi) hb' hr hn hag H1 F H1.keys
  rw [← e2]
  cases d with
  | none => exact h n1 hp1 r hR ρ2 _ w' S2
  | some d => exact h n1 hp1 r hR ρ2 _ w' (S2.put (by simpa [Nat.blt_eq] using hdd) l2)
theorem callsTo_invoke {d : Option Nat} {x : Operand} {m : String} {args : Array Operand} {ats : Array TypeId} {ty : TypeId} {pos : String} {af : Array Edge} {g : Option (Nat × Bool)} {f : FuncId} {t : TypeId} {v : AV} {l : List AV}
    (hms : ∀ v args w, (callMethod (.iface t v) m args).run C.P w = .ok (.enter f (#[v] ++ args)) w)
    (hx : ev tm x = some (.ifc t v)) (hl : evs tm args.toList = some l) : CallsTo C E nx tm hp ⟨d, .call ⟨.invoke x m, args, ats⟩, ty, pos, af, g⟩ f (v :: l) := by
  intro ρ a w H
  obtain ⟨h1, _⟩ := H.ev hx
  obtain ⟨h3, _⟩ := evs_sound H _ hl
  have e1 : args.map a.eval = (denL ρ l).toArray := by rw [← h3, ← Array.toList_map, Array.toArray_toList]
  simp only [execOp, resolve, h1, AV.den, Sem.run_bind, Sem.run_pure, Result.andThen_ok, invoke]
  have e2 : (#[Value.iface t (v.den ρ)] ++ Array.map a.eval args)[0]? = some (Value.iface t (v.den ρ)) := by rw [Array.getElem?_append_left (by simp)]; rfl
  have e3 : (#[Value.iface t (v.den ρ)] ++ Array.map a.eval args).extract 1 (#[Value.iface t (v.den ρ)] ++ Array.map a.eval args).size = Array.map a.eval args := by
    apply Array.ext'; simp; rw [List.take_of_length_le (by simp)]
  simp only [e2, e3]
  rw [hms]
  simp only [denL]
  congr 2
  rw [e1]; simp
end Go.Eng
namespace Go.Eng
open Go.Proofs
attribute [local irreducible] W WL LP Then InBl Tri WS
def intZ (s : List UInt8) : Option Int := match Lib.atoiAll s with | .ok v => some v | _ => none
def magZ (most : Nat) : Nat → List UInt8 → Option Nat
  | n, [] => some n
  | n, b :: l => if b.toNat < 48 ∨ b.toNat > 57 then none else if n > (most - (b.toNat - 48)) / 10 then none else magZ most (n * 10 + (b.toNat - 48)) l
theorem parse_ge : ∀ (l : List UInt8) (acc u : Nat), Lib.parseUint10 acc l = .ok u → acc ≤ u
  | [], acc, u, h => by simp only [Lib.parseUint10] at h; injection h with h; omega
  | b :: l, acc, u, h => by
    simp only [Lib.parseUint10] at h
    split at h
    · split at h
      · cases h
      · split at h
        · cases h
        · have := parse_ge l _ u h; omega
    · cases h
theorem magZ_parse (most : Nat) (hm : 9 ≤ most ∧ most ≤ 9223372036854775808) : ∀ (l : List UInt8) (acc : Nat), acc ≤ most →
    magZ most acc l = match Lib.parseUint10 acc l with | .ok u => if u ≤ most then some u else none | _ => none
  | [], acc, ha => by simp [magZ, Lib.parseUint10, ha]
  | b :: l, acc, ha => by
    simp only [magZ, Lib.parseUint10]
    by_cases h1 : b.toNat < 48 ∨ b.toNat > 57
    · rw [if_pos h1, if_neg (by omega)]
    · rw [if_neg h1, if_pos (show 48 ≤ b.toNat ∧ b.toNat ≤ 57 by omega)]
      by_cases h2 : acc > (most - (b.toNat - 48)) / 10
      · rw [if_pos h2]
        by_cases h4 : 1844674407370955162 ≤ acc
        · rw [if_pos h4]
        rw [if_neg h4]
        by_cases h5 : 18446744073709551616 ≤ acc * 10 + (b.toNat - 48)
        · rw [if_pos h5]
        · rw [if_neg h5]
          cases hp : Lib.parseUint10 (acc * 10 + (b.toNat - 48)) l with
          | ok u => have := parse_ge _ _ _ hp; simp only; rw [if_neg (by omega)]
          | range => rfl
          | _ => rfl
      · rw [if_neg h2, if_neg (by omega), if_neg (by omega)]
        exact magZ_parse most hm l _ (by omega)
def body (s : List UInt8) : List UInt8 := if s.getD 0 0 = 45 ∨ s.getD 0 0 = 43 then s.drop 1 else s
def mostOf (s : List UInt8) : Nat := if s.getD 0 0 = 45 then 9223372036854775808 else 9223372036854775807
theorem intZ_mag (s : List UInt8) : intZ s = if body s = [] then none else (magZ (mostOf s) 0 (body s)).map fun (u : Nat) => (if s.getD 0 0 = 45 then -(u : Int) else (u : Int) : Int) := by
  cases s with
  | nil => simp [intZ, Lib.atoiAll, body]
  | cons c r =>
    have e45 : c.toNat = 45 ↔ c = 45 := ⟨fun h => UInt8.toNat_inj.1 h, fun h => by rw [h]; rfl⟩
    have e43 : c.toNat = 43 ↔ c = 43 := ⟨fun h => UInt8.toNat_inj.1 h, fun h => by rw [h]; rfl⟩
    have hg : (c :: r).getD 0 0 = c := rfl
    have hb : (if c.toNat = 43 ∨ c.toNat = 45 then r else c :: r) = body (c :: r) := by
      simp only [body, hg, List.drop_one, List.tail_cons, e45, e43]
      by_cases h1 : c = 45 <;> by_cases h2 : c = 43 <;> simp [h1, h2]
    simp only [intZ, Lib.atoiAll]
    rw [hb, hg]
    generalize body (c :: r) = l
    simp only [Lib.parseMag]
    by_cases hl : l = []
    · rw [if_pos hl, if_pos hl]
    · rw [if_neg hl, if_neg hl, magZ_parse _ (by unfold mostOf; split <;> omega) _ _ (by omega)]
      cases hp : Lib.parseUint10 0 l with
      | range => rfl
      | ok u =>
        simp only [mostOf, hg]
        by_cases h1 : c = 45
        · have h2 := e45.2 h1
          simp only [if_pos h1, if_pos h2]
          rw [if_neg (fun e => e.1 h2)]
          by_cases h3 : 9223372036854775808 < u
          · rw [if_pos ⟨h2, h3⟩, if_neg (by omega)]; rfl
          · rw [if_neg (fun e => h3 e.2), if_pos (by omega)]; rfl
        · have h2 : ¬ c.toNat = 45 := fun e => h1 (e45.1 e)
          simp only [if_neg h1, if_neg h2]
          by_cases h3 : 9223372036854775808 ≤ u
          · rw [if_pos ⟨h2, h3⟩, if_neg (by omega)]; rfl
          · rw [if_neg (fun e => h3 e.2), if_neg (fun e => h2 e.1), if_pos (by omega)]; rfl
      | _ => rfl
theorem body_le (s : List UInt8) : (body s).length ≤ s.length := by unfold body; split <;> simp
theorem wrap_neg (u : Nat) (h : u ≤ 9223372036854775808) : IntKind.i64.wrap (IntKind.u64.wrap (0 - (u : Int))) = -(u : Int) := by
  have e : IntKind.u64.wrap (0 - (u : Int)) = (0 - (u : Int)) % 18446744073709551616 := by simp [IntKind.wrap, IntKind.signed, IntKind.bits]
  rw [e]
  by_cases h0 : u = 0
  · subst h0; rfl
  · have e2 : (0 - (u : Int)) % 18446744073709551616 = 18446744073709551616 - u := by omega
    rw [e2]
    simp [IntKind.wrap, IntKind.signed, IntKind.bits]; omega
theorem textInt_tri (s : List UInt8) (hl : s.length ≤ 1073741824) : Tri C0 144 0 [] [.str s] (fun k hp r => k = 0 ∧ hp = [] ∧ r = .tup [.int .i64 ((intZ s).getD 0), .bool (intZ s).isSome]) := by
  have hZ := intZ_mag s
  have hbl := body_le s
  rw [hZ]
  refine Tri.keep (Tri.mk 67 [.tmp 2, .tmp 3] Tryz.func144 rfl rfl rfl rfl cf144 ?_) t_ (fun r h => q_); intro w0 S T ρ0
  refine w_ ?_
  refine j_ 11 ?_ ?_ <;> intro h0
  · have h0 : 0 < s.length := List.length_pos_iff.2 h0
    refine w_ ?_
    refine j_ 15 ?_ ?_ <;> intro h45
    · have h45 : s.getD 0 0 = 45 := (bt_is 45).1 h45
      have hbody : body s = s.drop 1 := by unfold body; rw [if_pos (.inl h45)]
      refine w_ ?_
      refine W_cond_true rfl ?_
      refine w_ ?_
      rw [show (bt s 0 == 45) = true by rw [beq_iff_eq]; exact (bt_is (i := 0) 45).2 h45]
      have hmost : mostOf s = 9223372036854775808 := by unfold mostOf; rw [if_pos h45]
      refine w_ ?_
      refine i_ ?_ ?_ <;> intro he
      · have he : body s = [] := by rw [hbody]; exact he
        rw [if_pos he]
        refine w_ ?_
        refine k_ ?_
        rfl
      have he : ¬ body s = [] := by rw [hbody]; exact he
      rw [if_neg he]
      rw [hmost]
      obtain ⟨l, hlb⟩ : ∃ l, l = body s := ⟨_, rfl⟩
      rw [← hlb] at hbl he ⊢
      have hlb2 := hlb
      rw [hbody] at hlb2
      have hlb3 : l = s.drop (1 : Int).toNat := hlb2
      rw [← hlb3]
      simp only [if_pos h45]
      refine w_ ?_
      refine W_cond_true rfl ?_
      refine w_ ?_
      refine W_loop ?_; refine LP_ren [] (LP_ind 0 (fun p : Nat × Nat => ([(0, .str l), (4, .bool true), (5, .int .u64 ((9223372036854775808 : Nat) : Int)), (6, .int .u64 p.2), (32, .int .i64 l.length), (33, .int .i64 p.1)], [])) (fun p => l.length - p.1) (fun p => p.1 ≤ l.length ∧ p.2 ≤ 9223372036854775808 ∧ magZ 9223372036854775808 0 l = magZ 9223372036854775808 p.2 (l.drop p.1)) (0, 0) ?_ (⟨Nat.zero_le _, Nat.zero_le _, rfl⟩)) s_ s_ rfl rfl rfl
      rintro ⟨i, n⟩ ⟨i1, i2, i3⟩ ih
      simp only at i1 i2 i3
      refine LP_round ?_; try dsimp only
      refine w_ ?_
      refine i_ ?_ ?_ <;> intro h
      · have h : i < l.length := by omega
        have hb0 := bt_nat l i
        have hb1 := (l.getD i 0).toNat_lt
        rw [drop_getB h, magZ] at i3
        refine w_ ?_
        refine j_ 40 ?_ ?_ <;> intro hlo
        · rw [if_pos (.inl (by omega))] at i3
          rw [i3]
          refine w_ ?_
          refine W_cond_true rfl ?_
          refine w_ ?_
          refine k_ ?_
          rfl
        refine w_ ?_
        refine i_ ?_ ?_ <;> intro hhi
        · rw [if_pos (.inr (by omega))] at i3
          rw [i3]
          refine w_ ?_
          refine k_ ?_
          rfl
        rw [if_neg (by omega)] at i3
        have hd : (((9223372036854775808 : Nat) : Int) - (bt l i - 48)).tdiv 10 = (((9223372036854775808 - ((l.getD i 0).toNat - 48)) / 10 : Nat) : Int) := by
          rw [Int.tdiv_eq_ediv_of_nonneg (by omega)]; omega
        refine w_ ?_
        rw [hd]
        refine w_ ?_
        refine i_ ?_ ?_ <;> intro hov
        · rw [if_pos (by omega)] at i3
          rw [i3]
          refine w_ ?_
          refine k_ ?_
          rfl
        rw [if_neg (by omega)] at i3
        have he : (n : Int) * 10 + (bt l i - 48) = ((n * 10 + ((l.getD i 0).toNat - 48) : Nat) : Int) := by omega
        refine w_ ?_
        rw [he]
        refine LP_ren [] (ih (i + 1, n * 10 + ((l.getD i 0).toNat - 48)) (⟨by simp only; omega, by simp only; omega, i3⟩) (by omega)) s_ s_ rfl rfl rfl
      · have h : i = l.length := by omega
        rw [h, List.drop_length, magZ] at i3
        rw [i3]
        refine w_ ?_
        refine x_ ?_
        refine w_ ?_
        refine W_cond_true rfl ?_
        refine w_ ?_
        refine WL_negw rfl rfl rfl ?_
        refine w_ ?_
        refine WL_convw rfl rfl rfl rfl rfl rfl rfl ?_
        rw [wrap_neg n (by omega)]
        refine w_ ?_
        refine k_ ?_
        rfl
    have h45 : ¬ s.getD 0 0 = 45 := fun e => h45 ((bt_is 45).2 e)
    refine w_ ?_
    refine i_ ?_ ?_ <;> intro h43
    · have h43 : s.getD 0 0 = 43 := (bt_is 43).1 h43
      have hbody : body s = s.drop (1 : Int).toNat := by unfold body; rw [if_pos (.inr h43)]; rfl
      refine w_ ?_
      rw [show (bt s 0 == 45) = false by rw [beq_eq_false_iff_ne]; exact fun e => h45 ((bt_is (i := 0) 45).1 e)]
      have hmost : mostOf s = 9223372036854775807 := by unfold mostOf; rw [if_neg h45]
      refine w_ ?_
      refine i_ ?_ ?_ <;> intro he
      · have he : body s = [] := by rw [hbody]; exact he
        rw [if_pos he]
        refine w_ ?_
        refine k_ ?_
        rfl
      have he : ¬ body s = [] := by rw [hbody]; exact he
      rw [if_neg he]
      rw [hmost]
      obtain ⟨l, hlb⟩ : ∃ l, l = body s := ⟨_, rfl⟩
      rw [← hlb] at hbl he ⊢
      have hlb2 := hlb
      rw [hbody] at hlb2
      simp only [if_neg h45]
      rw [← hlb2]
      refine w_ ?_
      refine W_cond_false rfl ?_
      refine w_ ?_
      refine W_loop ?_; refine LP_ren [] (LP_ind 0 (fun p : Nat × Nat => ([(0, .str l), (4, .bool false), (5, .int .u64 ((9223372036854775807 : Nat) : Int)), (6, .int .u64 p.2), (32, .int .i64 l.length), (33, .int .i64 p.1)], [])) (fun p => l.length - p.1) (fun p => p.1 ≤ l.length ∧ p.2 ≤ 9223372036854775807 ∧ magZ 9223372036854775807 0 l = magZ 9223372036854775807 p.2 (l.drop p.1)) (0, 0) ?_ (⟨Nat.zero_le _, Nat.zero_le _, rfl⟩)) s_ s_ rfl rfl rfl
      rintro ⟨i, n⟩ ⟨i1, i2, i3⟩ ih
      simp only at i1 i2 i3
      refine LP_round ?_; try dsimp only
      refine w_ ?_
      refine i_ ?_ ?_ <;> intro h
      · have h : i < l.length := by omega
        have hb0 := bt_nat l i
        have hb1 := (l.getD i 0).toNat_lt
        rw [drop_getB h, magZ] at i3
        refine w_ ?_
        refine j_ 40 ?_ ?_ <;> intro hlo
        · rw [if_pos (.inl (by omega))] at i3
          rw [i3]
          refine w_ ?_
          refine W_cond_true rfl ?_
          refine w_ ?_
          refine k_ ?_
          rfl
        refine w_ ?_
        refine i_ ?_ ?_ <;> intro hhi
        · rw [if_pos (.inr (by omega))] at i3
          rw [i3]
          refine w_ ?_
          refine k_ ?_
          rfl
        rw [if_neg (by omega)] at i3
        have hd : (((9223372036854775807 : Nat) : Int) - (bt l i - 48)).tdiv 10 = (((9223372036854775807 - ((l.getD i 0).toNat - 48)) / 10 : Nat) : Int) := by
          rw [Int.tdiv_eq_ediv_of_nonneg (by omega)]; omega
        refine w_ ?_
        rw [hd]
        refine w_ ?_
        refine i_ ?_ ?_ <;> intro hov
        · rw [if_pos (by omega)] at i3
          rw [i3]
          refine w_ ?_
          refine k_ ?_
          rfl
        rw [if_neg (by omega)] at i3
        have he : (n : Int) * 10 + (bt l i - 48) = ((n * 10 + ((l.getD i 0).toNat - 48) : Nat) : Int) := by omega
        refine w_ ?_
        rw [he]
        refine LP_ren [] (ih (i + 1, n * 10 + ((l.getD i 0).toNat - 48)) (⟨by simp only; omega, by simp only; omega, i3⟩) (by omega)) s_ s_ rfl rfl rfl
      · have h : i = l.length := by omega
        rw [h, List.drop_length, magZ] at i3
        rw [i3]
        refine w_ ?_
        refine x_ ?_
        refine w_ ?_
        refine W_cond_false rfl ?_
        refine w_ ?_
        refine k_ ?_
        rfl
    · have h43 : ¬ s.getD 0 0 = 43 := fun e => h43 ((bt_is 43).2 e)
      have hbody : body s = s := by unfold body; rw [if_neg (by intro e; exact e.elim h45 h43)]
      have hmost : mostOf s = 9223372036854775807 := by unfold mostOf; rw [if_neg h45]
      refine w_ ?_
      refine i_ ?_ ?_ <;> intro he
      · have he : body s = [] := by rw [hbody]; exact he
        rw [if_pos he]
        refine w_ ?_
        refine k_ ?_
        rfl
      have he : ¬ body s = [] := by rw [hbody]; exact he
      rw [if_neg he]
      rw [hmost]
      obtain ⟨l, hlb⟩ : ∃ l, l = body s := ⟨_, rfl⟩
      rw [← hlb] at hbl he ⊢
      have hlb2 := hlb
      rw [hbody] at hlb2
      simp only [if_neg h45]
      rw [← hlb2]
      refine w_ ?_
      refine W_cond_false rfl ?_
      refine w_ ?_
      refine W_loop ?_; refine LP_ren [] (LP_ind 0 (fun p : Nat × Nat => ([(0, .str l), (4, .bool false), (5, .int .u64 ((9223372036854775807 : Nat) : Int)), (6, .int .u64 p.2), (32, .int .i64 l.length), (33, .int .i64 p.1)], [])) (fun p => l.length - p.1) (fun p => p.1 ≤ l.length ∧ p.2 ≤ 9223372036854775807 ∧ magZ 9223372036854775807 0 l = magZ 9223372036854775807 p.2 (l.drop p.1)) (0, 0) ?_ (⟨Nat.zero_le _, Nat.zero_le _, rfl⟩)) s_ s_ rfl rfl rfl
      rintro ⟨i, n⟩ ⟨i1, i2, i3⟩ ih
      simp only at i1 i2 i3
      refine LP_round ?_; try dsimp only
      refine w_ ?_
      refine i_ ?_ ?_ <;> intro h
      · have h : i < l.length := by omega
        have hb0 := bt_nat l i
        have hb1 := (l.getD i 0).toNat_lt
        rw [drop_getB h, magZ] at i3
        refine w_ ?_
        refine j_ 40 ?_ ?_ <;> intro hlo
        · rw [if_pos (.inl (by omega))] at i3
          rw [i3]
          refine w_ ?_
          refine W_cond_true rfl ?_
          refine w_ ?_
          refine k_ ?_
          rfl
        refine w_ ?_
        refine i_ ?_ ?_ <;> intro hhi
        · rw [if_pos (.inr (by omega))] at i3
          rw [i3]
          refine w_ ?_
          refine k_ ?_
          rfl
        rw [if_neg (by omega)] at i3
        have hd : (((9223372036854775807 : Nat) : Int) - (bt l i - 48)).tdiv 10 = (((9223372036854775807 - ((l.getD i 0).toNat - 48)) / 10 : Nat) : Int) := by
          rw [Int.tdiv_eq_ediv_of_nonneg (by omega)]; omega
        refine w_ ?_
        rw [hd]
        refine w_ ?_
        refine i_ ?_ ?_ <;> intro hov
        · rw [if_pos (by omega)] at i3
          rw [i3]
          refine w_ ?_
          refine k_ ?_
          rfl
        rw [if_neg (by omega)] at i3
        have he : (n : Int) * 10 + (bt l i - 48) = ((n * 10 + ((l.getD i 0).toNat - 48) : Nat) : Int) := by omega
        refine w_ ?_
        rw [he]
        refine LP_ren [] (ih (i + 1, n * 10 + ((l.getD i 0).toNat - 48)) (⟨by simp only; omega, by simp only; omega, i3⟩) (by omega)) s_ s_ rfl rfl rfl
      · have h : i = l.length := by omega
        rw [h, List.drop_length, magZ] at i3
        rw [i3]
        refine w_ ?_
        refine x_ ?_
        refine w_ ?_
        refine W_cond_false rfl ?_
        refine w_ ?_
        refine k_ ?_
        rfl
  · have h0 : s = [] := h0
    have h45 : ¬ s.getD 0 0 = 45 := by rw [h0]; decide
    have hbody : body s = s := by unfold body; rw [h0]; decide
    refine w_ ?_
    refine W_cond_false rfl ?_
    have hmost : mostOf s = 9223372036854775807 := by unfold mostOf; rw [if_neg h45]
    refine w_ ?_
    refine i_ ?_ ?_ <;> intro he
    · have he : body s = [] := by rw [hbody]; exact he
      rw [if_pos he]
      refine w_ ?_
      refine k_ ?_
      rfl
    have he : ¬ body s = [] := by rw [hbody]; exact he
    rw [if_neg he]
    rw [hmost]
    obtain ⟨l, hlb⟩ : ∃ l, l = body s := ⟨_, rfl⟩
    rw [← hlb] at hbl he ⊢
    have hlb2 := hlb
    rw [hbody] at hlb2
    simp only [if_neg h45]
    rw [← hlb2]
    refine w_ ?_
    refine W_cond_false rfl ?_
    refine w_ ?_
    refine W_loop ?_; refine LP_ren [] (LP_ind 0 (fun p : Nat × Nat => ([(0, .str l), (4, .bool false), (5, .int .u64 ((9223372036854775807 : Nat) : Int)), (6, .int .u64 p.2), (32, .int .i64 l.length), (33, .int .i64 p.1)], [])) (fun p => l.length - p.1) (fun p => p.1 ≤ l.length ∧ p.2 ≤ 9223372036854775807 ∧ magZ 9223372036854775807 0 l = magZ 9223372036854775807 p.2 (l.drop p.1)) (0, 0) ?_ (⟨Nat.zero_le _, Nat.zero_le _, rfl⟩)) s_ s_ rfl rfl rfl
    rintro ⟨i, n⟩ ⟨i1, i2, i3⟩ ih
    simp only at i1 i2 i3
    refine LP_round ?_; try dsimp only
    refine w_ ?_
    refine i_ ?_ ?_ <;> intro h
    · have h : i < l.length := by omega
      have hb0 := bt_nat l i
      have hb1 := (l.getD i 0).toNat_lt
      rw [drop_getB h, magZ] at i3
      refine w_ ?_
      refine j_ 40 ?_ ?_ <;> intro hlo
      · rw [if_pos (.inl (by omega))] at i3
        rw [i3]
        refine w_ ?_
        refine W_cond_true rfl ?_
        refine w_ ?_
        refine k_ ?_
        rfl
      refine w_ ?_
      refine i_ ?_ ?_ <;> intro hhi
      · rw [if_pos (.inr (by omega))] at i3
        rw [i3]
        refine w_ ?_
        refine k_ ?_
        rfl
      rw [if_neg (by omega)] at i3
      have hd : (((9223372036854775807 : Nat) : Int) - (bt l i - 48)).tdiv 10 = (((9223372036854775807 - ((l.getD i 0).toNat - 48)) / 10 : Nat) : Int) := by
        rw [Int.tdiv_eq_ediv_of_nonneg (by omega)]; omega
      refine w_ ?_
      rw [hd]
      refine w_ ?_
      refine i_ ?_ ?_ <;> intro hov
      · rw [if_pos (by omega)] at i3
        rw [i3]
        refine w_ ?_
        refine k_ ?_
        rfl
      rw [if_neg (by omega)] at i3
      have he : (n : Int) * 10 + (bt l i - 48) = ((n * 10 + ((l.getD i 0).toNat - 48) : Nat) : Int) := by omega
      refine w_ ?_
      rw [he]
      refine LP_ren [] (ih (i + 1, n * 10 + ((l.getD i 0).toNat - 48)) (⟨by simp only; omega, by simp only; omega, i3⟩) (by omega)) s_ s_ rfl rfl rfl
    · have h : i = l.length := by omega
      rw [h, List.drop_length, magZ] at i3
      rw [i3]
      refine w_ ?_
      refine x_ ?_
      refine w_ ?_
      refine W_cond_false rfl ?_
      refine w_ ?_
      refine k_ ?_
      rfl
end Go.Eng
namespace Go.Eng
open Go.Proofs
attribute [local irreducible] W WL LP Then InBl Tri WS
def resR {α : Type} (o : Option α) (f : α → AV) (r : AV) : Prop := (∃ a, o = some a ∧ r = .tup [f a, .v .nilIface]) ∨ (o = none ∧ ∃ a t p, r = .tup [f a, .ifc t (.v p)])
def okR {α : Type} (o : Option α) (f : α → AV) (r : AV) : Prop := (∃ a, o = some a ∧ r = .tup [f a, .bool true]) ∨ (o = none ∧ ∃ a, r = .tup [f a, .bool false])
theorem resR_lt {α : Type} {o : Option α} {f : α → AV} {r : AV} (h : resR o f r) {n : Nat} (hf : ∀ a, (f a).lt n) : r.lt n := by
  rcases h with ⟨a, _, rfl⟩ | ⟨_, a, t, p, rfl⟩
  · exact ⟨hf a, trivial, trivial⟩
  · exact ⟨hf a, trivial, trivial⟩
theorem okR_lt {α : Type} {o : Option α} {f : α → AV} {r : AV} (h : okR o f r) {n : Nat} (hf : ∀ a, (f a).lt n) : r.lt n := by
  rcases h with ⟨a, _, rfl⟩ | ⟨_, a, rfl⟩
  · exact ⟨hf a, trivial, trivial⟩
  · exact ⟨hf a, trivial, trivial⟩
theorem atoi2_tri (s : List UInt8) (hs : s.length ≤ 281474976710656) : Tri C0 220 0 [] [.str s] (fun n hp r => n = 0 ∧ hp = [] ∧ resR (intZ s) (AV.int .i64) r) := by
  cases h : Lib.atoiAll s with
  | ok v =>
    refine (atoi_ok_tri s hs v h).mono ?_
    rintro n hp r ⟨rfl, rfl, rfl⟩
    exact ⟨rfl, rfl, .inl ⟨v, by simp [intZ, h], rfl⟩⟩
  | range =>
    refine (atoi_err_tri s hs (by rw [h]; intro v; exact fun e => by cases e)).mono ?_
    rintro n hp r ⟨rfl, rfl, v, _, rfl, ⟨p, rfl⟩⟩
    exact ⟨rfl, rfl, .inr ⟨by simp [intZ, h], v, _, _, rfl⟩⟩
  | _ =>
    refine (atoi_err_tri s hs (by rw [h]; intro v; exact fun e => by cases e)).mono ?_
    rintro n hp r ⟨rfl, rfl, v, _, rfl, ⟨p, rfl⟩⟩
    exact ⟨rfl, rfl, .inr ⟨by simp [intZ, h], v, _, _, rfl⟩⟩
def freqZ (s : List UInt8) : Option Int :=
  if s = [89, 69, 65, 82, 76, 89] then some 0 else if s = [77, 79, 78, 84, 72, 76, 89] then some 1 else if s = [87, 69, 69, 75, 76, 89] then some 2 else if s = [68, 65, 73, 76, 89] then some 3
  else if s = [72, 79, 85, 82, 76, 89] then some 4 else if s = [77, 73, 78, 85, 84, 69, 76, 89] then some 5 else if s = [83, 69, 67, 79, 78, 68, 76, 89] then some 6 else none
def wdayZ (s : List UInt8) : Option Int :=
  if s = [77, 79] then some 0 else if s = [84, 85] then some 1 else if s = [87, 69] then some 2 else if s = [84, 72] then some 3
  else if s = [70, 82] then some 4 else if s = [83, 65] then some 5 else if s = [83, 85] then some 6 else none
theorem freqOf_tri (s : List UInt8) : Tri C0 143 0 [] [.str s] (fun k hp r => k = 0 ∧ hp = [] ∧ okR (freqZ s) (AV.int .u8) r) := by
  refine Tri.keep ?_ trivial (fun r h => okR_lt h fun _ => trivial)
  refine Tri.mk 17 [.tmp 2, .tmp 3] Tryz.func143 rfl rfl rfl rfl cf143 ?_; intro w0 S T ρ0
  refine w_ ?_
  refine W_loop ?_
  refine LP_round ?_; try dsimp only
  refine w_ ?_
  refine W_cond_true rfl ?_
  refine w_ ?_
  refine i_ ?_ ?_ <;> intro h0
  · have h0 : s = [89, 69, 65, 82, 76, 89] := h0
    have e : freqZ s = some 0 := by unfold freqZ; rw [if_pos h0]
    refine w_ ?_
    refine k_ ?_
    exact .inl ⟨_, e, rfl⟩
  have h0 : ¬ s = [89, 69, 65, 82, 76, 89] := h0
  refine w_ ?_
  refine LP_round ?_; try dsimp only
  refine w_ ?_
  refine W_cond_true rfl ?_
  refine w_ ?_
  refine i_ ?_ ?_ <;> intro h1
  · have h1 : s = [77, 79, 78, 84, 72, 76, 89] := h1
    have e : freqZ s = some 1 := by unfold freqZ; rw [if_neg h0, if_pos h1]
    refine w_ ?_
    refine k_ ?_
    exact .inl ⟨_, e, rfl⟩
  have h1 : ¬ s = [77, 79, 78, 84, 72, 76, 89] := h1
  refine w_ ?_
  refine LP_round ?_; try dsimp only
  refine w_ ?_
  refine W_cond_true rfl ?_
  refine w_ ?_
  refine i_ ?_ ?_ <;> intro h2
  · have h2 : s = [87, 69, 69, 75, 76, 89] := h2
    have e : freqZ s = some 2 := by unfold freqZ; rw [if_neg h0, if_neg h1, if_pos h2]
    refine w_ ?_
    refine k_ ?_
    exact .inl ⟨_, e, rfl⟩
  have h2 : ¬ s = [87, 69, 69, 75, 76, 89] := h2
  refine w_ ?_
  refine LP_round ?_; try dsimp only
  refine w_ ?_
  refine W_cond_true rfl ?_
  refine w_ ?_
  refine i_ ?_ ?_ <;> intro h3
  · have h3 : s = [68, 65, 73, 76, 89] := h3
    have e : freqZ s = some 3 := by unfold freqZ; rw [if_neg h0, if_neg h1, if_neg h2, if_pos h3]
    refine w_ ?_
    refine k_ ?_
    exact .inl ⟨_, e, rfl⟩
  have h3 : ¬ s = [68, 65, 73, 76, 89] := h3
  refine w_ ?_
  refine LP_round ?_; try dsimp only
  refine w_ ?_
  refine W_cond_true rfl ?_
  refine w_ ?_
  refine i_ ?_ ?_ <;> intro h4
  · have h4 : s = [72, 79, 85, 82, 76, 89] := h4
    have e : freqZ s = some 4 := by unfold freqZ; rw [if_neg h0, if_neg h1, if_neg h2, if_neg h3, if_pos h4]
    refine w_ ?_
    refine k_ ?_
    exact .inl ⟨_, e, rfl⟩
  have h4 : ¬ s = [72, 79, 85, 82, 76, 89] := h4
  refine w_ ?_
  refine LP_round ?_; try dsimp only
  refine w_ ?_
  refine W_cond_true rfl ?_
  refine w_ ?_
  refine i_ ?_ ?_ <;> intro h5
  · have h5 : s = [77, 73, 78, 85, 84, 69, 76, 89] := h5
    have e : freqZ s = some 5 := by unfold freqZ; rw [if_neg h0, if_neg h1, if_neg h2, if_neg h3, if_neg h4, if_pos h5]
    refine w_ ?_
    refine k_ ?_
    exact .inl ⟨_, e, rfl⟩
  have h5 : ¬ s = [77, 73, 78, 85, 84, 69, 76, 89] := h5
  refine w_ ?_
  refine LP_round ?_; try dsimp only
  refine w_ ?_
  refine W_cond_true rfl ?_
  refine w_ ?_
  refine i_ ?_ ?_ <;> intro h6
  · have h6 : s = [83, 69, 67, 79, 78, 68, 76, 89] := h6
    have e : freqZ s = some 6 := by unfold freqZ; rw [if_neg h0, if_neg h1, if_neg h2, if_neg h3, if_neg h4, if_neg h5, if_pos h6]
    refine w_ ?_
    refine k_ ?_
    exact .inl ⟨_, e, rfl⟩
  have h6 : ¬ s = [83, 69, 67, 79, 78, 68, 76, 89] := h6
  refine w_ ?_
  refine LP_round ?_; try dsimp only
  refine w_ ?_
  refine W_cond_false rfl ?_
  refine w_ ?_
  refine x_ ?_
  refine w_ ?_
  refine k_ ?_
  exact .inr ⟨by unfold freqZ; rw [if_neg h0, if_neg h1, if_neg h2, if_neg h3, if_neg h4, if_neg h5, if_neg h6], 0, rfl⟩
abbrev FM : List (List UInt8 × Value) := [([89, 69, 65, 82, 76, 89], .int .i64 0), ([77, 79, 78, 84, 72, 76, 89], .int .i64 1), ([87, 69, 69, 75, 76, 89], .int .i64 2), ([68, 65, 73, 76, 89], .int .i64 3), ([72, 79, 85, 82, 76, 89], .int .i64 4), ([77, 73, 78, 85, 84, 69, 76, 89], .int .i64 5), ([83, 69, 67, 79, 78, 68, 76, 89], .int .i64 6)]
theorem strToFreq_tri (s : List UInt8) (hs : s.length ≤ 1073741824) : Tri C0 219 0 [] [.str s] (fun k hp r => k = 0 ∧ hp = [] ∧ resR (freqZ s) (AV.int .i64) r) := by
  refine Tri.keep ?_ trivial (fun r h => resR_lt h fun _ => trivial)
  have hlk : ∀ v, lookS FM s = some v → ∃ n : Int, v = .int .i64 n ∧ freqZ s = some n := by
    intro v h
    simp only [FM, lookS] at h
    unfold freqZ
    by_cases h0 : s = [89, 69, 65, 82, 76, 89]
    · rw [if_pos h0] at h; cases h; exact ⟨_, rfl, by rw [if_pos h0]⟩
    rw [if_neg h0] at h
    by_cases h1 : s = [77, 79, 78, 84, 72, 76, 89]
    · rw [if_pos h1] at h; cases h; exact ⟨_, rfl, by rw [if_neg h0, if_pos h1]⟩
    rw [if_neg h1] at h
    by_cases h2 : s = [87, 69, 69, 75, 76, 89]
    · rw [if_pos h2] at h; cases h; exact ⟨_, rfl, by rw [if_neg h0, if_neg h1, if_pos h2]⟩
    rw [if_neg h2] at h
    by_cases h3 : s = [68, 65, 73, 76, 89]
    · rw [if_pos h3] at h; cases h; exact ⟨_, rfl, by rw [if_neg h0, if_neg h1, if_neg h2, if_pos h3]⟩
    rw [if_neg h3] at h
    by_cases h4 : s = [72, 79, 85, 82, 76, 89]
    · rw [if_pos h4] at h; cases h; exact ⟨_, rfl, by rw [if_neg h0, if_neg h1, if_neg h2, if_neg h3, if_pos h4]⟩
    rw [if_neg h4] at h
    by_cases h5 : s = [77, 73, 78, 85, 84, 69, 76, 89]
    · rw [if_pos h5] at h; cases h; exact ⟨_, rfl, by rw [if_neg h0, if_neg h1, if_neg h2, if_neg h3, if_neg h4, if_pos h5]⟩
    rw [if_neg h5] at h
    by_cases h6 : s = [83, 69, 67, 79, 78, 68, 76, 89]
    · rw [if_pos h6] at h; cases h; exact ⟨_, rfl, by rw [if_neg h0, if_neg h1, if_neg h2, if_neg h3, if_neg h4, if_neg h5, if_pos h6]⟩
    rw [if_neg h6] at h
    cases h
  have hlk0 : lookS FM s = none → freqZ s = none := by
    intro h
    simp only [FM, lookS] at h
    unfold freqZ
    by_cases h0 : s = [89, 69, 65, 82, 76, 89]
    · rw [if_pos h0] at h; cases h
    rw [if_neg h0] at h
    by_cases h1 : s = [77, 79, 78, 84, 72, 76, 89]
    · rw [if_pos h1] at h; cases h
    rw [if_neg h1] at h
    by_cases h2 : s = [87, 69, 69, 75, 76, 89]
    · rw [if_pos h2] at h; cases h
    rw [if_neg h2] at h
    by_cases h3 : s = [68, 65, 73, 76, 89]
    · rw [if_pos h3] at h; cases h
    rw [if_neg h3] at h
    by_cases h4 : s = [72, 79, 85, 82, 76, 89]
    · rw [if_pos h4] at h; cases h
    rw [if_neg h4] at h
    by_cases h5 : s = [77, 73, 78, 85, 84, 69, 76, 89]
    · rw [if_pos h5] at h; cases h
    rw [if_neg h5] at h
    by_cases h6 : s = [83, 69, 67, 79, 78, 68, 76, 89]
    · rw [if_pos h6] at h; cases h
    rw [if_neg h6] at h
    rw [if_neg h0, if_neg h1, if_neg h2, if_neg h3, if_neg h4, if_neg h5, if_neg h6]
  refine Tri.mk 21 [.tmp 2, .tmp 3] Tryz.func219 rfl rfl rfl rfl cf219 ?_; intro w0 S T ρ0
  refine w_ ?_
  refine WL_makeMap rfl rfl ?_
  refine w_ ?_
  refine WL_insert rfl rfl rfl rfl rfl rfl rfl rfl trivial rfl rfl ?_
  refine w_ ?_
  refine WL_insert rfl rfl rfl rfl rfl rfl rfl rfl trivial rfl rfl ?_
  refine w_ ?_
  refine WL_insert rfl rfl rfl rfl rfl rfl rfl rfl trivial rfl rfl ?_
  refine w_ ?_
  refine WL_insert rfl rfl rfl rfl rfl rfl rfl rfl trivial rfl rfl ?_
  refine w_ ?_
  refine WL_insert rfl rfl rfl rfl rfl rfl rfl rfl trivial rfl rfl ?_
  refine w_ ?_
  refine WL_insert rfl rfl rfl rfl rfl rfl rfl rfl trivial rfl rfl ?_
  refine w_ ?_
  refine WL_insert rfl rfl rfl rfl rfl rfl rfl rfl trivial rfl rfl ?_
  refine w_ ?_
  refine WL_lookup rfl rfl rfl rfl rfl rfl rfl rfl rfl rfl rfl ?_ ?_
  · intro v hv
    obtain ⟨n, rfl, hn⟩ := hlk v hv
    refine w_ ?_
    refine W_cond_false rfl ?_
    refine w_ ?_
    refine k_ ?_
    exact .inl ⟨n, hn, rfl⟩
  · intro hv
    have hn := hlk0 hv
    refine w_ ?_
    refine W_cond_true rfl ?_
    refine w_ ?_
    refine WL_call [] (errNew_tri _) rfl rfl rfl t_ t_ rfl rfl rfl rfl ?_; rintro _ _ _ ⟨rfl, rfl, et, ep, rfl⟩
    refine w_ ?_
    refine k_ ?_
    exact .inr ⟨hn, 0, _, _, rfl⟩
end Go.Eng
