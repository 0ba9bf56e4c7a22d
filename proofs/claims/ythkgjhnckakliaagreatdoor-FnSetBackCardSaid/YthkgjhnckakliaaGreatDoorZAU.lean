/- A part of the proof that the rows statement FnSetBack holds; no conditions. -/
import Derived.Test.YthkgjhnckakliaaGreatDoorZAT
set_option linter.unusedVariables false
set_option linter.unusedSimpArgs false
set_option linter.unusedSectionVars false
namespace Go.Eng
variable {C : Cy} {E : En} {ops : Array Oper} {rest : List Oper} {nx : Nat} {tm : Tm} {hp : Hp} {Q : Po}
theorem WL_negw {d : Nat} {t : TypeId} {x : Operand} {k : IntKind} {n : Int} {ty : TypeId} {pos : String} {af : Array Edge} {g : Option (Nat × Bool)}
 (hx : ev tm x = some (.int k n)) (hg : wanted ops tm g = some true) (hd : Nat.blt d E.nt = true) (h : WL C E ops rest nx ((d, .int k (k.wrap (0 - n))) :: tm) hp Q) :
 WL C E ops (⟨some d, .unOp .neg t x, ty, pos, af, g⟩ :: rest) nx tm hp Q := by
 intro ρ a w H
 have hrun : (execOp a.eval ⟨some d, .unOp .neg t x, ty, pos, af, g⟩).run C.P w = .ok (.value ((AV.int k (k.wrap (0 - n))).den ρ)) w := by
  simp only [execOp, (H.ev hx).1, AV.den]
  exact run_val rfl
 exact wpList_of_run (wanted_sound H (o := ⟨some d, .unOp .neg t x, ty, pos, af, g⟩) hg) hrun (h ρ _ w (H.put (av := .int k (k.wrap (0 - n))) (by simpa [Nat.blt_eq] using hd) trivial))
theorem WL_convw {d : Nat} {s t : TypeId} {x : Operand} {k k' : IntKind} {n : Int} {ts tt : TS} {ty : TypeId} {pos : String} {af : Array Edge} {g : Option (Nat × Bool)}
 (hx : ev tm x = some (.int k' n)) (hs : C.ti s = some ts) (hss : ts.desc = .int k') (ht : C.ti t = some tt) (htt : tt.desc = .int k) (hg : wanted ops tm g = some true) (hd : Nat.blt d E.nt = true)
 (h : WL C E ops rest nx ((d, .int k (k.wrap n)) :: tm) hp Q) :
 WL C E ops (⟨some d, .convert s t x, ty, pos, af, g⟩ :: rest) nx tm hp Q := by
 intro ρ a w H
 have hrun : (execOp a.eval ⟨some d, .convert s t x, ty, pos, af, g⟩).run C.P w = .ok (.value ((AV.int k (k.wrap n)).den ρ)) w := by
  simp only [execOp, (H.ev hx).1, AV.den]
  refine run_val ?_
  simp only [convert, Sem.run_bind, run_underlying hs, run_underlying ht, Result.andThen_ok, hss, htt]
  rfl
 exact wpList_of_run (wanted_sound H (o := ⟨some d, .convert s t x, ty, pos, af, g⟩) hg) hrun (h ρ _ w (H.put (av := .int k (k.wrap n)) (by simpa [Nat.blt_eq] using hd) trivial))
def Imp (C : Cy) (E : En) (nx : Nat) (tm : Tm) (hp : Hp) (n' : Nat) (tm' : Tm) (hp' : Hp) : Prop :=
 ∀ ρ a w, ST C.toCx E ρ nx tm hp a w → ∃ ρ', ST C.toCx E ρ' n' tm' hp' a w
theorem Imp_refl : Imp C E nx tm hp nx tm hp := fun ρ _ _ H => ⟨ρ, H⟩
theorem Imp_trans {n1 n2 : Nat} {tm1 tm2 : Tm} {hp1 hp2 : Hp} (h : Imp C E nx tm hp n1 tm1 hp1) (h2 : Imp C E n1 tm1 hp1 n2 tm2 hp2) : Imp C E nx tm hp n2 tm2 hp2 :=
 fun ρ a w H => by obtain ⟨ρ', H'⟩ := h ρ a w H; exact h2 ρ' a w H'
theorem Imp_ren (pl : List Nat) {n : Nat} {tm' : Tm} {hp' : Hp} (ht : subTm (pm pl) n tm tm') (hh : subHp (pm pl) n hp hp')
 (hd : nodupB (hp'.map fun p => pm pl p.1) = true) (hn : Nat.ble E.n0 n = true) (hi : upto E.n0 (fun i => Nat.beq (pm pl i) i) = true) : Imp C E nx tm hp n tm' hp' :=
 fun ρ a w H => ⟨_, H.ren ht hh hd (Nat.le_of_ble_eq_true hn) fun i h => Nat.eq_of_beq_eq_true (upto_spec hi h)⟩
theorem Imp_conv (id : Nat) {o : AO} (o' : AO) (ho : lk hp id = some o) (hk : isArr o = true) (hk' : isArr o' = true) (he : o'.elem = o.elem) (hm : o'.tot = none ∨ o'.tot = o.tot) (ha : ∃ r, o.avs = o'.avs ++ r) :
 Imp C E nx tm hp nx tm ((id, o') :: hp) := fun ρ a w H => ⟨ρ, H.conv ho hk hk' he hm ha⟩
theorem W_imp {c : Code} {n' : Nat} {tm' : Tm} {hp' : Hp} (h : Imp C E nx tm hp n' tm' hp') (hw : W C E c n' tm' hp' Q) : W C E c nx tm hp Q :=
 fun ρ a w H => by obtain ⟨ρ', H'⟩ := h ρ a w H; exact hw ρ' a w H'
theorem WL_imp {n' : Nat} {tm' : Tm} {hp' : Hp} (h : Imp C E nx tm hp n' tm' hp') (hw : WL C E ops rest n' tm' hp' Q) : WL C E ops rest nx tm hp Q :=
 fun ρ a w H => by obtain ⟨ρ', H'⟩ := h ρ a w H; exact hw ρ' a w H'
theorem LP_imp {c : Code} {n' : Nat} {tm' : Tm} {hp' : Hp} (h : Imp C E nx tm hp n' tm' hp') (hw : LP C E c n' tm' hp' Q) : LP C E c nx tm hp Q :=
 fun ρ a w H => by obtain ⟨ρ', H'⟩ := h ρ a w H; exact hw ρ' a w H'
theorem W_mid {c r : Code} {Q' : Po} {α : Type} (S : α → Nat × Tm × Hp) (Inv : α → Prop)
 (h1 : W C E c nx tm hp (Then (fun nx' tm' hp' => ∃ p, Inv p ∧ Imp C E nx' tm' hp' (S p).1 (S p).2.1 (S p).2.2) Q)) (h2 : ∀ p, Inv p → W C E r (S p).1 (S p).2.1 (S p).2.2 Q') :
 W C E c nx tm hp (Then (fun nx tm hp => W C E r nx tm hp Q') Q) := by
 refine W_mono h1 ?_
 intro e nx' tm' hp' h
 cases e <;> first | exact h | skip
 obtain ⟨p, hi, him⟩ := h
 exact W_imp him (h2 p hi)
theorem ST.nilO {ρ : Nat → Nat × Nat} {a : Act} {w : World} (H : ST C.toCx E ρ nx tm hp a w) (hng : 0 < C.ng) {o : AO} (h1 : o.tot = none) (h2 : o.avs = []) (h3 : isArr o = true) :
 ST C.toCx E (fun i => if i = nx then (0, 0) else ρ i) (nx + 1) tm ((nx, o) :: hp) a w := by
 have hs : 0 < w.heap.size := Nat.lt_of_lt_of_le hng H.heap.glob.1
 have hne : ∀ i, i < nx → (if i = nx then ((0, 0) : Nat × Nat) else ρ i) = ρ i := fun i hi => if_neg (by omega)
 have hmut : o.mut = false := by simp [AO.mut, h1]
 refine ⟨H.defers, H.size, ?_, ⟨?_, ?_, ?_, ?_, H.heap.glob⟩, ⟨H.fr.frame, ?_, ?_, H.fr.hsize, H.fr.tape, H.fr.os, H.fr.output⟩, by have := H.n0; omega, ?_⟩
 · intro t av ht
   obtain ⟨g1, g2⟩ := H.tmps t av ht
   exact ⟨AV.lt_mono (by omega) _ g1, by rw [AV.den_congr hne _ g1]; exact g2⟩
 · intro id p hp'
   rw [lk_cons] at hp'
   split at hp'
   · rename_i e; subst e; cases hp'
     refine ⟨by omega, by unfold AO.lt; rw [h2]; trivial, (isArr_is h3).2 (.inl ⟨h1, h2⟩)⟩
   · obtain ⟨g1, g2, g3⟩ := H.heap.objs id p hp'
     refine ⟨by omega, AO.lt_mono (by omega) _ g2, ?_⟩
     rw [hne id g1]
     exact (AO.is_congr hne p g2 _ _).2 g3
 · intro id p hp' hl
   rw [lk_cons] at hp'
   split at hp'
   · rename_i e; subst e; simpa using hs
   · rw [hne id (H.heap.objs id p hp').1]; exact H.heap.bound id p hp' hl
 · intro id p id' p' hp1 hp2 hm hl hn
   rw [lk_cons] at hp1 hp2
   split at hp1
   · cases hp1; rw [hmut] at hm; cases hm
   · split at hp2
     · rename_i e; subst e
       rw [hne id (H.heap.objs id p hp1).1]
       have := H.heap.apart id p hp1 hm
       simp only [if_true]; omega
     · rw [hne id (H.heap.objs id p hp1).1, hne id' (H.heap.objs id' p' hp2).1]
       exact H.heap.sep id p id' p' hp1 hp2 hm hl hn
 · intro id p hp' hm
   rw [lk_cons] at hp'
   split at hp'
   · cases hp'; rw [hmut] at hm; cases hm
   · rw [hne id (H.heap.objs id p hp').1]; exact H.heap.apart id p hp' hm
 · intro id p hp' hm
   rw [lk_cons] at hp'
   split at hp'
   · cases hp'; rw [hmut] at hm; cases hm
   · rw [hne id (H.heap.objs id p hp').1]; exact H.fr.own id p hp' hm
 · intro id p hp' hm
   rw [lk_cons] at hp'
   split at hp'
   · rename_i e; subst e
     simp only [if_true]
     exact .inl (.inr hng)
   · rw [hne id (H.heap.objs id p hp').1]; exact H.fr.own2 id p hp' hm
 · intro i hi
   rw [hne i (by have := H.n0; omega)]; exact H.agree i hi
theorem Imp_nil (o : AO) (hng : 0 < C.ng) (h1 : o.tot = none) (h2 : o.avs = []) (h3 : isArr o = true) : Imp C E nx tm hp (nx + 1) tm ((nx, o) :: hp) :=
 fun ρ a w H => ⟨_, H.nilO hng h1 h2 h3⟩
def nilHp : Nat → List AO → Hp → Hp
 | _, [], hp => hp
 | n, o :: l, hp => nilHp (n + 1) l ((n, o) :: hp)
def nilOs : List AO → Prop
 | [] => True
 | o :: l => (o.tot = none ∧ o.avs = [] ∧ isArr o = true) ∧ nilOs l
theorem Imp_nils (hng : 0 < C.ng) : ∀ (os : List AO) {nx : Nat} {hp : Hp}, nilOs os → Imp C E nx tm hp (nx + os.length) tm (nilHp nx os hp)
 | [], _, _, _ => Imp_refl
 | o :: l, nx, hp, h => by
   have h2 : Imp C E (nx + 1) tm ((nx, o) :: hp) (nx + 1 + l.length) tm (nilHp (nx + 1) l ((nx, o) :: hp)) := Imp_nils hng l h.2
   rw [show nx + 1 + l.length = nx + (o :: l).length by simp; omega] at h2
   exact Imp_trans (Imp_nil o hng h.1.1 h.1.2.1 h.1.2.2) h2
theorem Imp_tm (t : Nat) {av : AV} (av' : AV) (hl : lk tm t = some av) (hd : ∀ ρ, av'.den ρ = av.den ρ) (hn : av'.lt nx) : Imp C E nx tm hp nx ((t, av') :: tm) hp :=
 fun ρ a w H => ⟨ρ, H.blur hl (hd ρ) hn⟩
theorem Imp_cells (id : Nat) {e : TypeId} {m : Option Nat} {cs : List AV} (cs' : List AV) (ho : lk hp id = some (.cells e m cs)) (hd : ∀ ρ, denL ρ cs' = denL ρ cs) (hn : ltL nx cs') (hne : cs ≠ []) :
 Imp C E nx tm hp nx tm ((id, .cells e m cs') :: hp) := by
 intro ρ a w H
 have hne' : cs' ≠ [] := by
  intro h
  have := congrArg List.length (hd ρ)
  rw [denL_length, denL_length, h] at this
  cases cs with
  | nil => exact hne rfl
  | cons => simp at this
 have hmem : ∀ i p, lk ((id, AO.cells e m cs') :: hp) i = some p → ∃ q, lk hp i = some q ∧ q.mut = p.mut ∧ q.live = p.live := by
  intro i p h
  rw [lk_cons] at h
  split at h
  · rename_i e; subst e; cases h; exact ⟨_, ho, rfl, rfl⟩
  · exact ⟨p, h, rfl, rfl⟩
 refine ⟨ρ, ⟨H.defers, H.size, H.tmps, ⟨?_, ?_, ?_, ?_, H.heap.glob⟩, ⟨H.fr.frame, ?_, ?_, H.fr.hsize, H.fr.tape, H.fr.os, H.fr.output⟩, H.n0, H.agree⟩⟩
 · intro i p h
   rw [lk_cons] at h
   split at h
   · rename_i e; subst e; cases h
     obtain ⟨g1, g2, g3⟩ := H.heap.objs _ _ ho
     refine ⟨g1, hn, ?_⟩
     rcases g3 with ⟨_, g4⟩ | ⟨pre, rest, fz, el, g4, g5, g6⟩
     · exact absurd g4 hne
     · refine .inr ⟨pre, rest, fz, el, ?_, g5, ?_⟩
       · simp only [AO.avs, AO.elem] at g4 ⊢; rw [hd]; exact g4
       · simp only [AO.avs, AO.tot] at g6 ⊢; rw [hd]; exact g6
   · exact H.heap.objs i p h
 · intro i p h hl
   obtain ⟨q, g1, _, g3⟩ := hmem i p h
   exact H.heap.bound i q g1 (by rw [g3]; exact hl)
 · intro i p i' p' h h' hm hl hne
   obtain ⟨q, g1, g2, _⟩ := hmem i p h
   obtain ⟨q', g1', _, g3'⟩ := hmem i' p' h'
   exact H.heap.sep i q i' q' g1 g1' (by rw [g2]; exact hm) (by rw [g3']; exact hl) hne
 · intro i p h hm
   obtain ⟨q, g1, g2, _⟩ := hmem i p h
   exact H.heap.apart i q g1 (by rw [g2]; exact hm)
 · intro i p h hm
   obtain ⟨q, g1, g2, _⟩ := hmem i p h
   exact H.fr.own i q g1 (by rw [g2]; exact hm)
 · intro i p h hm
   obtain ⟨q, g1, _, g3⟩ := hmem i p h
   exact H.fr.own2 i q g1 (by rw [g3]; exact hm)
def CallsTo (C : Cy) (E : En) (nx : Nat) (tm : Tm) (hp : Hp) (o : Oper) (f : FuncId) (vs : List AV) : Prop :=
 ∀ ρ a w, ST C.toCx E ρ nx tm hp a w → (execOp a.eval o).run C.P w = .ok (.enter f (denL ρ vs).toArray) w
theorem WL_callG {d : Option Nat} {op : Op} {ty : TypeId} {pos : String} {af : Array Edge} {g : Option (Nat × Bool)} {f : FuncId} {vs : List AV} {n0 : Nat} {hp0 : Hp} {args0 : List AV} {R : Rs} (pl : List Nat)
 (T : Tri C f n0 hp0 args0 R) (hv : CallsTo C E nx tm hp ⟨d, op, ty, pos, af, g⟩ f vs) (hg : wanted ops tm g = some true)
 (ha : renL (pm pl) args0 = vs) (hl : ltL n0 args0) (hh : subHp (pm pl) n0 hp hp0) (hd : nodupB (hp0.map fun p => pm pl p.1) = true)
 (hi : nodupB ((List.range n0).map (pm pl)) = true) (hb : upto n0 (fun i => Nat.blt (pm pl i) nx) = true)
 (hdd : (match d with | none => true | some d => Nat.blt d E.nt) = true)
 (h : ∀ n1 hp1 r, R n1 hp1 r → WL C E ops rest (nx + (n1 - n0)) (match d with | none => tm | some d => (d, r.ren (pn (pm pl) n0 nx)) :: tm) (appH (renH (pn (pm pl) n0 nx) hp1) (appH (deadH (pm pl) hp0) hp)) Q) :
 WL C E ops (⟨d, op, ty, pos, af, g⟩ :: rest) nx tm hp Q := by
 intro ρ a w H
 have h1 := hv ρ a w H
 refine wpList_of_call (wanted_sound H (o := ⟨d, op, ty, pos, af, g⟩) hg) h1 ?_
 have hHR := H.heap.ren hh hd
 have hc := T.2 _ w hHR hl
 rw [← denL_ren, ha] at hc
 refine hc.mono ?_
 rintro e w' ⟨ρ', n1, hp1, r, hR, rfl, hr, hn, hag, H1, F⟩
 refine ⟨_, rfl, ?_⟩
 have hb' : ∀ i, i < n0 → pm pl i < nx := fun i hi' => by have := upto_spec hb hi'; simpa [Nat.blt_eq] using this
 obtain ⟨ρ2, S2, e2, l2⟩ := H.after hh hd (nodupB_id hi) hb' hr hn hag H1 F H1.keys
 rw [← e2]
 cases d with
 | none => exact h n1 hp1 r hR ρ2 _ w' S2
 | some d => exact h n1 hp1 r hR ρ2 _ w' (S2.put (by simpa [Nat.blt_eq] using hdd) l2)
theorem callsTo_invoke {d : Option Nat} {x : Operand} {m : String} {args : Array Operand} {ats : Array TypeId} {ty : TypeId} {pos : String} {af : Array Edge} {g : Option (Nat × Bool)} {f : FuncId} {t : TypeId} {v : AV} {l : List AV}
 (hms : ∀ v args w, (callMethod (.iface t v) m args).run C.P w = .ok (.enter f (#[v] ++ args)) w)
 (hx : ev tm x = some (.ifc t v)) (hl : evs tm args.toList = some l) : CallsTo C E nx tm hp ⟨d, .call ⟨.invoke x m, args, ats⟩, ty, pos, af, g⟩ f (v :: l) := by
 intro ρ a w H
 obtain ⟨h1, _⟩ := H.ev hx
 obtain ⟨h3, _⟩ := evs_sound H _ hl
 have e1 : args.map a.eval = (denL ρ l).toArray := by rw [← h3, ← Array.toList_map, Array.toArray_toList]
 simp only [execOp, resolve, h1, AV.den, Sem.run_bind, Sem.run_pure, Result.andThen_ok, invoke]
 have e2 : (#[Value.iface t (v.den ρ)] ++ Array.map a.eval args)[0]? = some (Value.iface t (v.den ρ)) := by rw [Array.getElem?_append_left (by simp)]; rfl
 have e3 : (#[Value.iface t (v.den ρ)] ++ Array.map a.eval args).extract 1 (#[Value.iface t (v.den ρ)] ++ Array.map a.eval args).size = Array.map a.eval args := by
  apply Array.ext'; simp; rw [List.take_of_length_le (by simp)]
 simp only [e2, e3]
 rw [hms]
 simp only [denL]
 congr 2
 rw [e1]; simp
end Go.Eng
namespace Go.Eng
open Go.Proofs
attribute [local irreducible] W WL LP Then InBl Tri WS
def intZ (s : List UInt8) : Option Int := match Lib.atoiAll s with | .ok v => some v | _ => none
def body (s : List UInt8) : List UInt8 := if s.getD 0 0 = 45 ∨ s.getD 0 0 = 43 then s.drop 1 else s
end Go.Eng
namespace Go.Eng
open Go.Proofs
attribute [local irreducible] W WL LP Then InBl Tri WS
def resR {α : Type} (o : Option α) (f : α → AV) (r : AV) : Prop := (∃ a, o = some a ∧ r = .tup [f a, .v .nilIface]) ∨ (o = none ∧ ∃ a t p, r = .tup [f a, .ifc t (.v p)])
theorem resR_lt {α : Type} {o : Option α} {f : α → AV} {r : AV} (h : resR o f r) {n : Nat} (hf : ∀ a, (f a).lt n) : r.lt n := by
 rcases h with ⟨a, _, rfl⟩ | ⟨_, a, t, p, rfl⟩
 · exact ⟨hf a, trivial, trivial⟩
 · exact ⟨hf a, trivial, trivial⟩
theorem atoi2_tri (s : List UInt8) (hs : s.length ≤ 281474976710656) : Tri C0 220 0 [] [.str s] (fun n hp r => n = 0 ∧ hp = [] ∧ resR (intZ s) (AV.int .i64) r) := by
 cases h : Lib.atoiAll s with
 | ok v =>
   refine (atoi_ok_tri s hs v h).mono ?_
   rintro n hp r ⟨rfl, rfl, rfl⟩
   exact ⟨rfl, rfl, .inl ⟨v, by simp [intZ, h], rfl⟩⟩
 | range =>
   refine (atoi_err_tri s hs (by rw [h]; intro v; exact fun e => by cases e)).mono ?_
   rintro n hp r ⟨rfl, rfl, v, _, rfl, ⟨p, rfl⟩⟩
   exact ⟨rfl, rfl, .inr ⟨by simp [intZ, h], v, _, _, rfl⟩⟩
 | _ =>
   refine (atoi_err_tri s hs (by rw [h]; intro v; exact fun e => by cases e)).mono ?_
   rintro n hp r ⟨rfl, rfl, v, _, rfl, ⟨p, rfl⟩⟩
   exact ⟨rfl, rfl, .inr ⟨by simp [intZ, h], v, _, _, rfl⟩⟩
def freqZ (s : List UInt8) : Option Int :=
 if s = [89, 69, 65, 82, 76, 89] then some 0 else if s = [77, 79, 78, 84, 72, 76, 89] then some 1 else if s = [87, 69, 69, 75, 76, 89] then some 2 else if s = [68, 65, 73, 76, 89] then some 3
 else if s = [72, 79, 85, 82, 76, 89] then some 4 else if s = [77, 73, 78, 85, 84, 69, 76, 89] then some 5 else if s = [83, 69, 67, 79, 78, 68, 76, 89] then some 6 else none
def wdayZ (s : List UInt8) : Option Int :=
 if s = [77, 79] then some 0 else if s = [84, 85] then some 1 else if s = [87, 69] then some 2 else if s = [84, 72] then some 3
 else if s = [70, 82] then some 4 else if s = [83, 65] then some 5 else if s = [83, 85] then some 6 else none
abbrev FM : List (List UInt8 × Value) := [([89, 69, 65, 82, 76, 89], .int .i64 0), ([77, 79, 78, 84, 72, 76, 89], .int .i64 1), ([87, 69, 69, 75, 76, 89], .int .i64 2), ([68, 65, 73, 76, 89], .int .i64 3), ([72, 79, 85, 82, 76, 89], .int .i64 4), ([77, 73, 78, 85, 84, 69, 76, 89], .int .i64 5), ([83, 69, 67, 79, 78, 68, 76, 89], .int .i64 6)]
theorem strToFreq_tri (s : List UInt8) (hs : s.length ≤ 1073741824) : Tri C0 219 0 [] [.str s] (fun k hp r => k = 0 ∧ hp = [] ∧ resR (freqZ s) (AV.int .i64) r) := by
 refine Tri.keep ?_ trivial (fun r h => resR_lt h fun _ => trivial)
 have hlk : ∀ v, lookS FM s = some v → ∃ n : Int, v = .int .i64 n ∧ freqZ s = some n := by
  intro v h
  simp only [FM, lookS] at h
  unfold freqZ
  by_cases h0 : s = [89, 69, 65, 82, 76, 89]
  · rw [if_pos h0] at h; cases h; exact ⟨_, rfl, by rw [if_pos h0]⟩
  rw [if_neg h0] at h
  by_cases h1 : s = [77, 79, 78, 84, 72, 76, 89]
  · rw [if_pos h1] at h; cases h; exact ⟨_, rfl, by rw [if_neg h0, if_pos h1]⟩
  rw [if_neg h1] at h
  by_cases h2 : s = [87, 69, 69, 75, 76, 89]
  · rw [if_pos h2] at h; cases h; exact ⟨_, rfl, by rw [if_neg h0, if_neg h1, if_pos h2]⟩
  rw [if_neg h2] at h
  by_cases h3 : s = [68, 65, 73, 76, 89]
  · rw [if_pos h3] at h; cases h; exact ⟨_, rfl, by rw [if_neg h0, if_neg h1, if_neg h2, if_pos h3]⟩
  rw [if_neg h3] at h
  by_cases h4 : s = [72, 79, 85, 82, 76, 89]
  · rw [if_pos h4] at h; cases h; exact ⟨_, rfl, by rw [if_neg h0, if_neg h1, if_neg h2, if_neg h3, if_pos h4]⟩
  rw [if_neg h4] at h
  by_cases h5 : s = [77, 73, 78, 85, 84, 69, 76, 89]
  · rw [if_pos h5] at h; cases h; exact ⟨_, rfl, by rw [if_neg h0, if_neg h1, if_neg h2, if_neg h3, if_neg h4, if_pos h5]⟩
  rw [if_neg h5] at h
  by_cases h6 : s = [83, 69, 67, 79, 78, 68, 76, 89]
  · rw [if_pos h6] at h; cases h; exact ⟨_, rfl, by rw [if_neg h0, if_neg h1, if_neg h2, if_neg h3, if_neg h4, if_neg h5, if_pos h6]⟩
  rw [if_neg h6] at h
  cases h
 have hlk0 : lookS FM s = none → freqZ s = none := by
  intro h
  simp only [FM, lookS] at h
  unfold freqZ
  by_cases h0 : s = [89, 69, 65, 82, 76, 89]
  · rw [if_pos h0] at h; cases h
  rw [if_neg h0] at h
  by_cases h1 : s = [77, 79, 78, 84, 72, 76, 89]
  · rw [if_pos h1] at h; cases h
  rw [if_neg h1] at h
  by_cases h2 : s = [87, 69, 69, 75, 76, 89]
  · rw [if_pos h2] at h; cases h
  rw [if_neg h2] at h
  by_cases h3 : s = [68, 65, 73, 76, 89]
  · rw [if_pos h3] at h; cases h
  rw [if_neg h3] at h
  by_cases h4 : s = [72, 79, 85, 82, 76, 89]
  · rw [if_pos h4] at h; cases h
  rw [if_neg h4] at h
  by_cases h5 : s = [77, 73, 78, 85, 84, 69, 76, 89]
  · rw [if_pos h5] at h; cases h
  rw [if_neg h5] at h
  by_cases h6 : s = [83, 69, 67, 79, 78, 68, 76, 89]
  · rw [if_pos h6] at h; cases h
  rw [if_neg h6] at h
  rw [if_neg h0, if_neg h1, if_neg h2, if_neg h3, if_neg h4, if_neg h5, if_neg h6]
 refine Tri.mk 21 [.tmp 2, .tmp 3] Tryz.func219 rfl rfl rfl rfl cf219 ?_; intro w0 S T ρ0
 refine w_ ?_
 refine WL_makeMap rfl rfl ?_
 refine w_ ?_
 refine WL_insert rfl rfl rfl rfl rfl rfl rfl rfl trivial rfl rfl ?_
 refine w_ ?_
 refine WL_insert rfl rfl rfl rfl rfl rfl rfl rfl trivial rfl rfl ?_
 refine w_ ?_
 refine WL_insert rfl rfl rfl rfl rfl rfl rfl rfl trivial rfl rfl ?_
 refine w_ ?_
 refine WL_insert rfl rfl rfl rfl rfl rfl rfl rfl trivial rfl rfl ?_
 refine w_ ?_
 refine WL_insert rfl rfl rfl rfl rfl rfl rfl rfl trivial rfl rfl ?_
 refine w_ ?_
 refine WL_insert rfl rfl rfl rfl rfl rfl rfl rfl trivial rfl rfl ?_
 refine w_ ?_
 refine WL_insert rfl rfl rfl rfl rfl rfl rfl rfl trivial rfl rfl ?_
 refine w_ ?_
 refine WL_lookup rfl rfl rfl rfl rfl rfl rfl rfl rfl rfl rfl ?_ ?_
 · intro v hv
   obtain ⟨n, rfl, hn⟩ := hlk v hv
   refine w_ ?_
   refine W_cond_false rfl ?_
   refine w_ ?_
   refine k_ ?_
   exact .inl ⟨n, hn, rfl⟩
 · intro hv
   have hn := hlk0 hv
   refine w_ ?_
   refine W_cond_true rfl ?_
   refine w_ ?_
   refine WL_call [] (errNew_tri _) rfl rfl rfl t_ t_ rfl rfl rfl rfl ?_; rintro _ _ _ ⟨rfl, rfl, et, ep, rfl⟩
   refine w_ ?_
   refine k_ ?_
   exact .inr ⟨hn, 0, _, _, rfl⟩
end Go.Eng
namespace Go.Eng
open Go.Proofs
attribute [local irreducible] W WL LP Then InBl Tri WS
def dayZ (s : List UInt8) : Option (Int × Int) :=
 if s.length < 2 then none else
 match wdayZ (s.drop (s.length - 2)) with
 | none => none
 | some w => if s.length = 2 then some (w, 0) else (intZ (s.take (s.length - 2))).map fun n => (w, n)
abbrev dayA (p : Int × Int) : AV := .agg [.int .i64 p.1, .int .i64 p.2]
theorem dayZ_short {s : List UInt8} (h : s.length < 2) : dayZ s = none := by unfold dayZ; rw [if_pos h]
theorem dayZ_two {s : List UInt8} {w : Int} (h : ¬ s.length < 2) (hw : wdayZ (s.drop (s.length - 2)) = some w) (h2 : s.length = 2) : dayZ s = some (w, 0) := by
 unfold dayZ; rw [if_neg h, hw]; simp only [if_pos h2]
theorem dayZ_num {s : List UInt8} {w : Int} (h : ¬ s.length < 2) (hw : wdayZ (s.drop (s.length - 2)) = some w) (h2 : ¬ s.length = 2) : dayZ s = (intZ (s.take (s.length - 2))).map fun n => (w, n) := by
 unfold dayZ; rw [if_neg h, hw]; simp only [if_neg h2]
theorem dayZ_none {s : List UInt8} (h : ¬ s.length < 2) (hw : wdayZ (s.drop (s.length - 2)) = none) : dayZ s = none := by
 unfold dayZ; rw [if_neg h, hw]
abbrev WM : List (List UInt8 × Value) := [([77, 79], .agg #[.int .i64 0, .int .i64 0]), ([84, 85], .agg #[.int .i64 1, .int .i64 0]), ([87, 69], .agg #[.int .i64 2, .int .i64 0]), ([84, 72], .agg #[.int .i64 3, .int .i64 0]), ([70, 82], .agg #[.int .i64 4, .int .i64 0]), ([83, 65], .agg #[.int .i64 5, .int .i64 0]), ([83, 85], .agg #[.int .i64 6, .int .i64 0])]
theorem WM_some (s : List UInt8) (v : Value) (h : lookS WM s = some v) : ∃ n : Int, v = .agg #[.int .i64 n, .int .i64 0] ∧ wdayZ s = some n := by
 simp only [WM, lookS] at h
 unfold wdayZ
 by_cases h0 : s = [77, 79]
 · rw [if_pos h0] at h; cases h; exact ⟨_, rfl, by rw [if_pos h0]⟩
 rw [if_neg h0] at h
 by_cases h1 : s = [84, 85]
 · rw [if_pos h1] at h; cases h; exact ⟨_, rfl, by rw [if_neg h0, if_pos h1]⟩
 rw [if_neg h1] at h
 by_cases h2 : s = [87, 69]
 · rw [if_pos h2] at h; cases h; exact ⟨_, rfl, by rw [if_neg h0, if_neg h1, if_pos h2]⟩
 rw [if_neg h2] at h
 by_cases h3 : s = [84, 72]
 · rw [if_pos h3] at h; cases h; exact ⟨_, rfl, by rw [if_neg h0, if_neg h1, if_neg h2, if_pos h3]⟩
 rw [if_neg h3] at h
 by_cases h4 : s = [70, 82]
 · rw [if_pos h4] at h; cases h; exact ⟨_, rfl, by rw [if_neg h0, if_neg h1, if_neg h2, if_neg h3, if_pos h4]⟩
 rw [if_neg h4] at h
 by_cases h5 : s = [83, 65]
 · rw [if_pos h5] at h; cases h; exact ⟨_, rfl, by rw [if_neg h0, if_neg h1, if_neg h2, if_neg h3, if_neg h4, if_pos h5]⟩
 rw [if_neg h5] at h
 by_cases h6 : s = [83, 85]
 · rw [if_pos h6] at h; cases h; exact ⟨_, rfl, by rw [if_neg h0, if_neg h1, if_neg h2, if_neg h3, if_neg h4, if_neg h5, if_pos h6]⟩
 rw [if_neg h6] at h
 cases h
theorem WM_none (s : List UInt8) (h : lookS WM s = none) : wdayZ s = none := by
 simp only [WM, lookS] at h
 unfold wdayZ
 by_cases h0 : s = [77, 79]
 · rw [if_pos h0] at h; cases h
 rw [if_neg h0] at h
 by_cases h1 : s = [84, 85]
 · rw [if_pos h1] at h; cases h
 rw [if_neg h1] at h
 by_cases h2 : s = [87, 69]
 · rw [if_pos h2] at h; cases h
 rw [if_neg h2] at h
 by_cases h3 : s = [84, 72]
 · rw [if_pos h3] at h; cases h
 rw [if_neg h3] at h
 by_cases h4 : s = [70, 82]
 · rw [if_pos h4] at h; cases h
 rw [if_neg h4] at h
 by_cases h5 : s = [83, 65]
 · rw [if_pos h5] at h; cases h
 rw [if_neg h5] at h
 by_cases h6 : s = [83, 85]
 · rw [if_pos h6] at h; cases h
 rw [if_neg h6] at h
 rw [if_neg h0, if_neg h1, if_neg h2, if_neg h3, if_neg h4, if_neg h5, if_neg h6]
theorem strToWeekday_tri (s : List UInt8) (hs : s.length ≤ 1073741824) : Tri C0 221 0 [] [.str s] (fun k hp r => k = 0 ∧ hp = [] ∧ resR (dayZ s) dayA r) := by
 refine Tri.keep ?_ trivial (fun r h => resR_lt h fun _ => ⟨trivial, trivial, trivial⟩)
 refine Tri.mk 60 [.cell 2 142, .tmp 3] Tryz.func221 rfl rfl rfl rfl cf221 ?_; intro w0 S T ρ0
 refine w_ ?_
 refine i_ ?_ ?_ <;> intro hz
 · refine w_ ?_
   refine WL_call [] (errNew_tri _) rfl rfl rfl t_ t_ rfl rfl rfl rfl ?_; rintro _ _ _ ⟨rfl, rfl, et, ep, rfl⟩
   refine w_ ?_
   refine k_ ?_
   exact .inr ⟨dayZ_short (by omega), (0, 0), _, _, rfl⟩
 have hz : ¬ s.length < 2 := by omega
 have e1 : ((s.length : Int) - 2).toNat = s.length - 2 := by omega
 refine w_ ?_
 refine WL_makeMap rfl rfl ?_
 refine w_ ?_
 refine WL_insert rfl rfl rfl rfl rfl rfl rfl rfl ⟨trivial, trivial, trivial⟩ rfl rfl ?_
 refine w_ ?_
 refine WL_insert rfl rfl rfl rfl rfl rfl rfl rfl ⟨trivial, trivial, trivial⟩ rfl rfl ?_
 refine w_ ?_
 refine WL_insert rfl rfl rfl rfl rfl rfl rfl rfl ⟨trivial, trivial, trivial⟩ rfl rfl ?_
 refine w_ ?_
 refine WL_insert rfl rfl rfl rfl rfl rfl rfl rfl ⟨trivial, trivial, trivial⟩ rfl rfl ?_
 refine w_ ?_
 refine WL_insert rfl rfl rfl rfl rfl rfl rfl rfl ⟨trivial, trivial, trivial⟩ rfl rfl ?_
 refine w_ ?_
 refine WL_insert rfl rfl rfl rfl rfl rfl rfl rfl ⟨trivial, trivial, trivial⟩ rfl rfl ?_
 refine w_ ?_
 refine WL_insert rfl rfl rfl rfl rfl rfl rfl rfl ⟨trivial, trivial, trivial⟩ rfl rfl ?_
 refine w_ ?_
 rw [e1]
 refine WL_lookup rfl rfl rfl rfl rfl rfl rfl rfl rfl rfl rfl ?_ ?_
 · intro v hv
   obtain ⟨w, rfl, hw⟩ := WM_some _ v hv
   refine w_ ?_
   refine W_cond_false rfl ?_
   refine w_ ?_
   refine i_ ?_ ?_ <;> intro h2
   · have hdn := dayZ_num hz hw (by omega)
     refine w_ ?_
     rw [e1]
     refine WL_call [] (atoi2_tri (s.take (s.length - 2)) (by simp; omega)) rfl rfl rfl t_ t_ rfl rfl rfl rfl ?_; rintro _ _ _ ⟨rfl, rfl, hr⟩
     rcases hr with ⟨v, hv, rfl⟩ | ⟨hv, v, t, p, rfl⟩
     · rw [hv] at hdn
       refine w_ ?_
       refine W_cond_false rfl ?_
       refine w_ ?_
       refine k_ ?_
       exact .inl ⟨_, hdn, rfl⟩
     · rw [hv] at hdn
       refine w_ ?_
       refine W_cond_true rfl ?_
       refine w_ ?_
       refine k_ ?_
       exact .inr ⟨hdn, (0, 0), _, _, rfl⟩
   · have hdn := dayZ_two hz hw (by omega)
     refine w_ ?_
     refine k_ ?_
     exact .inl ⟨_, hdn, rfl⟩
 · intro hv
   have hn := WM_none _ hv
   refine w_ ?_
   refine W_cond_true rfl ?_
   refine w_ ?_
   refine WL_call [] (errNew_tri _) rfl rfl rfl t_ t_ rfl rfl rfl rfl ?_; rintro _ _ _ ⟨rfl, rfl, et, ep, rfl⟩
   refine w_ ?_
   refine k_ ?_
   exact .inr ⟨dayZ_none hz hn, (0, 0), _, _, rfl⟩
end Go.Eng
namespace Go.Eng
open Go.Proofs
attribute [local irreducible] W WL LP Then InBl Tri WS
def mapZ {α : Type} (f : List UInt8 → Option α) : List (List UInt8) → Option (List α)
 | [] => some []
 | x :: l => match f x with | none => none | some v => (mapZ f l).map (v :: ·)
theorem mapZ_none {α : Type} {f : List UInt8 → Option α} {x : List UInt8} {l : List (List UInt8)} (h : f x = none) : mapZ f (x :: l) = none := by simp [mapZ, h]
theorem mapZ_some {α : Type} {f : List UInt8 → Option α} {x : List UInt8} {l : List (List UInt8)} {v : α} (h : f x = some v) : mapZ f (x :: l) = (mapZ f l).map (v :: ·) := by simp [mapZ, h]
theorem mapZ_acc {α : Type} {o : Option (List α)} {acc : List α} {v : α} : (o.map (v :: ·)).map (acc ++ ·) = o.map ((acc ++ [v]) ++ ·) := by
 cases o <;> simp
def listR {α : Type} (ob : List α → AO) (n : Nat) (o : Option (List α)) : Rs := fun k hp r =>
 (∃ xs cap, o = some xs ∧ 0 < xs.length ∧ xs.length ≤ cap ∧ k = 1 ∧ hp = [(0, ob xs)] ∧ r = .tup [.sl false 0 n 0 xs.length cap, .v .nilIface]) ∨
 (o = none ∧ k = 0 ∧ hp = [] ∧ ∃ t p, r = .tup [.v (.slice none 0 0), .ifc t (.v p)])
abbrev intA (xs : List Int) : AO := .ints 3 none .i64 xs
end Go.Eng
namespace Go.Eng
open Go.Proofs
attribute [local irreducible] W WL LP Then InBl Tri WS
theorem take_set {α : Type} {xs : List α} {i : Nat} {v : α} (h : i < xs.length) : (xs.set i v).take (i + 1) = xs.take i ++ [v] := by
 rw [List.take_add_one, List.take_set_of_le (Nat.le_refl _), List.getElem?_set_self (by simpa using h)]; rfl
theorem take_setL {xs : List Int} {i : Nat} {v : Int} (h : i < xs.length) : (xs.set i v).take (i + 1) = xs.take i ++ [v] := take_set h
theorem rep_days : ∀ n : Nat, ((List.replicate n ((0 : Int), (0 : Int))).map fun p => [p.1, p.2]).flatMap (rowA K2) = (List.replicate n [AV.int .i64 0, AV.int .i64 0]).flatten
 | 0 => rfl
 | n + 1 => by rw [List.replicate_succ, List.replicate_succ, List.map_cons, List.flatten_cons, List.flatMap_cons, rep_days n]; rfl
theorem strToInts_tri (s : List UInt8) (hl : s.length ≤ 536870912) : Tri C0 222 0 [] [.str s] (listR intA 1 (mapZ intZ (splitB 44 s))) := by
 refine Tri.mk 34 [.tmp 2, .tmp 3] Tryz.func222 rfl rfl rfl rfl cf222 ?_; intro w0 S T ρ0
 refine w_ ?_
 refine WL_call [] (split_str_tri 44 s (by omega)) rfl rfl rfl (s_) (s_) rfl rfl rfl rfl ?_
 rintro _ _ _ ⟨cap2, tt2, hd1, hd2, rfl, rfl, rfl⟩
 have hm2 := splitB_mem 44 s
 have hne2 := splitB_ne 44 s
 have hcnt := splitB_count 44 s
 generalize splitB 44 s = ds at *
 have hpos : 0 < ds.length := List.length_pos_iff.2 hne2
 refine w_ ?_
 refine WL_make (.ints 3 (some ds.length) .i64 (List.replicate ds.length 0)) rfl rfl rfl rfl rfl rfl rfl rfl rfl rfl ?_ rfl rfl ?_ ?_ ?_
 · refine ⟨by omega, by omega, by omega, ?_⟩
   show (8 : Int) * (ds.length : Int) ≤ _; omega
 · simp [AO.avs]; exact .inr rfl
 · simp [AO.avs, AO.tot]
 rw [Int.toNat_natCast]
 refine w_ ?_
 refine W_loop ?_; refine LP_ren [0, 1] (LP_ind 2 (fun q : Nat × List Int => ([(5, .sl false 1 1 0 ds.length ds.length), (14, .sl false 0 1 0 ds.length cap2), (15, .int .i64 ds.length), (16, .int .i64 q.1)], [(0, .strs 9 (some tt2) ds), (1, .ints 3 (some ds.length) .i64 q.2)])) (fun q => ds.length - q.1) (fun q => q.1 ≤ ds.length ∧ q.2.length = ds.length ∧ mapZ intZ ds = (mapZ intZ (ds.drop q.1)).map (q.2.take q.1 ++ ·)) (0, List.replicate ds.length 0) ?_ (⟨Nat.zero_le _, by simp, by simp⟩)) s_ s_ rfl rfl rfl
 rintro ⟨j, xs⟩ ⟨i1, i2, i6⟩ ih
 simp only at i1 i2 i6
 refine LP_round ?_; try dsimp only
 refine w_ ?_
 refine i_ ?_ ?_ <;> intro hj
 · have hj : j < ds.length := by omega
   rw [drop_getL hj] at i6
   have hyl := (hm2 _ (getD_mem hj)).1
   refine w_ ?_
   rw [show 0 + (j : Int).toNat = j by omega]
   refine WL_call [] (atoi2_tri (ds.getD j []) (by omega)) rfl rfl rfl t_ t_ rfl rfl rfl rfl ?_; rintro _ _ _ ⟨rfl, rfl, hr⟩
   rcases hr with ⟨v, hv, rfl⟩ | ⟨hv, v, t, p, rfl⟩
   · rw [mapZ_some hv, mapZ_acc] at i6
     refine w_ ?_
     refine W_cond_false rfl ?_
     refine w_ ?_
     rw [show 0 + (j : Int).toNat = j by omega]
     refine LP_ren [0, 1] (ih (j + 1, xs.set j v) (⟨by omega, by simpa using i2, by rw [take_setL (by omega)]; exact i6⟩) (by omega)) s_ s_ rfl rfl rfl
   · rw [mapZ_none hv] at i6
     refine w_ ?_
     refine W_cond_true rfl ?_
     refine w_ ?_
     refine W_ren [] (n := 0) (tm' := [(2, .v (.slice none 0 0)), (3, .ifc t (.v p))]) (hp' := []) ?_ s_ s_ rfl rfl rfl
     refine r_ ?_ ?_
     · exact s_
     · exact .inr ⟨i6, rfl, rfl, _, _, rfl⟩
 · have hj : j = ds.length := by omega
   rw [hj, List.drop_length, mapZ, List.take_of_length_le (by omega)] at i6
   simp only [Option.map_some, List.append_nil] at i6
   refine w_ ?_
   refine x_ ?_
   refine w_ ?_
   refine W_conv 1 (.ints 3 none .i64 xs) rfl rfl rfl rfl (.inl rfl) ⟨[], by simp [AO.avs]⟩ ?_
   rw [← i2]
   refine W_ren [1] (n := 1) (tm' := [(2, .sl false 0 1 0 xs.length xs.length), (3, .v .nilIface)]) (hp' := [(0, .ints 3 none .i64 xs)]) ?_ s_ s_ rfl rfl rfl
   refine r_ ?_ ?_
   · exact s_
   · exact .inl ⟨xs, xs.length, i6, by omega, Nat.le_refl _, rfl, rfl, rfl⟩
abbrev dayO (xs : List (Int × Int)) : AO := .recs 142 none K2 (xs.map fun p => [p.1, p.2])
theorem strToWeekdays_tri (s : List UInt8) (hl : s.length ≤ 536870912) : Tri C0 223 0 [] [.str s] (listR dayO 2 (mapZ dayZ (splitB 44 s))) := by
 refine Tri.mk 34 [.tmp 2, .tmp 3] Tryz.func223 rfl rfl rfl rfl cf223 ?_; intro w0 S T ρ0
 refine w_ ?_
 refine WL_call [] (split_str_tri 44 s (by omega)) rfl rfl rfl (s_) (s_) rfl rfl rfl rfl ?_
 rintro _ _ _ ⟨cap2, tt2, hd1, hd2, rfl, rfl, rfl⟩
 have hm2 := splitB_mem 44 s
 have hne2 := splitB_ne 44 s
 have hcnt := splitB_count 44 s
 generalize splitB 44 s = ds at *
 have hpos : 0 < ds.length := List.length_pos_iff.2 hne2
 refine w_ ?_
 refine WL_make (.recs 142 (some (ds.length * 2)) K2 ((List.replicate ds.length ((0 : Int), (0 : Int))).map fun p => [p.1, p.2])) rfl rfl rfl rfl rfl rfl rfl rfl rfl rfl ?_ rfl rfl ?_ ?_ ?_
 · refine ⟨by omega, by omega, by omega, ?_⟩
   show (16 : Int) * (ds.length : Int) ≤ _; omega
 · show _ = _
   rw [Int.toNat_natCast]
   exact rep_days _
 · show some (ds.length * 2) = some _
   congr 1
   simp only [AO.avs, flat_length, List.length_map, List.length_replicate]; rfl
 rw [Int.toNat_natCast]
 refine w_ ?_
 refine W_loop ?_; refine LP_ren [0, 1] (LP_ind 2 (fun q : Nat × List (Int × Int) => ([(5, .sl false 1 2 0 ds.length ds.length), (14, .sl false 0 1 0 ds.length cap2), (15, .int .i64 ds.length), (16, .int .i64 q.1)], [(0, .strs 9 (some tt2) ds), (1, .recs 142 (some (ds.length * 2)) K2 (q.2.map fun p => [p.1, p.2]))])) (fun q => ds.length - q.1) (fun q => q.1 ≤ ds.length ∧ q.2.length = ds.length ∧ mapZ dayZ ds = (mapZ dayZ (ds.drop q.1)).map (q.2.take q.1 ++ ·)) (0, List.replicate ds.length (0, 0)) ?_ (⟨Nat.zero_le _, by simp, by simp⟩)) s_ s_ rfl rfl rfl
 rintro ⟨j, xs⟩ ⟨i1, i2, i6⟩ ih
 simp only at i1 i2 i6
 refine LP_round ?_; try dsimp only
 refine w_ ?_
 refine i_ ?_ ?_ <;> intro hj
 · have hj : j < ds.length := by omega
   rw [drop_getL hj] at i6
   have hyl := (hm2 _ (getD_mem hj)).1
   have hml : (xs.map fun p => [p.1, p.2]).length = ds.length := by simpa using i2
   refine w_ ?_
   rw [show 0 + (j : Int).toNat = j by omega]
   refine WL_call [] (strToWeekday_tri (ds.getD j []) (by omega)) rfl rfl rfl t_ t_ rfl rfl rfl rfl ?_; rintro _ _ _ ⟨rfl, rfl, hr⟩
   rcases hr with ⟨v, hv, rfl⟩ | ⟨hv, v, t, p, rfl⟩
   · rw [mapZ_some hv, mapZ_acc] at i6
     refine w_ ?_
     refine W_cond_false rfl ?_
     refine w_ ?_
     rw [show 0 + (j : Int).toNat = j by omega]
     have ih2 := ih (j + 1, xs.set j v) ⟨by omega, by simpa using i2, by rw [take_set (by omega)]; exact i6⟩ (by simp only; omega)
     dsimp only at ih2
     rw [List.map_set] at ih2
     have ht : ((xs.map fun p => [p.1, p.2]).getD j []).tail.tail = [] := by
      rw [List.getD_eq_getElem?_getD, List.getElem?_map, List.getElem?_eq_getElem (by omega)]; rfl
     rw [ht]
     refine LP_ren [0, 1] ih2 ?_ ?_ rfl rfl rfl
     · exact s_
     · exact s_
   · rw [mapZ_none hv] at i6
     refine w_ ?_
     refine W_cond_true rfl ?_
     refine w_ ?_
     refine W_ren [] (n := 0) (tm' := [(2, .v (.slice none 0 0)), (3, .ifc t (.v p))]) (hp' := []) ?_ s_ s_ rfl rfl rfl
     refine r_ ?_ ?_
     · exact s_
     · exact .inr ⟨i6, rfl, rfl, _, _, rfl⟩
 · have hj : j = ds.length := by omega
   rw [hj, List.drop_length, mapZ, List.take_of_length_le (by omega)] at i6
   simp only [Option.map_some, List.append_nil] at i6
   refine w_ ?_
   refine x_ ?_
   refine w_ ?_
   refine W_conv 1 (.recs 142 none K2 (xs.map fun p => [p.1, p.2])) rfl rfl rfl rfl (.inl rfl) ⟨[], by simp [AO.avs]⟩ ?_
   rw [← i2]
   refine W_ren [1] (n := 1) (tm' := [(2, .sl false 0 2 0 xs.length xs.length), (3, .v .nilIface)]) (hp' := [(0, .recs 142 none K2 (xs.map fun p => [p.1, p.2]))]) ?_ s_ s_ rfl rfl rfl
   refine r_ ?_ ?_
   · exact s_
   · exact .inl ⟨xs, xs.length, i6, by omega, Nat.le_refl _, rfl, rfl, rfl⟩
end Go.Eng
namespace Go.Eng
def okG (π : Nat → Nat) : Hp → Bool
 | [] => true
 | p :: l => (l.all fun q => !(Nat.beq (π p.1) (π q.1)) || Nat.beq p.1 q.1 || !(p.2.mut || q.2.mut)) && okG π l
theorem okG_sep {π : Nat → Nat} : ∀ {l : Hp}, okG π l = true → ∀ {p q}, p ∈ l → q ∈ l → p.1 ≠ q.1 → p.2.mut = true ∨ q.2.mut = true → π p.1 ≠ π q.1
 | [], _, _, _, h, _, _, _ => by cases h
 | x :: l, hk, p, q, hp, hq, hne, hm => by
   simp only [okG, Bool.and_eq_true, List.all_eq_true] at hk
   have one : ∀ y ∈ l, x.1 ≠ y.1 → x.2.mut = true ∨ y.2.mut = true → π x.1 ≠ π y.1 := by
    intro y hy h1 h2 e
    have h3 := hk.1 y hy
    rw [e, Nat.beq_refl] at h3
    have h4 : Nat.beq x.1 y.1 = false := by
     cases h5 : Nat.beq x.1 y.1
     · rfl
     · exact absurd (Nat.eq_of_beq_eq_true h5) h1
    rw [h4] at h3
    rcases h2 with h2 | h2 <;> simp [h2] at h3
   rcases List.mem_cons.1 hp with e1 | h1 <;> rcases List.mem_cons.1 hq with e2 | h2
   · rw [e1, e2] at hne; exact absurd rfl hne
   · subst e1; exact one q h2 hne hm
   · subst e2; exact fun e => one p h1 (Ne.symm hne) hm.symm e.symm
   · exact okG_sep hk.2 h1 h2 hne hm
theorem HR.renG {C : Cx} {ρ : Nat → Nat × Nat} {nx n : Nat} {hp hp' : Hp} {w : World} (H : HR C ρ nx hp w) {π : Nat → Nat} (h : subHp π n hp hp') (hd : okG π hp' = true) :
 HR C (fun i => ρ (π i)) n hp' w := by
 have key : ∀ {id o}, lk hp' id = some o → lk hp (π id) = some (o.ren π) ∧ id < n ∧ o.ltP n := fun h' => subHp_mem h (lk_mem h')
 refine ⟨?_, ?_, ?_, ?_, H.glob⟩
 · intro id o ho
   obtain ⟨h1, h2, h3⟩ := key ho
   exact ⟨h2, AO.ltP_lt h3, (AO.is_ren ρ π _ o _).1 (H.objs _ _ h1).2.2⟩
 · intro id o ho hl
   exact H.bound _ _ (key ho).1 (by rw [AO.live_ren]; exact hl)
 · intro id o id' o' h1 h2 hm hl hne
   exact H.sep _ _ _ _ (key h1).1 (key h2).1 (by rw [AO.mut_ren]; exact hm) (by rw [AO.live_ren]; exact hl) (okG_sep hd (lk_mem h1) (lk_mem h2) hne (.inl hm))
 · intro id o ho hm
   exact H.apart _ _ (key ho).1 (by rw [AO.mut_ren]; exact hm)
theorem ST.renG {C : Cx} {E : En} {ρ : Nat → Nat × Nat} {nx n : Nat} {tm tm' : Tm} {hp hp' : Hp} {a : Act} {w : World} (H : ST C E ρ nx tm hp a w) {π : Nat → Nat}
 (ht : subTm π n tm tm') (h : subHp π n hp hp') (hd : okG π hp' = true) (hn : E.n0 ≤ n) (hi : ∀ i, i < E.n0 → π i = i) :
 ST C E (fun i => ρ (π i)) n tm' hp' a w := by
 have key : ∀ {id o}, lk hp' id = some o → lk hp (π id) = some (o.ren π) ∧ id < n ∧ o.ltP n := fun h' => subHp_mem h (lk_mem h')
 refine ⟨H.defers, H.size, ?_, H.heap.renG h hd, ⟨H.fr.frame, ?_, ?_, H.fr.hsize, H.fr.tape, H.fr.os, H.fr.output⟩, hn, ?_⟩
 · intro t av h'
   obtain ⟨h1, h2⟩ := subTm_mem ht (lk_mem h')
   exact ⟨h2, by rw [← AV.den_ren]; exact (H.tmps t _ h1).2⟩
 · intro id o ho hm
   exact H.fr.own _ _ (key ho).1 (by rw [AO.mut_ren]; exact hm)
 · intro id o ho hm
   exact H.fr.own2 _ _ (key ho).1 (by rw [AO.live_ren]; exact hm)
 · intro i h'
   rw [hi i h']; exact H.agree i h'
variable {C : Cy} {E : En} {ops : Array Oper} {rest : List Oper} {nx : Nat} {tm : Tm} {hp : Hp} {Q : Po}
theorem Imp_renG (pl : List Nat) {n : Nat} {tm' : Tm} {hp' : Hp} (ht : subTm (pm pl) n tm tm') (hh : subHp (pm pl) n hp hp')
 (hd : okG (pm pl) hp' = true) (hn : Nat.ble E.n0 n = true) (hi : upto E.n0 (fun i => Nat.beq (pm pl i) i) = true) : Imp C E nx tm hp n tm' hp' :=
 fun ρ a w H => ⟨_, H.renG ht hh hd (Nat.le_of_ble_eq_true hn) fun i h => Nat.eq_of_beq_eq_true (upto_spec hi h)⟩
theorem W_renG {c : Code} (pl : List Nat) {n : Nat} {tm' : Tm} {hp' : Hp} (h : W C E c n tm' hp' Q) (ht : subTm (pm pl) n tm tm') (hh : subHp (pm pl) n hp hp')
 (hd : okG (pm pl) hp' = true) (hn : Nat.ble E.n0 n = true) (hi : upto E.n0 (fun i => Nat.beq (pm pl i) i) = true) : W C E c nx tm hp Q := W_imp (Imp_renG pl ht hh hd hn hi) h
theorem LP_renG {c : Code} (pl : List Nat) {n : Nat} {tm' : Tm} {hp' : Hp} (h : LP C E c n tm' hp' Q) (ht : subTm (pm pl) n tm tm') (hh : subHp (pm pl) n hp hp')
 (hd : okG (pm pl) hp' = true) (hn : Nat.ble E.n0 n = true) (hi : upto E.n0 (fun i => Nat.beq (pm pl i) i) = true) : LP C E c nx tm hp Q := LP_imp (Imp_renG pl ht hh hd hn hi) h
end Go.Eng
