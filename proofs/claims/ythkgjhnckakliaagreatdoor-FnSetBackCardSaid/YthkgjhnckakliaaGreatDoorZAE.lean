/- A part of the proof that the rows statement FnSetBack holds; no conditions. -/
import Derived.Test.YthkgjhnckakliaaGreatDoorZAD
set_option linter.unusedVariables false
set_option linter.unusedSimpArgs false
set_option linter.unusedSectionVars false
namespace Go.Eng
def AO.ltP (n : Nat) : AO → Prop
 | .cells _ _ cs => ltL n cs
 | _ => True
theorem AO.ltP_lt {n : Nat} {o : AO} (h : o.ltP n) : o.lt n := by
 cases o
 case cells => exact h
 case ints => exact ints_lt _ _ _
 case strs => exact strs_lt _ _
 case recs => exact recs_lt _ _ _
 all_goals trivial
def pm (pl : List Nat) (i : Nat) : Nat := pl.getD i 0
def subTm (π : Nat → Nat) (n : Nat) (tm : Tm) : Tm → Prop
 | [] => True
 | (t, av) :: r => lk tm t = some (av.ren π) ∧ av.lt n ∧ subTm π n tm r
def subHp (π : Nat → Nat) (n : Nat) (hp : Hp) : Hp → Prop
 | [] => True
 | (id, o) :: r => lk hp (π id) = some (o.ren π) ∧ id < n ∧ o.ltP n ∧ subHp π n hp r
def nodupB : List Nat → Bool
 | [] => true
 | x :: l => !(l.any (Nat.beq x)) && nodupB l
theorem nodupB_inj {f : Nat → Nat} : ∀ {l : List Nat}, nodupB (l.map f) = true → ∀ {i j}, i ∈ l → j ∈ l → f i = f j → i = j := by
 intro l
 induction l with
 | nil => intro _ i j h; cases h
 | cons x l ih =>
   intro h i j hi hj e
   simp only [List.map_cons, nodupB, Bool.and_eq_true, Bool.not_eq_true', List.any_eq_false] at h
   have hx : ∀ y ∈ l, f x ≠ f y := by
    intro y hy e
    have := h.1 (f y) (List.mem_map.2 ⟨y, hy, rfl⟩)
    rw [e] at this
    exact this (Nat.beq_refl _)
   rcases List.mem_cons.1 hi with e1 | h1 <;> rcases List.mem_cons.1 hj with e2 | h2
   · rw [e1, e2]
   · rw [e1] at e; exact absurd e (hx j h2)
   · rw [e2] at e; exact absurd e.symm (hx i h1)
   · exact ih h.2 h1 h2 e
theorem lk_mem {α : Type} {l : List (Nat × α)} {i : Nat} {x : α} (h : lk l i = some x) : (i, x) ∈ l := by
 induction l with
 | nil => cases h
 | cons p l ih =>
   obtain ⟨j, y⟩ := p
   rw [lk_cons] at h
   split at h
   · rename_i e; subst e; cases h; exact List.mem_cons_self
   · exact List.mem_cons_of_mem _ (ih h)
theorem subTm_mem {π : Nat → Nat} {n : Nat} {tm : Tm} : ∀ {tm' : Tm}, subTm π n tm tm' → ∀ {t av}, (t, av) ∈ tm' → lk tm t = some (av.ren π) ∧ av.lt n
 | [], _, _, _, h => by cases h
 | (t', av') :: r, hs, t, av, h => by
   rcases List.mem_cons.1 h with e | h
   · cases e; exact ⟨hs.1, hs.2.1⟩
   · exact subTm_mem hs.2.2 h
theorem subHp_mem {π : Nat → Nat} {n : Nat} {hp : Hp} : ∀ {hp' : Hp}, subHp π n hp hp' → ∀ {id o}, (id, o) ∈ hp' → lk hp (π id) = some (o.ren π) ∧ id < n ∧ o.ltP n
 | [], _, _, _, h => by cases h
 | (id', o') :: r, hs, id, o, h => by
   rcases List.mem_cons.1 h with e | h
   · cases e; exact ⟨hs.1, hs.2.1, hs.2.2.1⟩
   · exact subHp_mem hs.2.2.2 h
theorem HR.ren {C : Cx} {ρ : Nat → Nat × Nat} {nx n : Nat} {hp hp' : Hp} {w : World} (H : HR C ρ nx hp w) {π : Nat → Nat} (h : subHp π n hp hp') (hd : nodupB (hp'.map fun p => π p.1) = true) :
 HR C (fun i => ρ (π i)) n hp' w := by
 have key : ∀ {id o}, lk hp' id = some o → lk hp (π id) = some (o.ren π) ∧ id < n ∧ o.ltP n := fun h' => subHp_mem h (lk_mem h')
 refine ⟨?_, ?_, ?_, ?_, H.glob⟩
 · intro id o ho
   obtain ⟨h1, h2, h3⟩ := key ho
   exact ⟨h2, AO.ltP_lt h3, (AO.is_ren ρ π _ o _).1 (H.objs _ _ h1).2.2⟩
 · intro id o ho hl
   exact H.bound _ _ (key ho).1 (by rw [AO.live_ren]; exact hl)
 · intro id o id' o' h1 h2 hm hl hne
   refine H.sep _ _ _ _ (key h1).1 (key h2).1 (by rw [AO.mut_ren]; exact hm) (by rw [AO.live_ren]; exact hl) ?_
   intro e
   have hd' : nodupB ((hp'.map (·.1)).map π) = true := by rw [List.map_map]; exact hd
   exact hne (nodupB_inj hd' (List.mem_map.2 ⟨_, lk_mem h1, rfl⟩) (List.mem_map.2 ⟨_, lk_mem h2, rfl⟩) e)
 · intro id o ho hm
   exact H.apart _ _ (key ho).1 (by rw [AO.mut_ren]; exact hm)
theorem ST.ren {C : Cx} {E : En} {ρ : Nat → Nat × Nat} {nx n : Nat} {tm tm' : Tm} {hp hp' : Hp} {a : Act} {w : World} (H : ST C E ρ nx tm hp a w) {π : Nat → Nat}
 (ht : subTm π n tm tm') (h : subHp π n hp hp') (hd : nodupB (hp'.map fun p => π p.1) = true) (hn : E.n0 ≤ n) (hi : ∀ i, i < E.n0 → π i = i) :
 ST C E (fun i => ρ (π i)) n tm' hp' a w := by
 have key : ∀ {id o}, lk hp' id = some o → lk hp (π id) = some (o.ren π) ∧ id < n ∧ o.ltP n := fun h' => subHp_mem h (lk_mem h')
 refine ⟨H.defers, H.size, ?_, H.heap.ren h hd, ⟨H.fr.frame, ?_, ?_, H.fr.hsize, H.fr.tape, H.fr.os, H.fr.output⟩, hn, ?_⟩
 · intro t av h'
   obtain ⟨h1, h2⟩ := subTm_mem ht (lk_mem h')
   exact ⟨h2, by rw [← AV.den_ren]; exact (H.tmps t _ h1).2⟩
 · intro id o ho hm
   exact H.fr.own _ _ (key ho).1 (by rw [AO.mut_ren]; exact hm)
 · intro id o ho hm
   exact H.fr.own2 _ _ (key ho).1 (by rw [AO.live_ren]; exact hm)
 · intro i h'
   rw [hi i h']; exact H.agree i h'
def upto (n : Nat) (p : Nat → Bool) : Bool := (List.range n).all p
theorem upto_spec {n : Nat} {p : Nat → Bool} (h : upto n p = true) {i : Nat} (hi : i < n) : p i = true := List.all_eq_true.1 h i (List.mem_range.2 hi)
section
variable {C : Cy} {E : En} {ops : Array Oper} {rest : List Oper} {nx : Nat} {tm : Tm} {hp : Hp} {Q : Po}
theorem W_ren {c : Code} (pl : List Nat) {n : Nat} {tm' : Tm} {hp' : Hp} (h : W C E c n tm' hp' Q) (ht : subTm (pm pl) n tm tm') (hh : subHp (pm pl) n hp hp')
 (hd : nodupB (hp'.map fun p => pm pl p.1) = true) (hn : Nat.ble E.n0 n = true) (hi : upto E.n0 (fun i => Nat.beq (pm pl i) i) = true) : W C E c nx tm hp Q :=
 fun ρ a w H => h _ a w (H.ren ht hh hd (Nat.le_of_ble_eq_true hn) fun i h => Nat.eq_of_beq_eq_true (upto_spec hi h))
theorem LP_ren {c : Code} (pl : List Nat) {n : Nat} {tm' : Tm} {hp' : Hp} (h : LP C E c n tm' hp' Q) (ht : subTm (pm pl) n tm tm') (hh : subHp (pm pl) n hp hp')
 (hd : nodupB (hp'.map fun p => pm pl p.1) = true) (hn : Nat.ble E.n0 n = true) (hi : upto E.n0 (fun i => Nat.beq (pm pl i) i) = true) : LP C E c nx tm hp Q :=
 fun ρ a w H => h _ a w (H.ren ht hh hd (Nat.le_of_ble_eq_true hn) fun i h => Nat.eq_of_beq_eq_true (upto_spec hi h))
theorem WL_ren (pl : List Nat) {n : Nat} {tm' : Tm} {hp' : Hp} (h : WL C E ops rest n tm' hp' Q) (ht : subTm (pm pl) n tm tm') (hh : subHp (pm pl) n hp hp')
 (hd : nodupB (hp'.map fun p => pm pl p.1) = true) (hn : Nat.ble E.n0 n = true) (hi : upto E.n0 (fun i => Nat.beq (pm pl i) i) = true) : WL C E ops rest nx tm hp Q :=
 fun ρ a w H => h _ a w (H.ren ht hh hd (Nat.le_of_ble_eq_true hn) fun i h => Nat.eq_of_beq_eq_true (upto_spec hi h))
abbrev Rs := Nat → Hp → AV → Prop
def After (C : Cy) (n0 : Nat) (hp0 : Hp) (ρ : Nat → Nat × Nat) (w : World) (R : Rs) : Ending → World → Prop := fun e w' =>
 ∃ ρ' n1 hp1 r, R n1 hp1 r ∧ e = .returned (r.den ρ') ∧ r.lt n1 ∧ n0 ≤ n1 ∧ (∀ i, i < n0 → ρ' i = ρ i) ∧ HR C.toCx ρ' n1 hp1 w' ∧
  FR (fun b => ∃ id o, lk hp0 id = some o ∧ o.mut = true ∧ (ρ id).1 = b) (fun b => (∃ id o, lk hp0 id = some o ∧ o.live = true ∧ (ρ id).1 = b) ∨ b < C.ng) hp1 ρ' w w'
def Tri (C : Cy) (f : FuncId) (n0 : Nat) (hp0 : Hp) (args : List AV) (R : Rs) : Prop :=
 (∀ args w, (callFunc f args).run C.P w = .ok (.enter f args) w) ∧
 ∀ ρ w, HR C.toCx ρ n0 hp0 w → ltL n0 args → Calls C.P f (denL ρ args).toArray w (After C n0 hp0 ρ w R)
theorem Tri.mono {f : FuncId} {n0 : Nat} {hp0 : Hp} {args : List AV} {R R' : Rs} (h : Tri C f n0 hp0 args R) (hr : ∀ n hp r, R n hp r → R' n hp r) : Tri C f n0 hp0 args R' :=
 ⟨h.1, fun ρ w H hl => (h.2 ρ w H hl).mono fun e w' ⟨ρ', n1, hp1, r, h1, h2⟩ => ⟨ρ', n1, hp1, r, hr _ _ _ h1, h2⟩⟩
def argTm : Nat → List AV → Tm
 | _, [] => []
 | i, a :: l => (i, a) :: argTm (i + 1) l
theorem argTm_lk : ∀ (l : List AV) (i t : Nat) {av}, lk (argTm i l) t = some av → i ≤ t ∧ l[t - i]? = some av
 | [], _, _, _, h => by cases h
 | a :: l, i, t, av, h => by
   simp only [argTm] at h
   rw [lk_cons] at h
   split at h
   · rename_i e; subst e; cases h; simp
   · obtain ⟨h1, h2⟩ := argTm_lk l (i + 1) t h
     refine ⟨by omega, ?_⟩
     rw [show t - i = (t - (i + 1)) + 1 from by omega]; simpa using h2
def res1 (C : Cy) (tm : Tm) (hp : Hp) : ResultVar → RV
 | .tmp t => (lk tm t).map fun a => (True, a)
 | .cell a t => (lk tm a).bind (loadV C.toCx hp t)
def resL (C : Cy) (tm : Tm) (hp : Hp) : List ResultVar → Option (Prop × List AV)
 | [] => some (True, [])
 | r :: l => (res1 C tm hp r).bind fun p => (resL C tm hp l).map fun q => (p.1 ∧ q.1, p.2 :: q.2)
def resV (C : Cy) (tm : Tm) (hp : Hp) : List ResultVar → RV
 | [r] => res1 C tm hp r
 | l => (resL C tm hp l).map fun q => (q.1, .tup q.2)
def FQ (C : Cy) (rs : List ResultVar) (R : Rs) : Po := fun e nx tm hp =>
 match e with
 | .ret | .normal => ∃ φ r, resV C tm hp rs = some (φ, r) ∧ φ ∧ R nx hp r
 | _ => False
def rv1 (a : Act) : ResultVar → Sem Value
 | .tmp t => pure (a.tmps.getD t undef)
 | .cell b t => do loadVar t (← asAddr (a.tmps.getD b undef))
theorem res1_sound {ρ : Nat → Nat × Nat} {a : Act} {w : World} (H : ST C.toCx E ρ nx tm hp a w) {r : ResultVar} {φ : Prop} {av : AV} (h : res1 C tm hp r = some (φ, av)) (hφ : φ) :
 (rv1 a r).run C.P w = .ok (av.den ρ) w ∧ av.lt nx := by
 cases r with
 | tmp t =>
   obtain ⟨v, hv, e⟩ := map_some' h
   cases e
   obtain ⟨h1, h2⟩ := H.tmps t av hv
   refine ⟨?_, h1⟩
   simp only [rv1, Array.getD_eq_getD_getElem?, h2, Option.getD_some, Sem.run_pure]
 | cell b t =>
   obtain ⟨v, hv, h⟩ := bind_some' h
   obtain ⟨h1, h2⟩ := H.tmps b v hv
   obtain ⟨h3, h4⟩ := loadV_sound H.heap h hφ
   refine ⟨?_, h4⟩
   simp only [rv1, Array.getD_eq_getD_getElem?, h2, Option.getD_some]
   revert h3
   unfold Instr.loadAt
   generalize v.den ρ = x
   cases x <;> intro h3 <;> first | (simp [Instr.sureAddr, asAddr] at h3 ⊢; done) | skip
   rename_i p
   cases p with
   | none => simp [Instr.sureAddr] at h3
   | some p => exact h3
theorem resL_sound {ρ : Nat → Nat × Nat} {a : Act} {w : World} (H : ST C.toCx E ρ nx tm hp a w) : ∀ (l : List ResultVar) {φ : Prop} {vs : List AV}, resL C tm hp l = some (φ, vs) → φ →
 (l.mapM (m := Sem) (rv1 a)).run C.P w = .ok (denL ρ vs) w ∧ ltL nx vs ∧ vs.length = l.length := by
 intro l
 induction l with
 | nil => intro φ vs h hφ; simp only [resL, Option.some.injEq, Prod.mk.injEq] at h; obtain ⟨_, rfl⟩ := h; exact ⟨rfl, trivial, rfl⟩
 | cons r l ih =>
   intro φ vs h hφ
   simp only [resL] at h
   obtain ⟨p, hp, h⟩ := bind_some' h
   obtain ⟨q, hq, e⟩ := map_some' h
   obtain ⟨p1, p2⟩ := p
   obtain ⟨q1, q2⟩ := q
   cases e
   obtain ⟨h1, h2⟩ := res1_sound H hp hφ.1
   obtain ⟨h3, h4, h5⟩ := ih hq hφ.2
   refine ⟨?_, ⟨h2, h4⟩, by simp [h5]⟩
   simp only [List.mapM_cons, Sem.run_bind, h1, h3, Result.andThen_ok, Sem.run_pure, denL]
theorem resV_sound {ρ : Nat → Nat × Nat} {a : Act} {w : World} (H : ST C.toCx E ρ nx tm hp a w) {fn : Func} {φ : Prop} {av : AV} (h : resV C tm hp fn.results.toList = some (φ, av)) (hφ : φ) :
 (results fn a.tmps).run C.P w = .ok (av.den ρ) w ∧ av.lt nx := by
 have hm : ∀ vs, (fn.results.toList.mapM (m := Sem) (rv1 a)).run C.P w = .ok vs w →
  (results fn a.tmps).run C.P w = .ok (if h : vs.toArray.size = 1 then vs.toArray[0] else .tuple vs.toArray) w := by
  intro vs hvs
  have e : results fn a.tmps = (fn.results.mapM (rv1 a) >>= fun vs => pure (if h : vs.size = 1 then vs[0] else .tuple vs)) := by
   unfold results
   congr 1
  rw [e, Array.mapM_eq_mapM_toList]
  simp only [Sem.run_bind, Sem.run_map, hvs, Result.andThen_ok, Sem.run_pure]
 generalize hl : fn.results.toList = l at h hm
 unfold resV at h
 split at h
 · rename_i r
   obtain ⟨h1, h2⟩ := res1_sound H h hφ
   refine ⟨?_, h2⟩
   have := hm [av.den ρ] (by simp only [List.mapM_cons, List.mapM_nil, Sem.run_bind, h1, Result.andThen_ok, Sem.run_pure])
   simpa using this
 · rename_i hne
   obtain ⟨q, hq, e⟩ := map_some' h
   obtain ⟨q1, q2⟩ := q
   cases e
   obtain ⟨h1, h2, h3⟩ := resL_sound H l hq hφ
   refine ⟨?_, h2⟩
   have := hm _ h1
   have hne1 : (denL ρ q2).toArray.size ≠ 1 := by
    simp only [List.size_toArray, denL_length, h3]
    intro e
    match l, e with
    | [r], _ => exact hne r rfl
   rw [dif_neg hne1] at this
   exact this
theorem Tri.mk {f : FuncId} {fn : Func} {c : Code} {n0 : Nat} {hp0 : Hp} {args : List AV} {R : Rs} (nt : Nat) (rs : List ResultVar) (hf : C.P.funcs[f]? = some fn) (hb : fn.body = some c) (hnt : fn.ntmps = nt)
 (hrs : fn.results.toList = rs) (ha : Nat.ble args.length nt = true)
 (hcf : ∀ args w, (callFunc f args).run C.P w = .ok (.enter f args) w)
 (h : ∀ w0 S T ρ0, W C ⟨w0, S, T, n0, ρ0, nt⟩ c n0 (argTm 0 args) hp0 (FQ C rs R)) : Tri C f n0 hp0 args R := by
 refine ⟨hcf, fun ρ w H hl => ?_⟩
 subst hnt hrs
 have ha := Nat.le_of_ble_eq_true ha
 refine calls_of_wp hf hb ?_
 refine wp_mono (h w (fun b => ∃ id o, lk hp0 id = some o ∧ o.mut = true ∧ (ρ id).1 = b) (fun b => ∃ id o, lk hp0 id = some o ∧ o.live = true ∧ (ρ id).1 = b) ρ ρ _ w ?_) ?_
 · refine ⟨rfl, ?_, ?_, H, ⟨fun _ _ _ => rfl, fun id o ho hm => .inl ⟨id, o, ho, hm, rfl⟩, fun id o ho hm => .inl (.inl ⟨id, o, ho, hm, rfl⟩), Nat.le_refl _, rfl, rfl, rfl⟩, Nat.le_refl _, fun _ _ => rfl⟩
   · simp only [Array.size_append, List.size_toArray, denL_length, Array.size_replicate]; omega
   · intro t av ht
     obtain ⟨_, h2⟩ := argTm_lk args 0 t ht
     rw [Nat.sub_zero] at h2
     refine ⟨ltL_get hl h2, ?_⟩
     have hlt : t < (denL ρ args).length := by
      rw [denL_length]
      rcases Nat.lt_or_ge t args.length with h | h
      · exact h
      · rw [List.getElem?_eq_none h] at h2; cases h2
     rw [Array.getElem?_append_left (by simpa using hlt)]
     simp only [List.getElem?_toArray, denL_get, h2, Option.map_some]
 · rintro e a w' ⟨ρ', n1, tm1, hp1, H', hq⟩
   have fin : ∀ φ r, resV C tm1 hp1 fn.results.toList = some (φ, r) → φ → R n1 hp1 r → a.defers = [] ∧ ∃ v, (results fn a.tmps).run C.P w' = .ok v w' ∧ After C n0 hp0 ρ w R (.returned v) w' := by
    intro φ r hr hφ hR
    obtain ⟨h1, h2⟩ := resV_sound H' hr hφ
    exact ⟨H'.defers, _, h1, ρ', n1, hp1, r, hR, rfl, h2, H'.n0, H'.agree, H'.heap, H'.fr⟩
   cases e with
   | ret => obtain ⟨φ, r, hr, hφ, hR⟩ := hq; exact fin φ r hr hφ hR
   | normal => obtain ⟨φ, r, hr, hφ, hR⟩ := hq; exact fin φ r hr hφ hR
   | exit i => exact hq.elim
   | goto l => exact hq.elim
   | panic c => exact hq.elim
   | outgrown => exact hq.elim
end
end Go.Eng
namespace Go.Eng
def pn (π : Nat → Nat) (n0 nx : Nat) (i : Nat) : Nat := bif Nat.blt i n0 then π i else nx + (i - n0)
theorem pn_lt {π : Nat → Nat} {n0 nx i : Nat} (h : i < n0) : pn π n0 nx i = π i := by
 have : Nat.blt i n0 = true := by simpa [Nat.blt_eq] using h
 simp [pn, this]
theorem pn_ge {π : Nat → Nat} {n0 nx i : Nat} (h : n0 ≤ i) : pn π n0 nx i = nx + (i - n0) := by
 have : Nat.blt i n0 = false := by
  cases h' : Nat.blt i n0
  · rfl
  · have : i < n0 := by simpa [Nat.blt_eq] using h'
    omega
 simp [pn, this]
def renH (π : Nat → Nat) : Hp → Hp
 | [] => []
 | (i, o) :: r => (π i, o.ren π) :: renH π r
def deadH (π : Nat → Nat) : Hp → Hp
 | [] => []
 | (i, o) :: r => bif o.mut then (π i, .dead) :: deadH π r else deadH π r
def appH : Hp → Hp → Hp
 | [], h => h
 | p :: r, h => p :: appH r h
theorem lk_appH (a b : Hp) (i : Nat) : lk (appH a b) i = (match lk a i with | some o => some o | none => lk b i) := by
 induction a with
 | nil => rfl
 | cons p a ih =>
   obtain ⟨j, o⟩ := p
   simp only [appH, lk_cons]
   split
   · rfl
   · exact ih
theorem lk_renH {π : Nat → Nat} {n : Nat} (hinj : ∀ i j, i < n → j < n → π i = π j → i = j) : ∀ (h : Hp), (∀ p ∈ h, p.1 < n) → ∀ {id o}, lk (renH π h) id = some o → ∃ i p, i < n ∧ lk h i = some p ∧ π i = id ∧ o = p.ren π := by
 intro h
 induction h with
 | nil => intro _ id o h; cases h
 | cons p h ih =>
   obtain ⟨j, q⟩ := p
   intro hlt id o hl
   simp only [renH] at hl
   rw [lk_cons] at hl
   have hj : j < n := hlt (j, q) List.mem_cons_self
   split at hl
   · rename_i e; cases hl; exact ⟨j, q, hj, by rw [lk_cons, if_pos rfl], e, rfl⟩
   · rename_i e
     obtain ⟨i, p, h0, h1, h2, h3⟩ := ih (fun p hp => hlt p (List.mem_cons_of_mem _ hp)) hl
     refine ⟨i, p, h0, ?_, h2, h3⟩
     rw [lk_cons, if_neg]
     · exact h1
     · intro e'; subst e'; exact e h2
theorem lk_renH_none {π : Nat → Nat} : ∀ (h : Hp) {i p}, lk h i = some p → (lk (renH π h) (π i)).isSome = true := by
 intro h
 induction h with
 | nil => intro i p h; cases h
 | cons q h ih =>
   obtain ⟨j, o⟩ := q
   intro i p hl
   simp only [renH, lk_cons] at *
   split
   · rfl
   · rename_i hne
     split at hl
     · rename_i e; subst e; exact absurd rfl hne
     · exact ih hl
theorem lk_deadH {π : Nat → Nat} : ∀ (h : Hp) {id o}, lk (deadH π h) id = some o → o = .dead ∧ ∃ i p, (i, p) ∈ h ∧ π i = id := by
 intro h
 induction h with
 | nil => intro id o h; cases h
 | cons q h ih =>
   obtain ⟨j, p⟩ := q
   intro id o hl
   simp only [deadH] at hl
   cases hm : p.mut <;> rw [hm] at hl
   · obtain ⟨h1, i, p', h2, h3⟩ := ih hl
     exact ⟨h1, i, p', List.mem_cons_of_mem _ h2, h3⟩
   · simp only [cond_true] at hl
     rw [lk_cons] at hl
     split at hl
     · rename_i e; cases hl; exact ⟨rfl, j, p, List.mem_cons_self, e⟩
     · obtain ⟨h1, i, p', h2, h3⟩ := ih hl
       exact ⟨h1, i, p', List.mem_cons_of_mem _ h2, h3⟩
theorem lk_deadH_none {π : Nat → Nat} : ∀ (h : Hp) {id}, lk (deadH π h) id = none → ∀ {i p}, lk h i = some p → p.mut = true → π i ≠ id := by
 intro h
 induction h with
 | nil => intro id _ i p h; cases h
 | cons q h ih =>
   obtain ⟨j, p⟩ := q
   intro id hl i p' h1 hm
   simp only [deadH] at hl
   rw [lk_cons] at h1
   split at h1
   · rename_i e
     subst e; cases h1
     rw [hm] at hl
     simp only [cond_true] at hl
     rw [lk_cons] at hl
     split at hl
     · cases hl
     · rename_i e; exact e
   · cases hm' : p.mut <;> rw [hm'] at hl
     · exact ih hl h1 hm
     · simp only [cond_true] at hl
       rw [lk_cons] at hl
       split at hl
       · cases hl
       · exact ih hl h1 hm
section
variable {C : Cy} {E : En} {ops : Array Oper} {rest : List Oper} {nx : Nat} {tm : Tm} {hp : Hp} {Q : Po}
theorem AO.mut_live {o : AO} (h : o.mut = true) : o.live = true := by cases o <;> first | rfl | (simp only [AO.mut, AO.tot] at h; cases h)
theorem ST.after {ρ : Nat → Nat × Nat} {a : Act} {w w' : World} (H : ST C.toCx E ρ nx tm hp a w) {n0 : Nat} {hp0 : Hp} {π : Nat → Nat}
 (hh : subHp π n0 hp hp0) (hd : nodupB (hp0.map fun p => π p.1) = true)
 (hinj : ∀ i j, i < n0 → j < n0 → π i = π j → i = j) (hb : ∀ i, i < n0 → π i < nx)
 {ρ' : Nat → Nat × Nat} {n1 : Nat} {hp1 : Hp} {r : AV} (hr : r.lt n1) (hn : n0 ≤ n1) (hag : ∀ i, i < n0 → ρ' i = ρ (π i)) (H1 : HR C.toCx ρ' n1 hp1 w')
 (F : FR (fun b => ∃ id o, lk hp0 id = some o ∧ o.mut = true ∧ (ρ (π id)).1 = b) (fun b => (∃ id o, lk hp0 id = some o ∧ o.live = true ∧ (ρ (π id)).1 = b) ∨ b < C.ng) hp1 ρ' w w')
 (hk : ∀ p ∈ hp1, p.1 < n1) :
 ∃ ρ2, ST C.toCx E ρ2 (nx + (n1 - n0)) tm (appH (renH (pn π n0 nx) hp1) (appH (deadH π hp0) hp)) a w' ∧ (r.ren (pn π n0 nx)).den ρ2 = r.den ρ' ∧ (r.ren (pn π n0 nx)).lt (nx + (n1 - n0)) := by
 let ρ2 : Nat → Nat × Nat := fun i => if i < nx then ρ i else ρ' (n0 + (i - nx))
 have e2 : ∀ i, i < nx → ρ2 i = ρ i := fun i h => if_pos h
 have e3 : ∀ i, i < n1 → ρ2 (pn π n0 nx i) = ρ' i := by
  intro i hi
  rcases Nat.lt_or_ge i n0 with h | h
  · rw [pn_lt h, e2 _ (hb i h), hag i h]
  · rw [pn_ge h]
    show (if nx + (i - n0) < nx then _ else _) = _
    rw [if_neg (by omega)]
    congr 1; omega
 have hpl : ∀ i, i < n1 → pn π n0 nx i < nx + (n1 - n0) := by
  intro i hi
  rcases Nat.lt_or_ge i n0 with h | h
  · rw [pn_lt h]; have := hb i h; omega
  · rw [pn_ge h]; omega
 have hpi : ∀ i j, i < n1 → j < n1 → pn π n0 nx i = pn π n0 nx j → i = j := by
  intro i j hi hj e
  rcases Nat.lt_or_ge i n0 with h | h <;> rcases Nat.lt_or_ge j n0 with h' | h'
  · rw [pn_lt h, pn_lt h'] at e; exact hinj i j h h' e
  · rw [pn_lt h, pn_ge h'] at e; have := hb i h; omega
  · rw [pn_ge h, pn_lt h'] at e; have := hb j h'; omega
  · rw [pn_ge h, pn_ge h'] at e; omega
 have key0 : ∀ {id o}, lk hp0 id = some o → lk hp (π id) = some (o.ren π) ∧ id < n0 ∧ o.ltP n0 := fun h' => subHp_mem hh (lk_mem h')
 have hdead : ∀ {o : AO}, o.live = false → o = .dead := by intro o h; cases o <;> first | rfl | cases h
 have cls : ∀ {id o}, lk (appH (renH (pn π n0 nx) hp1) (appH (deadH π hp0) hp)) id = some o →
  (∃ i p, i < n1 ∧ lk hp1 i = some p ∧ pn π n0 nx i = id ∧ o = p.ren (pn π n0 nx)) ∨
  (o = .dead ∧ id < nx) ∨
  (lk hp id = some o ∧ (∀ i p, lk hp1 i = some p → pn π n0 nx i ≠ id) ∧ (∀ i p, lk hp0 i = some p → p.mut = true → π i ≠ id)) := by
  intro id o h
  rw [lk_appH] at h
  cases h1 : lk (renH (pn π n0 nx) hp1) id with
  | some q =>
    rw [h1] at h; cases h
    exact .inl (lk_renH hpi hp1 hk h1)
  | none =>
    rw [h1] at h
    simp only at h
    rw [lk_appH] at h
    have hn1 : ∀ i p, lk hp1 i = some p → pn π n0 nx i ≠ id := by
     intro i p hi e
     have := lk_renH_none (π := pn π n0 nx) hp1 hi
     rw [e, h1] at this; cases this
    cases h2 : lk (deadH π hp0) id with
    | some q =>
      rw [h2] at h; cases h
      obtain ⟨h3, i, p, h4, h5⟩ := lk_deadH hp0 h2
      refine .inr (.inl ⟨h3, ?_⟩)
      rw [← h5]; exact hb i (subHp_mem hh h4).2.1
    | none =>
      rw [h2] at h
      exact .inr (.inr ⟨h, hn1, fun i p hi hm => lk_deadH_none hp0 h2 hi hm⟩)
 have old : ∀ {id o}, lk hp id = some o → (∀ i p, lk hp0 i = some p → p.mut = true → π i ≠ id) → o.live = true → w'.heap[(ρ id).1]? = w.heap[(ρ id).1]? := by
  intro id o ho hne hl
  refine F.frame _ (H.heap.bound id o ho hl) ?_
  rintro ⟨i, p, h1, h2, h3⟩
  have := H.heap.sep (π i) (p.ren π) id o (key0 h1).1 ho (by rw [AO.mut_ren]; exact h2) hl (hne i p h1 h2)
  exact this h3
 refine ⟨ρ2, ⟨H.defers, H.size, ?_, ⟨?_, ?_, ?_, ?_, H1.glob⟩, ⟨?_, ?_, ?_, ?_, F.tape.trans H.fr.tape, F.os.trans H.fr.os, F.output.trans H.fr.output⟩, by have := H.n0; omega, ?_⟩, ?_, AV.lt_ren hpl r hr⟩
 · intro t av ht
   obtain ⟨h1, h2⟩ := H.tmps t av ht
   exact ⟨AV.lt_mono (by omega) _ h1, by rw [AV.den_congr e2 _ h1]; exact h2⟩
 · intro id o h
   rcases cls h with ⟨i, p, h1, h2, h3, h4⟩ | ⟨h1, h2⟩ | ⟨h1, h2, h3⟩
   · subst h4
     obtain ⟨g1, g2, g3⟩ := H1.objs i p h2
     refine ⟨by rw [← h3]; exact hpl i h1, AO.lt_ren hpl p g2, ?_⟩
     rw [← h3, e3 i h1, AO.is_ren]
     exact (AO.is_congr (ρ := ρ') (n := n1) e3 p g2 _ _).2 g3
   · subst h1; exact ⟨by omega, trivial, trivial⟩
   · obtain ⟨g1, g2, g3⟩ := H.heap.objs id o h1
     refine ⟨by omega, AO.lt_mono (by omega) _ g2, ?_⟩
     rw [e2 id g1, AO.is_congr e2 o g2]
     by_cases hl : o.live = true
     · rw [old h1 h3 hl]; exact g3
     · have e := hdead (o := o) (by simpa using hl)
       rw [e]; trivial
 · intro id o h hl
   rcases cls h with ⟨i, p, h1, h2, h3, h4⟩ | ⟨h1, h2⟩ | ⟨h1, h2, h3⟩
   · subst h4
     rw [← h3, e3 i h1]; exact H1.bound i p h2 (by rw [AO.live_ren] at hl; exact hl)
   · subst h1; cases hl
   · rw [e2 id (H.heap.objs id o h1).1]; have := H.heap.bound id o h1 hl; have := F.hsize; omega
 · intro id o id' o' h h' hm hl hne
   rcases cls h with ⟨i, p, h1, h2, h3, h4⟩ | ⟨h1, h2⟩ | ⟨h1, h2, h3⟩
   · subst h4
     rw [AO.mut_ren] at hm
     rcases cls h' with ⟨j, q, k1, k2, k3, k4⟩ | ⟨k1, k2⟩ | ⟨k1, k2, k3⟩
     · subst k4
       rw [AO.live_ren] at hl
       rw [← h3, ← k3, e3 i h1, e3 j k1]
       refine H1.sep i p j q h2 k2 hm hl ?_
       intro e; subst e; exact hne (h3.symm.trans k3)
     · subst k1; cases hl
     · rw [← h3, e3 i h1, e2 id' (H.heap.objs id' o' k1).1]
       rcases F.own i p h2 hm with ⟨i0, o0, g1, g2, g3⟩ | g
       · rw [← g3]
         exact H.heap.sep (π i0) (o0.ren π) id' o' (key0 g1).1 k1 (by rw [AO.mut_ren]; exact g2) hl (k3 i0 o0 g1 g2)
       · have := H.heap.bound id' o' k1 hl; omega
   · subst h1; cases hm
   · rcases cls h' with ⟨j, q, k1, k2, k3, k4⟩ | ⟨k1, k2⟩ | ⟨k1, k2, k3⟩
     · subst k4
       rw [AO.live_ren] at hl
       rw [← k3, e3 j k1, e2 id (H.heap.objs id o h1).1]
       rcases F.own2 j q k2 hl with (⟨i0, o0, g1, g2, g3⟩ | gng) | g
       · rw [← g3]
         by_cases he : id = π i0
         · exfalso
           subst he
           have := (key0 g1).1
           rw [h1] at this; cases this
           rw [AO.mut_ren] at hm
           exact h3 i0 o0 g1 hm rfl
         · exact H.heap.sep id o (π i0) (o0.ren π) h1 (key0 g1).1 hm (by rw [AO.live_ren]; exact g2) he
       · have := H.heap.apart id o h1 hm; omega
       · have := H.heap.bound id o h1 (AO.mut_live hm); omega
     · subst k1; cases hl
     · rw [e2 id (H.heap.objs id o h1).1, e2 id' (H.heap.objs id' o' k1).1]
       exact H.heap.sep id o id' o' h1 k1 hm hl hne
 · intro id o h hm
   rcases cls h with ⟨i, p, h1, h2, h3, h4⟩ | ⟨h1, h2⟩ | ⟨h1, h2, h3⟩
   · subst h4
     rw [AO.mut_ren] at hm
     rw [← h3, e3 i h1]; exact H1.apart i p h2 hm
   · subst h1; cases hm
   · rw [e2 id (H.heap.objs id o h1).1]; exact H.heap.apart id o h1 hm
 · intro b hb' hS
   have h1 := H.fr.hsize
   rw [F.frame b (by omega) ?_]
   · exact H.fr.frame b hb' hS
   · rintro ⟨i, p, g1, g2, g3⟩
     rcases H.fr.own (π i) (p.ren π) (key0 g1).1 (by rw [AO.mut_ren]; exact g2) with g | g
     · rw [g3] at g; exact hS g
     · omega
 · intro id o h hm
   rcases cls h with ⟨i, p, h1, h2, h3, h4⟩ | ⟨h1, h2⟩ | ⟨h1, h2, h3⟩
   · subst h4
     rw [AO.mut_ren] at hm
     rw [← h3, e3 i h1]
     rcases F.own i p h2 hm with ⟨i0, o0, g1, g2, g3⟩ | g
     · rw [← g3]; exact H.fr.own (π i0) (o0.ren π) (key0 g1).1 (by rw [AO.mut_ren]; exact g2)
     · right; have := H.fr.hsize; omega
   · subst h1; cases hm
   · rw [e2 id (H.heap.objs id o h1).1]; exact H.fr.own id o h1 hm
 · intro id o h hm
   rcases cls h with ⟨i, p, h1, h2, h3, h4⟩ | ⟨h1, h2⟩ | ⟨h1, h2, h3⟩
   · subst h4
     rw [AO.live_ren] at hm
     rw [← h3, e3 i h1]
     rcases F.own2 i p h2 hm with (⟨i0, o0, g1, g2, g3⟩ | gng) | g
     · rw [← g3]; exact H.fr.own2 (π i0) (o0.ren π) (key0 g1).1 (by rw [AO.live_ren]; exact g2)
     · exact .inl (.inr gng)
     · right; have := H.fr.hsize; omega
   · subst h1; cases hm
   · rw [e2 id (H.heap.objs id o h1).1]; exact H.fr.own2 id o h1 hm
 · have := F.hsize; have := H.fr.hsize; omega
 · intro i hi
   rw [e2 i (by have := H.n0; omega)]; exact H.agree i hi
 · rw [AV.den_ren]; exact AV.den_congr e3 r hr
def callV (tm : Tm) : Op → Option (FuncId × List AV)
 | .call c => match c.callee with
   | .value f => (ev tm f).bind fun v => match v with
     | .fn (.func fid) a b => (evs tm c.args.toList).map fun l => (fid, a ++ (l ++ b))
     | _ => none
   | _ => none
 | _ => none
theorem HR.keys {ρ : Nat → Nat × Nat} {n : Nat} {hp1 : Hp} {w : World} (H : HR C.toCx ρ n hp1 w) : ∀ p ∈ hp1, p.1 < n := by
 intro p hp'
 have : ∃ o, lk hp1 p.1 = some o := by
  clear H
  induction hp1 with
  | nil => cases hp'
  | cons q l ih =>
    obtain ⟨j, o⟩ := q
    rcases List.mem_cons.1 hp' with e | h
    · subst e; exact ⟨o, by rw [lk_cons, if_pos rfl]⟩
    · by_cases e : j = p.1
      · exact ⟨o, by rw [lk_cons, if_pos e]⟩
      · obtain ⟨o', ho'⟩ := ih h
        exact ⟨o', by rw [lk_cons, if_neg e]; exact ho'⟩
 obtain ⟨o, ho⟩ := this
 exact (H.objs _ _ ho).1
theorem wpList_of_call {P : Program} {o : Oper} {a : Act} {w : World} {f : FuncId} {args : Array Value} {K : Exit → Act → World → Prop} (hw : Region.wanted o (yielded ops a.tmps) = true)
 (hr : (execOp a.eval o).run P w = .ok (.enter f args) w) (h : Calls P f args w fun e w' => ∃ v, e = .returned v ∧ wpList P ops K rest (a.put o.dst v) w') : wpList P ops K (o :: rest) a w := by
 unfold wpList
 rw [hw, if_pos rfl]
 refine .inl ?_
 unfold Oper.wp
 rw [hr, Oper.upon_enter]
 refine h.mono ?_
 rintro e w' ⟨v, rfl, h⟩
 exact h
theorem nodupB_id {n : Nat} {π : Nat → Nat} (h : nodupB ((List.range n).map π) = true) : ∀ i j, i < n → j < n → π i = π j → i = j :=
 fun i j hi hj e => nodupB_inj h (List.mem_range.2 hi) (List.mem_range.2 hj) e
theorem callV_sound {ρ : Nat → Nat × Nat} {a : Act} {w : World} (H : ST C.toCx E ρ nx tm hp a w) {o : Oper} {f : FuncId} {l : List AV} (h : callV tm o.op = some (f, l))
 (hcf : ∀ args w, (callFunc f args).run C.P w = .ok (.enter f args) w) : (execOp a.eval o).run C.P w = .ok (.enter f (denL ρ l).toArray) w ∧ ltL nx l := by
 unfold execOp
 generalize o.op = op at h
 unfold callV at h
 split at h
 case h_2 => cases h
 rename_i c
 obtain ⟨callee, args, argTypes⟩ := c
 simp only at h
 split at h
 case h_2 => cases h
 rename_i g
 obtain ⟨v, hv, h⟩ := bind_some' h
 split at h
 case h_2 => cases h
 rename_i fid la lb
 obtain ⟨l', hl', e⟩ := map_some' h
 cases e
 obtain ⟨h1, h2⟩ := H.ev hv
 obtain ⟨h3, h4⟩ := evs_sound H _ hl'
 have e1 : (denL ρ l').toArray = args.map a.eval := by rw [← h3, ← Array.toList_map, Array.toArray_toList]
 refine ⟨?_, by simp only [ltL_append]; exact ⟨h2.1, h4, h2.2⟩⟩
 simp only [resolve, h1, AV.den, Deferred.ofValue, Sem.run_bind, Sem.run_pure, Result.andThen_ok, invoke, hcf, denL_append]
 congr 3
 rw [← e1]; simp
theorem WL_call {d : Option Nat} {op : Op} {ty : TypeId} {pos : String} {af : Array Edge} {g : Option (Nat × Bool)} {f : FuncId} {as : List AV} {n0 : Nat} {hp0 : Hp} {args0 : List AV} {R : Rs} (pl : List Nat)
 (T : Tri C f n0 hp0 args0 R) (hv : callV tm op = some (f, as)) (hg : wanted ops tm g = some true)
 (ha : renL (pm pl) args0 = as) (hl : ltL n0 args0) (hh : subHp (pm pl) n0 hp hp0) (hd : nodupB (hp0.map fun p => pm pl p.1) = true)
 (hi : nodupB ((List.range n0).map (pm pl)) = true) (hb : upto n0 (fun i => Nat.blt (pm pl i) nx) = true)
 (hdd : (match d with | none => true | some d => Nat.blt d E.nt) = true)
 (h : ∀ n1 hp1 r, R n1 hp1 r → WL C E ops rest (nx + (n1 - n0)) (match d with | none => tm | some d => (d, r.ren (pn (pm pl) n0 nx)) :: tm) (appH (renH (pn (pm pl) n0 nx) hp1) (appH (deadH (pm pl) hp0) hp)) Q) :
 WL C E ops (⟨d, op, ty, pos, af, g⟩ :: rest) nx tm hp Q := by
 intro ρ a w H
 obtain ⟨h1, h2⟩ := callV_sound H (o := ⟨d, op, ty, pos, af, g⟩) hv T.1
 refine wpList_of_call (wanted_sound H (o := ⟨d, op, ty, pos, af, g⟩) hg) h1 ?_
 have hHR := H.heap.ren hh hd
 have hc := T.2 _ w hHR hl
 rw [← denL_ren, ha] at hc
 refine hc.mono ?_
 rintro e w' ⟨ρ', n1, hp1, r, hR, rfl, hr, hn, hag, H1, F⟩
 refine ⟨_, rfl, ?_⟩
 have hb' : ∀ i, i < n0 → pm pl i < nx := fun i hi' => by have := upto_spec hb hi'; simpa [Nat.blt_eq] using this
 obtain ⟨ρ2, S2, e2, l2⟩ := H.after hh hd (nodupB_id hi) hb' hr hn hag H1 F H1.keys
 rw [← e2]
 cases d with
 | none => exact h n1 hp1 r hR ρ2 _ w' S2
 | some d => exact h n1 hp1 r hR ρ2 _ w' (S2.put (by simpa [Nat.blt_eq] using hdd) l2)
end
end Go.Eng
namespace Go.Eng
section
variable {C : Cy} {E : En} {Q : Po}
theorem LP_ind {c : Code} {α : Type} (n : Nat) (S : α → Tm × Hp) (μ : α → Nat) (Inv : α → Prop) (x0 : α)
 (h : ∀ x, Inv x → (∀ y, Inv y → μ y < μ x → LP C E c n (S y).1 (S y).2 Q) → LP C E c n (S x).1 (S x).2 Q) (h0 : Inv x0) : LP C E c n (S x0).1 (S x0).2 Q := by
 have key : ∀ k x, μ x = k → Inv x → LP C E c n (S x).1 (S x).2 Q := by
  intro k
  induction k using Nat.strongRecOn with
  | _ k ih =>
    intro x hx hi
    exact h x hi fun y hy hlt => ih (μ y) (hx ▸ hlt) y rfl hy
 exact key _ x0 rfl h0
end
end Go.Eng
