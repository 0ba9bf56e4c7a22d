/- A part of the proof that the rows statement FnSetBack holds; no conditions. -/
import Derived.Test.YthkgjhnckakliaaGreatDoorZAC
set_option linter.unusedVariables false
set_option linter.unusedSimpArgs false
set_option linter.unusedSectionVars false
namespace Go.Eng
abbrev Po := Exit → Nat → Tm → Hp → Prop
def QQ (C : Cy) (E : En) (Q : Po) : Exit → Act → World → Prop := fun e a w => ∃ ρ nx tm hp, ST C.toCx E ρ nx tm hp a w ∧ Q e nx tm hp
def WL (C : Cy) (E : En) (ops : Array Oper) (rest : List Oper) (nx : Nat) (tm : Tm) (hp : Hp) (Q : Po) : Prop :=
 ∀ ρ a w, ST C.toCx E ρ nx tm hp a w → wpList C.P ops (QQ C E Q) rest a w
def W (C : Cy) (E : En) (c : Code) (nx : Nat) (tm : Tm) (hp : Hp) (Q : Po) : Prop :=
 ∀ ρ a w, ST C.toCx E ρ nx tm hp a w → c.wp C.P (QQ C E Q) a w
def wanted (ops : Array Oper) (tm : Tm) : Option (Nat × Bool) → Option Bool
 | none => some true
 | some (j, want) => match ((ops[j]?).bind (·.dst)).bind (lk tm) with
   | some (.bool true) => some want
   | some (.bool false) => some (!want)
   | some (.v (.tuple _)) => some false
   | _ => none
theorem wanted_sound {C : Cx} {E : En} {ρ : Nat → Nat × Nat} {nx : Nat} {tm : Tm} {hp : Hp} {a : Act} {w : World} (H : ST C E ρ nx tm hp a w) {ops : Array Oper} {o : Oper} {b : Bool}
 (h : wanted ops tm o.guard = some b) : Region.wanted o (yielded ops a.tmps) = b := by
 unfold Region.wanted
 cases hg : o.guard with
 | none => rw [hg] at h; simp only [wanted, Option.some.injEq] at h; exact h
 | some p =>
   obtain ⟨j, want⟩ := p
   rw [hg] at h
   simp only [wanted] at h
   simp only [yielded]
   cases hd : (ops[j]?).bind (·.dst) with
   | none => rw [hd] at h; cases h
   | some t =>
     rw [hd] at h
     simp only [Option.bind_some] at h ⊢
     cases hl : lk tm t with
     | none => rw [hl] at h; cases h
     | some av =>
       rw [hl] at h
       rw [(H.tmps t av hl).2]
       split at h
       · rename_i e; cases e; simp only [Option.some.injEq] at h; subst h; cases want <;> rfl
       · rename_i e; cases e; simp only [Option.some.injEq] at h; subst h; cases want <;> rfl
       · rename_i e; cases e; simp only [Option.some.injEq] at h; subst h; cases want <;> rfl
       · cases h
section
variable {C : Cy} {E : En} {ops : Array Oper} {rest : List Oper} {nx : Nat} {tm : Tm} {hp : Hp} {Q : Po}
theorem WL_nil (h : Q .normal nx tm hp) : WL C E ops [] nx tm hp Q :=
 fun ρ a w H => ⟨ρ, nx, tm, hp, H, h⟩
theorem WL_skip {d : Nat} {op : Op} {ty : TypeId} {pos : String} {af : Array Edge} {g : Option (Nat × Bool)}
 (hg : wanted ops tm g = some false) (hd : Nat.blt d E.nt = true) (h : WL C E ops rest nx ((d, .v undef) :: tm) hp Q) : WL C E ops (⟨some d, op, ty, pos, af, g⟩ :: rest) nx tm hp Q := by
 intro ρ a w H
 have hw := wanted_sound H (o := ⟨some d, op, ty, pos, af, g⟩) hg
 unfold wpList
 rw [hw, if_neg (by simp)]
 exact h ρ _ w (H.put (av := .v undef) (by simpa [Nat.blt_eq] using hd) trivial)
theorem WL_skip0 {op : Op} {ty : TypeId} {pos : String} {af : Array Edge} {g : Option (Nat × Bool)}
 (hg : wanted ops tm g = some false) (h : WL C E ops rest nx tm hp Q) : WL C E ops (⟨none, op, ty, pos, af, g⟩ :: rest) nx tm hp Q := by
 intro ρ a w H
 have hw := wanted_sound H (o := ⟨none, op, ty, pos, af, g⟩) hg
 unfold wpList
 rw [hw, if_neg (by simp)]
 exact h ρ _ w H
theorem wpList_of_run {P : Program} {o : Oper} {a : Act} {w w' : World} {v : Value} {K : Exit → Act → World → Prop} (hw : Region.wanted o (yielded ops a.tmps) = true)
 (hr : (execOp a.eval o).run P w = .ok (.value v) w') (h : wpList P ops K rest (a.put o.dst v) w') : wpList P ops K (o :: rest) a w := by
 unfold wpList
 rw [hw, if_pos rfl]
 refine .inl ?_
 unfold Oper.wp
 rw [hr, Oper.upon_value]
 exact h
theorem wpList_of_skip {P : Program} {o : Oper} {a : Act} {w w' : World} {K : Exit → Act → World → Prop} (hw : Region.wanted o (yielded ops a.tmps) = true)
 (hr : (execOp a.eval o).run P w = .ok .skip w') (h : wpList P ops K rest (a.put o.dst undef) w') : wpList P ops K (o :: rest) a w := by
 unfold wpList
 rw [hw, if_pos rfl]
 refine .inl ?_
 unfold Oper.wp
 rw [hr, Oper.upon_skip]
 exact h
theorem WL_val {d : Nat} {op : Op} {ty : TypeId} {pos : String} {af : Array Edge} {g : Option (Nat × Bool)} {φ : Prop} {av : AV}
 (hv : pv C tm hp op = some (φ, av)) (hg : wanted ops tm g = some true) (hd : Nat.blt d E.nt = true) (hφ : φ) (h : WL C E ops rest nx ((d, av) :: tm) hp Q) :
 WL C E ops (⟨some d, op, ty, pos, af, g⟩ :: rest) nx tm hp Q := by
 intro ρ a w H
 obtain ⟨h1, h2⟩ := pv_sound H (o := ⟨some d, op, ty, pos, af, g⟩) hv hφ
 exact wpList_of_run (wanted_sound H (o := ⟨some d, op, ty, pos, af, g⟩) hg) h1 (h ρ _ w (H.put (by simpa [Nat.blt_eq] using hd) h2))
theorem WL_split {t : Nat} {b : Bool} (hl : lk tm t = some (.bool b)) (h1 : b = true → WL C E ops rest nx ((t, .bool true) :: tm) hp Q)
 (h2 : b = false → WL C E ops rest nx ((t, .bool false) :: tm) hp Q) : WL C E ops rest nx tm hp Q := by
 intro ρ a w H
 have key : ∀ c, b = c → ST C.toCx E ρ nx ((t, .bool c) :: tm) hp a w := by
  intro c e; subst e
  refine H.tm_sub ?_
  intro s av h
  rw [lk_cons] at h
  split at h
  · rename_i e; subst e; cases h; exact hl
  · exact h
 cases b
 · exact h2 rfl ρ a w (key false rfl)
 · exact h1 rfl ρ a w (key true rfl)
def Then (K : Nat → Tm → Hp → Prop) (Q : Po) : Po
 | .normal, nx, tm, hp => K nx tm hp
 | e, nx, tm, hp => Q e nx tm hp
def InBl (id : Nat) (Q : Po) : Po
 | .exit i, nx, tm, hp => bif Nat.beq i id then Q .normal nx tm hp else Q (.exit i) nx tm hp
 | e, nx, tm, hp => Q e nx tm hp
theorem W_region {id : Nat} {ops : Array Oper} (h : WL C E ops ops.toList nx tm hp Q) : W C E (.region id ops false) nx tm hp Q :=
 fun ρ a w H => wp_region_list (h ρ a w H)
theorem W_seq {x y : Code} (h : W C E x nx tm hp (Then (fun nx tm hp => W C E y nx tm hp Q) Q)) : W C E (.seq x y) nx tm hp Q := by
 intro ρ a w H
 refine wp_seq (wp_mono (h ρ a w H) ?_)
 rintro e a' w' ⟨ρ', nx', tm', hp', H', hq⟩
 cases e with
 | normal => exact hq ρ' a' w' H'
 | exit i => exact ⟨ρ', nx', tm', hp', H', hq⟩
 | goto l => exact ⟨ρ', nx', tm', hp', H', hq⟩
 | ret => exact ⟨ρ', nx', tm', hp', H', hq⟩
 | panic c => exact ⟨ρ', nx', tm', hp', H', hq⟩
 | outgrown => exact ⟨ρ', nx', tm', hp', H', hq⟩
theorem W_block {id : Nat} {c : Code} (h : W C E c nx tm hp (InBl id Q)) : W C E (.block id c) nx tm hp Q := by
 intro ρ a w H
 refine wp_block (wp_mono (h ρ a w H) ?_)
 rintro e a' w' ⟨ρ', nx', tm', hp', H', hq⟩
 cases e with
 | exit i =>
   simp only [Exit.inBlock]
   simp only [InBl] at hq
   split
   · rename_i e; subst e; simp only [Nat.beq_refl, cond_true] at hq; exact ⟨ρ', nx', tm', hp', H', hq⟩
   · rename_i e
     have : Nat.beq i id = false := by
      cases h' : Nat.beq i id
      · rfl
      · exact absurd (Nat.eq_of_beq_eq_true h') e
     rw [this] at hq; exact ⟨ρ', nx', tm', hp', H', hq⟩
 | normal => exact ⟨ρ', nx', tm', hp', H', hq⟩
 | goto l => exact ⟨ρ', nx', tm', hp', H', hq⟩
 | ret => exact ⟨ρ', nx', tm', hp', H', hq⟩
 | panic c => exact ⟨ρ', nx', tm', hp', H', hq⟩
 | outgrown => exact ⟨ρ', nx', tm', hp', H', hq⟩
theorem W_skip (h : Q .normal nx tm hp) : W C E .skip nx tm hp Q := fun ρ a w H => wp_skip ⟨ρ, nx, tm, hp, H, h⟩
theorem W_exit {id : Nat} (h : Q (.exit id) nx tm hp) : W C E (.exit id) nx tm hp Q := fun ρ a w H => wp_exit ⟨ρ, nx, tm, hp, H, h⟩
theorem W_ret (h : Q .ret nx tm hp) : W C E .ret nx tm hp Q := fun ρ a w H => wp_ret ⟨ρ, nx, tm, hp, H, h⟩
theorem W_cond_true {c : Operand} {x y : Code} (hc : ev tm c = some (.bool true)) (h : W C E x nx tm hp Q) : W C E (.cond c x y) nx tm hp Q :=
 fun ρ a w H => wp_cond_true (H.ev hc).1 (h ρ a w H)
theorem W_cond_false {c : Operand} {x y : Code} (hc : ev tm c = some (.bool false)) (h : W C E y nx tm hp Q) : W C E (.cond c x y) nx tm hp Q :=
 fun ρ a w H => wp_cond_false (H.ev hc).1 (h ρ a w H)
theorem W_cond {c : Operand} {x y : Code} {b : Bool} (hc : ev tm c = some (.bool b)) (h1 : b = true → W C E x nx tm hp Q) (h2 : b = false → W C E y nx tm hp Q) : W C E (.cond c x y) nx tm hp Q := by
 cases b
 · exact W_cond_false hc (h2 rfl)
 · exact W_cond_true hc (h1 rfl)
theorem W_mono {c : Code} {Q' : Po} (h : W C E c nx tm hp Q) (hq : ∀ e nx tm hp, Q e nx tm hp → Q' e nx tm hp) : W C E c nx tm hp Q' :=
 fun ρ a w H => wp_mono (h ρ a w H) fun _ _ _ ⟨ρ', nx', tm', hp', H', q⟩ => ⟨ρ', nx', tm', hp', H', hq _ _ _ _ q⟩
def LP (C : Cy) (E : En) (c : Code) (nx : Nat) (tm : Tm) (hp : Hp) (Q : Po) : Prop :=
 ∀ ρ a w, ST C.toCx E ρ nx tm hp a w → ∀ (b : Frame) (k : List Item) (cs : List Frame),
  ∃ e a' w', QQ C E Q e a' w' ∧ Arrives C.P (lone (b.at a (.code c :: .inLoop c :: k)) cs w) b k cs e a' w'
theorem W_loop {c : Code} (h : LP C E c nx tm hp Q) : W C E (.loop c) nx tm hp Q := by
 intro ρ a w H b k cs
 obtain ⟨e, a', w', hq, harr⟩ := h ρ a w H b k cs
 exact ⟨e, a', w', hq, .of_steps (.one step_loop) harr⟩
theorem LP_round {c : Code} (h : W C E c nx tm hp (Then (fun nx tm hp => LP C E c nx tm hp Q) Q)) : LP C E c nx tm hp Q := by
 intro ρ a w H b k cs
 obtain ⟨e, a₁, w₁, ⟨ρ', nx', tm', hp', H', hq⟩, harr⟩ := h ρ a w H b (.inLoop c :: k) cs
 cases e with
 | normal =>
   obtain ⟨e₂, a₂, w₂, hq₂, harr₂⟩ := (show LP C E c nx' tm' hp' Q from hq) ρ' a₁ w₁ H' b k cs
   exact ⟨e₂, a₂, w₂, hq₂, .of_steps (Steps.trans harr (.one step_inLoop)) harr₂⟩
 | exit i => exact ⟨_, a₁, w₁, ⟨ρ', nx', tm', hp', H', hq⟩, .pass (x := .inLoop c) rfl (fun _ _ => .inl (by simp)) harr⟩
 | goto l => exact ⟨_, a₁, w₁, ⟨ρ', nx', tm', hp', H', hq⟩, .pass (x := .inLoop c) rfl (fun _ _ => .inl (by simp)) harr⟩
 | ret => exact ⟨_, a₁, w₁, ⟨ρ', nx', tm', hp', H', hq⟩, .pass (x := .inLoop c) rfl (fun _ _ => .inl (by simp)) harr⟩
 | panic ch => exact ⟨_, a₁, w₁, ⟨ρ', nx', tm', hp', H', hq⟩, .pass (x := .inLoop c) rfl (fun _ _ => .inl (by simp)) harr⟩
 | outgrown => exact ⟨_, a₁, w₁, ⟨ρ', nx', tm', hp', H', hq⟩, .pass (x := .inLoop c) rfl (fun _ _ => .inl (by simp)) harr⟩
theorem then_normal {K : Nat → Tm → Hp → Prop} (h : K nx tm hp) : Then K Q .normal nx tm hp := h
theorem then_exit {K : Nat → Tm → Hp → Prop} {i : Nat} (h : Q (.exit i) nx tm hp) : Then K Q (.exit i) nx tm hp := h
theorem then_ret {K : Nat → Tm → Hp → Prop} (h : Q .ret nx tm hp) : Then K Q .ret nx tm hp := h
theorem inbl_normal {i : Nat} (h : Q .normal nx tm hp) : InBl i Q .normal nx tm hp := h
theorem inbl_ret {i : Nat} (h : Q .ret nx tm hp) : InBl i Q .ret nx tm hp := h
theorem inbl_exit {i : Nat} (h : Q .normal nx tm hp) : InBl i Q (.exit i) nx tm hp := by simp only [InBl, Nat.beq_refl, cond_true]; exact h
theorem inbl_exit_ne {i j : Nat} (hij : Nat.beq j i = false) (h : Q (.exit j) nx tm hp) : InBl i Q (.exit j) nx tm hp := by simp only [InBl, hij, cond_false]; exact h
def newV (C : Cy) (tm : Tm) (nx : Nat) : Op → Option (AV × AO)
 | .box t x => (ev tm x).bind fun a => a.cellsL.map fun l => (.ptr nx 0, .cells t (some l.length) l)
 | .alloc t => (C.ti t).bind fun s => s.zero.bind fun z => (absV z).cellsL.map fun l => (.ptr nx 0, .cells t (some l.length) l)
 | .buildSlice t len parts => (C.ti t).bind fun s => match s.desc with
   | .slice e => (C.ti e).bind fun te => te.zero.bind fun z => (absV z).cellsL.bind fun zs => (evs tm (parts.toList.map (·.2))).bind fun vs =>
    bif Nat.beq zs.length te.size && Nat.ble (len * te.size) 16777216 then
     (fillL (fun i => some (i * te.size, te.size)) (List.replicate len zs).flatten ((parts.toList.map (·.1)).zip vs)).map fun l => (.sl false nx te.size 0 len len, .cells e (some l.length) l)
    else none
   | _ => none
 | .range t x => (C.ti t).bind fun s => match s.desc, ev tm x with
   | .string, some (.str l) => some (.ptr nx 0, .iter l 0)
   | _, _ => none
 | _ => none
theorem zeros_eq {α : Type} [Inhabited α] (zs : List α) (len : Nat) : ((Array.range (len * zs.length)).map (zs.toArray[· % zs.length]!)).toList = (List.replicate len zs).flatten := by
 apply List.ext_getElem?
 intro i
 by_cases hi : i < len * zs.length
 · have h0 : 0 < zs.length := by
    rcases Nat.eq_zero_or_pos zs.length with h | h
    · rw [h] at hi; simp at hi
    · exact h
   have hm := Nat.mod_lt i h0
   simp only [Array.toList_map, Array.toList_range, List.getElem?_map, List.getElem?_range hi, Option.map_some]
   rw [getElem!_pos zs.toArray (i % zs.length) (by simpa using hm)]
   have : ∀ (n : Nat) (i : Nat), i < n * zs.length → (List.replicate n zs).flatten[i]? = some (zs[i % zs.length]'(Nat.mod_lt _ h0)) := by
    intro n
    induction n with
    | zero => intro i h; simp at h
    | succ n ih =>
      intro i h
      rw [List.replicate_succ, List.flatten_cons]
      by_cases hlt : i < zs.length
      · rw [List.getElem?_append_left hlt]; simp [Nat.mod_eq_of_lt hlt]
      · rw [List.getElem?_append_right (by omega), ih (i - zs.length) (by rw [Nat.succ_mul] at h; omega)]
        congr 1
        congr 1
        rw [Nat.mod_eq_sub_mod (by omega : i ≥ zs.length)]
   rw [this len i hi]; simp
 · rw [List.getElem?_eq_none (by simp; omega), List.getElem?_eq_none]
   simp only [List.length_flatten, List.map_replicate, List.sum_replicate_nat]
   omega
theorem newV_sound {ρ : Nat → Nat × Nat} {a : Act} {w : World} (H : ST C.toCx E ρ nx tm hp a w) {o : Oper} {av : AV} {ob : AO} (h : newV C tm nx o.op = some (av, ob)) :
 ∃ b, (execOp a.eval o).run C.P w = .ok (.value (av.den (upd ρ nx w.heap.size))) (w.alloc b) ∧ ob.is ρ 0 (some b) ∧ ob.lt nx ∧ av.lt (nx + 1) := by
 unfold execOp
 generalize o.op = op at h
 unfold newV at h
 split at h
 · rename_i t x0
   obtain ⟨x, hx, h⟩ := bind_some' h
   obtain ⟨l, hl, e⟩ := map_some' h
   cases e
   obtain ⟨h1, h2⟩ := H.ev hx
   obtain ⟨h3, h4⟩ := cellsL_den (ρ := ρ) hl
   refine ⟨.cells (denL ρ l).toArray t, ?_, Or.inr ⟨[], [], (0, 0), _, by simp [AO.avs, AO.elem], rfl, fun k hk => ⟨rfl, by simp only [AO.tot, Option.some.injEq] at hk; simp [AO.avs, denL_length, hk], unfz_zero _, rfl⟩⟩, cellsL_lt hl h2, by simp only [AV.lt]; omega⟩
   simp only [Instr.box, newVar, newRow, h1, h3, Sem.run_bind, run_newObj, Result.andThen_ok, Sem.run_pure, AV.den, upd_same, World.alloc_eq]
 · rename_i t
   obtain ⟨s, hs, h⟩ := bind_some' h
   obtain ⟨z, hz, h⟩ := bind_some' h
   obtain ⟨l, hl, e⟩ := map_some' h
   cases e
   obtain ⟨h3, h4⟩ := cellsL_den (ρ := ρ) hl
   rw [den_absV] at h3
   refine ⟨.cells (denL ρ l).toArray t, ?_, Or.inr ⟨[], [], (0, 0), _, by simp [AO.avs, AO.elem], rfl, fun k hk => ⟨rfl, by simp only [AO.tot, Option.some.injEq] at hk; simp [AO.avs, denL_length, hk], unfz_zero _, rfl⟩⟩, cellsL_lt hl (lt_absV _ _), by simp only [AV.lt]; omega⟩
   simp only [Instr.alloc, Sem.run_bind, run_zeroValue hs hz, Result.andThen_ok, newVar, newRow, h3, run_newObj, Sem.run_pure, AV.den, upd_same, World.alloc_eq]
 · rename_i t len parts
   obtain ⟨s, hs, h⟩ := bind_some' h
   split at h
   case h_2 => cases h
   rename_i e hd
   obtain ⟨te, hte, h⟩ := bind_some' h
   obtain ⟨z, hz, h⟩ := bind_some' h
   obtain ⟨zs, hzs, h⟩ := bind_some' h
   obtain ⟨vs, hvs, h⟩ := bind_some' h
   cases hb : (Nat.beq zs.length te.size && Nat.ble (len * te.size) 16777216) <;> rw [hb] at h
   · cases h
   simp only [cond_true] at h
   simp only [Bool.and_eq_true] at hb
   have hb1 := Nat.eq_of_beq_eq_true hb.1
   have hb2 := Nat.le_of_ble_eq_true hb.2
   obtain ⟨l, hl, e'⟩ := map_some' h
   cases e'
   obtain ⟨h1, h2⟩ := evs_sound H _ hvs
   have hcz : z.cells = (denL ρ zs).toArray := by have := (cellsL_den (ρ := ρ) hzs).1; rwa [den_absV] at this
   have hparts : (parts.map fun (i, x) => (i, a.eval x)).toList = (((parts.toList.map (·.1)).zip vs).map fun p => (p.1, p.2.den ρ)) := by
    simp only [Array.toList_map]
    rw [denL_eq_map] at h1
    have e1 : parts.toList.map (fun p => (p.1, a.eval p.2)) = (parts.toList.map (·.1)).zip ((parts.toList.map (·.2)).map a.eval) := by
     rw [List.map_map]
     exact (List.zip_map' ..).symm
    rw [show (List.map (fun x => match x with | (i, x) => (i, a.eval x)) parts.toList) = parts.toList.map (fun p => (p.1, a.eval p.2)) from rfl]
    rw [e1, h1, List.zip_map_right]; rfl
   have hzl : ltL nx (List.replicate len zs).flatten := by
    have hz0 := cellsL_lt (n := nx) hzs (lt_absV nx z)
    rw [ltL_iff] at hz0 ⊢
    intro x hx
    obtain ⟨l', hl', hx'⟩ := List.mem_flatten.1 hx
    rw [(List.mem_replicate.1 hl').2] at hx'
    exact hz0 x hx'
   have hpl : ∀ p ∈ (parts.toList.map (·.1)).zip vs, p.2.lt nx := by
    intro p hp
    exact (ltL_iff nx vs).1 h2 p.2 (List.of_mem_zip hp).2
   refine ⟨.cells (denL ρ l).toArray e, ?_, Or.inr ⟨[], [], (0, 0), _, by simp [AO.avs, AO.elem], rfl, fun k hk => ⟨rfl, by simp only [AO.tot, Option.some.injEq] at hk; simp [AO.avs, denL_length, hk], unfz_zero _, rfl⟩⟩, fillL_lt _ _ hl hzl hpl, by simp only [AV.lt]; omega⟩
   have hf := fillL_sound (ρ := ρ) _ _ hl
   have hzz : (Array.range (len * te.size)).map ((if len * te.size = 0 then #[] else z.cells)[· % (if len * te.size = 0 then #[] else z.cells).size]!) = (denL ρ (List.replicate len zs).flatten).toArray := by
    apply Array.ext'
    by_cases h0 : len * te.size = 0
    · rw [h0]
      have : (List.replicate len zs).flatten = [] := by
       rw [← List.length_eq_zero_iff]
       simp only [List.length_flatten, List.map_replicate, List.sum_replicate_nat, hb1, h0]
      rw [this]; simp [denL]
    · rw [if_neg h0, hcz]
      have := zeros_eq (denL ρ zs) len
      rw [denL_length, hb1] at this
      simp only [List.size_toArray, denL_length, hb1]
      rw [this]
      simp only [denL_eq_map, List.map_flatten, List.map_replicate]
   simp only [Instr.buildSlice, Sem.run_bind, run_underlying hs, hd, Result.andThen_ok, run_sizeOf hte, Sem.run_ite]
   rw [if_neg (by omega)]
   have key : ∀ zero : Array Value, zero = (if len * te.size = 0 then #[] else z.cells) →
    ((Sem.run C.P (match Instr.fill (fun i => some (i * te.size, te.size)) ((Array.range (len * te.size)).map (zero[· % zero.size]!)) (parts.map fun (i, x) => (i, a.eval x)).toList with
      | some cells => do
        let __do_lift ← newRow e cells
        pure (Value.slice (some __do_lift) len len)
      | _ => stuck "buildSlice: a part of the wrong size") w).andThen fun a w' => Result.ok (Next.value a) w') =
    .ok (.value (AV.den (upd ρ nx w.heap.size) (AV.sl false nx te.size 0 len len))) (w.alloc (Obj.cells (denL ρ l).toArray e)) := by
    intro zero hz0
    subst hz0
    rw [hzz, hparts, hf]
    simp only [newRow, Sem.run_bind, run_newObj, Result.andThen_ok, Sem.run_pure, AV.den, upd_same, World.alloc_eq, Nat.zero_mul, Bool.false_and, cond_false]
   by_cases h0 : len * te.size = 0
   · have k := key #[] (by rw [if_pos h0])
     simp only [h0] at k ⊢
     simp only [if_true, Sem.run_bind, Sem.run_pure, Result.andThen_ok]
     exact k
   · have k := key z.cells (by rw [if_neg h0])
     simp only [h0, if_false, Sem.run_bind, run_zeroValue hte hz, Sem.run_pure, Result.andThen_ok]
     exact k
 · rename_i t x
   obtain ⟨s, hs, h⟩ := bind_some' h
   split at h
   case h_2 => cases h
   rename_i l hd hx
   simp only [Option.some.injEq, Prod.mk.injEq] at h
   obtain ⟨rfl, rfl⟩ := h
   refine ⟨.stringIter ⟨l.toArray⟩ 0, ?_, ⟨rfl, rfl⟩, trivial, by simp only [AV.lt]; omega⟩
   simp only [Instr.range, Sem.run_bind, run_underlying hs, hd, (H.ev hx).1, AV.den, Result.andThen_ok, Sem.run_pure, run_newObj, upd_same, World.alloc_eq]
 · cases h
theorem WL_new {d : Nat} {op : Op} {ty : TypeId} {pos : String} {af : Array Edge} {g : Option (Nat × Bool)} {av : AV} {ob : AO}
 (hv : newV C tm nx op = some (av, ob)) (hg : wanted ops tm g = some true) (hd : Nat.blt d E.nt = true) (h : WL C E ops rest (nx + 1) ((d, av) :: tm) ((nx, ob) :: hp) Q) :
 WL C E ops (⟨some d, op, ty, pos, af, g⟩ :: rest) nx tm hp Q := by
 intro ρ a w H
 obtain ⟨b, h1, h2, h3, h4⟩ := newV_sound H (o := ⟨some d, op, ty, pos, af, g⟩) hv
 exact wpList_of_run (wanted_sound H (o := ⟨some d, op, ty, pos, af, g⟩) hg) h1 (h _ _ _ ((H.alloc h3 h2).put (by simpa [Nat.blt_eq] using hd) h4))
end
end Go.Eng
namespace Go.Eng
theorem run_store1 {P : Program} {w : World} {b i : Nat} {c : Array Value} {e : TypeId} {fz : Nat × Nat} {v : Value} (hg : w.heap[b]? = some (.cells c e fz)) (hfz : unfz fz c.size) (hi : i < c.size) (hv : Value.plain1 v = true) :
 (store ⟨b, i, none⟩ v).run P w = .ok () (w.setCell ⟨b, i, none⟩ v) := by
 have hc : w.cell? ⟨b, i, none⟩ = some c[i] := by rw [cell?_cells hg]; simp [hi]
 have hf : w.frozen? ⟨b, i, none⟩ = false := by
  simp only [World.frozen?, hg]
  have := hfz i hi
  simp only [Bool.and_eq_false_iff, decide_eq_false_iff_not]
  by_cases h : fz.1 ≤ i
  · right; exact fun h2 => this ⟨h, h2⟩
  · left; exact h
 cases v <;> simp only [Value.plain1, Bool.false_eq_true] at hv <;> simp [store, Sem.run, hc, hf]
theorem heap_setCell_fz (w : World) (g i : Nat) (cs : Array Value) (t : TypeId) (fz : Nat × Nat) (v : Value) (hg : w.heap[g]? = some (.cells cs t fz)) :
 (w.setCell ⟨g, i, none⟩ v).heap[g]? = some (.cells (cs.setIfInBounds i v) t fz) := by
 simp only [World.setCell, Array.getElem?_modify, if_true, hg]
 rfl
theorem run_storeCells {P : Program} {b : Nat} {e : TypeId} {fz : Nat × Nat} (off : Nat) : ∀ (vs : List Value) (i : Nat) (w : World) (c : Array Value), w.heap[b]? = some (.cells c e fz) → unfz fz c.size → off + i + vs.length ≤ c.size →
 (∀ v ∈ vs, Value.plain1 v = true) → ∃ w', (storeCells ⟨b, off, none⟩ vs i).run P w = .ok () w' ∧
  w'.heap[b]? = some (.cells (c.toList.take (off + i) ++ vs ++ c.toList.drop (off + i + vs.length)).toArray e fz) ∧ (∀ k, k ≠ b → w'.heap[k]? = w.heap[k]?) ∧
  w'.heap.size = w.heap.size ∧ w'.tape = w.tape ∧ w'.os = w.os ∧ w'.output = w.output := by
 intro vs
 induction vs with
 | nil =>
   intro i w c hg _ hl _
   exact ⟨w, rfl, by rw [hg]; simp, fun _ _ => rfl, rfl, rfl, rfl, rfl⟩
 | cons v vs ih =>
   intro i w c hg hz hl hp
   simp only [List.length_cons] at hl
   have hs := run_store1 (P := P) hg hz (i := off + i) (by omega) (hp v (by simp))
   have hg' := heap_setCell_fz w b (off + i) c e fz v hg
   obtain ⟨w', h1, h2, h3, h4, h5, h6, h7⟩ := ih (i + 1) (w.setCell ⟨b, off + i, none⟩ v) (c.setIfInBounds (off + i) v) hg' (by simpa using hz) (by simp; omega) (fun x hx => hp x (by simp [hx]))
   refine ⟨w', ?_, ?_, ?_, ?_, h5, h6, h7⟩
   · simp only [storeCells, Sem.run_bind, add_none, hs, Result.andThen_ok, h1]
   · rw [h2]
     congr 3
     simp only [Array.toList_setIfInBounds]
     have hlt : off + i < c.toList.length := by simp; omega
     rw [List.set_eq_take_append_cons_drop, if_pos hlt]
     have e2 : (List.take (off + i) c.toList).length = off + i := by rw [List.length_take]; omega
     have e1 : off + (i + 1) = off + i + 1 := by omega
     rw [e1, List.take_append, e2, List.take_of_length_le (by rw [e2]; omega), show off + i + 1 - (off + i) = 1 from by omega, List.take_succ_cons, List.take_zero]
     rw [List.drop_append, e2, List.drop_of_length_le (by rw [e2]; omega), show off + i + 1 + vs.length - (off + i) = vs.length + 1 from by omega, List.drop_succ_cons, List.drop_drop]
     simp only [List.append_assoc, List.nil_append, List.cons_append, List.length_cons]
     rw [show off + i + 1 + vs.length = off + i + (vs.length + 1) from by omega]
   · intro k hk
     rw [h3 k hk]; exact heap_setCell_other w _ k v hk
   · rw [h4]; exact World.size_setCell ..
def colSet : List CK → Nat → List AV → List Int → Option (List Int)
 | _, _, [], r => some r
 | k :: ks, 0, a :: l, r => match k, a with
   | .int k, .int k' v => bif ikeq k k' then (colSet ks 0 l r.tail).map (v :: ·) else none
   | .bool, .bool b => (colSet ks 0 l r.tail).map ((if b = true then 1 else 0) :: ·)
   | _, _ => none
 | k :: ks, j + 1, a :: l, r => (colSet ks j (a :: l) r.tail).map (r.headD 0 :: ·)
 | [], _, _ :: _, _ => none
theorem colSet_sound : ∀ (ks : List CK) (j : Nat) (l : List AV) (r r' : List Int), colSet ks j l r = some r' → rowA ks r' = setL (rowA ks r) j l ∧ j + l.length ≤ ks.length ∨ l = [] ∧ r' = r := by
 intro ks
 induction ks with
 | nil => intro j l r r' h; cases l <;> simp only [colSet, Option.some.injEq, reduceCtorEq] at h; exact .inr ⟨rfl, h.symm⟩
 | cons k ks ih =>
   intro j l r r' h
   cases l with
   | nil => cases j <;> simp only [colSet, Option.some.injEq] at h <;> exact .inr ⟨rfl, h.symm⟩
   | cons a l =>
     left
     cases j with
     | zero =>
       simp only [colSet] at h
       have fin : ∀ x q, colSet ks 0 l r.tail = some q → r' = x :: q → k.av x = a → rowA (k :: ks) r' = setL (rowA (k :: ks) r) 0 (a :: l) ∧ 0 + (a :: l).length ≤ (k :: ks).length := by
        intro x q hq e ha
        subst e
        simp only [rowA, List.headD_cons, List.tail_cons, ha]
        rcases ih 0 l r.tail q hq with ⟨h1, h2⟩ | ⟨h1, h2⟩
        · rw [h1]; simp only [setL, List.take_zero, List.nil_append, List.length_cons, Nat.zero_add, List.cons_append, List.drop_succ_cons]
          exact ⟨trivial, by omega⟩
        · subst h1 h2; simp only [setL, List.take_zero, List.nil_append, List.length_cons, List.length_nil, Nat.zero_add, List.cons_append, List.drop_succ_cons, List.drop_zero]
          exact ⟨trivial, by omega⟩
       split at h
       · rename_i k1 k2 v
         cases hk : ikeq k1 k2 <;> rw [hk] at h
         · cases h
         · obtain ⟨q, hq, e⟩ := map_some' h
           exact fin v q hq e.symm (by rw [ikeq_eq hk]; rfl)
       · rename_i b
         obtain ⟨q, hq, e⟩ := map_some' h
         exact fin _ q hq e.symm (by cases b <;> rfl)
       · cases h
     | succ j =>
       simp only [colSet] at h
       obtain ⟨q, hq, e⟩ := map_some' h
       subst e
       rcases ih j (a :: l) r.tail q hq with ⟨h1, h2⟩ | ⟨h1, _⟩
       · simp only [rowA, List.headD_cons, List.tail_cons, h1, setL, List.take_succ_cons, List.cons_append, List.length_cons] at h2 ⊢
         rw [show j + 1 + (l.length + 1) = (j + (l.length + 1)) + 1 from by omega, List.drop_succ_cons]
         exact ⟨rfl, by omega⟩
       · cases h1
def stRow (n i j : Nat) (l : List AV) : AO → Option (Prop × AO)
 | .cells e (some tt) cs => bif Nat.ble (i * n + j + l.length) cs.length then some (True, .cells e (some tt) (setL cs (i * n + j) l)) else none
 | .ints e (some tt) k xs => match l with
   | [.int k' v] => bif Nat.beq n 1 && Nat.beq j 0 && ikeq k k' then some (i < xs.length, .ints e (some tt) k (xs.set i v)) else none
   | _ => none
 | .strs e (some tt) xs => match l with
   | [.str v] => bif Nat.beq n 1 && Nat.beq j 0 then some (i < xs.length, .strs e (some tt) (xs.set i v)) else none
   | _ => none
 | .recs e (some tt) ks xs => bif Nat.beq n ks.length && Nat.blt 0 l.length then (colSet ks j l (xs.getD i [])).map fun r => (i < xs.length, .recs e (some tt) ks (xs.set i r)) else none
 | _ => none
def stAt (hp : Hp) (l : List AV) : AV → Option (Prop × Nat × AO)
 | .ptr id off => (lk hp id).bind fun o => (stRow 0 0 off l o).map fun p => (p.1, id, p.2)
 | .pix id n i j => (lk hp id).bind fun o => (stRow n i j l o).map fun p => (p.1, id, p.2)
 | _ => none
theorem setL_map_set {α : Type} (f : α → AV) : ∀ (xs : List α) (i : Nat) (v : α), i < xs.length → setL (xs.map f) i [f v] = (xs.set i v).map f := by
 intro xs i v h
 rw [List.map_set, List.set_eq_take_append_cons_drop, if_pos (by simpa using h)]
 simp [setL]
theorem setL_flat (ks : List CK) : ∀ (xs : List (List Int)) (i j : Nat) (l : List AV) (r : List Int), i < xs.length → rowA ks r = setL (rowA ks (xs.getD i [])) j l → j + l.length ≤ ks.length →
 (xs.set i r).flatMap (rowA ks) = setL (xs.flatMap (rowA ks)) (i * ks.length + j) l := by
 intro xs
 induction xs with
 | nil => intro i j l r h; simp at h
 | cons x xs ih =>
   intro i j l r h hr hj
   cases i with
   | zero =>
     simp only [List.set_cons_zero, List.flatMap_cons, Nat.zero_mul, Nat.zero_add]
     simp only [List.getD_cons_zero] at hr
     rw [hr]
     have hx : (rowA ks x).length = ks.length := rowA_length ks x
     simp only [setL]
     rw [List.take_append_of_le_length (by omega), List.drop_append_of_le_length (by omega)]
     simp only [List.append_assoc]
   | succ i =>
     simp only [List.set_cons_succ, List.flatMap_cons]
     have := ih i j l r (by simpa using h) (by simpa using hr) hj
     rw [this]
     have hx : (rowA ks x).length = ks.length := rowA_length ks x
     simp only [setL]
     have e : (i + 1) * ks.length + j = (rowA ks x).length + (i * ks.length + j) := by rw [hx, Nat.succ_mul]; omega
     have e3 : (rowA ks x).length + (i * ks.length + j) + l.length = (rowA ks x).length + (i * ks.length + j + l.length) := Nat.add_assoc ..
     rw [e, List.take_length_add_append, e3, List.drop_length_add_append]
     simp only [List.append_assoc]
theorem flat_length (ks : List CK) (xs : List (List Int)) : (xs.flatMap (rowA ks)).length = xs.length * ks.length := by
 induction xs with
 | nil => simp
 | cons x xs ih => simp only [List.flatMap_cons, List.length_append, rowA_length, ih, List.length_cons, Nat.succ_mul]; omega
theorem stRow_sound {n i j nx : Nat} {l : List AV} {o o' : AO} {φ : Prop} (h : stRow n i j l o = some (φ, o')) (hφ : φ) (hl : ltL nx l) (ho : o.lt nx) :
 o.mut = true ∧ o'.tot = o.tot ∧ o'.elem = o.elem ∧ o'.lt nx ∧ o'.avs = setL o.avs (i * n + j) l ∧ i * n + j + l.length ≤ o.avs.length ∧ o.avs ≠ [] ∨ l = [] := by
 cases l with
 | nil => exact .inr rfl
 | cons a l =>
 left
 unfold stRow at h
 split at h
 · rename_i e tt cs
   cases hb : Nat.ble (i * n + j + (a :: l).length) cs.length <;> rw [hb] at h
   · cases h
   simp only [cond_true, Option.some.injEq, Prod.mk.injEq] at h
   obtain ⟨rfl, rfl⟩ := h
   have hb := Nat.le_of_ble_eq_true hb
   refine ⟨rfl, rfl, rfl, setL_lt ho hl, rfl, hb, ?_⟩
   intro e; simp only [AO.avs] at e; subst e; simp at hb
 · rename_i e tt k xs
   split at h
   · rename_i k' v heq
     cases heq
     cases hb : (Nat.beq n 1 && Nat.beq j 0 && ikeq k k') <;> rw [hb] at h
     · cases h
     simp only [cond_true, Option.some.injEq, Prod.mk.injEq] at h
     obtain ⟨rfl, rfl⟩ := h
     simp only [Bool.and_eq_true] at hb
     obtain ⟨⟨h1, h2⟩, h3⟩ := hb
     have h1 := Nat.eq_of_beq_eq_true h1
     have h2 := Nat.eq_of_beq_eq_true h2
     have h3 := ikeq_eq h3
     subst h1 h2 h3
     refine ⟨rfl, rfl, rfl, ints_lt _ _ _, ?_, ?_, ?_⟩
     · simp only [AO.avs, Nat.mul_one, Nat.add_zero]; exact (setL_map_set _ _ _ _ hφ).symm
     · simp [AO.avs]; omega
     · intro e; simp only [AO.avs, List.map_eq_nil_iff] at e; subst e; simp at hφ
   · cases h
 · rename_i e tt xs
   split at h
   · rename_i v heq
     cases heq
     cases hb : (Nat.beq n 1 && Nat.beq j 0) <;> rw [hb] at h
     · cases h
     simp only [cond_true, Option.some.injEq, Prod.mk.injEq] at h
     obtain ⟨rfl, rfl⟩ := h
     simp only [Bool.and_eq_true] at hb
     obtain ⟨h1, h2⟩ := hb
     have h1 := Nat.eq_of_beq_eq_true h1
     have h2 := Nat.eq_of_beq_eq_true h2
     subst h1 h2
     refine ⟨rfl, rfl, rfl, strs_lt _ _, ?_, ?_, ?_⟩
     · simp only [AO.avs, Nat.mul_one, Nat.add_zero]; exact (setL_map_set _ _ _ _ hφ).symm
     · simp [AO.avs]; omega
     · intro e; simp only [AO.avs, List.map_eq_nil_iff] at e; subst e; simp at hφ
   · cases h
 · rename_i e tt ks xs
   cases hb : (Nat.beq n ks.length && Nat.blt 0 (a :: l).length) <;> rw [hb] at h
   · cases h
   simp only [cond_true] at h
   simp only [Bool.and_eq_true] at hb
   have h1 := Nat.eq_of_beq_eq_true hb.1
   subst h1
   obtain ⟨r, hr, e'⟩ := map_some' h
   cases e'
   rcases colSet_sound ks j (a :: l) _ r hr with ⟨h1, h2⟩ | ⟨h1, _⟩
   · have hlen := flat_length ks xs
     have hb2 : i * ks.length + j + (a :: l).length ≤ (xs.flatMap (rowA ks)).length := by
      rw [hlen]
      have : (i + 1) * ks.length ≤ xs.length * ks.length := Nat.mul_le_mul_right _ hφ
      rw [Nat.succ_mul] at this
      omega
     refine ⟨rfl, rfl, rfl, recs_lt _ _ _, setL_flat ks xs i j _ r hφ h1 h2, hb2, ?_⟩
     intro e; simp only [AO.avs] at e; rw [e] at hb2; simp at hb2
   · cases h1
 · cases h
section
variable {C : Cy} {E : En} {ops : Array Oper} {rest : List Oper} {nx : Nat} {tm : Tm} {hp : Hp} {Q : Po}
def stV (C : Cy) (tm : Tm) (hp : Hp) : Op → Option (Prop × Nat × AO)
 | .store t x v => (C.ti t).bind fun s => (ev tm x).bind fun a => (ev tm v).bind fun b => b.cellsL.bind fun l => bif Nat.beq l.length s.size && Nat.blt 0 l.length then stAt hp l a else none
 | _ => none
theorem stAt_den {ρ : Nat → Nat × Nat} {l : List AV} {x : AV} {φ : Prop} {id : Nat} {o' : AO} (h : stAt hp l x = some (φ, id, o')) :
 ∃ o n i j, lk hp id = some o ∧ stRow n i j l o = some (φ, o') ∧ x.den ρ = .pointer (some ⟨(ρ id).1, (ρ id).2 + (i * n + j), none⟩) := by
 unfold stAt at h
 split at h
 · rename_i id' off
   obtain ⟨o, ho, h⟩ := bind_some' h
   obtain ⟨p, hp', e⟩ := map_some' h
   cases e
   exact ⟨o, 0, 0, off, ho, hp', by simp [AV.den]⟩
 · rename_i id' n i j
   obtain ⟨o, ho, h⟩ := bind_some' h
   obtain ⟨p, hp', e⟩ := map_some' h
   cases e
   exact ⟨o, n, i, j, ho, hp', rfl⟩
 · cases h
theorem WL_store {op : Op} {ty : TypeId} {pos : String} {af : Array Edge} {g : Option (Nat × Bool)} {φ : Prop} {id : Nat} {o' : AO}
 (hv : stV C tm hp op = some (φ, id, o')) (hg : wanted ops tm g = some true) (hφ : φ) (h : WL C E ops rest nx tm ((id, o') :: hp) Q) :
 WL C E ops (⟨none, op, ty, pos, af, g⟩ :: rest) nx tm hp Q := by
 intro ρ a w H
 unfold stV at hv
 split at hv
 case h_2 => cases hv
 rename_i t x v
 obtain ⟨s, hs, hv⟩ := bind_some' hv
 obtain ⟨xa, hx, hv⟩ := bind_some' hv
 obtain ⟨va, hva, hv⟩ := bind_some' hv
 obtain ⟨l, hl, hv⟩ := bind_some' hv
 cases hb : (Nat.beq l.length s.size && Nat.blt 0 l.length) <;> rw [hb] at hv
 · cases hv
 simp only [cond_true] at hv
 simp only [Bool.and_eq_true] at hb
 have hb1 := Nat.eq_of_beq_eq_true hb.1
 have hb2 : 0 < l.length := by simpa [Nat.blt_eq] using hb.2
 obtain ⟨o, n, i, j, ho, hr, hxd⟩ := stAt_den (ρ := ρ) hv
 obtain ⟨h1, h2⟩ := H.ev hx
 obtain ⟨h3, h4⟩ := H.ev hva
 obtain ⟨h5, h6⟩ := cellsL_den (ρ := ρ) hl
 obtain ⟨g1, g2, g3⟩ := H.heap.objs id o ho
 rcases stRow_sound hr hφ (cellsL_lt hl h4) g2 with ⟨k1, k2, k3, k4, k5, k6, k7⟩ | e
 case inr => subst e; simp at hb2
 obtain ⟨pre, rst, fz, el, hb, hpre, hfz⟩ := AO.is_cells g3 k7
 obtain ⟨tt, htt⟩ := Option.isSome_iff_exists.1 k1
 obtain ⟨hβ, htl, hfz2, hel⟩ := hfz tt htt
 subst hel
 have hp0 : pre = [] := List.length_eq_zero_iff.1 (hpre.trans hβ)
 subst hp0
 rw [List.nil_append] at hb
 rw [hβ, Nat.zero_add] at hxd
 obtain ⟨w', r1, r2, r3, r4, r5, r6, r7⟩ := run_storeCells (P := C.P) (b := (ρ id).1) (e := o.elem) (i * n + j) (denL ρ l) 0 w _ hb (by simpa [htl] using hfz2) (by simp only [List.size_toArray, List.length_append, denL_length]; omega)
  (by intro v hv; rw [denL_eq_map] at hv; obtain ⟨x, hx, rfl⟩ := List.mem_map.1 hv; exact (den_plain (h6 x hx)).2)
 refine wpList_of_skip (wanted_sound H (o := ⟨none, .store t x v, ty, pos, af, g⟩) hg) ?_ (h ρ a w' ?_)
 · simp only [execOp, Instr.storeAt, Instr.sureAddr, h1, h3, hxd, Sem.run_bind, Sem.run_pure, Result.andThen_ok, storeVar, h5, run_sizeOf hs, List.size_toArray, denL_length, hb1, ne_eq, not_true_eq_false, if_false, Sem.run_ite, r1]
 · refine H.set ho k1 k4 ?_ r4 r3 r5 r6 r7
   rw [r2]
   have hne' : o'.avs ≠ [] := by rw [k5]; intro e; have := congrArg List.length e; rw [setL_length k6] at this; exact k7 (List.length_eq_zero_iff.1 this)
   have fin : ∃ pre' rest' fz' e', some (Obj.cells ((denL ρ o.avs ++ rst).toArray.toList.take (i * n + j + 0) ++ denL ρ l ++ (denL ρ o.avs ++ rst).toArray.toList.drop (i * n + j + 0 + (denL ρ l).length)).toArray o.elem fz) =
    some (Obj.cells (pre' ++ (denL ρ o'.avs ++ rest')).toArray e' fz') ∧ pre'.length = (ρ id).2 ∧ (∀ k, o'.tot = some k → (ρ id).2 = 0 ∧ (denL ρ o'.avs ++ rest').length = k ∧ unfz fz' k ∧ e' = o'.elem) := by
    refine ⟨[], rst, fz, o.elem, ?_, hβ.symm, fun k hk => ?_⟩
    rotate_left
    · rw [k2, htt] at hk
      cases hk
      refine ⟨hβ, ?_, hfz2, k3.symm⟩
      rw [← htl]
      simp only [List.length_append, denL_length, k5, setL_length k6]
    rw [List.nil_append, k5, denL_setL]
    congr 3
    simp only [Nat.add_zero, denL_length]
    rw [List.take_append_of_le_length (by rw [denL_length]; omega), List.drop_append_of_le_length (by rw [denL_length]; omega)]
    simp only [List.append_assoc]
   cases o' <;> first | exact .inr fin | (exact absurd rfl hne')
end
end Go.Eng
