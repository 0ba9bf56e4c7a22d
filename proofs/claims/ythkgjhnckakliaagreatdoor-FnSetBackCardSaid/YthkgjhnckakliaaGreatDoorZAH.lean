/- A part of the proof that the rows statement FnSetBack holds; no conditions. -/
import Derived.Test.YthkgjhnckakliaaGreatDoorZAG
import Derived.Laws.IdiomStrings
import Derived.Laws.BytesArg
import Derived.MapKept
set_option linter.unusedVariables false
set_option linter.unusedSimpArgs false
set_option linter.unusedSectionVars false
namespace Go.Eng
theorem HR.congr {C : Cx} {ρ ρ' : Nat → Nat × Nat} {n nx : Nat} {hp : Hp} {w : World} (H : HR C ρ n hp w) (h : ∀ i, i < n → ρ' i = ρ i) (hn : n ≤ nx) : HR C ρ' nx hp w := by
 have hid : ∀ {id o}, lk hp id = some o → ρ' id = ρ id := fun ho => h _ (H.objs _ _ ho).1
 refine ⟨?_, ?_, ?_, ?_, H.glob⟩
 · intro id o ho
   obtain ⟨h1, h2, h3⟩ := H.objs id o ho
   exact ⟨by omega, AO.lt_mono hn _ h2, by rw [hid ho, AO.is_congr h _ h2]; exact h3⟩
 · intro id o ho hl
   rw [hid ho]; exact H.bound id o ho hl
 · intro id o id' o' h1 h2 hm hl hne
   rw [hid h1, hid h2]; exact H.sep id o id' o' h1 h2 hm hl hne
 · intro id o ho hm
   rw [hid ho]; exact H.apart id o ho hm
theorem HR.sub {C : Cx} {ρ : Nat → Nat × Nat} {nx : Nat} {hp hp' : Hp} {w : World} (H : HR C ρ nx hp w) (h : ∀ id o, lk hp' id = some o → lk hp id = some o) : HR C ρ nx hp' w :=
 ⟨fun id o ho => H.objs id o (h id o ho), fun id o ho => H.bound id o (h id o ho), fun id o id' o' h1 h2 => H.sep id o id' o' (h _ _ h1) (h _ _ h2), fun id o ho => H.apart id o (h id o ho), H.glob⟩
def keepL : List Nat → Hp → Hp
 | [], _ => []
 | i :: l, hp => match lk hp i with
   | some o => (i, o) :: keepL l hp
   | none => keepL l hp
def Kp : List Nat → Hp → Hp → Prop
 | [], _, _ => True
 | i :: l, hp, hp' => lk hp' i = lk hp i ∧ Kp l hp hp'
theorem keepL_lk (hp : Hp) : ∀ (ids : List Nat) {id : Nat} {o : AO}, lk (keepL ids hp) id = some o → lk hp id = some o
 | [], id, o, h => by simp [keepL, lk] at h
 | i :: l, id, o, h => by
   simp only [keepL] at h
   split at h
   · rename_i x hx
     rw [lk_cons] at h
     split at h
     · rename_i e; subst e; cases h; exact hx
     · exact keepL_lk hp l h
   · exact keepL_lk hp l h
theorem keepL_mem (hp : Hp) : ∀ (ids : List Nat) {id : Nat} {o : AO}, lk (keepL ids hp) id = some o → id ∈ ids
 | [], id, o, h => by simp [keepL, lk] at h
 | i :: l, id, o, h => by
   simp only [keepL] at h
   split at h
   · rename_i x hx
     rw [lk_cons] at h
     split at h
     · rename_i e; subst e; exact List.mem_cons_self ..
     · exact List.mem_cons_of_mem _ (keepL_mem hp l h)
   · exact List.mem_cons_of_mem _ (keepL_mem hp l h)
theorem Kp_mem {hp hp' : Hp} : ∀ {ids : List Nat}, Kp ids hp hp' → ∀ {id}, id ∈ ids → lk hp' id = lk hp id
 | [], _, _, h => by cases h
 | i :: l, hk, id, h => by
   rcases List.mem_cons.1 h with rfl | h
   · exact hk.1
   · exact Kp_mem hk.2 h
theorem Kp_keepL {hp hp' : Hp} {ids : List Nat} (h : Kp ids hp hp') {id : Nat} {o : AO} (ho : lk (keepL ids hp) id = some o) : lk hp' id = some o :=
 (Kp_mem h (keepL_mem hp ids ho)).trans (keepL_lk hp ids ho)
def quietOp (o : Oper) : Bool := match o.op with
 | .move _ | .assign _ | .pick .. | .binOp .. | .unOp .. | .convert .. | .load .. | .field .. | .fieldAddr .. | .indexAddr .. | .index .. | .slice ..
 | .extract .. | .makeInterface .. | .makeFunc .. | .nilCheck .. | .build .. => true
 | .call c => match c.callee with
   | .builtin .len | .builtin .cap => true
   | _ => false
 | _ => false
def flx (ex : List Nat) (o : Oper) : Bool := quietOp o && !(match o.dst with | some d => ex.any (Nat.beq d) | none => false)
def NQ (K : Nat → Tm → Hp → Prop) : Po := fun e nx tm hp => e = .normal ∧ K nx tm hp
def prs : Nat → List Oper → List (Nat × Oper)
 | _, [] => []
 | k, o :: l => (k, o) :: prs (k + 1) l
theorem prs_map : ∀ (l : List Oper) (k : Nat), (prs k l).map (·.1) = List.range' k l.length
 | [], _ => rfl
 | o :: l, k => by simp only [prs, List.map_cons, List.length_cons, List.range'_succ, prs_map l]
theorem prs_mem : ∀ (l : List Oper) (k : Nat) (p : Nat × Oper), p ∈ prs k l → k ≤ p.1 ∧ l[p.1 - k]? = some p.2
 | [], _, _, h => by cases h
 | o :: l, k, p, h => by
   rcases List.mem_cons.1 h with rfl | h
   · simp
   · obtain ⟨h1, h2⟩ := prs_mem l (k + 1) p h
     refine ⟨by omega, ?_⟩
     rw [show p.1 - k = (p.1 - (k + 1)) + 1 by omega, List.getElem?_cons_succ]; exact h2
def rdq (o : Oper) : Bool := match o.op with
 | .load _ _ => true
 | _ => false
def isSt (o : Oper) : Bool := match o.op with
 | .store _ _ _ => true
 | _ => false
def rdsOf (ex : List Nat) : Nat → List Oper → List Nat
 | _, [] => []
 | k, o :: l => bif flx ex o && rdq o then k :: rdsOf ex (k + 1) l else rdsOf ex (k + 1) l
def flF (ex : List Nat) (rs : List Nat) : FL := ⟨flx ex, rdq, fun o => isSt o && rs.all fun k => o.after.toList.any fun e => Region.binds .any e && Nat.beq e.on k⟩
def WS (C : Cy) (E : En) (ops : Array Oper) (F : FL) (ids : List Nat) (hp0 : Hp) (tail : List Oper) (br : Bool) (l : List (Nat × Oper)) (nx : Nat) (tm : Tm) (hp : Hp) (K : Nat → Tm → Hp → Prop) : Prop :=
 (∀ p ∈ l, ops[p.1]? = some p.2) → ∀ ρ a w, (br = false → HR C.toCx E.ρ0 E.n0 (keepL ids hp0) w) → ST C.toCx E ρ nx tm hp a w →
  CS C.P ops (QQ C E (NQ K)) (HR C.toCx E.ρ0 E.n0 []) (HR C.toCx E.ρ0 E.n0 (keepL ids hp0)) F (fun a w => wpList C.P ops (QQ C E (NQ K)) tail a w) (l.map (·.1)) a w
def WSX (C : Cy) (E : En) (ops : Array Oper) (F : FL) (ids : List Nat) (hp0 : Hp) (tail : List Oper) (x : Nat) (Ax : Nat → Bool) (l : List (Nat × Oper)) (nx : Nat) (tm : Tm) (hp : Hp) (K : Nat → Tm → Hp → Prop) : Prop :=
 (∀ p ∈ l, ops[p.1]? = some p.2) → ∀ ρ a w, HR C.toCx E.ρ0 E.n0 (keepL ids hp0) w → ST C.toCx E ρ nx tm hp a w →
  CSx C.P ops (QQ C E (NQ K)) (HR C.toCx E.ρ0 E.n0 []) (HR C.toCx E.ρ0 E.n0 (keepL ids hp0)) F (fun a w => wpList C.P ops (QQ C E (NQ K)) tail a w) x Ax (l.map (·.1)) a w
section
variable {C : Cy} {E : En} {ops : Array Oper} {F : FL} {br : Bool} {ids : List Nat} {hp0 : Hp} {k : Nat} {tail : List Oper} {rest : List (Nat × Oper)} {nx : Nat} {tm : Tm} {hp : Hp} {K : Nat → Tm → Hp → Prop} {Q : Po} {x : Nat} {Ax : Nat → Bool}
theorem WS_nil (h : WL C E ops tail nx tm hp (NQ K)) : WS C E ops F ids hp0 tail br [] nx tm hp K :=
 fun _ ρ a w _ H => h ρ a w H
theorem ST.kept {C : Cx} {E : En} {ρ : Nat → Nat × Nat} {nx : Nat} {tm : Tm} {hp hk : Hp} {a : Act} {w w' : World} (H : ST C E ρ nx tm hp a w) (hS : HR C E.ρ0 E.n0 hk w') :
 ST C ⟨w', fun _ => True, fun _ => True, 0, fun i => (i, 0), E.nt⟩ ρ nx tm hk a w' :=
 ⟨H.defers, H.size, H.tmps, hS.congr H.agree H.n0, ⟨fun _ _ h => absurd trivial h, fun _ _ _ _ => .inl trivial, fun _ _ _ _ => .inl (.inl trivial), Nat.le_refl _, rfl, rfl, rfl⟩, Nat.zero_le _, fun i h => absurd h (Nat.not_lt_zero _)⟩
def Gives (C : Cy) (o : Oper) (nx : Nat) (tm : Tm) (hp : Hp) (av : AV) : Prop :=
 ∀ E ρ a w, ST C.toCx E ρ nx tm hp a w → (execOp a.eval o).run C.P w = .ok (.value (av.den ρ)) w ∧ av.lt nx
theorem Gives.pv {o : Oper} {φ : Prop} {av : AV} (hv : Eng.pv C tm hp o.op = some (φ, av)) (hφ : φ) : Gives C o nx tm hp av := fun _ _ _ _ H => pv_sound H hv hφ
def putTm (d : Option Nat) (av : AV) (tm : Tm) : Tm := match d with | none => tm | some d => (d, av) :: tm
theorem ST.putD {ρ : Nat → Nat × Nat} {a : Act} {w : World} (H : ST C.toCx E ρ nx tm hp a w) {d : Option Nat} {av : AV} (hd : ∀ d', d = some d' → d' < E.nt) (hl : av.lt nx) :
 ST C.toCx E ρ nx (putTm d av tm) hp (a.put d (av.den ρ)) w := by
 cases d with
 | none => exact H
 | some d => exact H.put (hd d rfl) hl
theorem HR.nilH {ρ ρ0 : Nat → Nat × Nat} {n n0 : Nat} {hp : Hp} {w : World} (H : HR C.toCx ρ n hp w) : HR C.toCx ρ0 n0 [] w :=
 ⟨fun _ _ h => (by cases h), fun _ _ h => (by cases h), fun _ _ _ _ h => (by cases h), fun _ _ h => (by cases h), H.glob⟩
theorem leans {o : Oper} {ρ : Nat → Nat × Nat} {a : Act} {w w' : World} (H : ST C.toCx E ρ nx tm hp a w) (hS' : So (HR C.toCx E.ρ0 E.n0 []) (HR C.toCx E.ρ0 E.n0 (keepL ids hp0)) F o w') :
 ST C.toCx ⟨w', fun _ => True, fun _ => True, 0, fun i => (i, 0), E.nt⟩ ρ nx tm (bif F.rq o then keepL ids hp0 else []) a w' := by
 cases hr : F.rq o
 · exact H.kept hS'.1
 · exact H.kept (hS'.2 hr)
theorem WS_gives {o : Oper} {av : AV} (hq : F.fl o = true) (hb : (F.rq o && br) = false) (hv : Gives C o nx tm (bif F.rq o then keepL ids hp0 else []) av) (hg : wanted ops tm o.guard = some true) (hd : ∀ d', o.dst = some d' → d' < E.nt)
 (h : WS C E ops F ids hp0 tail br rest nx (putTm o.dst av tm) hp K) : WS C E ops F ids hp0 tail br ((k, o) :: rest) nx tm hp K := by
 intro hr ρ a w hS H
 have hSo : So (HR C.toCx E.ρ0 E.n0 []) (HR C.toCx E.ρ0 E.n0 (keepL ids hp0)) F o w := ⟨H.heap.nilH, fun hq => hS (by rw [hq] at hb; simpa using hb)⟩
 refine (CS_quiet (hr (k, o) (List.mem_cons_self ..)) hq).2 ⟨av.den ρ, .inl ⟨wanted_sound H hg, fun w' hS' => (hv _ _ _ _ (leans H hS')).1⟩, ?_⟩
 exact h (fun p hp => hr p (List.mem_cons_of_mem _ hp)) ρ _ w hS (H.putD hd (hv _ _ _ _ (leans H hSo)).2)
theorem WSX_gives {o : Oper} {av : AV} (hx : Ax k = false) (hq : F.fl o = true) (hv : Gives C o nx tm (bif F.rq o then keepL ids hp0 else []) av) (hg : wanted ops tm o.guard = some true) (hd : ∀ d', o.dst = some d' → d' < E.nt)
 (h : WSX C E ops F ids hp0 tail x Ax rest nx (putTm o.dst av tm) hp K) : WSX C E ops F ids hp0 tail x Ax ((k, o) :: rest) nx tm hp K := by
 intro hr ρ a w hS H
 have hSo : So (HR C.toCx E.ρ0 E.n0 []) (HR C.toCx E.ρ0 E.n0 (keepL ids hp0)) F o w := ⟨H.heap.nilH, fun _ => hS⟩
 refine (CSx_quiet (hr (k, o) (List.mem_cons_self ..)) hx hq).2 ⟨av.den ρ, .inl ⟨wanted_sound H hg, fun w' hS' => (hv _ _ _ _ (leans H hS')).1⟩, ?_⟩
 exact h (fun p hp => hr p (List.mem_cons_of_mem _ hp)) ρ _ w hS (H.putD hd (hv _ _ _ _ (leans H hSo)).2)
theorem dlt {d n : Nat} (h : Nat.blt d n = true) : ∀ d', some d = some d' → d' < n := by
 intro d' e; cases e; simpa [Nat.blt_eq] using h
theorem WS_val {d : Nat} {op : Op} {ty : TypeId} {pos : String} {af : Array Edge} {g : Option (Nat × Bool)} {φ : Prop} {av : AV}
 (hq : F.fl ⟨some d, op, ty, pos, af, g⟩ = true) (hb : (F.rq ⟨some d, op, ty, pos, af, g⟩ && br) = false)
 (hv : pv C tm (bif F.rq ⟨some d, op, ty, pos, af, g⟩ then keepL ids hp0 else []) op = some (φ, av)) (hg : wanted ops tm g = some true) (hd : Nat.blt d E.nt = true) (hφ : φ)
 (h : WS C E ops F ids hp0 tail br rest nx ((d, av) :: tm) hp K) : WS C E ops F ids hp0 tail br ((k, ⟨some d, op, ty, pos, af, g⟩) :: rest) nx tm hp K :=
 WS_gives (o := ⟨some d, op, ty, pos, af, g⟩) hq hb (Gives.pv hv hφ) hg (dlt hd) h
theorem WSX_val {d : Nat} {op : Op} {ty : TypeId} {pos : String} {af : Array Edge} {g : Option (Nat × Bool)} {φ : Prop} {av : AV} (hx : Ax k = false)
 (hq : F.fl ⟨some d, op, ty, pos, af, g⟩ = true)
 (hv : pv C tm (bif F.rq ⟨some d, op, ty, pos, af, g⟩ then keepL ids hp0 else []) op = some (φ, av)) (hg : wanted ops tm g = some true) (hd : Nat.blt d E.nt = true) (hφ : φ)
 (h : WSX C E ops F ids hp0 tail x Ax rest nx ((d, av) :: tm) hp K) : WSX C E ops F ids hp0 tail x Ax ((k, ⟨some d, op, ty, pos, af, g⟩) :: rest) nx tm hp K :=
 WSX_gives (o := ⟨some d, op, ty, pos, af, g⟩) hx hq (Gives.pv hv hφ) hg (dlt hd) h
theorem WS_skipD {o : Oper} (hg : wanted ops tm o.guard = some false) (hbr : F.fl o = false → br = false) (hd : ∀ d', o.dst = some d' → d' < E.nt)
 (h : WS C E ops F ids hp0 tail br rest nx (putTm o.dst (.v undef) tm) hp K) : WS C E ops F ids hp0 tail br ((k, o) :: rest) nx tm hp K := by
 intro hr ρ a w hS H
 have hi : ops[k]? = some o := hr (k, o) (List.mem_cons_self ..)
 have hw := wanted_sound H hg
 have hc := h (fun p hp => hr p (List.mem_cons_of_mem _ hp)) ρ _ w hS (H.putD (av := .v undef) hd trivial)
 cases hq : F.fl o
 · refine (CS_loud hi hq).2 ?_
   unfold wpOp
   simp only [hi, hw, Bool.false_eq_true, if_false]
   exact ⟨⟨H.heap.nilH, fun _ => hS (hbr hq)⟩, hc⟩
 · exact (CS_quiet hi hq).2 ⟨undef, .inr ⟨hw, rfl⟩, hc⟩
theorem WS_skip {d : Nat} {op : Op} {ty : TypeId} {pos : String} {af : Array Edge} {g : Option (Nat × Bool)}
 (hg : wanted ops tm g = some false) (hbr : F.fl ⟨some d, op, ty, pos, af, g⟩ = false → br = false) (hd : Nat.blt d E.nt = true) (h : WS C E ops F ids hp0 tail br rest nx ((d, .v undef) :: tm) hp K) :
 WS C E ops F ids hp0 tail br ((k, ⟨some d, op, ty, pos, af, g⟩) :: rest) nx tm hp K :=
 WS_skipD (o := ⟨some d, op, ty, pos, af, g⟩) hg hbr (dlt hd) h
theorem WSX_skipD {o : Oper} (hx : Ax k = false) (hq : F.fl o = true) (hg : wanted ops tm o.guard = some false) (hd : ∀ d', o.dst = some d' → d' < E.nt)
 (h : WSX C E ops F ids hp0 tail x Ax rest nx (putTm o.dst (.v undef) tm) hp K) : WSX C E ops F ids hp0 tail x Ax ((k, o) :: rest) nx tm hp K := by
 intro hr ρ a w hS H
 have hi : ops[k]? = some o := hr (k, o) (List.mem_cons_self ..)
 have hw := wanted_sound H hg
 exact (CSx_quiet hi hx hq).2 ⟨undef, .inr ⟨hw, rfl⟩, h (fun p hp => hr p (List.mem_cons_of_mem _ hp)) ρ _ w hS (H.putD (av := .v undef) hd trivial)⟩
theorem Oper.wp_mono2 {P : Program} {o : Oper} {a : Act} {w : World} {X X' : Act → World → Prop} {Y Y' : Exit → Act → World → Prop} (h : ∀ a w, X a w → X' a w)
 (hp : ∀ c a w, Y (.panic c) a w → Y' (.panic c) a w) (hl : LetsOut Y → LetsOut Y') (hh : o.wp P a w X Y) : o.wp P a w X' Y' := by
 unfold Oper.wp at *
 generalize (execOp a.eval o).run P w = r at *
 cases r with
 | ok n w' =>
   cases n <;> simp only [Oper.upon] at hh ⊢ <;>
    first
     | exact h _ _ hh
     | exact Calls.mono hh (fun e w'' he => by cases e <;> first | exact h _ _ he | exact hp _ _ _ he | exact hl he)
     | exact Rows.mono hh (fun _ _ he => h _ _ he)
 | halt x w' => cases x <;> simp only [Oper.upon] at hh ⊢ <;> exact hp _ _ _ hh
theorem kept_again {ρ' : Nat → Nat × Nat} {nx' : Nat} {tm' : Tm} {hp' : Hp} {a' : Act} {w' : World} (H' : ST C.toCx E ρ' nx' tm' hp' a' w') (hk : Kp ids hp0 hp')
 (hkl : ∀ id o, lk (keepL ids hp0) id = some o → id < E.n0 ∧ o.lt E.n0) : HR C.toCx E.ρ0 E.n0 (keepL ids hp0) w' := by
 have hs := H'.heap.sub (hp' := keepL ids hp0) (fun id o ho => Kp_keepL hk ho)
 have hid : ∀ {id o}, lk (keepL ids hp0) id = some o → E.ρ0 id = ρ' id := fun ho => (H'.agree _ (hkl _ _ ho).1).symm
 refine ⟨?_, ?_, ?_, ?_, hs.glob⟩
 · intro id o ho
   obtain ⟨h1, h2⟩ := hkl id o ho
   refine ⟨h1, h2, ?_⟩
   rw [hid ho, ← AO.is_congr H'.agree _ h2]
   exact (hs.objs id o ho).2.2
 · intro id o ho hl
   rw [hid ho]; exact hs.bound id o ho hl
 · intro id o id' o' h1 h2 hm hl hne
   rw [hid h1, hid h2]; exact hs.sep id o id' o' h1 h2 hm hl hne
 · intro id o ho hm
   rw [hid ho]; exact hs.apart id o ho hm
theorem wpOp_of_one {P : Program} {o : Oper} {Y : Exit → Act → World → Prop} {X : Act → World → Prop} {Y' : Exit → Act → World → Prop} {a : Act} {w : World} (hi : ops[k]? = some o)
 (hx : wpList P ops Y [o] a w) (hn : ∀ e a w, Y e a w → e = .normal) (key : ∀ a' w', Y .normal a' w' → X a' w') : wpOp P ops Y' k X a w := by
 unfold wpList at hx
 unfold wpOp
 simp only [hi]
 split
 · rename_i hw
   rw [if_pos hw] at hx
   rcases hx with hx | ⟨_, hx⟩
   · refine .inl (Oper.wp_mono2 key ?_ ?_ hx)
     · intro c a' w' h; cases hn _ _ _ h
     · rintro ⟨a', w', h⟩; cases hn _ _ _ h
   · obtain ⟨a', w', h⟩ := hx; cases hn _ _ _ h
 · rename_i hw
   rw [if_neg hw] at hx
   exact key _ _ hx
theorem NQ_normal {K : Nat → Tm → Hp → Prop} {e : Exit} {a : Act} {w : World} (h : QQ C E (NQ K) e a w) : e = .normal := by
 obtain ⟨_, _, _, _, _, h, _⟩ := h; exact h
theorem WS_loud {o : Oper} (hq : F.fl o = false)
 (h : WL C E ops [o] nx tm hp (NQ fun nx' tm' hp' => (F.bl o = false → Kp ids hp0 hp') ∧ WS C E ops F ids hp0 tail (F.bl o) rest nx' tm' hp' K))
 (hkl : ∀ id o, lk (keepL ids hp0) id = some o → id < E.n0 ∧ o.lt E.n0) : WS C E ops F ids hp0 tail br ((k, o) :: rest) nx tm hp K := by
 intro hr ρ a w hS H
 have hi : ops[k]? = some o := hr (k, o) (List.mem_cons_self ..)
 refine (CS_loud hi hq).2 (wpOp_of_one hi (h ρ a w H) (fun _ _ _ => NQ_normal) ?_)
 rintro a' w' ⟨ρ', nx', tm', hp', H', _, hk, hws⟩
 have hS' : F.bl o = false → HR C.toCx E.ρ0 E.n0 (keepL ids hp0) w' := fun hb => kept_again H' (hk hb) hkl
 exact ⟨⟨H'.heap.nilH, hS'⟩, hws (fun p hp => hr p (List.mem_cons_of_mem _ hp)) ρ' a' w' hS' H'⟩
theorem WSX_loud {o ox : Oper} (hxo : ops[x]? = some ox) (hx : Ax k = false) (hq : F.fl o = false) (hb : F.bl o = false)
 (h1 : WS C E ops F ids hp0 tail false ((x, ox) :: (k, o) :: rest) nx tm hp K)
 (h : WL C E ops [o] nx tm hp (NQ fun nx' tm' hp' => Kp ids hp0 hp' ∧ WSX C E ops F ids hp0 tail x Ax rest nx' tm' hp' K))
 (hkl : ∀ id o, lk (keepL ids hp0) id = some o → id < E.n0 ∧ o.lt E.n0) : WSX C E ops F ids hp0 tail x Ax ((k, o) :: rest) nx tm hp K := by
 intro hr ρ a w hS H
 have hi : ops[k]? = some o := hr (k, o) (List.mem_cons_self ..)
 refine (CSx_loud hi hx hq).2 ⟨h1 ?_ ρ a w (fun _ => hS) H, wpOp_of_one hi (h ρ a w H) (fun _ _ _ => NQ_normal) ?_⟩
 · intro p hp
   rcases List.mem_cons.1 hp with rfl | hp
   · exact hxo
   · exact hr p hp
 · rintro a' w' ⟨ρ', nx', tm', hp', H', _, hk, hws⟩
   have hS' := kept_again H' hk hkl
   exact ⟨⟨H'.heap.nilH, fun _ => hS'⟩, hws (fun p hp => hr p (List.mem_cons_of_mem _ hp)) ρ' a' w' hS' H'⟩
theorem WSX_ax {o ox : Oper} (hxo : ops[x]? = some ox) (hx : Ax k = true)
 (h1 : WS C E ops F ids hp0 tail false ((x, ox) :: (k, o) :: rest) nx tm hp K) : WSX C E ops F ids hp0 tail x Ax ((k, o) :: rest) nx tm hp K := by
 intro hr ρ a w hS H
 have hi : ops[k]? = some o := hr (k, o) (List.mem_cons_self ..)
 refine (CSx_ax hi hx).2 (h1 ?_ ρ a w (fun _ => hS) H)
 intro p hp
 rcases List.mem_cons.1 hp with rfl | hp
 · exact hxo
 · exact hr p hp
theorem WSX_nil {ox : Oper} (hxo : ops[x]? = some ox) (h1 : WS C E ops F ids hp0 tail false [(x, ox)] nx tm hp K) : WSX C E ops F ids hp0 tail x Ax [] nx tm hp K :=
 fun _ ρ a w hS H => h1 (fun p hp => by rw [List.mem_singleton] at hp; subst hp; exact hxo) ρ a w (fun _ => hS) H
theorem CT_of_list {P : Program} {Y : Exit → Act → World → Prop} : ∀ (l : List Oper) (k : Nat), (∀ j o, l[j]? = some o → ops[k + j]? = some o) → ∀ (a : Act) (w : World), wpList P ops Y l a w → CT P ops Y (List.range' k l.length) a w
 | [], _, _, a, w, h => h
 | o :: l, k, hl, a, w, h => by
   rw [List.length_cons, List.range'_succ]
   have hi : ops[k]? = some o := by simpa using hl 0 o rfl
   have hl' : ∀ j o, l[j]? = some o → ops[k + 1 + j]? = some o := fun j o' ho => by
    have := hl (j + 1) o' (by simpa using ho); rwa [show k + (j + 1) = k + 1 + j by omega] at this
   show wpOp P ops Y k (CT P ops Y (List.range' (k + 1) l.length)) a w
   unfold wpList at h
   unfold wpOp
   simp only [hi]
   split
   · rename_i hw
     rw [if_pos hw] at h
     rcases h with h | h
     · exact .inl (Oper.wp_mono2 (fun a w h => CT_of_list l (k + 1) hl' a w h) (fun _ _ _ h => h) (fun h => h) h)
     · exact .inr h
   · rename_i hw
     rw [if_neg hw] at h
     exact CT_of_list l (k + 1) hl' _ _ h
theorem draw_pre {id : Nat} (hm : C.P.follows .mixedOrders = true)
 (h : ∀ ρ0 : Nat → Nat × Nat, (∀ id o, lk (keepL ids hp) id = some o → id < nx ∧ o.lt nx) → ∀ a w, HR C.toCx ρ0 nx (keepL ids hp) w → ST C.toCx ⟨E.w0, E.S, E.T, nx, ρ0, E.nt⟩ ρ0 nx tm hp a w →
  wpAny C.P .any ops (QQ C ⟨E.w0, E.S, E.T, nx, ρ0, E.nt⟩ (NQ fun nx tm hp => Q .normal nx tm hp)) ops.size (Array.replicate ops.size false) a w) : W C E (.region id ops true) nx tm hp Q := by
 intro ρ a w H
 have hkl : ∀ id o, lk (keepL ids hp) id = some o → id < nx ∧ o.lt nx := fun id o ho => ⟨(H.heap.objs id o (keepL_lk _ _ ho)).1, (H.heap.objs id o (keepL_lk _ _ ho)).2.1⟩
 have H1 : ST C.toCx ⟨E.w0, E.S, E.T, nx, ρ, E.nt⟩ ρ nx tm hp a w.drew :=
  ⟨H.defers, H.size, H.tmps, H.heap.drew, H.fr.drew, Nat.le_refl _, fun _ _ => rfl⟩
 have hS : HR C.toCx ρ nx (keepL ids hp) w.drew := H.heap.drew.sub fun id o ho => keepL_lk _ _ ho
 refine wp_mono (wp_region_any hm (h ρ hkl a w.drew hS H1)) ?_
 rintro e a' w' ⟨ρ', nx', tm', hp', H', he, hq⟩
 subst he
 exact ⟨ρ', nx', tm', hp', ⟨H'.defers, H'.size, H'.tmps, H'.heap, H'.fr, Nat.le_trans H.n0 H'.n0, fun i hi => (H'.agree i (Nat.lt_of_lt_of_le hi H.n0)).trans (H.agree i hi)⟩, hq⟩
theorem nq_np {K : Nat → Tm → Hp → Prop} : ∀ c a' w', ¬ QQ C E (NQ K) (.panic c) a' w' := by
 rintro c a' w' ⟨_, _, _, _, _, he, _⟩; cases he
theorem nq_nl {K : Nat → Tm → Hp → Prop} : ¬ LetsOut (QQ C E (NQ K)) := by
 rintro ⟨a', w', _, _, _, _, _, he, _⟩; cases he
theorem W_draw {id : Nat} (ids : List Nat) (ex : List Nat) (m : Nat) (hm : C.P.follows .mixedOrders = true) (hc : calm ops (flF ex (rdsOf ex 0 ops.toList)) m 100000 = true) (hx : Nat.ble ops.toList.length 100000 = true)
 (h : ∀ ρ0 : Nat → Nat × Nat, (∀ id o, lk (keepL ids hp) id = some o → id < nx ∧ o.lt nx) →
  WS C ⟨E.w0, E.S, E.T, nx, ρ0, E.nt⟩ ops (flF ex (rdsOf ex 0 ops.toList)) ids hp (ops.toList.drop m) false (prs 0 (ops.toList.take m)) nx tm hp (fun nx tm hp => Q .normal nx tm hp)) : W C E (.region id ops true) nx tm hp Q := by
 refine draw_pre (ids := ids) hm fun ρ0 hkl a w hS H => ?_
 have hx := Nat.le_of_ble_eq_true hx
 have hml : m ≤ ops.toList.length := by
  have := (calm_OK hc).le; simpa using this
 have hcs := h ρ0 hkl (fun p hp => by
  obtain ⟨_, h2⟩ := prs_mem _ _ _ hp
  rw [Nat.sub_zero] at h2
  have : p.1 < (ops.toList.take m).length := (List.getElem?_eq_some_iff.1 h2).1
  rw [List.length_take] at this
  rw [List.getElem?_take_of_lt (by omega)] at h2
  simpa using h2) ρ0 a w (fun _ => hS) H
 rw [prs_map, List.length_take, Nat.min_eq_left hml] at hcs
 refine calm_any (S0 := HR C.toCx ρ0 nx []) (S := HR C.toCx ρ0 nx (keepL ids hp)) hc (by simpa using hx) nq_np nq_nl ?_ H.heap.nilH hS hcs
 intro a w h
 have := CT_of_list (ops.toList.drop m) m (fun j o ho => by rw [List.getElem?_drop] at ho; simpa using ho) a w h
 rwa [List.length_drop, Array.length_toList] at this
theorem W_drawX {id : Nat} (ids : List Nat) (ex : List Nat) (m x : Nat) (hm : C.P.follows .mixedOrders = true) (hc : calm ops (flF ex (rdsOf ex 0 ops.toList)) m x = true) (hf : floatOK ops (flF ex (rdsOf ex 0 ops.toList)) m x = true)
 (h : ∀ ρ0 : Nat → Nat × Nat, (∀ id o, lk (keepL ids hp) id = some o → id < nx ∧ o.lt nx) →
  WSX C ⟨E.w0, E.S, E.T, nx, ρ0, E.nt⟩ ops (flF ex (rdsOf ex 0 ops.toList)) ids hp (ops.toList.drop m) x (fun i => ((ancs ops.toList []).getD i 0).testBit x) (prs 0 (ops.toList.take x) ++ prs (x + 1) ((ops.toList.take m).drop (x + 1))) nx tm hp (fun nx tm hp => Q .normal nx tm hp)) : W C E (.region id ops true) nx tm hp Q := by
 refine draw_pre (ids := ids) hm fun ρ0 hkl a w hS H => ?_
 have hml : m ≤ ops.toList.length := by
  have := (calm_OK hc).le; simpa using this
 obtain ⟨ox, O⟩ := float_OK hc hf
 have hxm := O.xm
 have hcs := h ρ0 hkl (fun p hp => by
  rcases List.mem_append.1 hp with hp | hp
  · obtain ⟨_, h2⟩ := prs_mem _ _ _ hp
    rw [Nat.sub_zero] at h2
    have : p.1 < (ops.toList.take x).length := (List.getElem?_eq_some_iff.1 h2).1
    rw [List.length_take] at this
    rw [List.getElem?_take_of_lt (by omega)] at h2
    simpa using h2
  · obtain ⟨h1, h2⟩ := prs_mem _ _ _ hp
    have hlt : p.1 - (x + 1) < ((ops.toList.take m).drop (x + 1)).length := (List.getElem?_eq_some_iff.1 h2).1
    rw [List.length_drop, List.length_take] at hlt
    rw [List.getElem?_drop, show x + 1 + (p.1 - (x + 1)) = p.1 by omega, List.getElem?_take_of_lt (by omega)] at h2
    simpa using h2) ρ0 a w hS H
 rw [List.map_append, prs_map, prs_map, List.length_take, List.length_drop, List.length_take, Nat.min_eq_left hml, Nat.min_eq_left (by omega)] at hcs
 refine float_any (S0 := HR C.toCx ρ0 nx []) (S := HR C.toCx ρ0 nx (keepL ids hp)) hc hf nq_np nq_nl ?_ H.heap.nilH hS hcs
 intro a w h
 have := CT_of_list (ops.toList.drop m) m (fun j o ho => by rw [List.getElem?_drop] at ho; simpa using ho) a w h
 rwa [List.length_drop, Array.length_toList] at this
end
end Go.Eng
namespace Go.Eng
def bytesOfN (xs : List Int) : List UInt8 := xs.map fun n => UInt8.ofNat n.toNat
theorem run_val2 {P : Program} {w w' : World} {s : Sem Value} {v : Value} (h : s.run P w = .ok v w') : (do pure (.value (← s)) : Sem Next).run P w = .ok (.value v) w' := by
 simp only [Sem.run_bind, h, Result.andThen_ok, Sem.run_pure]
section
variable {C : Cy} {E : En} {ops : Array Oper} {rest : List Oper} {nx : Nat} {tm : Tm} {hp : Hp} {Q : Po}
theorem WL_string {d : Nat} {src dst e : TypeId} {x : Operand} {ty : TypeId} {pos : String} {af : Array Edge} {g : Option (Nat × Bool)} {ss sd te : TS} {nl : Bool} {id off len cap : Nat} {m : Option Nat} {eo : TypeId} {xs : List Int}
 (hx : ev tm x = some (.sl nl id 1 off len cap)) (hs : C.ti src = some ss) (hss : ss.desc = .slice e) (hd' : C.ti dst = some sd) (hsd : sd.desc = .string) (hte : C.ti e = some te) (hted : te.desc = .int .u8)
 (ho : lk hp id = some (.ints eo m .u8 xs)) (hb : off + len ≤ xs.length ∧ len ≤ cap)
 (hg : wanted ops tm g = some true) (hd : Nat.blt d E.nt = true)
 (h : WL C E ops rest nx ((d, .str (bytesOfN ((xs.drop off).take len))) :: tm) hp Q) :
 WL C E ops (⟨some d, .convert src dst x, ty, pos, af, g⟩ :: rest) nx tm hp Q := by
 intro ρ a w H
 have hu : C.P.underlying src = some (.slice e) := by rw [(C.tiok _ _ hs).1, hss]
 have hv : C.P.underlying dst = some .string := by rw [(C.tiok _ _ hd').1, hsd]
 have he : C.P.underlying e = some (.int .u8) := by rw [(C.tiok _ _ hte).1, hted]
 have hl : ((xs.drop off).take len).length = len := by rw [List.length_take, List.length_drop]; omega
 have hrun : (execOp a.eval ⟨some d, .convert src dst x, ty, pos, af, g⟩).run C.P w = .ok (.value ((AV.str (bytesOfN ((xs.drop off).take len))).den ρ)) w := by
  simp only [execOp, (H.ev hx).1, AV.den]
  refine run_val ?_
  cases hnl : (nl && Nat.beq cap 0)
  · simp only [cond_false]
    have hcell : ∀ i, i < len → w.cell? ⟨(ρ id).1, (ρ id).2 + off * 1 + i, none⟩ = some (.int .u8 (((xs.drop off).take len).getD i 0)) := by
     intro i hi
     have hg : (AO.ints eo m .u8 xs).avs[off + i]? = some (.int .u8 (((xs.drop off).take len).getD i 0)) := by
      have : off + i < xs.length := by omega
      simp only [AO.avs, List.getElem?_map, List.getD_eq_getElem?_getD, List.getElem?_take_of_lt hi, List.getElem?_drop, List.getElem?_eq_getElem this, Option.map_some, Option.getD_some]
     have := (H.heap.cell ho hg).1
     rw [Nat.mul_one, Nat.add_assoc]; exact this
    rw [run_convert_bytes_arg w src e hu he (ρ id).1 ((ρ id).2 + off * 1) len cap _ hl hcell dst hv]
    rfl
  · simp only [cond_true]
    simp only [Bool.and_eq_true] at hnl
    have hc0 := Nat.eq_of_beq_eq_true hnl.2
    have hl0 : len = 0 := by omega
    rw [run_convert_bytes_nil w src e hu he len cap dst hv, hl0]
    rfl
 exact wpList_of_run (wanted_sound H (o := ⟨some d, .convert src dst x, ty, pos, af, g⟩) hg) hrun (h _ _ _ (H.put (by simpa [Nat.blt_eq] using hd) trivial))
end
end Go.Eng
namespace Go.Eng
def lookS : List (List UInt8 × Value) → List UInt8 → Option Value
 | [], _ => none
 | (k, v) :: l, s => if s = k then some v else lookS l s
theorem bytes_eq (a b : List UInt8) : ((⟨a.toArray⟩ : ByteArray) == ⟨b.toArray⟩) = decide (a = b) := by
 show (a.toArray == b.toArray) = decide (a = b)
 rw [Bool.eq_iff_iff, beq_iff_eq, decide_eq_true_eq]
 constructor
 · intro h
   have := congrArg Array.toList h
   simpa using this
 · intro h; rw [h]
theorem findNow_str (s : List UInt8) : ∀ (arr : List MapEntry) (es : List (List UInt8 × Value)) (i : Nat), arr.map (fun e => (e.key, e.val)) = es.map (fun p => (Value.string ⟨p.1.toArray⟩, p.2)) →
 ∃ r, Instr.findNow .string (.string ⟨s.toArray⟩) arr i = some r ∧ r.map (·.2) = lookS es s
 | [], [], i, _ => ⟨none, rfl, rfl⟩
 | [], _ :: _, i, h => by simp at h
 | _ :: _, [], i, h => by simp at h
 | e :: arr, (k, v) :: es, i, h => by
   simp only [List.map_cons, List.cons.injEq, Prod.mk.injEq] at h
   obtain ⟨⟨h1, h2⟩, h3⟩ := h
   simp only [Instr.findNow, h1, Instr.sameNow, bytes_eq, lookS]
   by_cases hs : s = k
   · simp only [hs, decide_true, if_true]
     exact ⟨_, rfl, by simp [h2]⟩
   · simp only [hs, decide_false, if_false]
     exact findNow_str s arr es (i + 1) h3
theorem checkKey_str {P : Program} {w : World} {t : TypeId} (ht : P.underlying t = some .string) (b : Bool) (x : ByteArray) : (Instr.checkKey b 10000 t (.string x)).run P w = .ok () w := by
 rw [show (10000 : Nat) = 9999 + 1 from rfl, Instr.checkKey]
 simp only [Sem.run_bind, Go.run_underlying ht, Result.andThen_ok, Sem.run_pure]
section
variable {C : Cy} {E : En} {ops : Array Oper} {rest : List Oper} {nx : Nat} {tm : Tm} {hp : Hp} {Q : Po}
theorem WL_makeMap {d : Nat} {t : TypeId} {ty : TypeId} {pos : String} {af : Array Edge} {g : Option (Nat × Bool)}
 (hg : wanted ops tm g = some true) (hd : Nat.blt d E.nt = true) (h : WL C E ops rest (nx + 1) ((d, .map nx) :: tm) ((nx, .smap []) :: hp) Q) :
 WL C E ops (⟨some d, .makeMap t none, ty, pos, af, g⟩ :: rest) nx tm hp Q := by
 intro ρ a w H
 have hrun : (execOp a.eval ⟨some d, .makeMap t none, ty, pos, af, g⟩).run C.P w = .ok (.value ((AV.map nx).den (upd ρ nx w.heap.size))) (w.alloc (.map #[] 0)) := by
  simp only [execOp, AV.den, upd_same]
  exact run_val2 rfl
 exact wpList_of_run (wanted_sound H (o := ⟨some d, .makeMap t none, ty, pos, af, g⟩) hg) hrun (h _ _ _ ((H.alloc (o := .smap []) trivial ⟨#[], 0, rfl, rfl⟩).put (by simpa [Nat.blt_eq] using hd) (by simp only [AV.lt]; omega)))
theorem WL_insert {t kt et : TypeId} {m k x : Operand} {ty : TypeId} {pos : String} {af : Array Edge} {g : Option (Nat × Bool)} {st sk : TS} {id : Nat} {key : List UInt8} {xv : AV} {es : List (List UInt8 × Value)}
 (hm : ev tm m = some (.map id)) (hk : ev tm k = some (.str key)) (hx : ev tm x = some xv) (hs : C.ti t = some st) (hst : st.desc = .map kt et) (hsk : C.ti kt = some sk) (hskd : sk.desc = .string)
 (ho : lk hp id = some (.smap es)) (hxl : xv.lt 0) (hne : lookS es key = none) (hg : wanted ops tm g = some true)
 (h : WL C E ops rest nx tm ((id, .smap (es ++ [(key, xv.den fun i => (i, 0))])) :: hp) Q) :
 WL C E ops (⟨none, .insert t m k x, ty, pos, af, g⟩ :: rest) nx tm hp Q := by
 intro ρ a w H
 obtain ⟨g1, g2, arr, clock, hb, harr⟩ := H.heap.objs id _ ho
 have hbd := H.heap.bound id _ ho rfl
 have hu : C.P.underlying t = some (.map kt et) := by rw [(C.tiok _ _ hs).1, hst]
 have hv : C.P.underlying kt = some .string := by rw [(C.tiok _ _ hsk).1, hskd]
 obtain ⟨r, hr1, hr2⟩ := findNow_str key arr.toList es 0 harr
 rw [hne] at hr2
 have hr : r = none := by cases r <;> first | rfl | (simp at hr2)
 subst hr
 have hxe : xv.den ρ = xv.den fun i => (i, 0) := AV.den_congr (n := 0) (fun i h => absurd h (Nat.not_lt_zero _)) _ hxl
 have hrun : (execOp a.eval ⟨none, .insert t m k x, ty, pos, af, g⟩).run C.P w = .ok .skip { w with heap := w.heap.setIfInBounds (ρ id).1 (.map (arr.push { key := .string ⟨key.toArray⟩, val := xv.den fun i => (i, 0), born := clock }) (clock + 1)) } := by
  simp only [execOp, (H.ev hm).1, (H.ev hk).1, (H.ev hx).1, AV.den, hxe]
  simp only [Instr.mapUpdate, Sem.run_bind, Go.run_underlying hu, Result.andThen_ok, MapKept.run_getObj_map hb, checkKey_str hv, Go.Instr.findKey, Go.run_underlying hv, hr1, Sem.run_pure]
  simp only [MapKept.run_setObj_map _ hb, Result.andThen_ok]
 refine wpList_of_skip (wanted_sound H (o := ⟨none, .insert t m k x, ty, pos, af, g⟩) hg) hrun (h ρ a _ (H.set ho rfl trivial ?_ ?_ ?_ rfl rfl rfl))
 · refine ⟨arr.push { key := .string ⟨key.toArray⟩, val := xv.den fun i => (i, 0), born := clock }, clock + 1, by simp [hbd], ?_⟩
   simp only [Array.toList_push, List.map_append, harr, List.map_cons, List.map_nil]
 · simp
 · intro b hb
   exact Array.getElem?_setIfInBounds_ne (fun e => hb e.symm)
theorem WL_lookup {d : Nat} {t kt et : TypeId} {m k : Operand} {ty : TypeId} {pos : String} {af : Array Edge} {g : Option (Nat × Bool)} {st sk se : TS} {id : Nat} {s : List UInt8} {es : List (List UInt8 × Value)} {z : Value}
 (hm : ev tm m = some (.map id)) (hk : ev tm k = some (.str s)) (hs : C.ti t = some st) (hst : st.desc = .map kt et) (hsk : C.ti kt = some sk) (hskd : sk.desc = .string) (hse : C.ti et = some se) (hz : se.zero = some z)
 (ho : lk hp id = some (.smap es)) (hg : wanted ops tm g = some true) (hd : Nat.blt d E.nt = true)
 (h1 : ∀ v, lookS es s = some v → WL C E ops rest nx ((d, .tup [absV v, .bool true]) :: tm) hp Q)
 (h2 : lookS es s = none → WL C E ops rest nx ((d, .tup [absV z, .bool false]) :: tm) hp Q) :
 WL C E ops (⟨some d, .lookup t m k true, ty, pos, af, g⟩ :: rest) nx tm hp Q := by
 intro ρ a w H
 obtain ⟨g1, g2, arr, clock, hb, harr⟩ := H.heap.objs id _ ho
 have hu : C.P.underlying t = some (.map kt et) := by rw [(C.tiok _ _ hs).1, hst]
 have hv : C.P.underlying kt = some .string := by rw [(C.tiok _ _ hsk).1, hskd]
 obtain ⟨r, hr1, hr2⟩ := findNow_str s arr.toList es 0 harr
 have hzv : (zeroValue et).run C.P w = .ok z w := run_zeroValue hse hz
 have hpre : ∀ v w', (Instr.lookup t (.map (some (ρ id).1)) (.string ⟨s.toArray⟩) true).run C.P w = .ok v w' →
  (execOp a.eval ⟨some d, .lookup t m k true, ty, pos, af, g⟩).run C.P w = .ok (.value v) w' := by
  intro v w' h
  simp only [execOp, (H.ev hm).1, (H.ev hk).1, AV.den]
  exact run_val2 h
 cases r with
 | none =>
   have hr2 : lookS es s = none := hr2.symm
   refine wpList_of_run (wanted_sound H (o := ⟨some d, .lookup t m k true, ty, pos, af, g⟩) hg) (hpre (.tuple #[z, .bool false]) w ?_) ?_
   · simp only [Instr.lookup, Sem.run_bind, Go.run_underlying hu, Result.andThen_ok, MapKept.run_getObj_map hb, checkKey_str hv, Go.Instr.findKey, Go.run_underlying hv, hr1, Sem.run_pure, hzv, if_true]
   · have := h2 hr2 ρ _ w (H.put (d := d) (av := .tup [absV z, .bool false]) (by simpa [Nat.blt_eq] using hd) ⟨lt_absV _ _, trivial, trivial⟩)
     simpa only [AV.den, denL, den_absV] using this
 | some p =>
   have hr2 : lookS es s = some p.2 := hr2.symm
   refine wpList_of_run (wanted_sound H (o := ⟨some d, .lookup t m k true, ty, pos, af, g⟩) hg) (hpre (.tuple #[p.2, .bool true]) w ?_) ?_
   · obtain ⟨i, v⟩ := p
     simp only [Instr.lookup, Sem.run_bind, Go.run_underlying hu, Result.andThen_ok, MapKept.run_getObj_map hb, checkKey_str hv, Go.Instr.findKey, Go.run_underlying hv, hr1, Sem.run_pure, if_true]
   · have := h1 p.2 hr2 ρ _ w (H.put (d := d) (av := .tup [absV p.2, .bool true]) (by simpa [Nat.blt_eq] using hd) ⟨lt_absV _ _, trivial, trivial⟩)
     simpa only [AV.den, denL, den_absV] using this
end
end Go.Eng
