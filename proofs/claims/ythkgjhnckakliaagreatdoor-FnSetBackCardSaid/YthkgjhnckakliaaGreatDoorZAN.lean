/- A part of the proof that the rows statement FnSetBack holds; no conditions. -/
import Derived.Test.YthkgjhnckakliaaGreatDoorZAM
set_option linter.unusedVariables false
set_option linter.unusedSimpArgs false
set_option linter.unusedSectionVars false
namespace Go.Eng
variable {κ τ κ' τ' κs τs : Nat → Nat} {s s' s0 : XS} {tm : Tm} {hp hp0 : Hp} {nx nt : Nat} {X : XC} {R : XR} {E : En} {ops : Array Oper} {K : List Nat} {F : FL} {Kq : Nat → Tm → Hp → Prop}
theorem keepL_of {hp : Hp} {id : Nat} {o : AO} (ho : lk hp id = some o) : ∀ {K : List Nat}, id ∈ K → lk (keepL K hp) id = some o
 | [], h => by cases h
 | i :: l, h => by
   simp only [keepL]
   split
   · rename_i o' hi
     rw [lk_cons]
     split
     · rename_i e; subst e; rw [hi] at ho; exact ho
     · rename_i e
       rcases List.mem_cons.1 h with rfl | h
       · exact absurd rfl e
       · exact keepL_of ho h
   · rename_i hi
     rcases List.mem_cons.1 h with rfl | h
     · rw [hi] at ho; cases ho
     · exact keepL_of ho h
structure DS (s0 : XS) (κs τs : Nat → Nat) (hp0 : Hp) (K : List Nat) (E : En) : Prop where
 sub : SubH κs τs s0 hp0
 n0 : E.n0 = s0.nx
 hkl : ∀ id o, lk (keepL K hp0) id = some o → id < E.n0 ∧ o.lt E.n0
theorem oldX_some {t0 : Nat} {s : XS} {id : Nat} (h : oldX t0 s id = true) : ∃ p, s.H.get id = some p ∧ p.1 < t0 := by
 unfold oldX at h
 split at h
 · rename_i p hp; exact ⟨p, hp, by simpa [Nat.blt_eq] using h⟩
 · cases h
theorem DS.kept (D : DS s0 κs τs hp0 K E) (hg : Agr s0.nx κs τs κ τ) {id : Nat} (hid : id ∈ K) {p : Nat × XO} (h0 : s0.H.get id = some p) : lk (keepL K hp0) id = some (p.2.ao κ (τ id)) := by
 have h1 := keepL_of (D.sub.H id p h0) hid
 obtain ⟨h2, h3⟩ := D.hkl id _ h1
 rw [D.n0] at h2 h3
 rw [h1, (hg id h2).2]
 simp only [XO.ao]
 rw [avL_congr (fun i hi => (hg i hi).1) p.2.cs h3]
theorem old_back {s s1 sc : XS} {id : Nat} (h0 : LE s s1) (h1 : LE s1 sc) (h : oldX s.ck sc id = true) : ∃ p, s.H.get id = some p ∧ s1.H.get id = some p := by
 obtain ⟨p, hp, hlt⟩ := oldX_some h
 have h2 := h1.old id p hp (Nat.lt_of_lt_of_le hlt h0.ck)
 exact ⟨p, h0.old id p h2 hlt, h2⟩
theorem Kp_of {hp hp' : Hp} : ∀ {K : List Nat}, (∀ id ∈ K, lk hp' id = lk hp id) → Kp K hp hp'
 | [], _ => trivial
 | i :: l, h => ⟨h i (List.mem_cons_self ..), Kp_of fun id hid => h id (List.mem_cons_of_mem _ hid)⟩
theorem DS.Kp (D : DS s0 κs τs hp0 K E) {s1 : XS} {hp' : Hp} (hg : Agr s0.nx κs τs κ τ) (hS : SubH κ τ s1 hp') (h : ∀ id ∈ K, ∃ p, s0.H.get id = some p ∧ s1.H.get id = some p) : Eng.Kp K hp0 hp' := by
 refine Kp_of fun id hid => ?_
 obtain ⟨p, h1, h2⟩ := h id hid
 have h3 := D.kept hg hid h1
 rw [hS.H id p h2, keepL_lk _ _ h3]
theorem q_gives (D : DS s0 κs τs hp0 K E) (hF : F.rq = rdq) (hg : Agr s0.nx κs τs κ τ) (hle : LE s0 s) (hS : Sub κ τ s tm hp) {o : Oper} {v : XV} (hv : pvX X s.T s.obj o.op = some v)
 (hrd : ∀ id, rdX s.T o.op = some id → id ∈ K ∧ oldX s0.ck s id = true) : Gives X.toCy o s.nx tm (bif F.rq o then keepL K hp0 else []) (v.av κ) := by
 refine pvX_gives X hS.T hS.toSubH.objK (fun id ob hr ho => ?_) hv
 obtain ⟨h1, h2⟩ := hrd id hr
 rw [hF, rdX_rdq hr, cond_true]
 obtain ⟨p, hp, hlt⟩ := oldX_some h2
 have h0 := hle.old id p hp hlt
 unfold XS.obj at ho
 rw [hp] at ho
 cases ho
 exact D.kept hg h1 h0
theorem runD_sound (hR : RS X R) (hF : F.rq = rdq) (D : DS s0 κs τs hp0 K E) (hnt : E.nt = nt) : ∀ {l : List (Nat × Oper)} {br : Bool} {s : XS} {rd : List Nat} {r : XS × List Nat} {κ τ : Nat → Nat} {tm : Tm} {hp : Hp},
 runD X R nt s0.ck ops F br l s rd = some r → Sub κ τ s tm hp → LE s0 s → Agr s0.nx κs τs κ τ → (∀ id ∈ r.2, id ∈ K) → ((∀ id ∈ K, id ∈ r.2) ∨ ∀ id ∈ K, oldX s0.ck r.1 id = true) →
 (∀ κ' τ' tm' hp', Agr s0.nx κs τs κ' τ' → Sub κ' τ' r.1 tm' hp' → WL X.toCy E ops [] r.1.nx tm' hp' (NQ Kq)) → WS X.toCy E ops F K hp0 [] br l s.nx tm hp Kq
 | [], br, s, rd, r, κ, τ, tm, hp, h, hS, hle, hg, hK1, hK2, hfin => by
   simp only [runD] at h
   cases hb : (br || rd.all (oldX s0.ck s)) <;> rw [hb] at h
   · cases h
   cases h
   exact WS_nil (hfin κ τ tm hp hg hS)
 | (k, o) :: l, br, s, rd, r, κ, τ, tm, hp, h, hS, hle, hg, hK1, hK2, hfin => by
   have h0 := h
   simp only [runD] at h
   cases hq : F.fl o <;> rw [hq] at h
   · simp only [cond_false] at h
     cases hb : (br && !F.bl o) <;> rw [hb] at h
     case true => cases h
     simp only [cond_false] at h
     cases hb2 : (!F.bl o || (br || rd.all (oldX s0.ck s))) <;> rw [hb2] at h
     · cases h
     simp only [cond_true] at h
     split at h
     case h_2 => cases h
     rename_i s1 h1
     obtain ⟨x1, x2⟩ := LE.xop hR.toRLE h1
     obtain ⟨r1, r2, r3, r4, r5⟩ := runD_some hR.toRLE hF h
     refine WS_loud hq (xop_sound hR h1 hS hnt fun κ' τ' tm' hp' hag hS' => WL_nil ⟨rfl, fun hbl => ?_, ?_⟩) D.hkl
     · have hg' := hg.trans hag hle.nx
       refine D.Kp hg' hS'.toSubH fun id hid => ?_
       rcases hK2 with hK2 | hK2
       · obtain ⟨sc, c1, c2⟩ := r4 hbl
         exact old_back (hle.trans x1) c1 (c2 id (hK2 id hid))
       · exact old_back (hle.trans x1) r1 (hK2 id hid)
     · exact runD_sound hR hF D hnt h hS' (hle.trans x1) (hg.trans hag hle.nx) hK1 hK2 hfin
   · simp only [cond_true] at h
     cases hb : (F.rq o && br) <;> rw [hb] at h
     case true => cases h
     simp only [cond_false] at h
     split at h
     case h_2 => cases h
     rename_i p hp1
     obtain ⟨q1, q2, q3, q4, q6, q5⟩ := qop_some hp1
     obtain ⟨r1, r2, r3, r4, r5⟩ := runD_some hR.toRLE hF h
     rcases q5 with ⟨hw, v, hv, hput, hrd⟩ | ⟨hw, hput⟩
     · have hpt := putT_some hput
       refine WS_gives hq hb (q_gives D hF hg hle hS hv fun id hr => ?_) (wantedX_ok hS.T hw) (fun d' hd => by rw [hnt]; exact hpt.2.2.2.2.1 d' hd) ?_
       · obtain ⟨g1, g2⟩ := hrd id hr
         exact ⟨hK1 id (r3 id (List.mem_append_left _ g1)), g2⟩
       · have := runD_sound hR hF D hnt h (hS.put hput) (hle.trans q1) hg hK1 hK2 hfin
         rw [q2] at this
         exact this
     · have hpt := putT_some hput
       refine WS_skipD (wantedX_ok hS.T hw) (fun hf => by rw [hq] at hf; cases hf) (fun d' hd => by rw [hnt]; exact hpt.2.2.2.2.1 d' hd) ?_
       have := runD_sound hR hF D hnt h (hS.put hput) (hle.trans q1) hg hK1 hK2 hfin
       rw [q2] at this
       exact this
variable {x : Nat} {ox : Oper} {Ax : Nat → Bool}
theorem runX_some (hR : RLE R) (hF : F.rq = rdq) {t0 : Nat} : ∀ {l : List (Nat × Oper)} {s : XS} {rd : List Nat} {r : List (XS × List Nat)}, runX X R nt t0 ops F x ox Ax l s rd = some r →
 r ≠ [] ∧ ∀ q ∈ r, LE s q.1 ∧ (∀ t, ox.dst ≠ some t → (∀ p ∈ l, p.2.dst ≠ some t) → q.1.T.get t = s.T.get t) ∧ (∀ id ∈ rd, id ∈ q.2)
 | [], s, rd, r, h => by
   simp only [runX] at h
   obtain ⟨q, hq, rfl⟩ := map_some' h
   obtain ⟨r1, r2, r3, _, _⟩ := runD_some hR hF hq
   refine ⟨by simp, fun q' hq' => ?_⟩
   rw [List.mem_singleton] at hq'
   subst hq'
   exact ⟨r1, fun t h1 h2 => r2 t (fun p hp => by rw [List.mem_singleton] at hp; subst hp; exact h1), r3⟩
 | (k, o) :: l, s, rd, r, h => by
   simp only [runX] at h
   have one : ∀ {q : XS × List Nat}, runD X R nt t0 ops F false ((x, ox) :: (k, o) :: l) s rd = some q → LE s q.1 ∧ (∀ t, ox.dst ≠ some t → (∀ p ∈ (k, o) :: l, p.2.dst ≠ some t) → q.1.T.get t = s.T.get t) ∧ (∀ id ∈ rd, id ∈ q.2) := by
    intro q hq
    obtain ⟨r1, r2, r3, _, _⟩ := runD_some hR hF hq
    refine ⟨r1, fun t h1 h2 => r2 t (fun p hp => ?_), r3⟩
    rcases List.mem_cons.1 hp with rfl | hp
    · exact h1
    · exact h2 p hp
   cases hx : Ax k <;> rw [hx] at h
   · simp only [cond_false] at h
     cases hq : F.fl o <;> rw [hq] at h
     · simp only [cond_false] at h
       cases hb : F.bl o <;> rw [hb] at h
       case true => cases h
       simp only [cond_false] at h
       obtain ⟨q, hq1, h'⟩ := bind_some' h; clear h; have h := h'; clear h'
       split at h
       case h_2 => cases h
       rename_i s1 h1
       obtain ⟨r', hr', rfl⟩ := map_some' h
       obtain ⟨x1, x2⟩ := LE.xop hR h1
       obtain ⟨g1, g2⟩ := runX_some hR hF hr'
       refine ⟨by simp, fun q' hq' => ?_⟩
       rcases List.mem_cons.1 hq' with rfl | hq'
       · exact one hq1
       · obtain ⟨y1, y2, y3⟩ := g2 q' hq'
         exact ⟨x1.trans y1, fun t h1 h2 => (y2 t h1 (fun p hp => h2 p (List.mem_cons_of_mem _ hp))).trans (x2 t (h2 (k, o) (List.mem_cons_self ..))), y3⟩
     · simp only [cond_true] at h
       split at h
       case h_2 => cases h
       rename_i p hp1
       obtain ⟨q1, q2, q3, q4, q6, q5⟩ := qop_some hp1
       obtain ⟨g1, g2⟩ := runX_some hR hF h
       refine ⟨g1, fun q' hq' => ?_⟩
       obtain ⟨y1, y2, y3⟩ := g2 q' hq'
       exact ⟨q1.trans y1, fun t h1 h2 => (y2 t h1 (fun p hp => h2 p (List.mem_cons_of_mem _ hp))).trans (q4 t (h2 (k, o) (List.mem_cons_self ..))), fun id hid => y3 id (List.mem_append_right _ hid)⟩
   · simp only [cond_true] at h
     obtain ⟨q, hq, rfl⟩ := map_some' h
     refine ⟨by simp, fun q' hq' => ?_⟩
     rw [List.mem_singleton] at hq'
     subst hq'
     exact one hq
theorem runX_sound (hR : RS X R) (hF : F.rq = rdq) (D : DS s0 κs τs hp0 K E) (hnt : E.nt = nt) (hxo : ops[x]? = some ox) : ∀ {l : List (Nat × Oper)} {s : XS} {rd : List Nat} {r : List (XS × List Nat)} {κ τ : Nat → Nat} {tm : Tm} {hp : Hp},
 runX X R nt s0.ck ops F x ox Ax l s rd = some r → Sub κ τ s tm hp → LE s0 s → Agr s0.nx κs τs κ τ → (∀ q ∈ r, ∀ id ∈ q.2, id ∈ K) → (∀ q ∈ r, ∀ id ∈ K, oldX s0.ck q.1 id = true) →
 (∀ q ∈ r, ∀ κ' τ' tm' hp', Agr s0.nx κs τs κ' τ' → Sub κ' τ' q.1 tm' hp' → WL X.toCy E ops [] q.1.nx tm' hp' (NQ Kq)) → WSX X.toCy E ops F K hp0 [] x Ax l s.nx tm hp Kq
 | [], s, rd, r, κ, τ, tm, hp, h, hS, hle, hg, hK1, hK2, hfin => by
   simp only [runX] at h
   obtain ⟨q, hq, rfl⟩ := map_some' h
   exact WSX_nil hxo (runD_sound hR hF D hnt hq hS hle hg (hK1 q (List.mem_singleton.2 rfl)) (.inr (hK2 q (List.mem_singleton.2 rfl))) (hfin q (List.mem_singleton.2 rfl)))
 | (k, o) :: l, s, rd, r, κ, τ, tm, hp, h, hS, hle, hg, hK1, hK2, hfin => by
   simp only [runX] at h
   cases hx : Ax k <;> rw [hx] at h
   · simp only [cond_false] at h
     cases hq : F.fl o <;> rw [hq] at h
     · simp only [cond_false] at h
       cases hb : F.bl o <;> rw [hb] at h
       case true => cases h
       simp only [cond_false] at h
       obtain ⟨q, hq1, h'⟩ := bind_some' h; clear h; have h := h'; clear h'
       split at h
       case h_2 => cases h
       rename_i s1 h1
       obtain ⟨r', hr', rfl⟩ := map_some' h
       obtain ⟨x1, x2⟩ := LE.xop hR.toRLE h1
       obtain ⟨g1, g2⟩ := runX_some hR.toRLE hF hr'
       refine WSX_loud hxo hx hq hb (runD_sound hR hF D hnt hq1 hS hle hg (hK1 q (List.mem_cons_self ..)) (.inr (hK2 q (List.mem_cons_self ..))) (hfin q (List.mem_cons_self ..)))
        (xop_sound hR h1 hS hnt fun κ' τ' tm' hp' hag hS' => WL_nil ⟨rfl, ?_, ?_⟩) D.hkl
       · refine D.Kp (hg.trans hag hle.nx) hS'.toSubH fun id hid => ?_
         obtain ⟨q0, hq0⟩ := List.exists_mem_of_ne_nil _ g1
         exact old_back (hle.trans x1) (g2 q0 hq0).1 (hK2 q0 (List.mem_cons_of_mem _ hq0) id hid)
       · exact runX_sound hR hF D hnt hxo hr' hS' (hle.trans x1) (hg.trans hag hle.nx) (fun q hq => hK1 q (List.mem_cons_of_mem _ hq)) (fun q hq => hK2 q (List.mem_cons_of_mem _ hq)) (fun q hq => hfin q (List.mem_cons_of_mem _ hq))
     · simp only [cond_true] at h
       split at h
       case h_2 => cases h
       rename_i p hp1
       obtain ⟨q1, q2, q3, q4, q6, q5⟩ := qop_some hp1
       obtain ⟨g1, g2⟩ := runX_some hR.toRLE hF h
       obtain ⟨q0, hq0⟩ := List.exists_mem_of_ne_nil _ g1
       rcases q5 with ⟨hw, v, hv, hput, hrd⟩ | ⟨hw, hput⟩
       · have hpt := putT_some hput
         refine WSX_gives hx hq (q_gives D hF hg hle hS hv fun id hr => ?_) (wantedX_ok hS.T hw) (fun d' hd => by rw [hnt]; exact hpt.2.2.2.2.1 d' hd) ?_
         · obtain ⟨k1, k2⟩ := hrd id hr
           exact ⟨hK1 q0 hq0 id ((g2 q0 hq0).2.2 id (List.mem_append_left _ k1)), k2⟩
         · have := runX_sound hR hF D hnt hxo h (hS.put hput) (hle.trans q1) hg hK1 hK2 hfin
           rw [q2] at this
           exact this
       · have hpt := putT_some hput
         refine WSX_skipD hx hq (wantedX_ok hS.T hw) (fun d' hd => by rw [hnt]; exact hpt.2.2.2.2.1 d' hd) ?_
         have := runX_sound hR hF D hnt hxo h (hS.put hput) (hle.trans q1) hg hK1 hK2 hfin
         rw [q2] at this
         exact this
   · simp only [cond_true] at h
     obtain ⟨q, hq, rfl⟩ := map_some' h
     exact WSX_ax hxo hx (runD_sound hR hF D hnt hq hS hle hg (hK1 q (List.mem_singleton.2 rfl)) (.inr (hK2 q (List.mem_singleton.2 rfl))) (hfin q (List.mem_singleton.2 rfl)))
end Go.Eng
namespace Go.Eng
variable {κ τ κs τs : Nat → Nat} {s sb N : XS} {tm tm0 : Tm} {hp hp0 : Hp} {C : Cx} {E : En}
theorem eqv_ok {a b : Value} (h : eqv a b = true) : a = b := by
 unfold eqv at h
 split at h <;> first | rfl | cases h
mutual
theorem eqo_ok (n : Nat) : ∀ (x y : XV), x.eqo n y = true → x = y ∧ ∀ κ, (x.av κ).lt n
 | .int k a, y, h => by
   cases y <;> simp only [XV.eqo, Bool.false_eq_true, Bool.and_eq_true] at h
   obtain ⟨h1, h2⟩ := h
   rw [ikeq_eq h1, eq_of_beq h2]
   exact ⟨rfl, fun _ => trivial⟩
 | .bool a, y, h => by
   cases y <;> simp only [XV.eqo, Bool.false_eq_true] at h
   rw [eq_of_beq h]
   exact ⟨rfl, fun _ => trivial⟩
 | .str l, y, h => by cases y <;> simp only [XV.eqo, Bool.false_eq_true] at h
 | .v a, y, h => by
   cases y <;> simp only [XV.eqo, Bool.false_eq_true] at h
   rw [eqv_ok h]
   exact ⟨rfl, fun _ => trivial⟩
 | .ptr i a, y, h => by
   cases y <;> simp only [XV.eqo, Bool.false_eq_true, Bool.and_eq_true] at h
   obtain ⟨⟨h1, h2⟩, h3⟩ := h
   have e1 := Nat.eq_of_beq_eq_true h1
   have e2 := Nat.eq_of_beq_eq_true h2
   subst e1 e2
   exact ⟨rfl, fun _ => by show i < n; simpa [Nat.blt_eq] using h3⟩
 | .sl i m a l, y, h => by
   cases y <;> simp only [XV.eqo, Bool.false_eq_true, Bool.and_eq_true] at h
   obtain ⟨⟨⟨⟨h1, h2⟩, h3⟩, h4⟩, h5⟩ := h
   have e1 := Nat.eq_of_beq_eq_true h1
   have e2 := Nat.eq_of_beq_eq_true h2
   have e3 := Nat.eq_of_beq_eq_true h3
   have e4 := Nat.eq_of_beq_eq_true h4
   subst e1 e2 e3 e4
   exact ⟨rfl, fun _ => by show i < n; simpa [Nat.blt_eq] using h5⟩
 | .esl .., y, h => by cases y <;> simp only [XV.eqo, Bool.false_eq_true] at h
 | .agg l, y, h => by
   cases y <;> simp only [XV.eqo, Bool.false_eq_true] at h
   obtain ⟨h1, h2⟩ := eqoL_ok n _ _ h
   exact ⟨by rw [h1], h2⟩
 | .tup l, y, h => by
   cases y <;> simp only [XV.eqo, Bool.false_eq_true] at h
   obtain ⟨h1, h2⟩ := eqoL_ok n _ _ h
   exact ⟨by rw [h1], h2⟩
 | .fn .., y, h => by cases y <;> simp only [XV.eqo, Bool.false_eq_true] at h
 | .ifc .., y, h => by cases y <;> simp only [XV.eqo, Bool.false_eq_true] at h
theorem eqoL_ok (n : Nat) : ∀ (x y : List XV), eqoL n x y = true → x = y ∧ ∀ κ, ltL n (avL κ x)
 | [], y, h => by
   cases y <;> simp only [eqoL, Bool.false_eq_true] at h
   exact ⟨rfl, fun _ => trivial⟩
 | a :: l, y, h => by
   cases y <;> simp only [eqoL, Bool.false_eq_true, Bool.and_eq_true] at h
   obtain ⟨h1, h2⟩ := eqo_ok n _ _ h.1
   obtain ⟨h3, h4⟩ := eqoL_ok n _ _ h.2
   exact ⟨by rw [h1, h3], fun κ => ⟨h2 κ, h4 κ⟩⟩
end
def enumL {α : Type} (f : Nat → Option α) : Nat → List (Nat × α)
 | 0 => []
 | n + 1 => match f n with
   | some v => (n, v) :: enumL f n
   | none => enumL f n
theorem lk_enumL {α : Type} (f : Nat → Option α) : ∀ (n t : Nat), lk (enumL f n) t = if t < n then f t else none
 | 0, t => by simp [enumL, lk]
 | n + 1, t => by
   simp only [enumL]
   split
   · rename_i v hv
     rw [lk_cons, lk_enumL f n t]
     by_cases h1 : n = t
     · subst h1; simp [hv]
     · rw [if_neg h1]
       by_cases h2 : t < n
       · rw [if_pos h2, if_pos (by omega)]
       · rw [if_neg h2, if_neg (by omega)]
   · rename_i hv
     rw [lk_enumL f n t]
     by_cases h1 : t = n
     · subst h1; simp [hv]
     · by_cases h2 : t < n
       · rw [if_pos h2, if_pos (by omega)]
       · rw [if_neg h2, if_neg (by omega)]
theorem ST.told {ρ : Nat → Nat × Nat} {nx n : Nat} {tm tm' : Tm} {hp hp' : Hp} {a : Act} {w : World} (H : ST C E ρ nx tm hp a w) {idb : Nat} (hid : n ≤ idb) (hn : E.n0 ≤ n) {ρ' : Nat → Nat × Nat} (hlow : ∀ i, i < n → ρ' i = ρ i) (hhi : ρ' n = ρ idb)
 (ht : ∀ t av, lk tm' t = some av → (av.lt n ∧ lk tm t = some av) ∨ (av = .ptr n 0 ∧ lk tm t = some (.ptr idb 0)))
 (hh : ∀ id o, lk hp' id = some o → o.lt n ∧ ((id < n ∧ lk hp id = some o) ∨ (id = n ∧ lk hp idb = some o))) :
 ST C E ρ' (n + 1) tm' hp' a w := by
 have hπ : ∀ id o, lk hp' id = some o → ∃ id', lk hp id' = some o ∧ ρ' id = ρ id' ∧ (id < n ∧ id' = id ∨ id = n ∧ id' = idb) := by
  intro id o ho
  obtain ⟨_, h | h⟩ := hh id o ho
  · exact ⟨id, h.2, hlow id h.1, .inl ⟨h.1, rfl⟩⟩
  · exact ⟨idb, h.2, by rw [h.1]; exact hhi, .inr ⟨h.1, rfl⟩⟩
 refine ⟨H.defers, H.size, ?_, ⟨?_, ?_, ?_, ?_, H.heap.glob⟩, ⟨H.fr.frame, ?_, ?_, H.fr.hsize, H.fr.tape, H.fr.os, H.fr.output⟩, by omega, fun i hi => (hlow i (by omega)).trans (H.agree i hi)⟩
 · intro t av h
   rcases ht t av h with ⟨h1, h2⟩ | ⟨rfl, h2⟩
   · exact ⟨AV.lt_mono (by omega) _ h1, by rw [AV.den_congr hlow av h1]; exact (H.tmps t av h2).2⟩
   · refine ⟨by simp only [AV.lt]; omega, ?_⟩
     rw [(H.tmps t _ h2).2]
     simp only [AV.den, hhi]
 · intro id o ho
   obtain ⟨id', h1, h2, h3⟩ := hπ id o ho
   have hl := (hh id o ho).1
   refine ⟨by omega, AO.lt_mono (by omega) _ hl, ?_⟩
   rw [h2, AO.is_congr hlow o hl]
   exact (H.heap.objs id' o h1).2.2
 · intro id o ho hl
   obtain ⟨id', h1, h2, h3⟩ := hπ id o ho
   rw [h2]; exact H.heap.bound id' o h1 hl
 · intro id o id2 o2 ho ho2 hm hl hne
   obtain ⟨id', h1, h2, h3⟩ := hπ id o ho
   obtain ⟨id2', k1, k2, k3⟩ := hπ id2 o2 ho2
   rw [h2, k2]
   exact H.heap.sep id' o id2' o2 h1 k1 hm hl (by omega)
 · intro id o ho hm
   obtain ⟨id', h1, h2, h3⟩ := hπ id o ho
   rw [h2]; exact H.heap.apart id' o h1 hm
 · intro id o ho hm
   obtain ⟨id', h1, h2, h3⟩ := hπ id o ho
   rw [h2]; exact H.fr.own id' o h1 hm
 · intro id o ho hm
   obtain ⟨id', h1, h2, h3⟩ := hπ id o ho
   rw [h2]; exact H.fr.own2 id' o h1 hm
theorem xid_some {s : XS} {dx id : Nat} (h : xid s dx = some id) : s.T.get dx = some (.ptr id 0) := by
 unfold xid at h
 split at h
 · rename_i id' e; cases h; exact e
 · cases h
theorem joinX_sound {dx : Nat} {ds : List Nat} {sts : List XS} (h : joinX s dx ds sts = some N) (hb : sb ∈ sts) (hle : LE ⟨s.nx, s.ck, s.nx, s.T, s.H⟩ sb)
 (hle1 : ∀ s1 ∈ sts, ∀ t, t ∉ ds → s1.T.get t = s.T.get t) (hS : Sub κ τ sb tm hp) (hg : Agr s.nx κs τs κ τ)
 (hT0 : ∀ t v, s.T.get t = some v → (v.av κs).lt s.nx) (hH0 : ∀ id p, s.H.get id = some p → id < s.nx ∧ ltL s.nx (avL κs p.2.cs)) (hK0 : ∀ id p, s.H.get id = some p → p.2.ok κs τs id)
 {ρ : Nat → Nat × Nat} {a : Act} {w : World} (H : ST C E ρ sb.nx tm hp a w) (hn : E.n0 ≤ s.nx) :
 ∃ ρ' tm' hp' κ' τ', ST C E ρ' N.nx tm' hp' a w ∧ Sub κ' τ' N tm' hp' ∧ Agr s.nx κs τs κ' τ' := by
 cases sts with
 | nil => cases hb
 | cons s1 r =>
 simp only [joinX] at h
 obtain ⟨id1, hid1, h'⟩ := bind_some' h; clear h; have h := h'; clear h'
 obtain ⟨o1, ho1, h'⟩ := bind_some' h; clear h; have h := h'; clear h'
 cases hall : (s1 :: r).all (agB s s1 o1 dx ds) <;> rw [hall] at h
 · cases h
 simp only [cond_true, Option.some.injEq] at h
 have hag := List.all_eq_true.1 hall sb hb
 unfold agB at hag
 split at hag
 case h_2 => cases hag
 rename_i idb hidb
 simp only [Bool.and_eq_true] at hag
 obtain ⟨⟨⟨b1, b2⟩, b3⟩, b4⟩ := hag
 have b1 := Nat.le_of_ble_eq_true b1
 have b2 := Nat.le_of_ble_eq_true b2
 split at b3
 case h_2 => cases b3
 rename_i o ho
 rw [Bool.and_eq_true] at b3
 have b5 := Nat.eq_of_beq_eq_true b3.1
 obtain ⟨b6, b7⟩ := eqoL_ok _ _ _ b3.2
 have hxb := xid_some hidb
 have hob := (hS.toSubH.obj ho).1
 have hκ : ∀ i, i < s.nx → κs i = κ i := fun i hi => ((hg i hi).1).symm
 have hTb : ∀ t v, N.T.get t = some v → (v.av κs).lt s.nx ∧ lk tm t = some (v.av κs) ∨ v = .ptr s.nx 0 ∧ lk tm t = some (.ptr idb 0) := by
  intro t v ht
  rw [← h] at ht
  simp only [TR.get_set] at ht
  split at ht
  · rename_i e; cases ht; subst e
    exact .inr ⟨rfl, hS.T _ _ hxb⟩
  · rename_i hne
    refine .inl ?_
    by_cases hd : t ∈ ds
    · have := List.all_eq_true.1 b4 t hd
      rw [Bool.or_eq_true] at this
      rcases this with h1 | h1
      · exact absurd (Nat.eq_of_beq_eq_true h1) hne
      · split at h1
        case h_2 => cases h1
        rename_i v' v1 e1 e2
        rw [ht] at e2; cases e2
        obtain ⟨e3, e4⟩ := eqo_ok _ _ _ h1
        subst e3
        refine ⟨e4 κs, ?_⟩
        rw [hS.T t _ e1, XV.av_congr hκ _ (e4 κ)]
    · have e1 := hle1 s1 (List.mem_cons_self ..) t hd
      have e2 := hle1 sb hb t hd
      rw [ht] at e1
      have e3 := hT0 t v e1.symm
      refine ⟨e3, ?_⟩
      rw [hS.T t v (e2.trans e1.symm), XV.av_congr (fun i hi => (hκ i hi).symm) v e3]
 have hHb : ∀ id p, N.H.get id = some p → ltL s.nx (avL κs p.2.cs) ∧ (id < s.nx ∧ s.H.get id = some p ∧ lk hp id = some (p.2.ao κs (τs id)) ∨ id = s.nx ∧ p.2.n = 0 ∧ p.2.c = 0 ∧ p.2.ex = false ∧ lk hp idb = some (p.2.ao κs (τ idb))) := by
  intro id p hq
  rw [← h] at hq
  simp only [TR.get_set] at hq
  split at hq
  · rename_i e; cases hq; subst e
    refine ⟨by rw [← b6]; exact b7 κs, .inr ⟨rfl, rfl, rfl, rfl, ?_⟩⟩
    rw [hob]
    simp only [XO.ao, b5, b6]
    rw [avL_congr hκ _ (by rw [← b6]; exact b7 κ)]
  · obtain ⟨e1, e2⟩ := hH0 id p hq
    refine ⟨e2, .inl ⟨e1, hq, ?_⟩⟩
    have e3 : sb.H.get id = some p := by
     rw [hle.low id (by omega) e1]; exact hq
    rw [hS.H id p e3, (hg id e1).2]
    simp only [XO.ao]
    rw [avL_congr (fun i hi => (hκ i hi).symm) _ e2]
 have hN : N.nx = s.nx + 1 := by rw [← h]
 refine ⟨fun i => if i = s.nx then ρ idb else ρ i, enumL (fun t => (N.T.get t).map (XV.av κs)) E.nt, enumL (fun id => (N.H.get id).map fun p => p.2.ao κs (if id = s.nx then τ idb else τs id)) (s.nx + 1), κs,
  fun i => if i = s.nx then τ idb else τs i, ?_, ⟨⟨?_, ?_⟩, ?_⟩, fun i hi => ⟨rfl, if_neg (by omega)⟩⟩
 · rw [hN]
   refine H.told b1 hn (fun i hi => if_neg (by omega)) (if_pos rfl) ?_ ?_
   · intro t av ht
     rw [lk_enumL] at ht
     split at ht
     case isFalse => cases ht
     obtain ⟨v, hv, rfl⟩ := map_some' ht
     rcases hTb t v hv with h1 | ⟨rfl, h1⟩
     · exact .inl h1
     · exact .inr ⟨rfl, h1⟩
   · intro id o' ho'
     rw [lk_enumL] at ho'
     split at ho'
     case isFalse => cases ho'
     obtain ⟨p, hp', rfl⟩ := map_some' ho'
     obtain ⟨h1, h2⟩ := hHb id p hp'
     refine ⟨h1, ?_⟩
     rcases h2 with ⟨h3, _, h4⟩ | ⟨h3, _, _, _, h4⟩
     · exact .inl ⟨h3, by rw [if_neg (by omega)]; exact h4⟩
     · exact .inr ⟨h3, by rw [if_pos h3]; exact h4⟩
 · intro id p hq
   obtain ⟨_, h2⟩ := hHb id p hq
   rw [lk_enumL, if_pos (by omega), hq]
   rfl
 · intro id p hq
   obtain ⟨_, h2⟩ := hHb id p hq
   rcases h2 with ⟨h3, h4, _⟩ | ⟨h3, h4, h5, h6, _⟩
   · have := hK0 id p h4
     unfold XO.ok at this ⊢
     simp only
     rw [if_neg (show ¬ id = s.nx by omega)]
     exact this
   · unfold XO.ok
     rw [h4, h5, h6]
     simp
 · intro t v ht
   rw [lk_enumL, ht]
   have hlt : t < E.nt := by
    have : ∃ av, lk tm t = some av := by
     rcases hTb t v ht with h1 | h1
     · exact ⟨_, h1.2⟩
     · exact ⟨_, h1.2⟩
    obtain ⟨av, hav⟩ := this
    have := (H.tmps t av hav).2
    rw [← H.size]
    exact (Array.getElem?_eq_some_iff.1 this).1
   rw [if_pos hlt]
   rfl
end Go.Eng
namespace Go.Eng
variable {κ τ κ' τ' : Nat → Nat} {s s' : XS} {tm : Tm} {hp : Hp} {nx nt : Nat} {X : XC} {R : XR} {E : En} {ops : Array Oper} {Q : Po}
theorem flO_rq (ops : Array Oper) : (flO ops).rq = rdq := rfl
theorem old_T {ρ : Nat → Nat × Nat} {a : Act} {w : World} (H : ST X.toCx E ρ nx tm hp a w) (hS : Sub κ τ s tm hp) : ∀ t v, s.T.get t = some v → (v.av κ).lt nx := fun t v ht => (H.tmps t _ (hS.T t v ht)).1
theorem old_H {ρ : Nat → Nat × Nat} {w : World} (H : HR X.toCx ρ nx hp w) (hS : SubH κ τ s hp) : ∀ id p, s.H.get id = some p → id < nx ∧ ltL nx (avL κ p.2.cs) := fun id p hq => by
 obtain ⟨h1, h2, _⟩ := H.objs id _ (hS.H id p hq)
 exact ⟨h1, h2⟩
theorem drop_all (ops : Array Oper) : ops.toList.drop ops.toList.length = [] := List.drop_length
theorem LE.joinX {s N : XS} {dx : Nat} {ds : List Nat} {sts : List XS} (h : Eng.joinX s dx ds sts = some N) (hle : ∀ s1 ∈ sts, LE ⟨s.nx, s.ck, s.nx, s.T, s.H⟩ s1) : LE s N := by
 cases sts with
 | nil => cases h
 | cons s1 r =>
 simp only [Eng.joinX] at h
 obtain ⟨id1, hid1, h'⟩ := bind_some' h; clear h; have h := h'; clear h'
 obtain ⟨o1, ho1, h'⟩ := bind_some' h; clear h; have h := h'; clear h'
 cases hall : (s1 :: r).all (agB s s1 o1 dx ds) <;> rw [hall] at h
 · cases h
 simp only [cond_true, Option.some.injEq] at h
 have h1 := (hle s1 (List.mem_cons_self ..)).ck
 simp only at h1
 rw [← h]
 refine ⟨by simp only; omega, by simp only; omega, fun id p hp hlt => ?_, Nat.le_refl _, fun id hid hid2 => ?_⟩
 · simp only [TR.get_set] at hp
   split at hp
   · cases hp; simp only at hlt; omega
   · exact hp
 · simp only [TR.get_set]
   rw [if_neg (by omega)]
theorem dstsOf_mem : ∀ (l : List Oper) (o : Oper) (d : Nat), o ∈ l → o.dst = some d → d ∈ dstsOf l
 | [], _, _, h, _ => by cases h
 | o' :: l, o, d, h, hd => by
   simp only [dstsOf]
   rcases List.mem_cons.1 h with rfl | h
   · rw [hd]; exact List.mem_cons_self ..
   · have := dstsOf_mem l o d h hd
     split
     · exact List.mem_cons_of_mem _ this
     · exact this
theorem prs_memL (l : List Oper) (k : Nat) (p : Nat × Oper) (h : p ∈ prs k l) : p.2 ∈ l := by
 obtain ⟨_, h2⟩ := prs_mem l k p h
 exact List.mem_of_getElem? h2
theorem floX_some {x : Nat} (h : floX X R nt ops x s = some s') : ∃ ox dx r, ops.toList[x]? = some ox ∧ ox.dst = some dx ∧
 runX X R nt s.ck ops (flO ops) x ox (fun i => ((ancs ops.toList []).getD i 0).testBit x) (prs 0 (ops.toList.take x) ++ prs (x + 1) ((ops.toList.take ops.toList.length).drop (x + 1))) ⟨s.nx, s.ck, s.nx, s.T, s.H⟩ [] = some r ∧
 (∀ p ∈ r, ∀ id ∈ r.flatMap (·.2), oldX s.ck p.1 id = true) ∧ joinX s dx (dstsOf ops.toList) (r.map (·.1)) = some s' := by
 unfold floX at h
 split at h
 case h_2 => cases h
 rename_i ox hox
 split at h
 case h_2 => cases h
 rename_i dx hdx
 obtain ⟨r, hr, h'⟩ := bind_some' h; clear h; have h := h'; clear h'
 cases ha : r.all fun p => (r.flatMap (·.2)).all (oldX s.ck p.1) <;> rw [ha] at h
 · cases h
 refine ⟨ox, dx, r, hox, hdx, hr, fun p hp id hid => ?_, h⟩
 exact List.all_eq_true.1 (List.all_eq_true.1 ha p hp) id hid
theorem LE.drawX (hR : RLE R) (h : Eng.drawX X R nt ops s = some s') : LE s s' := by
 unfold Eng.drawX at h
 cases hc : isFlo ops <;> rw [hc] at h
 case true =>
  simp only [cond_true] at h
  obtain ⟨ox, dx, r, _, _, hr, _, hj⟩ := floX_some h
  obtain ⟨g1, g2⟩ := runX_some hR (flO_rq ops) hr
  refine LE.joinX hj fun s1 hs1 => ?_
  obtain ⟨q, hq, rfl⟩ := List.mem_map.1 hs1
  exact (g2 q hq).1
 case false =>
  simp only [cond_false] at h
  obtain ⟨r, hr, rfl⟩ := map_some' h
  exact (runD_some hR (flO_rq ops) hr).1
theorem drawX_sound (hR : RS X R) {id : Nat} (h : drawX X R nt ops s = some s') (hok : drawOK ops = true) (hS : Sub κ τ s tm hp) (hnt : E.nt = nt)
 (hq : ∀ κ' τ' tm' hp', Agr s.nx κ τ κ' τ' → Sub κ' τ' s' tm' hp' → Q .normal s'.nx tm' hp') : W X.toCy E (.region id ops true) s.nx tm hp Q := by
 unfold drawX at h
 unfold drawOK at hok
 cases hc : isFlo ops <;> rw [hc] at h hok
 case true =>
  simp only [cond_true, Bool.and_eq_true] at h hok
  obtain ⟨hc1, hc2⟩ := hok
  obtain ⟨ox, dx, r, hox, hdx, hr, hold, hj⟩ := floX_some h
  obtain ⟨g1, g2⟩ := runX_some hR.toRLE (flO_rq ops) hr
  intro ρ a w H
  have hT0 := old_T H hS
  have hH0 := old_H H.heap hS.toSubH
  refine W_drawX (Q := Q) (r.flatMap (·.2)) [] ops.toList.length _ X.dr hc1 hc2 (fun ρ0 hkl => ?_) ρ a w H
  rw [drop_all]
  refine runX_sound (s0 := ⟨s.nx, s.ck, s.nx, s.T, s.H⟩) (s := ⟨s.nx, s.ck, s.nx, s.T, s.H⟩) (κs := κ) (τs := τ) (E := ⟨E.w0, E.S, E.T, s.nx, ρ0, E.nt⟩) hR (flO_rq ops) ⟨⟨hS.H, hS.K⟩, rfl, hkl⟩ hnt (by simpa using hox) hr ⟨⟨hS.H, hS.K⟩, hS.T⟩ (LE.refl _) (Agr.refl _ _ _) ?_ hold ?_
  · intro q hq' id hid
    exact List.mem_flatMap.2 ⟨q, hq', hid⟩
  · intro q hq' κ' τ' tm' hp' hag hS'
    intro ρ2 a2 w2 H2
    have hfr : ∀ s1 ∈ r.map (·.1), ∀ t, t ∉ dstsOf ops.toList → s1.T.get t = s.T.get t := by
     intro s1 hs1 t ht
     obtain ⟨q1, hq1, rfl⟩ := List.mem_map.1 hs1
     refine (g2 q1 hq1).2.1 t (fun e => ht (dstsOf_mem _ ox t (List.mem_of_getElem? hox) e)) fun p hp e => ht ?_
     rcases List.mem_append.1 hp with hp | hp
     · exact dstsOf_mem _ p.2 t (List.mem_of_mem_take (prs_memL _ _ _ hp)) e
     · exact dstsOf_mem _ p.2 t (List.mem_of_mem_take (List.mem_of_mem_drop (prs_memL _ _ _ hp))) e
    obtain ⟨ρ3, tm3, hp3, κ3, τ3, S3, hS3, hg3⟩ := joinX_sound (κs := κ) (τs := τ) (sb := q.1) hj (List.mem_map.2 ⟨q, hq', rfl⟩) (g2 q hq').1 hfr hS' hag hT0 hH0 hS.K H2 (Nat.le_refl _)
    exact ⟨ρ3, s'.nx, tm3, hp3, S3, rfl, hq κ3 τ3 tm3 hp3 hg3 hS3⟩
 case false =>
  simp only [cond_false, Bool.and_eq_true] at h hok
  obtain ⟨r, hr, rfl⟩ := map_some' h
  refine W_draw (Q := Q) r.2 [] ops.toList.length X.dr hok.1 hok.2 (fun ρ0 hkl => ?_)
  rw [drop_all]
  exact runD_sound (s0 := s) (s := s) (κs := κ) (τs := τ) (E := ⟨E.w0, E.S, E.T, s.nx, ρ0, E.nt⟩) hR (flO_rq ops) ⟨hS.toSubH, rfl, hkl⟩ hnt hr hS (LE.refl _) (Agr.refl _ _ _) (fun _ h => h) (.inl fun _ h => h)
   fun κ' τ' tm' hp' hag hS' => WL_nil ⟨rfl, hq κ' τ' tm' hp' hag hS'⟩
theorem LE.codeX (hR : RLE R) {c : Code} {e : XE} (h : Eng.codeX X R nt c s = some (e, s')) : LE s s' := by
 unfold Eng.codeX at h
 split at h
 · cases h; exact LE.refl _
 · obtain ⟨s1, h1, e⟩ := map_some' h
   cases e
   exact LE.runL hR h1
 · obtain ⟨s1, h1, e⟩ := map_some' h
   cases e
   exact LE.drawX hR h1
 · split at h
   · rename_i s1 h1
     exact (hR.code _ _ _ _ _ h1).trans (hR.code _ _ _ _ _ h)
   · exact hR.code _ _ _ _ _ h
 · split at h
   · exact hR.code _ _ _ _ _ h
   · exact hR.code _ _ _ _ _ h
   · cases h
 · split at h
   · rename_i i s1 h1
     revert h
     generalize Nat.beq _ _ = q
     cases q <;> (intro h; cases h; exact hR.code _ _ _ _ _ h1)
   · exact hR.code _ _ _ _ _ h
 · exact hR.loop _ _ _ _ _ h
 · cases h; exact LE.refl _
 · cases h; exact LE.refl _
 · cases h
theorem LE.loopX (hR : RLE R) {c : Code} {e : XE} (h : Eng.loopX R nt c s = some (e, s')) : LE s s' := by
 unfold Eng.loopX at h
 split at h
 · rename_i s1 h1
   exact (hR.code _ _ _ _ _ h1).trans (hR.loop _ _ _ _ _ h)
 · exact hR.code _ _ _ _ _ h
theorem LE.callX (hR : RLE R) {f : FuncId} {args : List XV} {v : XV} (h : Eng.callX X R f args s = some (v, s')) : LE s s' ∧ s'.T = s.T := by
 unfold Eng.callX at h
 obtain ⟨fn, _, h'⟩ := bind_some' h; clear h; have h := h'; clear h'
 obtain ⟨c, _, h'⟩ := bind_some' h; clear h; have h := h'; clear h'
 revert h
 generalize Nat.ble _ _ = q
 cases q
 · intro h; cases h
 intro h
 simp only [cond_true] at h
 obtain ⟨r, hr, h'⟩ := bind_some' h; clear h; have h := h'; clear h'
 obtain ⟨e, s1⟩ := r
 simp only at h
 have h1 := LE.T0 (hR.code _ _ _ _ _ hr)
 cases e
 · obtain ⟨v', _, e⟩ := map_some' h
   cases e
   exact ⟨h1.T s.T, rfl⟩
 · cases h
 · obtain ⟨v', _, e⟩ := map_some' h
   cases e
   exact ⟨h1.T s.T, rfl⟩
theorem xr_RLE (X : XC) : ∀ n, RLE (xr X n)
 | 0 => ⟨fun _ _ _ _ _ h => (by cases h), fun _ _ _ _ _ h => (by cases h), fun _ _ _ _ _ h => (by cases h)⟩
 | n + 1 => ⟨fun _ _ _ _ _ h => LE.codeX (xr_RLE X n) h, fun _ _ _ _ _ h => LE.callX (xr_RLE X n) h, fun _ _ _ _ _ h => LE.loopX (xr_RLE X n) h⟩
theorem argTX_get : ∀ (l : List XV) (i : Nat) (T : TR XV) (t : Nat), (argTX i l T).get t = if i ≤ t ∧ t < i + l.length then l[t - i]? else T.get t
 | [], i, T, t => by simp only [argTX, List.length_nil]; rw [if_neg (by omega)]
 | a :: l, i, T, t => by
   simp only [argTX]
   rw [argTX_get l (i + 1) (T.set i a) t, TR.get_set]
   by_cases h1 : i + 1 ≤ t ∧ t < i + 1 + l.length
   · rw [if_pos h1, if_pos (by simp only [List.length_cons]; omega), show t - i = (t - (i + 1)) + 1 by omega, List.getElem?_cons_succ]
   · rw [if_neg h1]
     by_cases h2 : t = i
     · subst h2
       rw [if_pos rfl, if_pos (by simp only [List.length_cons]; omega)]
       simp
     · rw [if_neg h2, if_neg (by simp only [List.length_cons]; omega)]
theorem argTm_get : ∀ (l : List AV) (i t : Nat), i ≤ t → t < i + l.length → lk (argTm i l) t = l[t - i]?
 | [], i, t, h1, h2 => by simp only [List.length_nil] at h2; omega
 | a :: l, i, t, h1, h2 => by
   simp only [argTm, lk_cons]
   by_cases h : i = t
   · subst h; simp
   · rw [if_neg h, argTm_get l (i + 1) t (by omega) (by simp only [List.length_cons] at h2; omega), show t - i = (t - (i + 1)) + 1 by omega, List.getElem?_cons_succ]
theorem argTX_TS (κ : Nat → Nat) (l : List XV) : TS0 κ (argTX 0 l .nil) (argTm 0 (avL κ l)) := by
 intro t xv ht
 rw [argTX_get, TR.get_nil] at ht
 split at ht
 · rename_i h
   rw [argTm_get _ 0 t (Nat.zero_le _) (by rw [avL_length]; exact h.2), avL_get]
   rw [ht]; rfl
 · cases ht
theorem res1X_ok (hS : Sub κ τ s tm hp) {r : ResultVar} {v : XV} (h : res1X X s r = some v) : ∃ φ, res1 X.toCy tm hp r = some (φ, v.av κ) ∧ φ := by
 cases r with
 | tmp t => exact ⟨True, by simp only [res1, hS.T t v h, Option.map_some], trivial⟩
 | cell a t =>
   simp only [res1X] at h
   obtain ⟨x, hx, h⟩ := bind_some' h
   simp only [res1, hS.T a x hx, Option.bind_some]
   exact loadX_ok X (fun id off ob _ ho => hS.toSubH.objH id ob ho) h
theorem resLX_ok (hS : Sub κ τ s tm hp) : ∀ {l : List ResultVar} {vs : List XV}, resLX X s l = some vs → ∃ φ, resL X.toCy tm hp l = some (φ, avL κ vs) ∧ φ
 | [], vs, h => by cases h; exact ⟨True, rfl, trivial⟩
 | r :: l, vs, h => by
   simp only [resLX] at h
   obtain ⟨v, hv, h⟩ := bind_some' h
   obtain ⟨vs', hvs, rfl⟩ := map_some' h
   obtain ⟨φ1, h1, h2⟩ := res1X_ok hS hv
   obtain ⟨φ2, h3, h4⟩ := resLX_ok hS hvs
   exact ⟨φ1 ∧ φ2, by simp only [resL, h1, h3, Option.bind_some, Option.map_some, avL], h2, h4⟩
theorem resX_ok (hS : Sub κ τ s tm hp) {l : List ResultVar} {v : XV} (h : resX X s l = some v) : ∃ φ, resV X.toCy tm hp l = some (φ, v.av κ) ∧ φ := by
 unfold resX at h
 split at h
 · exact res1X_ok hS h
 · rename_i hne
   obtain ⟨vs, hvs, rfl⟩ := map_some' h
   obtain ⟨φ, h1, h2⟩ := resLX_ok hS hvs
   refine ⟨φ, ?_, h2⟩
   unfold resV
   split
   · exact absurd rfl (hne _)
   · rw [h1]; rfl
theorem codeX_sound (hR : RS X R) {c : Code} {e : XE} (h : codeX X R nt c s = some (e, s')) (hok : okC c = true) (hS : Sub κ τ s tm hp) (hnt : E.nt = nt)
 (hq : ∀ κ' τ' tm' hp', Agr s.nx κ τ κ' τ' → Sub κ' τ' s' tm' hp' → Q e.ex s'.nx tm' hp') : W X.toCy E c s.nx tm hp Q := by
 unfold codeX at h
 split at h
 · cases h; exact W_skip (hq κ τ tm hp (Agr.refl _ _ _) hS)
 · obtain ⟨s1, h1, e⟩ := map_some' h
   cases e
   exact W_region (runL_sound hR h1 hS hnt hq)
 · obtain ⟨s1, h1, e⟩ := map_some' h
   cases e
   exact drawX_sound hR h1 hok hS hnt hq
 · simp only [okC, Bool.and_eq_true] at hok
   split at h
   · rename_i s1 h1
     refine W_seq (hR.codeS _ _ _ _ _ h1 hok.1 E κ τ tm hp _ hnt hS fun κ' τ' tm' hp' hag hS' => ?_)
     exact hR.codeS _ _ _ _ _ h hok.2 E κ' τ' tm' hp' Q hnt hS' fun κ'' τ'' tm'' hp'' hag' hS'' => hq κ'' τ'' tm'' hp'' (hag.trans hag' (hR.code _ _ _ _ _ h1).nx) hS''
   · rename_i hne
     refine W_seq (hR.codeS _ _ _ _ _ h hok.1 E κ τ tm hp _ hnt hS fun κ' τ' tm' hp' hag hS' => ?_)
     cases e with
     | nrm => exact absurd h (hne _)
     | ext i => exact hq κ' τ' tm' hp' hag hS'
     | rt => exact hq κ' τ' tm' hp' hag hS'
 · simp only [okC, Bool.and_eq_true] at hok
   split at h
   · rename_i hc
     exact W_cond_true (evX_ev hS.T hc) (hR.codeS _ _ _ _ _ h hok.1 E κ τ tm hp Q hnt hS hq)
   · rename_i hc
     exact W_cond_false (evX_ev hS.T hc) (hR.codeS _ _ _ _ _ h hok.2 E κ τ tm hp Q hnt hS hq)
   · cases h
 · rename_i id c
   split at h
   · rename_i i s1 h1
     refine W_block (hR.codeS _ _ _ _ _ h1 hok E κ τ tm hp _ hnt hS fun κ' τ' tm' hp' hag hS' => ?_)
     show bif Nat.beq i id then Q .normal s1.nx tm' hp' else Q (.exit i) s1.nx tm' hp'
     cases hb : Nat.beq i id <;> rw [hb] at h
     · cases h; exact hq κ' τ' tm' hp' hag hS'
     · cases h; exact hq κ' τ' tm' hp' hag hS'
   · rename_i hne
     refine W_block (hR.codeS _ _ _ _ _ h hok E κ τ tm hp _ hnt hS fun κ' τ' tm' hp' hag hS' => ?_)
     cases e with
     | nrm => exact hq κ' τ' tm' hp' hag hS'
     | ext i => exact absurd h (hne i _)
     | rt => exact hq κ' τ' tm' hp' hag hS'
 · exact W_loop (hR.loopS _ _ _ _ _ h hok E κ τ tm hp Q hnt hS hq)
 · cases h; exact W_exit (hq κ τ tm hp (Agr.refl _ _ _) hS)
 · cases h; exact W_ret (hq κ τ tm hp (Agr.refl _ _ _) hS)
 · cases h
theorem loopX_sound (hR : RS X R) {c : Code} {e : XE} (h : loopX R nt c s = some (e, s')) (hok : okC c = true) (hS : Sub κ τ s tm hp) (hnt : E.nt = nt)
 (hq : ∀ κ' τ' tm' hp', Agr s.nx κ τ κ' τ' → Sub κ' τ' s' tm' hp' → Q e.ex s'.nx tm' hp') : LP X.toCy E c s.nx tm hp Q := by
 unfold loopX at h
 refine LP_round ?_
 split at h
 · rename_i s1 h1
   refine hR.codeS _ _ _ _ _ h1 hok E κ τ tm hp _ hnt hS fun κ' τ' tm' hp' hag hS' => ?_
   exact hR.loopS _ _ _ _ _ h hok E κ' τ' tm' hp' Q hnt hS' fun κ'' τ'' tm'' hp'' hag' hS'' => hq κ'' τ'' tm'' hp'' (hag.trans hag' (hR.code _ _ _ _ _ h1).nx) hS''
 · rename_i hne
   refine hR.codeS _ _ _ _ _ h hok E κ τ tm hp _ hnt hS fun κ' τ' tm' hp' hag hS' => ?_
   cases e with
   | nrm => exact absurd h (hne _)
   | ext i => exact hq κ' τ' tm' hp' hag hS'
   | rt => exact hq κ' τ' tm' hp' hag hS'
theorem callX_sound (hX : ∀ c, X.okc c = okC c) (hR : RS X R) {f : FuncId} {args : List XV} {v : XV} (h : callX X R f args s = some (v, s')) {hp : Hp} (hS : SubH κ τ s hp) : Tri X.toCy f s.nx hp (avL κ args) (CR κ τ s s' v) := by
 unfold callX at h
 obtain ⟨fn, hfn, h'⟩ := bind_some' h; clear h; have h := h'; clear h'
 obtain ⟨c, hc, h'⟩ := bind_some' h; clear h; have h := h'; clear h'
 cases hb : Nat.ble args.length fn.ntmps <;> rw [hb] at h
 · cases h
 simp only [cond_true] at h
 obtain ⟨r, hr, h'⟩ := bind_some' h; clear h; have h := h'; clear h'
 obtain ⟨e, s1⟩ := r
 simp only at h
 obtain ⟨hf1, hf2⟩ := X.ftok f fn hfn
 refine Tri.mk fn.ntmps fn.results.toList hf1 hc rfl rfl (by rw [avL_length]; exact hb) hf2 fun w0 S T ρ0 => ?_
 have hS0 : Sub κ τ ⟨s.nx, s.ck, s.lo, argTX 0 args .nil, s.H⟩ (argTm 0 (avL κ args)) hp := ⟨⟨hS.H, hS.K⟩, argTX_TS κ args⟩
 refine hR.codeS _ _ _ _ _ hr (by rw [← hX]; exact X.okf f fn c hfn hc) _ κ τ _ hp _ rfl hS0 fun κ' τ' tm' hp' hag hS' => ?_
 cases e with
 | ext i => cases h
 | nrm =>
   obtain ⟨v', hv, e⟩ := map_some' h
   cases e
   obtain ⟨φ, h1, h2⟩ := resX_ok hS' hv
   exact ⟨φ, _, h1, h2, rfl, κ', τ', hag, ⟨hS'.H, hS'.K⟩, rfl⟩
 | rt =>
   obtain ⟨v', hv, e⟩ := map_some' h
   cases e
   obtain ⟨φ, h1, h2⟩ := resX_ok hS' hv
   exact ⟨φ, _, h1, h2, rfl, κ', τ', hag, ⟨hS'.H, hS'.K⟩, rfl⟩
theorem xr_sound (X : XC) (hX : ∀ c, X.okc c = okC c) : ∀ n, RS X (xr X n)
 | 0 => ⟨xr_RLE X 0, fun _ _ _ _ _ h => (by cases h), fun _ _ _ _ _ h => (by cases h), fun _ _ _ _ _ h => (by cases h)⟩
 | n + 1 => ⟨xr_RLE X (n + 1), fun _ _ _ _ _ h hok _ _ _ _ _ _ hnt hS hq => codeX_sound (xr_sound X hX n) h hok hS hnt hq, fun _ _ _ _ _ h _ _ _ hS => callX_sound hX (xr_sound X hX n) h hS,
  fun _ _ _ _ _ h hok _ _ _ _ _ _ hnt hS hq => loopX_sound (xr_sound X hX n) h hok hS hnt hq⟩
end Go.Eng
