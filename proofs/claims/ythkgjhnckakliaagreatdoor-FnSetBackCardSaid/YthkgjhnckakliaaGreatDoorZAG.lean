/- A part of the proof that the rows statement FnSetBack holds; no conditions. -/
import Derived.OrdersHeld
import Derived.Test.YthkgjhnckakliaaGreatDoorZAF
set_option linter.unusedVariables false
set_option linter.unusedSimpArgs false
set_option linter.unusedSectionVars false
namespace Go.Eng
structure FL where
 fl : Oper → Bool
 rq : Oper → Bool
 bl : Oper → Bool
def So (S0 S : World → Prop) (F : FL) (o : Oper) : World → Prop := fun w => S0 w ∧ (F.rq o = true → S w)
section
variable {P : Program} {ops : Array Oper} {Q : Exit → Act → World → Prop} {S0 S : World → Prop} {F : FL} {Kb : Act → World → Prop}
def CS (P : Program) (ops : Array Oper) (Q : Exit → Act → World → Prop) (S0 S : World → Prop) (F : FL) (Kb : Act → World → Prop) : List Nat → Act → World → Prop
 | [], a, w => Kb a w
 | i :: l, a, w => match ops[i]? with
   | none => False
   | some o => if F.fl o = true then ∃ v, YieldsIf P ops (So S0 S F o) o v a ∧ CS P ops Q S0 S F Kb l (a.put o.dst v) w
     else wpOp P ops Q i (fun a' w' => (S0 w' ∧ (F.bl o = false → S w')) ∧ CS P ops Q S0 S F Kb l a' w') a w
theorem CS_quiet {i : Nat} {o : Oper} {l : List Nat} {a : Act} {w : World} (hi : ops[i]? = some o) (hq : F.fl o = true) :
 CS P ops Q S0 S F Kb (i :: l) a w ↔ ∃ v, YieldsIf P ops (So S0 S F o) o v a ∧ CS P ops Q S0 S F Kb l (a.put o.dst v) w := by
 rw [CS]; simp only [hi, hq, if_true]
theorem CS_loud {i : Nat} {o : Oper} {l : List Nat} {a : Act} {w : World} (hi : ops[i]? = some o) (hq : F.fl o = false) :
 CS P ops Q S0 S F Kb (i :: l) a w ↔ wpOp P ops Q i (fun a' w' => (S0 w' ∧ (F.bl o = false → S w')) ∧ CS P ops Q S0 S F Kb l a' w') a w := by
 rw [CS]; simp only [hi, hq, Bool.false_eq_true, if_false]
theorem CS_cons_mono {i : Nat} {l l' : List Nat} (h : ∀ a w, CS P ops Q S0 S F Kb l a w → CS P ops Q S0 S F Kb l' a w) {a : Act} {w : World}
 (hc : CS P ops Q S0 S F Kb (i :: l) a w) : CS P ops Q S0 S F Kb (i :: l') a w := by
 cases hi : ops[i]? with
 | none => rw [CS] at hc; simp only [hi] at hc
 | some o =>
   cases hq : F.fl o
   · rw [CS_loud hi hq] at hc ⊢
     exact wpOp_mono (fun a' w' h' => ⟨h'.1, h a' w' h'.2⟩) hc
   · rw [CS_quiet hi hq] at hc ⊢
     obtain ⟨v, h1, h2⟩ := hc
     exact ⟨v, h1, h _ w h2⟩
theorem yi_uniq {o : Oper} {v v' : Value} {a : Act} {w : World} (hS : S w) (h : YieldsIf P ops S o v a) (h' : YieldsIf P ops S o v' a) : v = v' := by
 rcases h with ⟨h1, h2⟩ | ⟨h1, h2⟩ <;> rcases h' with ⟨h3, h4⟩ | ⟨h3, h4⟩
 · have := (h2 w hS).symm.trans (h4 w hS); cases this; rfl
 · rw [h1] at h3; cases h3
 · rw [h1] at h3; cases h3
 · rw [h2, h4]
theorem wpOp_ex {k : Nat} {o : Oper} {K : Act → World → Prop} {a : Act} {w : World} (hk : ops[k]? = some o) (hQ : ∀ c a w, ¬ Q (.panic c) a w) (hL : ¬ LetsOut Q)
 (h : wpOp P ops Q k K a w) : ∃ ds u w', K (({ a with defers := ds } : Act).put o.dst u) w' := by
 unfold wpOp at h
 simp only [hk] at h
 split at h
 · rcases h with h | ⟨_, h⟩
   · unfold Oper.wp at h
     generalize (execOp a.eval o).run P w = r at h
     cases r with
     | ok n w' =>
       cases n <;> simp only [Oper.upon] at h
       case value u => exact ⟨a.defers, u, w', h⟩
       case skip => exact ⟨a.defers, undef, w', h⟩
       case defer d => exact ⟨_, undef, w', h⟩
       case enter f args =>
        obtain ⟨e, w'', fr, hR, _⟩ := h []
        cases e with
        | returned u => exact ⟨a.defers, u, w'', hR⟩
        | panicked c => exact absurd hR (hQ _ _ _)
        | outgrown => exact absurd hR hL
       case row row args =>
        obtain ⟨u, w'', hR, _⟩ := h (Frame.ofRow P row args .normal) []
        exact ⟨a.defers, u, w'', hR⟩
     | halt x w' =>
       cases x <;> simp only [Oper.upon] at h
       case panic u => exact absurd h (hQ _ _ _)
   · exact absurd h hL
 · exact ⟨a.defers, undef, w, h⟩
theorem wpOp_putR {j : Nat} {oi oj : Oper} {v : Value} (hj : ops[j]? = some oj) (hap : oi.apart ops oj = true) (hsj : ∀ cs b, oj.op ≠ .select cs b)
 (hQ : ∀ c a w, ¬ Q (.panic c) a w) {K : Act → World → Prop} {a : Act} {w : World} (h : wpOp P ops Q j K a w) :
 wpOp P ops Q j (fun a' w' => ∃ ds u, a' = (({ a with defers := ds } : Act).put oj.dst u).put oi.dst v ∧ K (({ a with defers := ds } : Act).put oj.dst u) w') (a.put oi.dst v) w := by
 obtain ⟨h1, h2, h3⟩ := Oper.apart_spec hap
 unfold wpOp at *
 simp only [hj] at *
 rw [wanted_put oj a oi.dst v h1]
 split
 · rename_i hw
   simp only [hw, if_true] at h
   rcases h with h | ⟨hasks, hlets⟩
   case inr => exact .inr ⟨by unfold Oper.asks at *; rw [execOp_put oj hsj a oi.dst v h1]; exact hasks, hlets⟩
   refine .inl ?_
   unfold Oper.wp at *
   rw [execOp_put oj hsj a oi.dst v h1]
   generalize (execOp a.eval oj).run P w = r at *
   cases r with
   | ok n w' =>
     cases n <;> simp only [Oper.upon] at h ⊢
     case value u => exact ⟨a.defers, u, Act.put_comm a v u h2, h⟩
     case skip => exact ⟨a.defers, undef, Act.put_comm a v undef h2, h⟩
     case defer d =>
      exact ⟨d :: a.defers, undef, (congrArg (fun b => b.put oj.dst undef) (Act.put_defers a oi.dst v d)).trans (Act.put_comm _ v undef h2), h⟩
     case enter f args =>
      refine Calls.mono h fun e w'' he => ?_
      cases e with
      | returned u => exact ⟨a.defers, u, Act.put_comm a v u h2, he⟩
      | panicked c => exact absurd he (hQ _ _ _)
      | outgrown => exact he
     case row row args => exact Rows.mono h fun u w'' he => ⟨a.defers, u, Act.put_comm a v u h2, he⟩
   | halt x w' =>
     cases x <;> simp only [Oper.upon] at h ⊢
     case panic u => exact absurd h (hQ _ _ _)
 · rename_i hw
   simp only [hw, Bool.false_eq_true, if_false] at h
   exact ⟨a.defers, undef, Act.put_comm a v undef h2, h⟩
theorem YieldsIf.put {o : Oper} {v u : Value} {a : Act} {dst : Option Tmp} (hs : ∀ cs b, o.op ≠ .select cs b) (h : ∀ d, dst = some d → d ∉ o.looksAt ops) :
 YieldsIf P ops S o v (a.put dst u) ↔ YieldsIf P ops S o v a :=
 ⟨fun hy => hy.of_same (execOp_put o hs a dst u h).symm (wanted_put o a dst u h).symm, fun hy => hy.of_same (execOp_put o hs a dst u h) (wanted_put o a dst u h)⟩
theorem YieldsIf.defers {o : Oper} {v : Value} {a : Act} {ds : List Deferred} : YieldsIf P ops S o v { a with defers := ds } ↔ YieldsIf P ops S o v a :=
 ⟨fun hy => hy.of_same rfl rfl, fun hy => hy.of_same rfl rfl⟩
def Swap (ops : Array Oper) (F : FL) (x y : Oper) : Prop := (F.fl x = true ∨ F.fl y = true) ∧ x.apart ops y = true ∧ y.apart ops x = true ∧ (F.rq x = true → F.bl y = false) ∧ (F.rq y = true → F.bl x = false)
theorem CS_swap {k i : Nat} {l : List Nat} {a : Act} {w : World} {ok oi : Oper} (hk : ops[k]? = some ok) (hi : ops[i]? = some oi) (hs : Swap ops F ok oi)
 (hsk : ∀ cs b, ok.op ≠ .select cs b) (hsi : ∀ cs b, oi.op ≠ .select cs b) (hQ : ∀ c a w, ¬ Q (.panic c) a w) (hL : ¬ LetsOut Q)
 (h : CS P ops Q S0 S F Kb (k :: i :: l) a w) : CS P ops Q S0 S F Kb (i :: k :: l) a w := by
 obtain ⟨hf, ha, ha', hb1, hb2⟩ := hs
 obtain ⟨h1, h2, h3⟩ := Oper.apart_spec ha
 cases hqk : F.fl ok <;> cases hqi : F.fl oi
 · rcases hf with hf | hf
   · rw [hqk] at hf; cases hf
   · rw [hqi] at hf; cases hf
 · rw [CS_loud hk hqk] at h
   rw [CS_quiet hi hqi]
   simp only [CS_quiet hi hqi] at h
   obtain ⟨ds, u1, w1, hS1, u, hy, _⟩ := wpOp_ex hk hQ hL h
   rw [YieldsIf.put hsi h1, YieldsIf.defers] at hy
   refine ⟨u, hy, ?_⟩
   rw [CS_loud hk hqk]
   refine wpOp_mono ?_ (wpOp_putR (oi := oi) (v := u) hk ha' hsk hQ h)
   rintro a' w' ⟨ds', u', rfl, hS', u2, hy2, hc⟩
   rw [YieldsIf.put hsi h1, YieldsIf.defers] at hy2
   cases yi_uniq (S := So S0 S F oi) ⟨hS'.1, fun hr => hS'.2 (hb2 hr)⟩ hy hy2
   exact ⟨hS', hc⟩
 · rw [CS_quiet hk hqk] at h
   obtain ⟨v, hy, h⟩ := h
   rw [CS_loud hi hqi] at h ⊢
   refine wpOp_mono ?_ (wpOp_putIf hi ha hsk hsi (fun c a w hp => absurd hp (hQ _ _ _)) hy h)
   rintro a' w' ⟨hy', hS', hc⟩
   exact ⟨hS', (CS_quiet hk hqk).2 ⟨v, hy', hc⟩⟩
 · rw [CS_quiet hk hqk] at h
   obtain ⟨v, hy, h⟩ := h
   rw [CS_quiet hi hqi] at h ⊢
   obtain ⟨u, hy', h⟩ := h
   rw [YieldsIf.put hsi h1] at hy'
   refine ⟨u, hy', (CS_quiet hk hqk).2 ⟨v, (YieldsIf.put hsk h3).2 hy, ?_⟩⟩
   rw [← Act.put_comm a v u h2]; exact h
theorem CS_front {i : Nat} {oi : Oper} (hi : ops[i]? = some oi) (hsel : ∀ (j : Nat) (o : Oper) cs b, ops[j]? = some o → o.op ≠ .select cs b)
 (hQ : ∀ c a w, ¬ Q (.panic c) a w) (hL : ¬ LetsOut Q) {l : List Nat} : ∀ (pre : List Nat), (∀ k ∈ pre, ∃ ok, ops[k]? = some ok ∧ Swap ops F ok oi) → ∀ (a : Act) (w : World),
 CS P ops Q S0 S F Kb (pre ++ i :: l) a w → CS P ops Q S0 S F Kb (i :: (pre ++ l)) a w := by
 intro pre
 induction pre with
 | nil => intro _ a w h; exact h
 | cons k pre ih =>
   intro hp a w h
   obtain ⟨ok, hk, hs⟩ := hp k (List.mem_cons_self ..)
   have h' : CS P ops Q S0 S F Kb (k :: i :: (pre ++ l)) a w := CS_cons_mono (fun a w h => ih (fun k hk => hp k (List.mem_cons_of_mem _ hk)) a w h) h
   exact CS_swap hk hi hs (fun cs b => hsel k ok cs b hk) (fun cs b => hsel i oi cs b hi) hQ hL h'
theorem swapLQ {k : Nat} {ok oi : Oper} {K : Act → World → Prop} {a : Act} {w : World} (hk : ops[k]? = some ok) (ha : ok.apart ops oi = true) (ha' : oi.apart ops ok = true)
 (hsk : ∀ cs b, ok.op ≠ .select cs b) (hsi : ∀ cs b, oi.op ≠ .select cs b) (hQ : ∀ c a w, ¬ Q (.panic c) a w) (hL : ¬ LetsOut Q)
 (hb : F.rq oi = true → F.bl ok = false)
 (h : wpOp P ops Q k (fun a' w' => (S0 w' ∧ (F.bl ok = false → S w')) ∧ ∃ v, YieldsIf P ops (So S0 S F oi) oi v a' ∧ K (a'.put oi.dst v) w') a w) :
 ∃ v, YieldsIf P ops (So S0 S F oi) oi v a ∧ wpOp P ops Q k (fun a' w' => (S0 w' ∧ (F.bl ok = false → S w')) ∧ K a' w') (a.put oi.dst v) w := by
 obtain ⟨h1, h2, h3⟩ := Oper.apart_spec ha
 obtain ⟨ds, u1, w1, hS1, u, hy, _⟩ := wpOp_ex hk hQ hL h
 rw [YieldsIf.put hsi h1, YieldsIf.defers] at hy
 refine ⟨u, hy, ?_⟩
 refine wpOp_mono ?_ (wpOp_putR (oi := oi) (v := u) hk ha' hsk hQ h)
 rintro a' w' ⟨ds', u', rfl, hS', u2, hy2, hc⟩
 rw [YieldsIf.put hsi h1, YieldsIf.defers] at hy2
 cases yi_uniq (S := So S0 S F oi) ⟨hS'.1, fun hr => hS'.2 (hb hr)⟩ hy hy2
 exact ⟨hS', hc⟩
theorem swapQL {i : Nat} {ok oi : Oper} {K : Act → World → Prop} {a : Act} {w : World} {v : Value} (hi : ops[i]? = some oi) (ha : ok.apart ops oi = true)
 (hsk : ∀ cs b, ok.op ≠ .select cs b) (hsi : ∀ cs b, oi.op ≠ .select cs b) (hQ : ∀ c a w, ¬ Q (.panic c) a w)
 (hy : YieldsIf P ops (So S0 S F ok) ok v a) (h : wpOp P ops Q i (fun a' w' => (S0 w' ∧ (F.bl oi = false → S w')) ∧ K a' w') (a.put ok.dst v) w) :
 wpOp P ops Q i (fun a' w' => (S0 w' ∧ (F.bl oi = false → S w')) ∧ ∃ v, YieldsIf P ops (So S0 S F ok) ok v a' ∧ K (a'.put ok.dst v) w') a w := by
 refine wpOp_mono ?_ (wpOp_putIf hi ha hsk hsi (fun c a w hp => absurd hp (hQ _ _ _)) hy h)
 rintro a' w' ⟨hy', hS', hc⟩
 exact ⟨hS', v, hy', hc⟩
theorem swapQQ {ok oi : Oper} {K : Act → World → Prop} {a : Act} {w : World} {v : Value} (ha : ok.apart ops oi = true)
 (hsk : ∀ cs b, ok.op ≠ .select cs b) (hsi : ∀ cs b, oi.op ≠ .select cs b)
 (hy : YieldsIf P ops (So S0 S F ok) ok v a) (h : ∃ u, YieldsIf P ops (So S0 S F oi) oi u (a.put ok.dst v) ∧ K ((a.put ok.dst v).put oi.dst u) w) :
 ∃ u, YieldsIf P ops (So S0 S F oi) oi u a ∧ YieldsIf P ops (So S0 S F ok) ok v (a.put oi.dst u) ∧ K ((a.put oi.dst u).put ok.dst v) w := by
 obtain ⟨h1, h2, h3⟩ := Oper.apart_spec ha
 obtain ⟨u, hy', h⟩ := h
 rw [YieldsIf.put hsi h1] at hy'
 refine ⟨u, hy', (YieldsIf.put hsk h3).2 hy, ?_⟩
 rw [← Act.put_comm a v u h2]; exact h
section
variable {m x : Nat} {A : Nat → Nat → Prop}
theorem lfalse {listed : Array Bool} {j : Nat} (h0 : listed.getD j true = false) (h1 : listed.getD j false = true) : False := by
 rcases Nat.lt_or_ge j listed.size with h' | h'
 · simp [h'] at h0 h1; rw [h0] at h1; cases h1
 · simp [Array.getElem?_eq_none h'] at h1
theorem lnot {listed : Array Bool} {j : Nat} (hj : j < listed.size) (h : listed.getD j false ≠ true) : listed.getD j true = false := by
 simp [hj] at h ⊢; exact h
theorem lset (listed : Array Bool) (i j : Nat) (d : Bool) : (listed.setIfInBounds i true).getD j d = if j = i ∧ j < listed.size then true else listed.getD j d := by
 by_cases hji : j = i
 · subst hji
   by_cases hjs : j < listed.size
   · simp [hjs]
   · simp [hjs]
 · rw [getD_set_ne d (Ne.symm hji)]; simp [hji]
structure OK (ops : Array Oper) (F : FL) (A : Nat → Nat → Prop) (m x : Nat) : Prop where
 sel : ∀ (j : Nat) (o : Oper) cs b, ops[j]? = some o → o.op ≠ .select cs b
 sw : ∀ k i ok oi, k < i → i < m → k ≠ x → i ≠ x → ops[k]? = some ok → ops[i]? = some oi → A i k ∨ Swap ops F ok oi
 ha : ∀ i o k, ops[i]? = some o → A i k → ∃ e ∈ o.after, Region.binds .any e = true ∧ (e.on = k ∨ A e.on k)
 lt : ∀ i o, ops[i]? = some o → ∀ e ∈ o.after, Region.binds .any e = true → e.on < i
 brk : ∀ i k oi ok, i < m → k < m → ops[i]? = some oi → ops[k]? = some ok → F.fl oi = false → F.bl oi = true → F.fl ok = true → F.rq ok = true → A i k
 tail : ∀ i k, m ≤ i → i < ops.size → k < i → A i k
 le : m ≤ ops.size
theorem ready_ex (O : OK ops F A m x) {listed : Array Bool} (hsz : listed.size = ops.size) {j : Nat} (hj : listed.getD j true = false) : Region.ready .any ops listed ≠ [] := by
 intro hr
 induction j using Nat.strongRecOn with
 | ind i ihi =>
   have hlti : i < ops.size := by
    rcases Nat.lt_or_ge i listed.size with h' | h'
    · omega
    · simp [Array.getElem?_eq_none h'] at hj
   have : i ∈ Region.ready .any ops listed := by
    refine mem_ready.2 ⟨hj, ops[i], Array.getElem?_eq_getElem hlti, fun e he hb => ?_⟩
    have hl := O.lt i _ (Array.getElem?_eq_getElem hlti) e he hb
    apply Classical.byContradiction
    intro hne
    exact ihi e.on hl (lnot (by omega) hne)
   rw [hr] at this; cases this
theorem ready_A (O : OK ops F A m x) {listed : Array Bool} (hcl : ∀ m k, listed.getD m false = true → A m k → listed.getD k false = true) {i k : Nat} (hi : i ∈ Region.ready .any ops listed)
 (hAk : A i k) : listed.getD k false = true := by
 obtain ⟨hun, oi, hoi, hall⟩ := mem_ready.1 hi
 obtain ⟨e, he, hb, hor⟩ := O.ha i oi k hoi hAk
 have hle := hall e he hb
 rcases hor with rfl | hor
 · exact hle
 · exact hcl _ _ hle hor
theorem closed_set (O : OK ops F A m x) {listed : Array Bool} (hsz : listed.size = ops.size) (hcl : ∀ m k, listed.getD m false = true → A m k → listed.getD k false = true) {i : Nat} (hi : i ∈ Region.ready .any ops listed) :
 ∀ m k, (listed.setIfInBounds i true).getD m false = true → A m k → (listed.setIfInBounds i true).getD k false = true := by
 intro m k hm hAk
 rw [lset] at hm ⊢
 split
 · rfl
 · split at hm
   · rename_i hmi
     obtain ⟨rfl, _⟩ := hmi
     exact ready_A O hcl hi hAk
   · exact hcl _ _ hm hAk
def CT (P : Program) (ops : Array Oper) (Q : Exit → Act → World → Prop) : List Nat → Act → World → Prop
 | [], a, w => Q .normal a w
 | i :: l, a, w => wpOp P ops Q i (CT P ops Q l) a w
theorem CT_any (O : OK ops F A m x) : ∀ (n p : Nat) (fuel : Nat) (listed : Array Bool) (a : Act) (w : World), listed.size = ops.size → m ≤ p → p + n = ops.size →
 (∀ j, j < p → listed.getD j false = true) → (∀ j, p ≤ j → j < ops.size → listed.getD j true = false) → (∀ m k, listed.getD m false = true → A m k → listed.getD k false = true) →
 n ≤ fuel → CT P ops Q (List.range' p n) a w → wpAny P .any ops Q fuel listed a w := by
 intro n
 induction n with
 | zero =>
   intro p fuel listed a w hsz hmp hp hl hu hcl hf h
   have hr : Region.ready .any ops listed = [] := by
    rw [List.eq_nil_iff_forall_not_mem]
    intro j hj
    obtain ⟨hun, oi, hoi, _⟩ := mem_ready.1 hj
    have := (Array.getElem?_eq_some_iff.1 hoi).1
    exact lfalse hun (hl j (by omega))
   cases fuel with
   | zero => exact ⟨hr, h⟩
   | succ f => exact ⟨fun _ => h, fun i hi => by rw [hr] at hi; cases hi⟩
 | succ n ih =>
   intro p fuel listed a w hsz hmp hp hl hu hcl hf h
   cases fuel with
   | zero => omega
   | succ f =>
     refine ⟨fun hr => absurd hr (ready_ex O hsz (hu p (Nat.le_refl _) (by omega))), fun i hi => ?_⟩
     obtain ⟨hun, oi, hoi, _⟩ := mem_ready.1 hi
     have hlt := (Array.getElem?_eq_some_iff.1 hoi).1
     have hip : i = p := by
      rcases Nat.lt_trichotomy i p with h1 | h1 | h1
      · exact (lfalse hun (hl i h1)).elim
      · exact h1
      · exact (lfalse (hu p (Nat.le_refl _) (by omega)) (ready_A O hcl hi (O.tail i p (by omega) hlt h1))).elim
     subst hip
     rw [List.range'_succ] at h
     refine wpOp_mono (fun a' w' h' => ?_) h
     refine ih (i + 1) f (listed.setIfInBounds i true) a' w' (by simpa using hsz) (by omega) (by omega) ?_ ?_ (closed_set O hsz hcl hi) (by omega) h'
     · intro j hj
       rw [lset]
       split
       · rfl
       · rename_i hn
         exact hl j (by rcases Nat.lt_or_ge j i with h1 | h1; exact h1; exact absurd ⟨by omega, by omega⟩ hn)
     · intro j hj1 hj2
       rw [lset, if_neg (by omega)]
       exact hu j (by omega) hj2
variable (hQ : ∀ c a w, ¬ Q (.panic c) a w) (hL : ¬ LetsOut Q)
include hQ hL
theorem CS_any (O : OK ops F A m x) (hK : ∀ a w, Kb a w → CT P ops Q (List.range' m (ops.size - m)) a w) :
 ∀ (fuel : Nat) (listed : Array Bool) (R : List Nat) (a : Act) (w : World), listed.size = ops.size → (∀ j, j < m → (j ∈ R ↔ listed.getD j true = false)) → (∀ j ∈ R, j < m ∧ j ≠ x) → R.Pairwise (· < ·) →
  (∀ j, m ≤ j → j < ops.size → listed.getD j true = false) →
  (∀ m k, listed.getD m false = true → A m k → listed.getD k false = true) → R.length + (ops.size - m) ≤ fuel → S0 w → (∀ k ∈ R, ∀ ok, ops[k]? = some ok → F.fl ok = true → F.rq ok = true → S w) → CS P ops Q S0 S F Kb R a w → wpAny P .any ops Q fuel listed a w := by
 intro fuel
 induction fuel with
 | zero =>
   intro listed R a w hsz hR hRm hsort hu hcl hf hS0 hS h
   have : R = [] := List.length_eq_zero_iff.1 (by omega)
   subst this
   refine CT_any O (ops.size - m) m 0 listed a w hsz (Nat.le_refl _) (by have := O.le; omega) ?_ hu hcl (by omega) (hK a w h)
   intro j hj
   rcases hb : listed.getD j false with _ | _
   · have := (hR j hj).2 (lnot (by have := O.le; omega) (by rw [hb]; decide))
     cases this
   · rfl
 | succ fuel ih =>
   intro listed R a w hsz hR hRm hsort hu hcl hf hS0 hS h
   cases hRe : R with
   | nil =>
     subst hRe
     refine CT_any O (ops.size - m) m (fuel + 1) listed a w hsz (Nat.le_refl _) (by have := O.le; omega) ?_ hu hcl (by simp only [List.length_nil] at hf; omega) (hK a w h)
     intro j hj
     rcases hb : listed.getD j false with _ | _
     · have := (hR j hj).2 (lnot (by have := O.le; omega) (by rw [hb]; decide))
       cases this
     · rfl
   | cons r0 R0 =>
   have hr0 : r0 ∈ R := by rw [hRe]; exact List.mem_cons_self ..
   clear hRe
   refine ⟨fun hr => absurd hr (ready_ex O hsz ((hR r0 (hRm r0 hr0).1).1 hr0)), fun i hir => ?_⟩
   obtain ⟨hun, oi, hoi, hall⟩ := mem_ready.1 hir
   have hlt := (Array.getElem?_eq_some_iff.1 hoi).1
   have him : i < m := by
    rcases Nat.lt_or_ge i m with h1 | h1
    · exact h1
    · exact (lfalse ((hR r0 (hRm r0 hr0).1).1 hr0) (ready_A O hcl hir (O.tail i r0 h1 hlt (by have := (hRm r0 hr0).1; omega)))).elim
   have hmem := (hR i him).2 hun
   obtain ⟨s, t, rfl⟩ := List.append_of_mem hmem
   rw [List.pairwise_append] at hsort
   obtain ⟨hs1, hs2, hs3⟩ := hsort
   rw [List.pairwise_cons] at hs2
   have hsi : ∀ k ∈ s, k < i := fun k hk => hs3 k hk i (List.mem_cons_self ..)
   have hswap : ∀ k ∈ s, ∃ ok, ops[k]? = some ok ∧ Swap ops F ok oi := by
    intro k hk
    have hkR : k ∈ s ++ i :: t := List.mem_append_left _ hk
    have hkun := (hR k (hRm k hkR).1).1 hkR
    have hltk : k < ops.size := by have := hsi k hk; omega
    refine ⟨ops[k], Array.getElem?_eq_getElem hltk, ?_⟩
    rcases O.sw k i _ oi (hsi k hk) him (hRm k hkR).2 (hRm i hmem).2 (Array.getElem?_eq_getElem hltk) hoi with hAk | hsw
    · exact (lfalse hkun (ready_A O hcl hir hAk)).elim
    · exact hsw
   have hfr := CS_front hoi O.sel hQ hL s hswap a w h
   have hil : i < listed.size := by omega
   have hst : ∀ k ∈ s ++ t, k ∈ s ++ i :: t := by
    intro k hk
    simp only [List.mem_append, List.mem_cons] at hk ⊢
    rcases hk with hk | hk
    · exact .inl hk
    · exact .inr (.inr hk)
   have key : ∀ a' w', S0 w' → (∀ k ∈ s ++ t, ∀ ok, ops[k]? = some ok → F.fl ok = true → F.rq ok = true → S w') → CS P ops Q S0 S F Kb (s ++ t) a' w' → wpAny P .any ops Q fuel (listed.setIfInBounds i true) a' w' := by
    intro a' w' hS0' hS' hc
    refine ih (listed.setIfInBounds i true) (s ++ t) a' w' (by simpa using hsz) ?_ ?_ ?_ ?_ (closed_set O hsz hcl hir) ?_ hS0' hS' hc
    · intro j hjm
      rw [lset]
      have hj := hR j hjm
      simp only [List.mem_append, List.mem_cons] at hj ⊢
      constructor
      · intro hm
        have hne : j ≠ i := by
         rintro rfl
         rcases hm with hm | hm
         · exact absurd (hsi j hm) (Nat.lt_irrefl _)
         · exact absurd (hs2.1 j hm) (Nat.lt_irrefl _)
        simp only [hne, false_and, if_false]
        exact hj.1 (by rcases hm with hm | hm; exact .inl hm; exact .inr (.inr hm))
      · intro hm
        split at hm
        · cases hm
        · rename_i hn
          rcases hj.2 hm with h' | rfl | h'
          · exact .inl h'
          · exact absurd ⟨rfl, hil⟩ hn
          · exact .inr h'
    · intro j hj
      refine hRm j ?_
      simp only [List.mem_append, List.mem_cons] at hj ⊢
      rcases hj with hj | hj
      · exact .inl hj
      · exact .inr (.inr hj)
    · rw [List.pairwise_append]
      exact ⟨hs1, hs2.2, fun x hx y hy => hs3 x hx y (List.mem_cons_of_mem _ hy)⟩
    · intro j hj1 hj2
      rw [lset, if_neg (by omega)]; exact hu j hj1 hj2
    · simp only [List.length_append, List.length_cons] at hf ⊢; omega
   cases hq : F.fl oi
   · rw [CS_loud hoi hq] at hfr
     refine wpOp_mono (fun a' w' h' => key a' w' h'.1.1 (fun k hk ok hok hqk hrk => ?_) h'.2) hfr
     cases hb : F.bl oi
     · exact h'.1.2 hb
     · have hkR := hst k hk
       exact (lfalse ((hR k (hRm k hkR).1).1 hkR) (ready_A O hcl hir (O.brk i k oi ok him (hRm k hkR).1 hoi hok hq hb hqk hrk))).elim
   · rw [CS_quiet hoi hq] at hfr
     obtain ⟨v, hy, hc⟩ := hfr
     exact hy.wpOp hoi ⟨hS0, fun hr => hS i hmem oi hoi hq hr⟩ (key _ w hS0 (fun k hk ok hok hqk hrk => hS k (hst k hk) ok hok hqk hrk) hc)
end
def CSx (P : Program) (ops : Array Oper) (Q : Exit → Act → World → Prop) (S0 S : World → Prop) (F : FL) (Kb : Act → World → Prop) (x : Nat) (Ax : Nat → Bool) : List Nat → Act → World → Prop
 | [], a, w => CS P ops Q S0 S F Kb [x] a w
 | i :: l, a, w => match ops[i]? with
   | none => False
   | some o => if Ax i = true then CS P ops Q S0 S F Kb (x :: i :: l) a w
     else if F.fl o = true then ∃ v, YieldsIf P ops (So S0 S F o) o v a ∧ CSx P ops Q S0 S F Kb x Ax l (a.put o.dst v) w
     else CS P ops Q S0 S F Kb (x :: i :: l) a w ∧ wpOp P ops Q i (fun a' w' => (S0 w' ∧ (F.bl o = false → S w')) ∧ CSx P ops Q S0 S F Kb x Ax l a' w') a w
section
variable {m x : Nat} {A : Nat → Nat → Prop} {Ax : Nat → Bool}
theorem CSx_ax {i : Nat} {o : Oper} {l : List Nat} {a : Act} {w : World} (hi : ops[i]? = some o) (hx : Ax i = true) :
 CSx P ops Q S0 S F Kb x Ax (i :: l) a w ↔ CS P ops Q S0 S F Kb (x :: i :: l) a w := by
 rw [CSx]; simp only [hi, hx, if_true]
theorem CSx_quiet {i : Nat} {o : Oper} {l : List Nat} {a : Act} {w : World} (hi : ops[i]? = some o) (hx : Ax i = false) (hq : F.fl o = true) :
 CSx P ops Q S0 S F Kb x Ax (i :: l) a w ↔ ∃ v, YieldsIf P ops (So S0 S F o) o v a ∧ CSx P ops Q S0 S F Kb x Ax l (a.put o.dst v) w := by
 rw [CSx]; simp only [hi, hx, hq, if_true, Bool.false_eq_true, if_false]
theorem CSx_loud {i : Nat} {o : Oper} {l : List Nat} {a : Act} {w : World} (hi : ops[i]? = some o) (hx : Ax i = false) (hq : F.fl o = false) :
 CSx P ops Q S0 S F Kb x Ax (i :: l) a w ↔ CS P ops Q S0 S F Kb (x :: i :: l) a w ∧ wpOp P ops Q i (fun a' w' => (S0 w' ∧ (F.bl o = false → S w')) ∧ CSx P ops Q S0 S F Kb x Ax l a' w') a w := by
 rw [CSx]; simp only [hi, hx, hq, Bool.false_eq_true, if_false]
structure OKx (ops : Array Oper) (F : FL) (A : Nat → Nat → Prop) (m x : Nat) (Ax : Nat → Bool) (ox : Oper) : Prop extends OK ops F A m x where
 xm : x < m
 xo : ops[x]? = some ox
 xl : F.fl ox = false
 xb : F.bl ox = false
 xa : ∀ k, ¬ A x k
 xq : ∀ i o, x < i → i < m → ops[i]? = some o → F.fl o = true ∨ A i x
 ax : ∀ i, i < m → (Ax i = true ↔ A i x)
 xs : ∀ i o, i < m → i ≠ x → ops[i]? = some o → F.fl o = true → A i x ∨ Swap ops F ox o
theorem A_lt (O : OK ops F A m x) : ∀ (i k : Nat), i < ops.size → A i k → k < i := by
 intro i
 induction i using Nat.strongRecOn with
 | ind i ih =>
   intro k hi hA
   obtain ⟨e, he, hb, hor⟩ := O.ha i _ k (Array.getElem?_eq_getElem hi) hA
   have hl := O.lt i _ (Array.getElem?_eq_getElem hi) e he hb
   rcases hor with rfl | hor
   · exact hl
   · exact Nat.lt_trans (ih e.on hl k (by omega) hor) hl
theorem Swap.symm {x y : Oper} (h : Swap ops F x y) : Swap ops F y x := ⟨h.1.symm, h.2.2.1, h.2.1, h.2.2.2.2, h.2.2.2.1⟩
variable {ox : Oper} (hQ : ∀ c a w, ¬ Q (.panic c) a w) (hL : ¬ LetsOut Q)
include hQ hL
theorem CSx_x (O : OKx ops F A m x Ax ox) : ∀ (l : List Nat), (∀ j ∈ l, j < m ∧ j ≠ x) → ∀ (a : Act) (w : World), CSx P ops Q S0 S F Kb x Ax l a w → CS P ops Q S0 S F Kb (x :: l) a w
 | [], _, a, w, h => h
 | i :: l, hl, a, w, h => by
   obtain ⟨him, hix⟩ := hl i (List.mem_cons_self ..)
   obtain ⟨oi, hio⟩ : ∃ oi, ops[i]? = some oi := ⟨_, Array.getElem?_eq_getElem (Nat.lt_of_lt_of_le him O.le)⟩
   cases hx : Ax i
   · cases hq : F.fl oi
     · exact ((CSx_loud hio hx hq).1 h).1
     · obtain ⟨v, hy, h⟩ := (CSx_quiet hio hx hq).1 h
       have h2 := CSx_x O l (fun j hj => hl j (List.mem_cons_of_mem _ hj)) _ w h
       have hsw : Swap ops F oi ox := by
        rcases O.xs i _ him hix hio hq with h' | h'
        · exact absurd ((O.ax i him).2 h') (by rw [hx]; decide)
        · exact h'.symm
       exact CS_swap hio O.xo hsw (fun cs b => O.sel i _ cs b hio) (fun cs b => O.sel x _ cs b O.xo) hQ hL ((CS_quiet hio hq).2 ⟨v, hy, h2⟩)
   · exact (CSx_ax hio hx).1 h
theorem CSx_front (O : OKx ops F A m x Ax ox) {i : Nat} {oi : Oper} (hi : ops[i]? = some oi) (him : i < m) (hix : i ≠ x) (hax : Ax i = false) (hqi : F.fl oi = true) {t : List Nat} :
 ∀ (s : List Nat), (∀ j ∈ s, j < m ∧ j ≠ x) → (∀ k ∈ s, ∃ ok, ops[k]? = some ok ∧ Swap ops F ok oi) → ∀ (a : Act) (w : World), So S0 S F oi w →
 CSx P ops Q S0 S F Kb x Ax (s ++ i :: t) a w → ∃ v, YieldsIf P ops (So S0 S F oi) oi v a ∧ CSx P ops Q S0 S F Kb x Ax (s ++ t) (a.put oi.dst v) w
 | [], _, _, a, w, _, h => (CSx_quiet hi hax hqi).1 h
 | k :: s, hl, hp, a, w, hS, h => by
   obtain ⟨hkm, hkx⟩ := hl k (List.mem_cons_self ..)
   obtain ⟨ok, hk, hs⟩ := hp k (List.mem_cons_self ..)
   have hp' : ∀ k ∈ s, ∃ ok, ops[k]? = some ok ∧ Swap ops F ok oi := fun k hk => hp k (List.mem_cons_of_mem _ hk)
   have hl' : ∀ j ∈ s, j < m ∧ j ≠ x := fun j hj => hl j (List.mem_cons_of_mem _ hj)
   have hsx : Swap ops F ox oi := by
    rcases O.xs i _ him hix hi hqi with h' | h'
    · exact absurd ((O.ax i him).2 h') (by rw [hax]; decide)
    · exact h'
   have toCS : CS P ops Q S0 S F Kb (x :: k :: (s ++ i :: t)) a w → ∃ v, YieldsIf P ops (So S0 S F oi) oi v a ∧ CS P ops Q S0 S F Kb (x :: k :: (s ++ t)) (a.put oi.dst v) w := by
    intro h
    have := CS_front (l := t) hi O.sel hQ hL (x :: k :: s) (fun j hj => by
     rcases List.mem_cons.1 hj with rfl | hj
     · exact ⟨ox, O.xo, hsx⟩
     · exact hp j hj) a w h
    exact (CS_quiet hi hqi).1 this
   rw [List.cons_append] at h
   cases hx : Ax k
   · cases hq : F.fl ok
     · obtain ⟨c1, c2⟩ := (CSx_loud hk hx hq).1 h
       obtain ⟨v1, y1, d1⟩ := toCS c1
       have c3 : wpOp P ops Q k (fun a' w' => (S0 w' ∧ (F.bl ok = false → S w')) ∧ ∃ v, YieldsIf P ops (So S0 S F oi) oi v a' ∧ CSx P ops Q S0 S F Kb x Ax (s ++ t) (a'.put oi.dst v) w') a w :=
        wpOp_mono (fun a' w' h' => ⟨h'.1, CSx_front O hi him hix hax hqi s hl' hp' a' w' ⟨h'.1.1, fun hr => h'.1.2 (hs.2.2.2.2 hr)⟩ h'.2⟩) c2
       obtain ⟨v2, y2, d2⟩ := swapLQ hk hs.2.1 hs.2.2.1 (fun cs b => O.sel k _ cs b hk) (fun cs b => O.sel i _ cs b hi) hQ hL hs.2.2.2.2 c3
       cases yi_uniq hS y1 y2
       exact ⟨v1, y1, (CSx_loud hk hx hq).2 ⟨d1, d2⟩⟩
     · obtain ⟨vk, yk, h⟩ := (CSx_quiet hk hx hq).1 h
       obtain ⟨u, y1, y2, h3⟩ := swapQQ hs.2.1 (fun cs b => O.sel k _ cs b hk) (fun cs b => O.sel i _ cs b hi) yk (CSx_front O hi him hix hax hqi s hl' hp' _ w hS h)
       exact ⟨u, y1, (CSx_quiet hk hx hq).2 ⟨vk, y2, h3⟩⟩
   · obtain ⟨v, y, d⟩ := toCS ((CSx_ax hk hx).1 h)
     exact ⟨v, y, (CSx_ax hk hx).2 d⟩
theorem CSx_front_loud (O : OKx ops F A m x Ax ox) {i : Nat} {oi : Oper} (hi : ops[i]? = some oi) (hax : Ax i = false) (hqi : F.fl oi = false) {t : List Nat} :
 ∀ (s : List Nat), (∀ k ∈ s, ∃ ok, ops[k]? = some ok ∧ Ax k = false ∧ F.fl ok = true ∧ Swap ops F ok oi) → ∀ (a : Act) (w : World),
 CSx P ops Q S0 S F Kb x Ax (s ++ i :: t) a w → wpOp P ops Q i (fun a' w' => (S0 w' ∧ (F.bl oi = false → S w')) ∧ CSx P ops Q S0 S F Kb x Ax (s ++ t) a' w') a w
 | [], _, a, w, h => ((CSx_loud hi hax hqi).1 h).2
 | k :: s, hp, a, w, h => by
   obtain ⟨ok, hk, hx, hq, hs⟩ := hp k (List.mem_cons_self ..)
   rw [List.cons_append] at h
   obtain ⟨vk, yk, h⟩ := (CSx_quiet hk hx hq).1 h
   have h2 := CSx_front_loud O hi hax hqi s (fun k hk => hp k (List.mem_cons_of_mem _ hk)) _ w h
   refine wpOp_mono (fun a' w' h' => ⟨h'.1, ?_⟩) (swapQL hi hs.2.1 (fun cs b => O.sel k _ cs b hk) (fun cs b => O.sel i _ cs b hi) hQ yk h2)
   exact (CSx_quiet hk hx hq).2 h'.2
theorem CSx_any (O : OKx ops F A m x Ax ox) (hK : ∀ a w, Kb a w → CT P ops Q (List.range' m (ops.size - m)) a w) :
 ∀ (fuel : Nat) (listed : Array Bool) (R : List Nat) (a : Act) (w : World), listed.size = ops.size → (∀ j, j < m → j ≠ x → (j ∈ R ↔ listed.getD j true = false)) → listed.getD x true = false → (∀ j ∈ R, j < m ∧ j ≠ x) → R.Pairwise (· < ·) →
  (∀ j, m ≤ j → j < ops.size → listed.getD j true = false) →
  (∀ m k, listed.getD m false = true → A m k → listed.getD k false = true) → R.length + 1 + (ops.size - m) ≤ fuel → S0 w → (∀ k ∈ R, ∀ ok, ops[k]? = some ok → F.fl ok = true → F.rq ok = true → S w) → CSx P ops Q S0 S F Kb x Ax R a w → wpAny P .any ops Q fuel listed a w := by
 intro fuel
 induction fuel with
 | zero => intro listed R a w hsz hR hxu hRm hsort hu hcl hf; omega
 | succ fuel ih =>
   intro listed R a w hsz hR hxu hRm hsort hu hcl hf hS0 hS h
   refine ⟨fun hr => absurd hr (ready_ex O.toOK hsz hxu), fun i hir => ?_⟩
   obtain ⟨hun, oi, hoi, hall⟩ := mem_ready.1 hir
   have hlt := (Array.getElem?_eq_some_iff.1 hoi).1
   have hil : i < listed.size := by omega
   have him : i < m := by
    rcases Nat.lt_or_ge i m with h1 | h1
    · exact h1
    · exact (lfalse hxu (ready_A O.toOK hcl hir (O.tail i x h1 hlt (by have := O.xm; omega)))).elim
   have hui : ∀ j, m ≤ j → j < ops.size → (listed.setIfInBounds i true).getD j true = false := by
    intro j hj1 hj2
    rw [lset, if_neg (by omega)]; exact hu j hj1 hj2
   by_cases hix : i = x
   · subst hix
     have hcs := CSx_x hQ hL O R hRm a w h
     rw [CS_loud O.xo O.xl] at hcs
     refine wpOp_mono (fun a' w' h' => ?_) hcs
     refine CS_any hQ hL O.toOK hK fuel (listed.setIfInBounds i true) R a' w' (by simpa using hsz) ?_ hRm hsort hui (closed_set O.toOK hsz hcl hir) (by omega) h'.1.1 (fun _ _ _ _ _ _ => h'.1.2 O.xb) h'.2
     intro j hjm
     rw [lset]
     by_cases hji : j = i
     · subst hji
       rw [if_pos ⟨rfl, hil⟩]
       exact ⟨fun hj => absurd rfl (hRm j hj).2, fun hj => by cases hj⟩
     · rw [if_neg (by omega)]; exact hR j hjm hji
   · have hmem := (hR i him hix).2 hun
     have hax : Ax i = false := by
      cases hx : Ax i
      · rfl
      · exact (lfalse hxu (ready_A O.toOK hcl hir ((O.ax i him).1 hx))).elim
     obtain ⟨s, t, rfl⟩ := List.append_of_mem hmem
     rw [List.pairwise_append] at hsort
     obtain ⟨hs1, hs2, hs3⟩ := hsort
     rw [List.pairwise_cons] at hs2
     have hsi : ∀ k ∈ s, k < i := fun k hk => hs3 k hk i (List.mem_cons_self ..)
     have hsR : ∀ k ∈ s, k < m ∧ k ≠ x := fun k hk => hRm k (List.mem_append_left _ hk)
     have hswap : ∀ k ∈ s, ∃ ok, ops[k]? = some ok ∧ Swap ops F ok oi := by
      intro k hk
      have hkR : k ∈ s ++ i :: t := List.mem_append_left _ hk
      have hkun := (hR k (hRm k hkR).1 (hRm k hkR).2).1 hkR
      have hltk : k < ops.size := by have := hsi k hk; omega
      refine ⟨ops[k], Array.getElem?_eq_getElem hltk, ?_⟩
      rcases O.sw k i _ oi (hsi k hk) him (hRm k hkR).2 hix (Array.getElem?_eq_getElem hltk) hoi with hAk | hsw
      · exact (lfalse hkun (ready_A O.toOK hcl hir hAk)).elim
      · exact hsw
     have hst : ∀ k ∈ s ++ t, k ∈ s ++ i :: t := by
      intro k hk
      simp only [List.mem_append, List.mem_cons] at hk ⊢
      rcases hk with hk | hk
      · exact .inl hk
      · exact .inr (.inr hk)
     have key : ∀ a' w', S0 w' → (∀ k ∈ s ++ t, ∀ ok, ops[k]? = some ok → F.fl ok = true → F.rq ok = true → S w') → CSx P ops Q S0 S F Kb x Ax (s ++ t) a' w' → wpAny P .any ops Q fuel (listed.setIfInBounds i true) a' w' := by
      intro a' w' hS0' hS' hc
      refine ih (listed.setIfInBounds i true) (s ++ t) a' w' (by simpa using hsz) ?_ ?_ ?_ ?_ hui (closed_set O.toOK hsz hcl hir) ?_ hS0' hS' hc
      · intro j hjm hjx
        rw [lset]
        have hj := hR j hjm hjx
        simp only [List.mem_append, List.mem_cons] at hj ⊢
        constructor
        · intro hm
          have hne : j ≠ i := by
           rintro rfl
           rcases hm with hm | hm
           · exact absurd (hsi j hm) (Nat.lt_irrefl _)
           · exact absurd (hs2.1 j hm) (Nat.lt_irrefl _)
          simp only [hne, false_and, if_false]
          exact hj.1 (by rcases hm with hm | hm; exact .inl hm; exact .inr (.inr hm))
        · intro hm
          split at hm
          · cases hm
          · rename_i hn
            rcases hj.2 hm with h' | rfl | h'
            · exact .inl h'
            · exact absurd ⟨rfl, hil⟩ hn
            · exact .inr h'
      · rw [lset, if_neg (by omega)]; exact hxu
      · intro j hj
        refine hRm j ?_
        simp only [List.mem_append, List.mem_cons] at hj ⊢
        rcases hj with hj | hj
        · exact .inl hj
        · exact .inr (.inr hj)
      · rw [List.pairwise_append]
        exact ⟨hs1, hs2.2, fun x hx y hy => hs3 x hx y (List.mem_cons_of_mem _ hy)⟩
      · simp only [List.length_append, List.length_cons] at hf ⊢; omega
     cases hq : F.fl oi
     · have hix' : i < x := by
        rcases Nat.lt_trichotomy i x with h1 | h1 | h1
        · exact h1
        · exact absurd h1 hix
        · rcases O.xq i oi h1 him hoi with h2 | h2
          · rw [h2] at hq; cases hq
          · exact absurd ((O.ax i him).2 h2) (by rw [hax]; decide)
       have hfr := CSx_front_loud hQ hL O hoi hax hq s (fun k hk => by
        obtain ⟨ok, hk1, hk2⟩ := hswap k hk
        refine ⟨ok, hk1, ?_, ?_, hk2⟩
        · cases hx : Ax k
          · rfl
          · have := A_lt O.toOK k x (by have := hsi k hk; omega) ((O.ax k (hsR k hk).1).1 hx)
            have := hsi k hk; omega
        · rcases hk2.1 with h' | h'
          · exact h'
          · rw [hq] at h'; cases h') a w h
       refine wpOp_mono (fun a' w' h' => key a' w' h'.1.1 (fun k hk ok hok hqk hrk => ?_) h'.2) hfr
       cases hb : F.bl oi
       · exact h'.1.2 hb
       · have hkR := hst k hk
         exact (lfalse ((hR k (hRm k hkR).1 (hRm k hkR).2).1 hkR) (ready_A O.toOK hcl hir (O.brk i k oi ok him (hRm k hkR).1 hoi hok hq hb hqk hrk))).elim
     · have hSi : So S0 S F oi w := ⟨hS0, fun hr => hS i hmem oi hoi hq hr⟩
       obtain ⟨v, hy, hc⟩ := CSx_front hQ hL O hoi him hix hax hq s hsR hswap a w hSi h
       exact hy.wpOp hoi hSi (key _ w hS0 (fun k hk ok hok hqk hrk => hS k (hst k hk) ok hok hqk hrk) hc)
end
def orMask (an : List Nat) : List Edge → Nat
 | [] => 0
 | e :: l => bif Region.binds .any e then ((1 <<< e.on) ||| an.getD e.on 0) ||| orMask an l else orMask an l
def ancs : List Oper → List Nat → List Nat
 | [], an => an
 | o :: l, an => ancs l (an ++ [orMask an o.after.toList])
def prevOK (ops : Array Oper) (F : FL) (x : Nat) (oj : Oper) (m : Nat) : Nat → List Oper → Bool
 | _, [] => true
 | k, ok :: l => (m.testBit k || Nat.beq k x || ((F.fl ok || F.fl oj) && (ok.apart ops oj && (oj.apart ops ok && ((!F.rq ok || !F.bl oj) && (!F.rq oj || !F.bl ok)))))) && prevOK ops F x oj m (k + 1) l
def brkOK (F : FL) (m j : Nat) (o : Oper) (mask : Nat) : Nat → List Oper → Bool
 | _, [] => true
 | k, ok :: l => (!Nat.blt j m || !Nat.blt k m || F.fl o || !F.bl o || !F.fl ok || !F.rq ok || mask.testBit k) && brkOK F m j o mask (k + 1) l
def calmL (ops : Array Oper) (F : FL) (m x : Nat) (an : List Nat) (all : List Oper) : Nat → List Oper → Bool
 | _, [] => true
 | j, o :: l => (Nat.beq (an.getD j 0) (orMask an o.after.toList) && (o.after.toList.all fun e => !Region.binds .any e || Nat.blt e.on j) &&
  (bif Nat.blt j m then Nat.beq j x || prevOK ops F x o (an.getD j 0) 0 (all.take j) else (List.range j).all fun k => (an.getD j 0).testBit k) && brkOK F m j o (an.getD j 0) 0 all) && calmL ops F m x an all (j + 1) l
def calm (ops : Array Oper) (F : FL) (m x : Nat) : Bool := Region.noSelect ops && Nat.ble m ops.toList.length && calmL ops F m x (ancs ops.toList []) ops.toList 0 ops.toList
def floatL (ops : Array Oper) (F : FL) (m x : Nat) (an : List Nat) (ox : Oper) : Nat → List Oper → Bool
 | _, [] => true
 | j, o :: l => (Nat.beq j x || !Nat.blt j m || ((bif Nat.blt x j then F.fl o || (an.getD j 0).testBit x else true) && (!F.fl o || (an.getD j 0).testBit x || (ox.apart ops o && (o.apart ops ox && ((!F.rq ox || !F.bl o) && (!F.rq o || !F.bl ox))))))) && floatL ops F m x an ox (j + 1) l
def floatOK (ops : Array Oper) (F : FL) (m x : Nat) : Bool := match ops.toList[x]? with
 | some ox => Nat.blt x m && !F.fl ox && !F.bl ox && Nat.beq ((ancs ops.toList []).getD x 0) 0 && floatL ops F m x (ancs ops.toList []) ox 0 ops.toList
 | none => false
theorem orMask_spec (an : List Nat) (k : Nat) : ∀ l, (orMask an l).testBit k = true → ∃ e ∈ l, Region.binds .any e = true ∧ (e.on = k ∨ (an.getD e.on 0).testBit k = true)
 | [], h => by simp [orMask] at h
 | e :: l, h => by
   simp only [orMask] at h
   cases hb : Region.binds .any e <;> rw [hb] at h
   · simp only [cond_false] at h
     obtain ⟨e', h1, h2⟩ := orMask_spec an k l h
     exact ⟨e', List.mem_cons_of_mem _ h1, h2⟩
   · simp only [cond_true, Nat.testBit_or, Bool.or_eq_true] at h
     rcases h with (h | h) | h
     · refine ⟨e, List.mem_cons_self .., hb, .inl ?_⟩
       rw [Nat.one_shiftLeft, Nat.testBit_two_pow] at h
       simpa using h
     · exact ⟨e, List.mem_cons_self .., hb, .inr h⟩
     · obtain ⟨e', h1, h2⟩ := orMask_spec an k l h
       exact ⟨e', List.mem_cons_of_mem _ h1, h2⟩
theorem imp_of {a b : Bool} (h : (!a) = true ∨ (!b) = true) : a = true → b = false := by
 intro ha; rcases h with h | h
 · rw [ha] at h; cases h
 · simpa using h
theorem swap_of {x y : Oper} (h1 : F.fl x = true ∨ F.fl y = true) (h : x.apart ops y = true ∧ y.apart ops x = true ∧ ((!F.rq x) = true ∨ (!F.bl y) = true) ∧ ((!F.rq y) = true ∨ (!F.bl x) = true)) : Swap ops F x y :=
 ⟨h1, h.1, h.2.1, imp_of h.2.2.1, imp_of h.2.2.2⟩
theorem brkOK_spec {m j : Nat} {o : Oper} {mask : Nat} : ∀ (l : List Oper) (s : Nat), brkOK F m j o mask s l = true → ∀ k ok, l[k]? = some ok → j < m → s + k < m → F.fl o = false → F.bl o = true → F.fl ok = true → F.rq ok = true → mask.testBit (s + k) = true
 | [], _, _, k, ok, h => by simp at h
 | o' :: l, s, h, k, ok, hk => by
   simp only [brkOK, Bool.and_eq_true] at h
   intro hj hkm h1 h2 h3 h4
   cases k with
   | zero =>
     simp only [List.getElem?_cons_zero, Option.some.injEq] at hk; subst hk
     have hj' : Nat.blt j m = true := by rw [Nat.blt_eq]; exact hj
     have hk' : Nat.blt s m = true := by rw [Nat.blt_eq]; omega
     simpa [hj', hk', h1, h2, h3, h4] using h.1
   | succ k =>
     simp only [List.getElem?_cons_succ] at hk
     have := brkOK_spec l (s + 1) h.2 k ok hk hj (by omega) h1 h2 h3 h4
     rwa [show s + 1 + k = s + (k + 1) by omega] at this
theorem prevOK_spec {oj : Oper} {x m : Nat} : ∀ (l : List Oper) (s : Nat), prevOK ops F x oj m s l = true → ∀ k ok, l[k]? = some ok → s + k ≠ x → m.testBit (s + k) = true ∨ Swap ops F ok oj
 | [], _, _, k, ok, h, _ => by simp at h
 | o :: l, s, h, k, ok, hk, hx => by
   simp only [prevOK, Bool.and_eq_true, Bool.or_eq_true] at h
   cases k with
   | zero =>
     simp only [List.getElem?_cons_zero, Option.some.injEq] at hk; subst hk
     rcases h.1 with (h1 | h1) | h1
     · exact .inl h1
     · exact absurd (Nat.eq_of_beq_eq_true h1) hx
     · exact .inr (swap_of h1.1 h1.2)
   | succ k =>
     simp only [List.getElem?_cons_succ] at hk
     have := prevOK_spec l (s + 1) h.2 k ok hk (by omega)
     rwa [show s + 1 + k = s + (k + 1) by omega] at this
theorem calmL_spec {m x : Nat} {an : List Nat} {all : List Oper} : ∀ (l : List Oper) (s : Nat), calmL ops F m x an all s l = true → ∀ j o, l[j]? = some o →
 an.getD (s + j) 0 = orMask an o.after.toList ∧ (∀ e ∈ o.after, Region.binds .any e = true → e.on < s + j) ∧ (s + j < m → s + j ≠ x → prevOK ops F x o (an.getD (s + j) 0) 0 (all.take (s + j)) = true) ∧
  (m ≤ s + j → ∀ k, k < s + j → (an.getD (s + j) 0).testBit k = true) ∧ brkOK F m (s + j) o (an.getD (s + j) 0) 0 all = true
 | [], _, _, j, o, h => by simp at h
 | o' :: l, s, h, j, o, hj => by
   simp only [calmL, Bool.and_eq_true] at h
   cases j with
   | zero =>
     simp only [List.getElem?_cons_zero, Option.some.injEq] at hj; subst hj
     obtain ⟨⟨⟨⟨h1, h2⟩, h3⟩, h4⟩, _⟩ := h
     refine ⟨Nat.eq_of_beq_eq_true h1, fun e he hb => ?_, fun hm hx => ?_, fun hm k hk => ?_, h4⟩
     · have := List.all_eq_true.1 h2 e (by simpa using he)
       simp only [hb, Bool.not_true, Bool.false_or, Nat.blt_eq] at this
       exact this
     · rw [show Nat.blt s m = true by rw [Nat.blt_eq]; exact hm] at h3
       simp only [cond_true, Bool.or_eq_true] at h3
       rcases h3 with h3 | h3
       · exact absurd (Nat.eq_of_beq_eq_true h3) hx
       · exact h3
     · rw [show Nat.blt s m = false by rw [Bool.eq_false_iff, ne_eq, Nat.blt_eq]; simp only [Nat.add_zero] at hm; omega] at h3
       simp only [cond_false] at h3
       exact List.all_eq_true.1 h3 k (List.mem_range.2 hk)
   | succ j =>
     simp only [List.getElem?_cons_succ] at hj
     have := calmL_spec l (s + 1) h.2 j o hj
     rwa [show s + 1 + j = s + (j + 1) by omega] at this
theorem floatL_spec {m x : Nat} {an : List Nat} {ox : Oper} : ∀ (l : List Oper) (s : Nat), floatL ops F m x an ox s l = true → ∀ j o, l[j]? = some o → s + j ≠ x → s + j < m →
 (x < s + j → F.fl o = true ∨ (an.getD (s + j) 0).testBit x = true) ∧ (F.fl o = true → (an.getD (s + j) 0).testBit x = true ∨ Swap ops F ox o)
 | [], _, _, j, o, h, _, _ => by simp at h
 | o' :: l, s, h, j, o, hj, hx, hm => by
   simp only [floatL, Bool.and_eq_true, Bool.or_eq_true] at h
   cases j with
   | zero =>
     simp only [List.getElem?_cons_zero, Option.some.injEq] at hj; subst hj
     rcases h.1 with (h1 | h1) | ⟨h1, h2⟩
     · exact absurd (Nat.eq_of_beq_eq_true h1) hx
     · simp only [Bool.not_eq_true', Bool.eq_false_iff, ne_eq, Nat.blt_eq] at h1; exact absurd hm h1
     · refine ⟨fun hl => ?_, fun hq => ?_⟩
       · rw [show Nat.blt x s = true by rw [Nat.blt_eq]; exact hl] at h1; simpa using h1
       · rcases h2 with (h2 | h2) | h2
         · rw [hq] at h2; cases h2
         · exact .inl h2
         · exact .inr (swap_of (.inr hq) h2)
   | succ j =>
     simp only [List.getElem?_cons_succ] at hj
     have := floatL_spec l (s + 1) h.2 j o hj (by omega) (by omega)
     rwa [show s + 1 + j = s + (j + 1) by omega] at this
def An (ops : Array Oper) (i k : Nat) : Prop := ((ancs ops.toList []).getD i 0).testBit k = true
theorem calm_OK {m x : Nat} (hc : calm ops F m x = true) : OK ops F (An ops) m x := by
 unfold calm at hc
 rw [Bool.and_eq_true, Bool.and_eq_true] at hc
 obtain ⟨⟨hns, hm⟩, hc⟩ := hc
 have hm := Nat.le_of_ble_eq_true hm
 have spec := calmL_spec _ _ hc
 refine ⟨Region.noSelect_spec hns, ?_, ?_, ?_, ?_, ?_, by simpa using hm⟩
 · intro k i ok oi hki him hkx hix hok hoi
   obtain ⟨_, _, h3, _, _⟩ := spec i oi (by simpa using hoi)
   have := prevOK_spec _ _ (h3 (by omega) (by omega)) k ok (by rw [List.getElem?_take_of_lt (by omega)]; simpa using hok) (by omega)
   simpa [An] using this
 · intro i o k hoi hAk
   obtain ⟨h1, _, _⟩ := spec i o (by simpa using hoi)
   simp only [Nat.zero_add] at h1
   simp only [An, h1] at hAk
   obtain ⟨e, he, hb⟩ := orMask_spec _ _ _ hAk
   exact ⟨e, by simpa using he, hb⟩
 · intro i o hoi e he hb
   obtain ⟨_, h2, _⟩ := spec i o (by simpa using hoi)
   simpa using h2 e he hb
 · intro i k oi ok him hkm hoi hok h1 h2 h3 h4
   obtain ⟨_, _, _, _, h5⟩ := spec i oi (by simpa using hoi)
   simpa [An] using brkOK_spec _ _ h5 k ok (by simpa using hok) (by omega) (by omega) h1 h2 h3 h4
 · intro i k hmi hi hki
   obtain ⟨_, _, _, h4, _⟩ := spec i ops[i] (by simp [hi])
   simpa [An] using h4 (by omega) k (by omega)
theorem float_OK {m x : Nat} (hc : calm ops F m x = true) (hf : floatOK ops F m x = true) : ∃ ox, OKx ops F (An ops) m x (fun i => ((ancs ops.toList []).getD i 0).testBit x) ox := by
 unfold floatOK at hf
 split at hf
 case h_2 => cases hf
 rename_i ox hox
 simp only [Bool.and_eq_true, Bool.not_eq_true', Nat.blt_eq] at hf
 obtain ⟨⟨⟨⟨h1, h2⟩, hb⟩, h3⟩, h4⟩ := hf
 have spec := floatL_spec _ _ h4
 have O := calm_OK hc
 refine ⟨ox, O, h1, by simpa using hox, h2, hb, ?_, ?_, fun _ _ => Iff.rfl, ?_⟩
 · intro k hk
   unfold An at hk
   rw [Nat.eq_of_beq_eq_true h3] at hk
   simp at hk
 · intro i o hxi him hoi
   simpa [An] using (spec i o (by simpa using hoi) (by omega) (by omega)).1 (by omega)
 · intro i o him hix hoi hq
   simpa [An] using (spec i o (by simpa using hoi) (by omega) (by omega)).2 hq
theorem calm_any {m x : Nat} (hc : calm ops F m x = true) (hx : ops.size ≤ x) (hQ : ∀ c a w, ¬ Q (.panic c) a w) (hL : ¬ LetsOut Q) (hK : ∀ a w, Kb a w → CT P ops Q (List.range' m (ops.size - m)) a w) {a : Act} {w : World} (hS0 : S0 w) (hS : S w)
 (h : CS P ops Q S0 S F Kb (List.range' 0 m) a w) : wpAny P .any ops Q ops.size (Array.replicate ops.size false) a w := by
 have O := calm_OK hc
 have hm := O.le
 have hu : ∀ j, j < ops.size → (Array.replicate ops.size false).getD j true = false := fun j hj => by simp [hj]
 refine CS_any hQ hL O hK ops.size (Array.replicate ops.size false) (List.range' 0 m) a w (by simp) ?_ ?_ (List.pairwise_lt_range' ..) (fun j _ hj => hu j hj) ?_ (by simp; omega) hS0 (fun _ _ _ _ _ _ => hS) h
 · intro j hj
   simp only [List.mem_range'_1, Nat.zero_add, Nat.zero_le, true_and]
   exact ⟨fun _ => hu j (by omega), fun _ => hj⟩
 · intro j hj
   simp only [List.mem_range'_1, Nat.zero_add, Nat.zero_le, true_and] at hj
   exact ⟨hj, by omega⟩
 · intro i k hi
   by_cases hj : i < ops.size
   · simp [hj] at hi
   · simp [hj] at hi
theorem float_any {m x : Nat} (hc : calm ops F m x = true) (hf : floatOK ops F m x = true) (hQ : ∀ c a w, ¬ Q (.panic c) a w) (hL : ¬ LetsOut Q) (hK : ∀ a w, Kb a w → CT P ops Q (List.range' m (ops.size - m)) a w) {a : Act} {w : World} (hS0 : S0 w) (hS : S w)
 (h : CSx P ops Q S0 S F Kb x (fun i => ((ancs ops.toList []).getD i 0).testBit x) (List.range' 0 x ++ List.range' (x + 1) (m - (x + 1))) a w) :
 wpAny P .any ops Q ops.size (Array.replicate ops.size false) a w := by
 obtain ⟨ox, O⟩ := float_OK hc hf
 have hm := O.le
 have hxm := O.xm
 have hu : ∀ j, j < ops.size → (Array.replicate ops.size false).getD j true = false := fun j hj => by simp [hj]
 refine CSx_any hQ hL O hK ops.size (Array.replicate ops.size false) _ a w (by simp) ?_ (hu x (by omega)) ?_ ?_ (fun j _ hj => hu j hj) ?_ (by simp; omega) hS0 (fun _ _ _ _ _ _ => hS) h
 · intro j hj hjx
   simp only [List.mem_append, List.mem_range'_1]
   exact ⟨fun _ => hu j (by omega), fun _ => by omega⟩
 · intro j hj
   simp only [List.mem_append, List.mem_range'_1] at hj
   omega
 · rw [List.pairwise_append]
   refine ⟨List.pairwise_lt_range' .., List.pairwise_lt_range' .., fun a ha b hb => ?_⟩
   simp only [List.mem_range'_1] at ha hb
   omega
 · intro i k hi
   by_cases hj : i < ops.size
   · simp [hj] at hi
   · simp [hj] at hi
end
end Go.Eng
