/- A part of the proof that the rows statement FnSetAny holds: the engine of abstract states, the walks through the program, the bridge; no conditions. -/
import Derived.Test.YthkgjhnckakliaaGreatDoorZBD
import Derived.Test.YthkgjhnckakliaaGreatDoorZAO
import Derived.Test.YthkgjhnckakliaaGreatDoorZBH
set_option linter.unusedVariables false
set_option linter.unusedSimpArgs false
set_option linter.unusedSectionVars false
namespace Go.Eng
def Ends {α : Type} (n0 : Nat) (N : α → Nat) (H : α → Hp) (V : α → AV) (I : α → Prop) : Rs := fun n hp r =>
  ∃ x pl, subHp (pm pl) (N x) hp (H x) ∧ okG (pm pl) (H x) = true ∧ Nat.ble n0 (N x) = true ∧ upto n0 (fun i => Nat.beq (pm pl i) i) = true ∧ r = (V x).ren (pm pl) ∧ (V x).lt (N x) ∧ I x
def Fin' {α : Type} (N : α → Nat) (H : α → Hp) (V : α → AV) (I : α → Prop) : Rs := fun n hp r => ∃ x, n = N x ∧ hp = H x ∧ r = V x ∧ I x
theorem Tri.renX {C : Cy} {f : FuncId} {n0 : Nat} {hp0 : Hp} {args : List AV} {α : Type} {N : α → Nat} {H : α → Hp} {V : α → AV} {I : α → Prop} (T : Tri C f n0 hp0 args (Ends n0 N H V I)) :
    Tri C f n0 hp0 args (Fin' N H V I) := by
  refine ⟨T.1, fun ρ w HH hl => (T.2 ρ w HH hl).mono ?_⟩
  rintro e w' ⟨ρ', n1, hp1, r, ⟨x, pl, h1, h2, h3, h4, h5, h6, h7⟩, he, hrl, hn, hag, H1, F⟩
  have key : ∀ {id o}, lk (H x) id = some o → lk hp1 (pm pl id) = some (o.ren (pm pl)) ∧ id < N x ∧ o.ltP (N x) := fun h' => subHp_mem h1 (lk_mem h')
  refine ⟨fun i => ρ' (pm pl i), N x, H x, V x, ⟨x, rfl, rfl, rfl, h7⟩, ?_, h6, Nat.le_of_ble_eq_true h3, ?_, H1.renG h1 h2, ⟨F.frame, ?_, ?_, F.hsize, F.tape, F.os, F.output⟩⟩
  · rw [he, h5, AV.den_ren]
  · intro i hi
    show ρ' (pm pl i) = ρ i
    rw [Nat.eq_of_beq_eq_true (upto_spec h4 hi)]; exact hag i hi
  · intro id o ho hm
    exact F.own _ _ (key ho).1 (by rw [AO.mut_ren]; exact hm)
  · intro id o ho hm
    exact F.own2 _ _ (key ho).1 (by rw [AO.live_ren]; exact hm)
mutual
theorem AV.ren_congr {π π' : Nat → Nat} {n : Nat} (h : ∀ i, i < n → π' i = π i) : ∀ (a : AV), a.lt n → a.ren π' = a.ren π
  | .int .., _ => rfl
  | .bool .., _ => rfl
  | .str .., _ => rfl
  | .v .., _ => rfl
  | .ptr id off, l => by simp only [AV.lt] at l; simp only [AV.ren, h id l]
  | .pix id n i j, l => by simp only [AV.lt] at l; simp only [AV.ren, h id l]
  | .sl nl id n off len cap, l => by simp only [AV.lt] at l; simp only [AV.ren, h id l]
  | .map id, l => by simp only [AV.lt] at l; simp only [AV.ren, h id l]
  | .agg cs, l => by simp only [AV.lt] at l; simp only [AV.ren, renL_congr h cs l]
  | .tup cs, l => by simp only [AV.lt] at l; simp only [AV.ren, renL_congr h cs l]
  | .fn f a b, l => by simp only [AV.lt] at l; simp only [AV.ren, renL_congr h a l.1, renL_congr h b l.2]
  | .ifc t x, l => by simp only [AV.lt] at l; simp only [AV.ren, AV.ren_congr h x l]
theorem renL_congr {π π' : Nat → Nat} {n : Nat} (h : ∀ i, i < n → π' i = π i) : ∀ (l : List AV), ltL n l → renL π' l = renL π l
  | [], _ => rfl
  | a :: l, hl => by simp only [ltL] at hl; simp only [renL, AV.ren_congr h a hl.1, renL_congr h l hl.2]
end
theorem AO.ren_congr {π π' : Nat → Nat} {n : Nat} (h : ∀ i, i < n → π' i = π i) (o : AO) (l : o.ltP n) : o.ren π' = o.ren π := by
  cases o with
  | cells e m cs =>
    have hl : ltL n cs := AO.ltP_lt (o := .cells e m cs) l
    simp only [AO.ren, renL_congr h cs hl]
  | _ => rfl
theorem lk_back {hp hp0 : Hp} {π : Nat → Nat} {n0 nx : Nat} (hh : subHp π n0 hp hp0) (hi : nodupB ((List.range n0).map π) = true) :
    ∀ id o, lk hp id = some o → lk (appH (renH (pn π n0 nx) hp0) (appH (deadH π hp0) hp)) id = some o := by
  intro id o ho
  have hk : ∀ p ∈ hp0, p.1 < n0 := fun p hp' => (subHp_mem hh (id := p.1) (o := p.2) hp').2.1
  have hinj : ∀ i j, i < n0 → j < n0 → pn π n0 nx i = pn π n0 nx j → i = j := by
    intro i j h1 h2 h3
    rw [pn_lt h1, pn_lt h2] at h3
    exact nodupB_id hi i j h1 h2 h3
  rw [lk_appH]
  cases hr : lk (renH (pn π n0 nx) hp0) id with
  | some o2 =>
    obtain ⟨i, p, h0, h1, h2, h3⟩ := lk_renH hinj hp0 hk hr
    obtain ⟨g1, _, g3⟩ := subHp_mem hh (lk_mem h1)
    rw [pn_lt h0] at h2
    rw [h2, ho] at g1
    cases g1
    rw [h3]
    show some _ = some _
    rw [AO.ren_congr (fun i hi => pn_lt hi) p g3]
  | none =>
    show lk (appH (deadH π hp0) hp) id = some o
    rw [lk_appH]
    cases hd : lk (deadH π hp0) id with
    | some o2 =>
      obtain ⟨_, i, p, h2, h3⟩ := lk_deadH hp0 hd
      have hlt := hk _ h2
      have : ∃ p', lk hp0 i = some p' := by
        clear hd hr hh hk hlt
        induction hp0 with
        | nil => cases h2
        | cons q l ih =>
          obtain ⟨j, q2⟩ := q
          rw [lk_cons]
          by_cases e : j = i
          · exact ⟨q2, if_pos e⟩
          · rw [if_neg e]
            rcases List.mem_cons.1 h2 with e2 | h2
            · cases e2; exact absurd rfl e
            · exact ih h2
      obtain ⟨p', hp'⟩ := this
      have := lk_renH_none (π := pn π n0 nx) hp0 hp'
      rw [pn_lt hlt, h3, hr] at this
      cases this
    | none => exact ho
theorem WL_callR {C : Cy} {E : En} {ops : Array Oper} {rest : List Oper} {nx : Nat} {tm : Tm} {hp : Hp} {Q : Po} {d : Nat} {op : Op} {ty : TypeId} {pos : String} {af : Array Edge} {g : Option (Nat × Bool)} {f : FuncId} {vs : List AV} {n0 : Nat} {hp0 : Hp} {args0 : List AV} {P : AV → Prop} (pl : List Nat)
    (T : Tri C f n0 hp0 args0 (fun k hp r => k = n0 ∧ hp = hp0 ∧ P r)) (hv : callV tm op = some (f, vs)) (hg : wanted ops tm g = some true)
    (ha : renL (pm pl) args0 = vs) (hl : ltL n0 args0) (hh : subHp (pm pl) n0 hp hp0) (hd : nodupB (hp0.map fun p => pm pl p.1) = true)
    (hi : nodupB ((List.range n0).map (pm pl)) = true) (hb : upto n0 (fun i => Nat.blt (pm pl i) nx) = true)
    (hdd : Nat.blt d E.nt = true)
    (h : ∀ r, P r → WL C E ops rest nx ((d, r.ren (pn (pm pl) n0 nx)) :: tm) hp Q) :
    WL C E ops (⟨some d, op, ty, pos, af, g⟩ :: rest) nx tm hp Q := by
  refine WL_call pl T hv hg ha hl hh hd hi hb hdd ?_
  rintro n1 hp1 r ⟨rfl, rfl, hP⟩
  rw [Nat.sub_self, Nat.add_zero]
  intro ρ a w H
  exact h r hP ρ a w (H.drop fun id o ho => .inr (lk_back hh hi id o ho))
variable {C : Cy} {E : En} {ops : Array Oper} {rest : List Oper} {nx : Nat} {tm : Tm} {hp : Hp} {Q : Po}
theorem WL_sliceE {d : Nat} {t e : TypeId} {x : Operand} {lo : Operand} {ty : TypeId} {pos : String} {af : Array Edge} {g : Option (Nat × Bool)} {s te : TS} {nl : Bool} {id n off cap : Nat} {a : Int}
    (hx : ev tm x = some (.sl nl id n off cap cap)) (hlo : evi tm (some lo) = some (some a)) (hs : C.ti t = some s) (hd : s.desc = .slice e) (hte : C.ti e = some te)
    (hg : wanted ops tm g = some true) (hdd : Nat.blt d E.nt = true) (ha : a = cap ∧ 0 < cap)
    (h : WL C E ops rest nx ((d, .sl false id n off 0 0) :: tm) hp Q) :
    WL C E ops (⟨some d, .slice t x (some lo) none none, ty, pos, af, g⟩ :: rest) nx tm hp Q := by
  intro ρ ac w H
  obtain ⟨kl, hkl⟩ := evi_sound H hlo
  have h1 : 0 ≤ a ∧ a ≤ (cap : Int) := by omega
  have h2 : a.toNat = cap := by omega
  have hnl : (nl && Nat.beq cap 0) = false := nlz ha.2
  have hrun : (execOp ac.eval ⟨some d, .slice t x (some lo) none none, ty, pos, af, g⟩).run C.P w = .ok (.value ((AV.sl false id n off 0 0).den ρ)) w := by
    simp only [execOp, (H.ev hx).1, hkl, Option.map_none]
    refine run_val ?_
    simp only [Instr.sliceAt, Sem.run_bind, run_underlying hs, Result.andThen_ok, hd]
    simp only [Instr.slice, Sem.run_bind, run_underlying hs, Result.andThen_ok, hd, AV.den, Sem.run_pure, Instr.sliceBounds]
    simp only [hnl, cond_false, BO, Sem.run_pure, Sem.run_bind, Result.andThen_ok, Instr.sliceBound, asIntOf, h1, and_self, if_true, h2, if_false, run_sizeOf hte, AV.den, Option.map_some, Bool.false_and, Nat.sub_self]
  exact wpList_of_run (wanted_sound H (o := ⟨some d, .slice t x (some lo) none none, ty, pos, af, g⟩) hg) hrun (h ρ _ w (H.put (av := .sl false id n off 0 0) (by simpa [Nat.blt_eq] using hdd) (H.ev hx).2))
end Go.Eng
namespace Go.Eng
open Go.Proofs
attribute [local irreducible] W WL LP Then InBl Tri WS
abbrev ruleO (z : RZ) (y : LY) (vs : Nat → Value) : AO := .cells 152 (some 60) (cellsR z y 0 vs)
def newR (z : RZ) (y : LY) : Rs := fun k hp r =>
  (rightZ z = true ∧ ∃ vs, k = 11 ∧ hp = (10, ruleO z y vs) :: lstHp 142 z 0 ∧ r = .tup [.ptr 10 0, .v .nilIface]) ∨
  (rightZ z = false ∧ k = 10 ∧ hp = lstHp 142 z 0 ∧ ∃ t p, r = .tup [.v (.pointer none), .ifc t (.v p)])
set_option maxRecDepth 8192 in
set_option maxHeartbeats 4000000 in
theorem newRRule_tri (z : RZ) (y : LY) (hy : LOK z y) (hB : BND z) : Tri C0 89 10 (lstHp 142 z 0) [.agg (cellsP z y 0)] (newR z y) := by
  refine Tri.mk 13 [.tmp 2, .tmp 3] Tryz.func89 rfl rfl rfl rfl cf89 ?_; intro w0 S T ρ0
  refine w_ ?_
  refine WL_call [0, 1, 2, 3, 4, 5, 6, 7, 8, 9] (validate_tri z y hy hB.len) rfl rfl rfl (s_) (s_) rfl rfl rfl rfl ?_; rintro _ _ _ ⟨rfl, rfl, hr⟩
  rcases hr with ⟨hr, rfl⟩ | ⟨hr, et, ep, rfl⟩
  rotate_left 1
  · refine w_ ?_
    refine W_cond_true rfl ?_
    refine w_ ?_
    refine W_ren [0, 1, 2, 3, 4, 5, 6, 7, 8, 9] (n := 10) (tm' := [(2, .v (.pointer none)), (3, .ifc et (.v ep))]) (hp' := lstHp 142 z 0) ?_ s_ s_ rfl rfl rfl
    refine r_ ?_ ?_
    · exact s_
    · exact .inr ⟨hr, rfl, rfl, _, _, rfl⟩
  · refine w_ ?_
    refine W_cond_false rfl ?_
    refine w_ ?_
    refine WL_call [0, 1, 2, 3, 4, 5, 6, 7, 8, 9] (build_tri z y hy hr hB) rfl rfl rfl (s_) (s_) rfl rfl rfl rfl ?_; rintro _ _ _ ⟨rfl, rfl, vs, rfl⟩
    refine w_ ?_
    refine W_ren [0, 1, 2, 3, 4, 5, 6, 7, 8, 9, 11] (n := 11) (tm' := [(2, .ptr 10 0), (3, .v .nilIface)]) (hp' := (10, ruleO z y vs) :: lstHp 142 z 0) ?_ s_ s_ rfl rfl rfl
    refine r_ ?_ ?_
    · exact s_
    · exact .inl ⟨hr, vs, rfl, rfl, rfl⟩
set_option maxRecDepth 8192 in
set_option maxHeartbeats 4000000 in
theorem dtstartR_tri (z : RZ) (y : LY) (hy : LOK z y) (hr : rightZ z = true) (hB : BND z) (s : Int) (hs : -1000000000000 ≤ s ∧ s ≤ 1000000000000) (vs : Nat → Value) :
    Tri C0 153 11 ((10, ruleO z y vs) :: lstHp 142 z 0) [.ptr 10 0, tsec s 0] (Fin' (fun _ => 11) (fun vs' => (10, ruleO { z with st := s } y vs') :: lstHp 142 z 0) (fun _ => .tup []) (fun _ : Nat → Value => True)) := by
  refine Tri.renX ?_
  refine Tri.mk 17 [] Tryz.func153 rfl rfl rfl rfl cf153 ?_; intro w0 S T ρ0
  refine w_ ?_
  refine WL_call [] (truncate_tri s 0 1000000000) rfl rfl rfl t_ t_ rfl rfl rfl rfl ?_; rintro _ _ _ ⟨rfl, rfl, rfl⟩
  refine w_ ?_
  refine WL_call [0, 1, 2, 3, 4, 5, 6, 7, 8, 9] (build_tri { z with st := s } y hy hr ⟨hs, hB.len, hB.h5, hB.h6, hB.h7⟩) rfl rfl rfl (s_) (s_) rfl rfl rfl rfl ?_; rintro _ _ _ ⟨rfl, rfl, vs2, rfl⟩
  refine w_ ?_
  exact ⟨_, _, rfl, s_, vs2, [0, 1, 2, 3, 4, 5, 6, 7, 8, 9, 10], s_, rfl, rfl, rfl, rfl, s_, trivial⟩
def cellsQ (s : Int) (p a b : AV) : List AV := [.int .i64 s, .int .i64 0, p, a, b]
abbrev setO (s : Int) (p a b : AV) : AO := .cells 135 (some 5) (cellsQ s p a b)
theorem dtstartS_tri (s : Int) : Tri C0 87 1 [(0, setO 0 (.v (.pointer none)) (.v (.slice none 0 0)) (.v (.slice none 0 0)))] [.ptr 0 0, tsec s 0]
    (Fin' (fun _ => 1) (fun _ => [(0, setO s (.v (.pointer none)) (.v (.slice none 0 0)) (.v (.slice none 0 0)))]) (fun _ => .tup []) (fun _ : Unit => True)) := by
  refine Tri.renX ?_
  refine Tri.mk 23 [] Tryz.func87 rfl rfl rfl rfl cf87 ?_; intro w0 S T ρ0
  refine w_ ?_
  refine WL_call [] (truncate_tri s 0 1000000000) rfl rfl rfl t_ t_ rfl rfl rfl rfl ?_; rintro _ _ _ ⟨rfl, rfl, rfl⟩
  refine w_ ?_
  refine W_cond_false rfl ?_
  refine w_ ?_
  exact ⟨_, _, rfl, s_, (), [0], s_, rfl, rfl, rfl, rfl, s_, trivial⟩
def startW (z : RZ) (s : Int) : Int := if z.st = 0 then s else z.st
set_option maxRecDepth 8192 in
set_option maxHeartbeats 4000000 in
theorem ruleS_tri (z : RZ) (y : LY) (hy : LOK z y) (hr : rightZ z = true) (hB : BND z) (s : Int) (hs : -1000000000000 ≤ s ∧ s ≤ 1000000000000) (vs : Nat → Value) (p : Option Addr) (ya yb : Bool × Nat) (na nb : Nat) :
    Tri C0 91 14 ((11, setO s (.v (.pointer p)) (slI ya 12 2 na) (slI yb 13 2 nb)) :: (10, ruleO z y vs) :: lstHp 142 z 0) [.ptr 11 0, .ptr 10 0]
    (Fin' (fun _ => 14) (fun q : Int × (Nat → Value) => (11, setO (startW z s) (.ptr 10 0) (slI ya 12 2 na) (slI yb 13 2 nb)) :: (10, ruleO { z with st := q.1 } y q.2) :: lstHp 142 z 0) (fun _ => .tup []) (fun _ => True)) := by
  refine Tri.renX ?_
  by_cases h0 : z.st = 0
  · have e : startW z s = s := if_pos h0
    rw [e]
    refine Tri.mk 34 [] Tryz.func91 rfl rfl rfl rfl cf91 ?_; intro w0 S T ρ0
    refine w_ ?_
    refine WL_call [] (isZero_tri z.st) rfl rfl rfl t_ t_ rfl rfl rfl rfl ?_; rintro _ _ _ ⟨rfl, rfl, rfl⟩
    rw [decide_eq_true h0]
    refine w_ ?_
    refine W_cond_false rfl ?_
    refine w_ ?_
    refine WL_call [] (isZero_tri s) rfl rfl rfl t_ t_ rfl rfl rfl rfl ?_; rintro _ _ _ ⟨rfl, rfl, rfl⟩
    by_cases h1 : s = 0
    · rw [decide_eq_true h1]
      refine w_ ?_
      refine W_cond_false rfl ?_
      refine w_ ?_
      exact ⟨_, _, rfl, s_, (z.st, vs), [0, 1, 2, 3, 4, 5, 6, 7, 8, 9, 10, 11, 12, 13], s_, rfl, rfl, rfl, rfl, s_, trivial⟩
    · rw [decide_eq_false h1]
      refine w_ ?_
      refine W_cond_true rfl ?_
      refine w_ ?_
      refine WL_call [0, 1, 2, 3, 4, 5, 6, 7, 8, 9, 10] (dtstartR_tri z y hy hr hB s hs vs) rfl rfl rfl (s_) (s_) rfl rfl rfl rfl ?_; rintro _ _ _ ⟨vs2, rfl, rfl, rfl, _⟩
      refine w_ ?_
      exact ⟨_, _, rfl, s_, (s, vs2), [0, 1, 2, 3, 4, 5, 6, 7, 8, 9, 10, 11, 12, 13], s_, rfl, rfl, rfl, rfl, s_, trivial⟩
  · have e : startW z s = dst z := by unfold startW dst; rw [if_neg h0, if_neg h0]
    rw [e]
    refine Tri.mk 34 [] Tryz.func91 rfl rfl rfl rfl cf91 ?_; intro w0 S T ρ0
    refine w_ ?_
    refine WL_call [] (isZero_tri z.st) rfl rfl rfl t_ t_ rfl rfl rfl rfl ?_; rintro _ _ _ ⟨rfl, rfl, rfl⟩
    rw [decide_eq_false h0]
    refine w_ ?_
    refine W_cond_true rfl ?_
    refine w_ ?_
    exact ⟨_, _, rfl, s_, (z.st, vs), [0, 1, 2, 3, 4, 5, 6, 7, 8, 9, 10, 11, 12, 13], s_, rfl, rfl, rfl, rfl, s_, trivial⟩
def pQ (b : Bool) (id : Nat) : AV := if b = true then .ptr id 0 else .v (.pointer none)
theorem rdate_tri (t s : Int) (hb : Bool) (xs : List Int) (hx : xs.length ≤ 1000000000000) (yl : Bool × Nat) (m : Option Nat) (hg : GOKR (tms xs) yl m) (yo : Bool × Nat) (no : Nat) :
    Tri C0 172 4 [(0, setO s (pQ hb 3) (slI yl 1 2 xs.length) (slI yo 2 2 no)), (1, .recs 88 m K2 (tms xs))] [.ptr 0 0, tsec t 0]
    (Fin' (fun _ => 5) (fun q : Nat × Nat => [(0, setO s (pQ hb 3) (.sl false 4 2 0 (xs.length + 1) q.1) (slI yo 2 2 no)), (4, .recs 88 (some q.2) K2 (tms xs ++ [[t, 0]]))]) (fun _ => .tup []) (fun q => xs.length + 1 ≤ q.1 ∧ q.1 * 2 ≤ q.2)) := by
  refine Tri.renX ?_
  cases hb with
  | false =>
    rcases hg with ⟨rfl, rfl, hxs⟩ | ⟨tt0, cap0, rfl, rfl, q1, q2⟩
    · obtain rfl : xs = [] := by simpa using hxs
      refine Tri.mk 15 [] Tryz.func172 rfl rfl rfl rfl cf172 ?_; intro w0 S T ρ0
      refine w_ ?_
      refine W_draw [0, 4] [] 12 mo0 (by kernel_rfl) (by kernel_rfl) (fun ρ1 hkl => ?_); refine d_ ?_
      refine WS_loud rfl ?_ hkl; refine WL_call [] (truncate_tri t 0 1000000000) rfl rfl rfl t_ t_ rfl rfl rfl rfl ?_; rintro _ _ _ ⟨rfl, rfl, rfl⟩; refine WL_nil ?_; refine nq_walk ⟨fun _ => t_, ?_⟩; refine d_ ?_
      refine WS_loud rfl ?_ hkl
      refine WL_new rfl rfl rfl ?_
      refine WL_nil ?_; refine nq_walk ⟨fun _ => t_, ?_⟩; refine d_ ?_
      refine WS_loud rfl ?_ hkl
      refine WL_imp (Imp_tm 8 (.v (.slice none 0 0)) rfl (fun _ => rfl) trivial) ?_
      refine WL_appN (FamR 88 K2) [[t, 0]] rfl rfl rfl rfl rfl rfl rfl rfl rfl rfl rfl rfl rfl (Nat.le_of_ble_eq_true rfl) (Nat.le_refl _) ⟨Nat.le_of_ble_eq_true rfl, Nat.le_of_ble_eq_true rfl⟩ ?_
      intro cap3 tt3 hc3 hc4
      refine WL_nil ?_; refine nq_walk ⟨fun _ => t_, ?_⟩; refine d_ ?_
      refine d_ ?_
      refine WS_loud rfl ?_ hkl
      refine WL_store rfl rfl trivial ?_
      refine WL_nil ?_
      refine nq_walk ⟨fun h => (by cases h), ?_⟩
      refine d_ ?_
      exact ⟨_, _, rfl, s_, (cap3, tt3), [0, 1, 2, 3, 6], s_, rfl, rfl, rfl, rfl, s_, ⟨hc3, hc4⟩⟩
    · have htl : (tms xs).length = xs.length := by simp
      rw [htl] at q1
      refine Tri.mk 15 [] Tryz.func172 rfl rfl rfl rfl cf172 ?_; intro w0 S T ρ0
      refine w_ ?_
      rw [← htl]
      refine W_draw [0, 4] [] 12 mo0 (by kernel_rfl) (by kernel_rfl) (fun ρ1 hkl => ?_); refine d_ ?_
      refine WS_loud rfl ?_ hkl; refine WL_call [] (truncate_tri t 0 1000000000) rfl rfl rfl t_ t_ rfl rfl rfl rfl ?_; rintro _ _ _ ⟨rfl, rfl, rfl⟩; refine WL_nil ?_; refine nq_walk ⟨fun _ => t_, ?_⟩; refine d_ ?_
      refine WS_loud rfl ?_ hkl
      refine WL_new rfl rfl rfl ?_
      refine WL_nil ?_; refine nq_walk ⟨fun _ => t_, ?_⟩; refine d_ ?_
      refine WS_loud rfl ?_ hkl
      refine WL_app1 (FamR 88 K2) (tms xs) ([t, 0]) rfl rfl rfl rfl rfl rfl rfl rfl rfl rfl rfl rfl rfl rfl ?_ ?_ ?_
      · exact ⟨by omega, q2⟩
      · exact ⟨by omega, by show ((tms xs).length + 1) * 16 ≤ _; omega⟩
      intro cap3 tt3 hc3 hc4 _
      refine WL_nil ?_; refine nq_walk ⟨fun _ => t_, ?_⟩; refine d_ ?_
      refine d_ ?_
      refine WS_loud rfl ?_ hkl
      refine WL_store rfl rfl trivial ?_
      refine WL_nil ?_
      refine nq_walk ⟨fun h => (by cases h), ?_⟩
      refine d_ ?_
      exact ⟨_, _, rfl, s_, (cap3, tt3), [0, 1, 2, 3, 6], s_, rfl, rfl, rfl, rfl, s_, ⟨by omega, hc4⟩⟩
  | true =>
    rcases hg with ⟨rfl, rfl, hxs⟩ | ⟨tt0, cap0, rfl, rfl, q1, q2⟩
    · obtain rfl : xs = [] := by simpa using hxs
      refine Tri.mk 15 [] Tryz.func172 rfl rfl rfl rfl cf172 ?_; intro w0 S T ρ0
      refine w_ ?_
      refine W_draw [0, 4] [] 12 mo0 (by kernel_rfl) (by kernel_rfl) (fun ρ1 hkl => ?_); refine d_ ?_
      refine WS_loud rfl ?_ hkl; refine WL_call [] (truncate_tri t 0 1000000000) rfl rfl rfl t_ t_ rfl rfl rfl rfl ?_; rintro _ _ _ ⟨rfl, rfl, rfl⟩; refine WL_nil ?_; refine nq_walk ⟨fun _ => t_, ?_⟩; refine d_ ?_
      refine WS_loud rfl ?_ hkl
      refine WL_new rfl rfl rfl ?_
      refine WL_nil ?_; refine nq_walk ⟨fun _ => t_, ?_⟩; refine d_ ?_
      refine WS_loud rfl ?_ hkl
      refine WL_imp (Imp_tm 8 (.v (.slice none 0 0)) rfl (fun _ => rfl) trivial) ?_
      refine WL_appN (FamR 88 K2) [[t, 0]] rfl rfl rfl rfl rfl rfl rfl rfl rfl rfl rfl rfl rfl (Nat.le_of_ble_eq_true rfl) (Nat.le_refl _) ⟨Nat.le_of_ble_eq_true rfl, Nat.le_of_ble_eq_true rfl⟩ ?_
      intro cap3 tt3 hc3 hc4
      refine WL_nil ?_; refine nq_walk ⟨fun _ => t_, ?_⟩; refine d_ ?_
      refine d_ ?_
      refine WS_loud rfl ?_ hkl
      refine WL_store rfl rfl trivial ?_
      refine WL_nil ?_
      refine nq_walk ⟨fun h => (by cases h), ?_⟩
      refine d_ ?_
      exact ⟨_, _, rfl, s_, (cap3, tt3), [0, 1, 2, 3, 6], s_, rfl, rfl, rfl, rfl, s_, ⟨hc3, hc4⟩⟩
    · have htl : (tms xs).length = xs.length := by simp
      rw [htl] at q1
      refine Tri.mk 15 [] Tryz.func172 rfl rfl rfl rfl cf172 ?_; intro w0 S T ρ0
      refine w_ ?_
      rw [← htl]
      refine W_draw [0, 4] [] 12 mo0 (by kernel_rfl) (by kernel_rfl) (fun ρ1 hkl => ?_); refine d_ ?_
      refine WS_loud rfl ?_ hkl; refine WL_call [] (truncate_tri t 0 1000000000) rfl rfl rfl t_ t_ rfl rfl rfl rfl ?_; rintro _ _ _ ⟨rfl, rfl, rfl⟩; refine WL_nil ?_; refine nq_walk ⟨fun _ => t_, ?_⟩; refine d_ ?_
      refine WS_loud rfl ?_ hkl
      refine WL_new rfl rfl rfl ?_
      refine WL_nil ?_; refine nq_walk ⟨fun _ => t_, ?_⟩; refine d_ ?_
      refine WS_loud rfl ?_ hkl
      refine WL_app1 (FamR 88 K2) (tms xs) ([t, 0]) rfl rfl rfl rfl rfl rfl rfl rfl rfl rfl rfl rfl rfl rfl ?_ ?_ ?_
      · exact ⟨by omega, q2⟩
      · exact ⟨by omega, by show ((tms xs).length + 1) * 16 ≤ _; omega⟩
      intro cap3 tt3 hc3 hc4 _
      refine WL_nil ?_; refine nq_walk ⟨fun _ => t_, ?_⟩; refine d_ ?_
      refine d_ ?_
      refine WS_loud rfl ?_ hkl
      refine WL_store rfl rfl trivial ?_
      refine WL_nil ?_
      refine nq_walk ⟨fun h => (by cases h), ?_⟩
      refine d_ ?_
      exact ⟨_, _, rfl, s_, (cap3, tt3), [0, 1, 2, 3, 6], s_, rfl, rfl, rfl, rfl, s_, ⟨by omega, hc4⟩⟩
theorem exdate_tri (t s : Int) (hb : Bool) (xs : List Int) (hx : xs.length ≤ 1000000000000) (yl : Bool × Nat) (m : Option Nat) (hg : GOKR (tms xs) yl m) (yo : Bool × Nat) (no : Nat) :
    Tri C0 173 4 [(0, setO s (pQ hb 3) (slI yo 2 2 no) (slI yl 1 2 xs.length)), (1, .recs 88 m K2 (tms xs))] [.ptr 0 0, tsec t 0]
    (Fin' (fun _ => 5) (fun q : Nat × Nat => [(0, setO s (pQ hb 3) (slI yo 2 2 no) (.sl false 4 2 0 (xs.length + 1) q.1)), (4, .recs 88 (some q.2) K2 (tms xs ++ [[t, 0]]))]) (fun _ => .tup []) (fun q => xs.length + 1 ≤ q.1 ∧ q.1 * 2 ≤ q.2)) := by
  refine Tri.renX ?_
  cases hb with
  | false =>
    rcases hg with ⟨rfl, rfl, hxs⟩ | ⟨tt0, cap0, rfl, rfl, q1, q2⟩
    · obtain rfl : xs = [] := by simpa using hxs
      refine Tri.mk 15 [] Tryz.func173 rfl rfl rfl rfl cf173 ?_; intro w0 S T ρ0
      refine w_ ?_
      refine W_draw [0, 4] [] 12 mo0 (by kernel_rfl) (by kernel_rfl) (fun ρ1 hkl => ?_); refine d_ ?_
      refine WS_loud rfl ?_ hkl; refine WL_call [] (truncate_tri t 0 1000000000) rfl rfl rfl t_ t_ rfl rfl rfl rfl ?_; rintro _ _ _ ⟨rfl, rfl, rfl⟩; refine WL_nil ?_; refine nq_walk ⟨fun _ => t_, ?_⟩; refine d_ ?_
      refine WS_loud rfl ?_ hkl
      refine WL_new rfl rfl rfl ?_
      refine WL_nil ?_; refine nq_walk ⟨fun _ => t_, ?_⟩; refine d_ ?_
      refine WS_loud rfl ?_ hkl
      refine WL_imp (Imp_tm 8 (.v (.slice none 0 0)) rfl (fun _ => rfl) trivial) ?_
      refine WL_appN (FamR 88 K2) [[t, 0]] rfl rfl rfl rfl rfl rfl rfl rfl rfl rfl rfl rfl rfl (Nat.le_of_ble_eq_true rfl) (Nat.le_refl _) ⟨Nat.le_of_ble_eq_true rfl, Nat.le_of_ble_eq_true rfl⟩ ?_
      intro cap3 tt3 hc3 hc4
      refine WL_nil ?_; refine nq_walk ⟨fun _ => t_, ?_⟩; refine d_ ?_
      refine d_ ?_
      refine WS_loud rfl ?_ hkl
      refine WL_store rfl rfl trivial ?_
      refine WL_nil ?_
      refine nq_walk ⟨fun h => (by cases h), ?_⟩
      refine d_ ?_
      exact ⟨_, _, rfl, s_, (cap3, tt3), [0, 1, 2, 3, 6], s_, rfl, rfl, rfl, rfl, s_, ⟨hc3, hc4⟩⟩
    · have htl : (tms xs).length = xs.length := by simp
      rw [htl] at q1
      refine Tri.mk 15 [] Tryz.func173 rfl rfl rfl rfl cf173 ?_; intro w0 S T ρ0
      refine w_ ?_
      rw [← htl]
      refine W_draw [0, 4] [] 12 mo0 (by kernel_rfl) (by kernel_rfl) (fun ρ1 hkl => ?_); refine d_ ?_
      refine WS_loud rfl ?_ hkl; refine WL_call [] (truncate_tri t 0 1000000000) rfl rfl rfl t_ t_ rfl rfl rfl rfl ?_; rintro _ _ _ ⟨rfl, rfl, rfl⟩; refine WL_nil ?_; refine nq_walk ⟨fun _ => t_, ?_⟩; refine d_ ?_
      refine WS_loud rfl ?_ hkl
      refine WL_new rfl rfl rfl ?_
      refine WL_nil ?_; refine nq_walk ⟨fun _ => t_, ?_⟩; refine d_ ?_
      refine WS_loud rfl ?_ hkl
      refine WL_app1 (FamR 88 K2) (tms xs) ([t, 0]) rfl rfl rfl rfl rfl rfl rfl rfl rfl rfl rfl rfl rfl rfl ?_ ?_ ?_
      · exact ⟨by omega, q2⟩
      · exact ⟨by omega, by show ((tms xs).length + 1) * 16 ≤ _; omega⟩
      intro cap3 tt3 hc3 hc4 _
      refine WL_nil ?_; refine nq_walk ⟨fun _ => t_, ?_⟩; refine d_ ?_
      refine d_ ?_
      refine WS_loud rfl ?_ hkl
      refine WL_store rfl rfl trivial ?_
      refine WL_nil ?_
      refine nq_walk ⟨fun h => (by cases h), ?_⟩
      refine d_ ?_
      exact ⟨_, _, rfl, s_, (cap3, tt3), [0, 1, 2, 3, 6], s_, rfl, rfl, rfl, rfl, s_, ⟨by omega, hc4⟩⟩
  | true =>
    rcases hg with ⟨rfl, rfl, hxs⟩ | ⟨tt0, cap0, rfl, rfl, q1, q2⟩
    · obtain rfl : xs = [] := by simpa using hxs
      refine Tri.mk 15 [] Tryz.func173 rfl rfl rfl rfl cf173 ?_; intro w0 S T ρ0
      refine w_ ?_
      refine W_draw [0, 4] [] 12 mo0 (by kernel_rfl) (by kernel_rfl) (fun ρ1 hkl => ?_); refine d_ ?_
      refine WS_loud rfl ?_ hkl; refine WL_call [] (truncate_tri t 0 1000000000) rfl rfl rfl t_ t_ rfl rfl rfl rfl ?_; rintro _ _ _ ⟨rfl, rfl, rfl⟩; refine WL_nil ?_; refine nq_walk ⟨fun _ => t_, ?_⟩; refine d_ ?_
      refine WS_loud rfl ?_ hkl
      refine WL_new rfl rfl rfl ?_
      refine WL_nil ?_; refine nq_walk ⟨fun _ => t_, ?_⟩; refine d_ ?_
      refine WS_loud rfl ?_ hkl
      refine WL_imp (Imp_tm 8 (.v (.slice none 0 0)) rfl (fun _ => rfl) trivial) ?_
      refine WL_appN (FamR 88 K2) [[t, 0]] rfl rfl rfl rfl rfl rfl rfl rfl rfl rfl rfl rfl rfl (Nat.le_of_ble_eq_true rfl) (Nat.le_refl _) ⟨Nat.le_of_ble_eq_true rfl, Nat.le_of_ble_eq_true rfl⟩ ?_
      intro cap3 tt3 hc3 hc4
      refine WL_nil ?_; refine nq_walk ⟨fun _ => t_, ?_⟩; refine d_ ?_
      refine d_ ?_
      refine WS_loud rfl ?_ hkl
      refine WL_store rfl rfl trivial ?_
      refine WL_nil ?_
      refine nq_walk ⟨fun h => (by cases h), ?_⟩
      refine d_ ?_
      exact ⟨_, _, rfl, s_, (cap3, tt3), [0, 1, 2, 3, 6], s_, rfl, rfl, rfl, rfl, s_, ⟨hc3, hc4⟩⟩
    · have htl : (tms xs).length = xs.length := by simp
      rw [htl] at q1
      refine Tri.mk 15 [] Tryz.func173 rfl rfl rfl rfl cf173 ?_; intro w0 S T ρ0
      refine w_ ?_
      rw [← htl]
      refine W_draw [0, 4] [] 12 mo0 (by kernel_rfl) (by kernel_rfl) (fun ρ1 hkl => ?_); refine d_ ?_
      refine WS_loud rfl ?_ hkl; refine WL_call [] (truncate_tri t 0 1000000000) rfl rfl rfl t_ t_ rfl rfl rfl rfl ?_; rintro _ _ _ ⟨rfl, rfl, rfl⟩; refine WL_nil ?_; refine nq_walk ⟨fun _ => t_, ?_⟩; refine d_ ?_
      refine WS_loud rfl ?_ hkl
      refine WL_new rfl rfl rfl ?_
      refine WL_nil ?_; refine nq_walk ⟨fun _ => t_, ?_⟩; refine d_ ?_
      refine WS_loud rfl ?_ hkl
      refine WL_app1 (FamR 88 K2) (tms xs) ([t, 0]) rfl rfl rfl rfl rfl rfl rfl rfl rfl rfl rfl rfl rfl rfl ?_ ?_ ?_
      · exact ⟨by omega, q2⟩
      · exact ⟨by omega, by show ((tms xs).length + 1) * 16 ≤ _; omega⟩
      intro cap3 tt3 hc3 hc4 _
      refine WL_nil ?_; refine nq_walk ⟨fun _ => t_, ?_⟩; refine d_ ?_
      refine d_ ?_
      refine WS_loud rfl ?_ hkl
      refine WL_store rfl rfl trivial ?_
      refine WL_nil ?_
      refine nq_walk ⟨fun h => (by cases h), ?_⟩
      refine d_ ?_
      exact ⟨_, _, rfl, s_, (cap3, tt3), [0, 1, 2, 3, 6], s_, rfl, rfl, rfl, rfl, s_, ⟨by omega, hc4⟩⟩
end Go.Eng
