/- A part of the proof that the rows statement FnSetBack holds; no conditions. -/
import Derived.Test.YthkgjhnckakliaaGreatDoorZAU
set_option linter.unusedVariables false
set_option linter.unusedSimpArgs false
set_option linter.unusedSectionVars false
namespace Go.Eng
variable {C : Cy} {E : En} {ops : Array Oper} {rest : List Oper} {nx : Nat} {tm : Tm} {hp : Hp} {Q : Po}
theorem W_midB {c r : Code} {i : Nat} {Q' : Po} {α : Type} (S : α → Nat × Tm × Hp) (Inv : α → Prop)
 (h1 : W C E c nx tm hp (InBl i (Then (fun nx' tm' hp' => ∃ p, Inv p ∧ Imp C E nx' tm' hp' (S p).1 (S p).2.1 (S p).2.2) Q))) (h2 : ∀ p, Inv p → W C E r (S p).1 (S p).2.1 (S p).2.2 Q') :
 W C E c nx tm hp (InBl i (Then (fun nx tm hp => W C E r nx tm hp Q') Q)) := by
 refine W_mono h1 ?_
 have key : ∀ nx' tm' hp', (∃ p, Inv p ∧ Imp C E nx' tm' hp' (S p).1 (S p).2.1 (S p).2.2) → W C E r nx' tm' hp' Q' := by
  rintro nx' tm' hp' ⟨p, hi, him⟩
  exact W_imp him (h2 p hi)
 intro e nx' tm' hp' h
 cases e with
 | normal => exact key _ _ _ h
 | exit j =>
   simp only [InBl] at h ⊢
   cases hij : Nat.beq j i <;> rw [hij] at h
   · exact h
   · exact key _ _ _ h
 | ret => exact h
 | goto l => exact h
 | panic c => exact h
 | outgrown => exact h
theorem WL_cut (k : Nat) {l : List Oper} (h : WL C E ops (l.take k) nx tm hp (NQ fun nx tm hp => WL C E ops (l.drop k) nx tm hp Q)) : WL C E ops l nx tm hp Q := by
 intro ρ a w H
 rw [← List.take_append_drop k l]
 refine wpList_append _ _ _ _ (wpList_mono1 ?_ (h ρ a w H)) (fun c a w hh => by cases hh.1)
 rintro e a' w' ⟨ρ', nx', tm', hp', H', he, hk⟩
 exact ⟨he, hk ρ' a' w' H'⟩
theorem WL_appN {α : Type} {e : TypeId} {n : Nat} (F : Fam e n α) (ys : List α) {d : Nat} {x y : Operand} {t : TypeId} {ty : TypeId} {pos : String} {af : Array Edge} {g : Option (Nat × Bool)} {s te : TS} {z : Value}
 {sid scap : Nat} {so : AO}
 (hx : ev tm x = some (.v (.slice none 0 0))) (hy : ev tm y = some (.sl false sid n 0 ys.length scap)) (hsid : lk hp sid = some so)
 (hsa : isArr so = true) (hsv : so.avs = ys.flatMap F.cf)
 (hs : C.ti t = some s) (hsd : s.desc = .slice e) (hte : C.ti e = some te) (hsz : te.size = n)
 (hz : te.zero = some z) (hzc : Nat.beq z.cells.size te.size = true) (hg : wanted ops tm g = some true) (hd : Nat.blt d E.nt = true)
 (hpos : 0 < ys.length) (hsc : ys.length ≤ scap) (hb : ys.length ≤ 140737488355328 ∧ ys.length * te.bytes ≤ 140737488355328)
 (h : ∀ cap' tt', ys.length ≤ cap' → cap' * n ≤ tt' → WL C E ops rest (nx + 1) ((d, .sl false nx n 0 ys.length cap') :: tm) ((nx, F.ob tt' ys) :: hp) Q) :
 WL C E ops (⟨some d, .call ⟨.builtin .append, #[x, y], #[t, t]⟩, ty, pos, af, g⟩ :: rest) nx tm hp Q := by
 subst hsz
 have hlen : so.avs.length = ys.length * te.size := by rw [hsv, ← F.avs 0 ys, F.total]
 have hso : (so.avs.drop (0 * te.size)).take (ys.length * te.size) = ys.flatMap F.cf := by rw [Nat.zero_mul, List.drop_zero, ← hlen, List.take_length, hsv]
 have hda : dstA hp te.size (.v (.slice none 0 0)) = some (True, 0, [], none) := by simp [dstA]
 refine WL_append (fun k => F.ob k ys) hx hy hs hsd hte hz hzc hg hd hda trivial hsid hsa (by rw [hlen]; simp) hpos hsc ⟨by omega, by simpa using hb.2⟩ ?_ ?_ ?_ ?_
 · intro k
   refine ⟨F.arr _ _, F.tot _ _, F.elem _ _, ?_⟩
   rw [hso, F.avs]; simp
 · rw [hso]
   intro a ha
   obtain ⟨y, _, hy⟩ := List.mem_flatMap.1 ha
   exact F.plain y a hy
 · intro id o e1 e2; cases e1
 · intro cap' tt' h1 h2 h3
   have := h cap' tt' (by omega) h2
   rw [Nat.zero_add]; exact this
theorem WL_appX {α : Type} {e : TypeId} {n : Nat} (F : Fam e n α) (xs ys : List α) {d : Nat} {x y : Operand} {t : TypeId} {ty : TypeId} {pos : String} {af : Array Edge} {g : Option (Nat × Bool)} {s te : TS} {z : Value}
 {id cap tt sid scap : Nat} {so : AO}
 (hx : ev tm x = some (.sl false id n 0 xs.length cap)) (hid : lk hp id = some (F.ob tt xs)) (hy : ev tm y = some (.sl false sid n 0 ys.length scap)) (hsid : lk hp sid = some so)
 (hsa : isArr so = true) (hsv : so.avs = ys.flatMap F.cf)
 (hs : C.ti t = some s) (hsd : s.desc = .slice e) (hte : C.ti e = some te) (hsz : te.size = n)
 (hz : te.zero = some z) (hzc : Nat.beq z.cells.size te.size = true) (hg : wanted ops tm g = some true) (hd : Nat.blt d E.nt = true)
 (hcap : xs.length ≤ cap ∧ cap * n ≤ tt) (hpos : 0 < ys.length) (hsc : ys.length ≤ scap) (hb : xs.length + ys.length ≤ 140737488355328 ∧ (xs.length + ys.length) * te.bytes ≤ 140737488355328)
 (h : ∀ cap' tt', xs.length + ys.length ≤ cap' → cap' * n ≤ tt' → WL C E ops rest (nx + 1) ((d, .sl false nx n 0 (xs.length + ys.length) cap') :: tm) ((nx, F.ob tt' (xs ++ ys)) :: (id, .dead) :: hp) Q) :
 WL C E ops (⟨some d, .call ⟨.builtin .append, #[x, y], #[t, t]⟩, ty, pos, af, g⟩ :: rest) nx tm hp Q := by
 subst hsz
 have hlen : so.avs.length = ys.length * te.size := by rw [hsv, ← F.avs 0 ys, F.total]
 have hso : (so.avs.drop (0 * te.size)).take (ys.length * te.size) = ys.flatMap F.cf := by rw [Nat.zero_mul, List.drop_zero, ← hlen, List.take_length, hsv]
 have hda : dstA hp te.size (.sl false id te.size 0 xs.length cap) = some (xs.length * te.size ≤ (F.ob tt xs).avs.length ∧ cap * te.size ≤ tt ∧ xs.length ≤ cap, xs.length, (F.ob tt xs).avs.take (xs.length * te.size), some id) := by
  simp [dstA, hid, F.arr, F.tot]
 refine WL_append (fun k => F.ob k (xs ++ ys)) hx hy hs hsd hte hz hzc hg hd hda ⟨by rw [F.total]; exact Nat.le_refl _, hcap.2, hcap.1⟩ hsid hsa (by rw [hlen]; simp) hpos hsc hb ?_ ?_ ?_ ?_
 · intro k
   refine ⟨F.arr _ _, F.tot _ _, F.elem _ _, ?_⟩
   rw [hso, ← F.total tt xs, List.take_length, F.avs, F.avs]; simp
 · rw [hso]
   intro a ha
   obtain ⟨y, _, hy⟩ := List.mem_flatMap.1 ha
   exact F.plain y a hy
 · intro id' o e1 e2; cases e1; rw [hid] at e2; cases e2; exact F.elem _ _
 · intro cap' tt' h1 h2 h3
   exact h cap' tt' h1 h2
end Go.Eng
namespace Go.Eng
variable {C : Cy} {E : En} {ops : Array Oper} {rest : List Oper} {nx : Nat} {tm : Tm} {hp : Hp} {Q : Po}
theorem ST.cells {ρ : Nat → Nat × Nat} {a : Act} {w : World} (H : ST C.toCx E ρ nx tm hp a w) {id : Nat} {e : TypeId} {m : Option Nat} {cs cs' : List AV} (ho : lk hp id = some (.cells e m cs))
 (hd : denL ρ cs' = denL ρ cs) (hn : ltL nx cs') (hne : cs ≠ []) : ST C.toCx E ρ nx tm ((id, .cells e m cs') :: hp) a w := by
 have hmem : ∀ i p, lk ((id, AO.cells e m cs') :: hp) i = some p → ∃ q, lk hp i = some q ∧ q.mut = p.mut ∧ q.live = p.live := by
  intro i p h
  rw [lk_cons] at h
  split at h
  · rename_i e; subst e; cases h; exact ⟨_, ho, rfl, rfl⟩
  · exact ⟨p, h, rfl, rfl⟩
 refine ⟨H.defers, H.size, H.tmps, ⟨?_, ?_, ?_, ?_, H.heap.glob⟩, ⟨H.fr.frame, ?_, ?_, H.fr.hsize, H.fr.tape, H.fr.os, H.fr.output⟩, H.n0, H.agree⟩
 · intro i p h
   rw [lk_cons] at h
   split at h
   · rename_i e; subst e; cases h
     obtain ⟨g1, g2, g3⟩ := H.heap.objs _ _ ho
     refine ⟨g1, hn, ?_⟩
     rcases g3 with ⟨_, g4⟩ | ⟨pre, rest, fz, el, g4, g5, g6⟩
     · exact absurd g4 hne
     · refine .inr ⟨pre, rest, fz, el, ?_, g5, ?_⟩
       · simp only [AO.avs, AO.elem] at g4 ⊢; rw [hd]; exact g4
       · simp only [AO.avs, AO.tot] at g6 ⊢; rw [hd]; exact g6
   · exact H.heap.objs i p h
 · intro i p h hl
   obtain ⟨q, g1, _, g3⟩ := hmem i p h
   exact H.heap.bound i q g1 (by rw [g3]; exact hl)
 · intro i p i' p' h h' hm hl hne
   obtain ⟨q, g1, g2, _⟩ := hmem i p h
   obtain ⟨q', g1', _, g3'⟩ := hmem i' p' h'
   exact H.heap.sep i q i' q' g1 g1' (by rw [g2]; exact hm) (by rw [g3']; exact hl) hne
 · intro i p h hm
   obtain ⟨q, g1, g2, _⟩ := hmem i p h
   exact H.heap.apart i q g1 (by rw [g2]; exact hm)
 · intro i p h hm
   obtain ⟨q, g1, g2, _⟩ := hmem i p h
   exact H.fr.own i q g1 (by rw [g2]; exact hm)
 · intro i p h hm
   obtain ⟨q, g1, _, g3⟩ := hmem i p h
   exact H.fr.own2 i q g1 (by rw [g3]; exact hm)
def valsAt (ρ : Nat → Nat × Nat) (cs : List AV) (i : Nat) : Value := (cs.getD i (.v .nilIface)).den ρ
theorem W_blurC {c : Code} (id : Nat) {e : TypeId} {m : Option Nat} {cs : List AV} (mk : (Nat → Value) → List AV) (ho : lk hp id = some (.cells e m cs))
 (hd : ∀ ρ, denL ρ (mk (valsAt ρ cs)) = denL ρ cs) (hn : ∀ vs, ltL nx (mk vs)) (hne : cs ≠ []) (h : ∀ vs, W C E c nx tm ((id, .cells e m (mk vs)) :: hp) Q) : W C E c nx tm hp Q :=
 fun ρ a w H => h _ ρ a w (H.cells ho (hd ρ) (hn _) hne)
theorem WL_blurC (id : Nat) {e : TypeId} {m : Option Nat} {cs : List AV} (mk : (Nat → Value) → List AV) (ho : lk hp id = some (.cells e m cs))
 (hd : ∀ ρ, denL ρ (mk (valsAt ρ cs)) = denL ρ cs) (hn : ∀ vs, ltL nx (mk vs)) (hne : cs ≠ []) (h : ∀ vs, WL C E ops rest nx tm ((id, .cells e m (mk vs)) :: hp) Q) : WL C E ops rest nx tm hp Q :=
 fun ρ a w H => h _ ρ a w (H.cells ho (hd ρ) (hn _) hne)
theorem LP_blurC {c : Code} (id : Nat) {e : TypeId} {m : Option Nat} {cs : List AV} (mk : (Nat → Value) → List AV) (ho : lk hp id = some (.cells e m cs))
 (hd : ∀ ρ, denL ρ (mk (valsAt ρ cs)) = denL ρ cs) (hn : ∀ vs, ltL nx (mk vs)) (hne : cs ≠ []) (h : ∀ vs, LP C E c nx tm ((id, .cells e m (mk vs)) :: hp) Q) : LP C E c nx tm hp Q :=
 fun ρ a w H => h _ ρ a w (H.cells ho (hd ρ) (hn _) hne)
end Go.Eng
namespace Go.Eng
variable {C : Cy} {E : En} {ops : Array Oper} {rest : List Oper} {nx : Nat} {tm : Tm} {hp : Hp} {Q : Po}
theorem Tri.keepX {C : Cy} {f : FuncId} {n0 : Nat} {hp0 : Hp} {args : List AV} {α : Type} {H' : α → Hp} {P : α → AV → Prop} (T : Tri C f n0 hp0 args (fun n hp r => ∃ x, Keeps (H' x) (P x) n hp r)) (hh0 : ∀ x, ltH n0 (H' x)) (hr0 : ∀ x r, P x r → r.lt n0) :
 Tri C f n0 hp0 args (fun n hp r => n = n0 ∧ ∃ x, hp = H' x ∧ P x r) := by
 refine ⟨T.1, fun ρ w H hl => (T.2 ρ w H hl).mono ?_⟩
 rintro e w' ⟨ρ', n1, hp1, r, ⟨x, hk, hP⟩, he, hrl, hn, hag, H1, F⟩
 have hh := hh0 x
 have hr := hr0 x
 refine ⟨ρ', n0, H' x, r, ⟨rfl, x, rfl, hP⟩, he, hr r hP, Nat.le_refl _, hag, ⟨?_, ?_, ?_, ?_, H1.glob⟩, ⟨F.frame, ?_, ?_, F.hsize, F.tape, F.os, F.output⟩⟩
 · intro id o ho
   obtain ⟨h1, h2⟩ := ltH_lk hh ho
   exact ⟨h1, h2, (H1.objs id o (kpL_lk hk ho)).2.2⟩
 · intro id o ho hl
   exact H1.bound id o (kpL_lk hk ho) hl
 · intro id o id2 o2 ho ho2 hm hl hne
   exact H1.sep id o id2 o2 (kpL_lk hk ho) (kpL_lk hk ho2) hm hl hne
 · intro id o ho hm
   exact H1.apart id o (kpL_lk hk ho) hm
 · intro id o ho hm
   exact F.own id o (kpL_lk hk ho) hm
 · intro id o ho hm
   exact F.own2 id o (kpL_lk hk ho) hm
theorem WL_binK {d : Nat} {op : BinOp} {t t2 : TypeId} {x y : Operand} {k k' : IntKind} {a b c : Int} {ty : TypeId} {pos : String} {af : Array Edge} {g : Option (Nat × Bool)}
 (hx : ev tm x = some (.int k a)) (hy : ev tm y = some (.int k' b)) (hg : wanted ops tm g = some true) (hd : Nat.blt d E.nt = true)
 (hr : ∀ w, (binOp op t (.int k a) (.int k' b)).run C.P w = .ok (.int k c) w) (hne : op ≠ .eql ∧ op ≠ .neq)
 (h : WL C E ops rest nx ((d, .int k c) :: tm) hp Q) :
 WL C E ops (⟨some d, .binOp op t x y t2, ty, pos, af, g⟩ :: rest) nx tm hp Q := by
 intro ρ a w H
 have hrun : (execOp a.eval ⟨some d, .binOp op t x y t2, ty, pos, af, g⟩).run C.P w = .ok (.value ((AV.int k c).den ρ)) w := by
  simp only [execOp, (H.ev hx).1, (H.ev hy).1, AV.den]
  refine run_val ?_
  have : ∀ u v, (eqGuard op t x y u v).run C.P w = .ok () w := by
   intro u v
   cases op <;> first | rfl | exact absurd rfl hne.1 | exact absurd rfl hne.2
  simp only [Sem.run_bind, this, Result.andThen_ok, hr]
 exact wpList_of_run (wanted_sound H (o := ⟨some d, .binOp op t x y t2, ty, pos, af, g⟩) hg) hrun (h ρ _ w (H.put (av := .int k c) (by simpa [Nat.blt_eq] using hd) trivial))
theorem u64wrap (n : Int) : 0 ≤ IntKind.u64.wrap n ∧ IntKind.u64.wrap n ≤ 18446744073709551615 := by
 simp only [IntKind.wrap, IntKind.signed, IntKind.bits, Bool.false_and, Bool.false_eq_true, if_false]
 omega
theorem WL_shr {d : Nat} {t t2 : TypeId} {x y : Operand} {k k' : IntKind} {a : Int} {n : Nat} {ty : TypeId} {pos : String} {af : Array Edge} {g : Option (Nat × Bool)}
 (hx : ev tm x = some (.int k a)) (hy : ev tm y = some (.int k' n)) (hg : wanted ops tm g = some true) (hd : Nat.blt d E.nt = true) (hn : Nat.ble n k.bits = true)
 (h : WL C E ops rest nx ((d, .int k (a / 2 ^ n)) :: tm) hp Q) :
 WL C E ops (⟨some d, .binOp .shr t x y t2, ty, pos, af, g⟩ :: rest) nx tm hp Q := by
 refine WL_binK hx hy hg hd (fun w => ?_) ⟨by simp, by simp⟩ h
 have hn := Nat.le_of_ble_eq_true hn
 have h1 : ¬ ((n : Int) < 0) := by omega
 simp only [binOp, Op.shift, if_neg h1, Int.toNat_natCast, Nat.min_eq_left hn]
 rw [Int.fdiv_eq_ediv_of_nonneg a (show (0 : Int) ≤ 2 ^ n from Int.le_of_lt (Int.pow_pos (by omega)))]
 rfl
theorem WL_shl1 {d : Nat} {t t2 : TypeId} {x y : Operand} {k' : IntKind} {n : Nat} {ty : TypeId} {pos : String} {af : Array Edge} {g : Option (Nat × Bool)}
 (hx : ev tm x = some (.int .u64 1)) (hy : ev tm y = some (.int k' n)) (hg : wanted ops tm g = some true) (hd : Nat.blt d E.nt = true) (hn : n < 64)
 (h : WL C E ops rest nx ((d, .int .u64 (2 ^ n)) :: tm) hp Q) :
 WL C E ops (⟨some d, .binOp .shl t x y t2, ty, pos, af, g⟩ :: rest) nx tm hp Q := by
 refine WL_binK hx hy hg hd (fun w => ?_) ⟨by simp, by simp⟩ h
 have h1 : ¬ ((n : Int) < 0) := by omega
 have h2 : min n IntKind.u64.bits = n := Nat.min_eq_left (by simp only [IntKind.bits]; omega)
 simp only [binOp, Op.shift, if_neg h1, Int.toNat_natCast, h2]
 have h3 : (2 : Int) ^ n ≤ 2 ^ 63 := by
  have : (2 : Nat) ^ n ≤ 2 ^ 63 := Nat.pow_le_pow_right (by omega) (by omega)
  exact_mod_cast this
 have h4 : (0 : Int) ≤ 2 ^ n := Int.le_of_lt (Int.pow_pos (by omega))
 rw [Int.one_mul, rng_wrap (k := .u64) (n := 2 ^ n) (by simp only [rng]; omega)]
 rfl
theorem WL_and {d : Nat} {t t2 : TypeId} {x y : Operand} {a b : Int} {ty : TypeId} {pos : String} {af : Array Edge} {g : Option (Nat × Bool)}
 (hx : ev tm x = some (.int .u64 a)) (hy : ev tm y = some (.int .u64 b)) (hg : wanted ops tm g = some true) (hd : Nat.blt d E.nt = true)
 (hb : 0 ≤ b ∧ b ≤ 18446744073709551615)
 (h : ∀ v, 0 ≤ v ∧ v ≤ b → WL C E ops rest nx ((d, .int .u64 v) :: tm) hp Q) :
 WL C E ops (⟨some d, .binOp .and t x y t2, ty, pos, af, g⟩ :: rest) nx tm hp Q := by
 have e1 : (BitVec.ofInt 64 b).toNat = b.toNat := by
  rw [BitVec.toNat_ofInt]; omega
 have e2 : ((BitVec.ofInt 64 a &&& BitVec.ofInt 64 b).toNat : Int) ≤ b := by
  rw [BitVec.toNat_and, e1]
  have := Nat.and_le_right (n := (BitVec.ofInt 64 a).toNat) (m := b.toNat)
  omega
 refine WL_binK (c := ((BitVec.ofInt 64 a &&& BitVec.ofInt 64 b).toNat : Int)) hx hy hg hd (fun w => ?_) ⟨by simp, by simp⟩ (h _ ⟨by omega, e2⟩)
 have e3 : IntKind.u64.wrap ((BitVec.ofInt 64 a &&& BitVec.ofInt 64 b).toNat : Int) = _ := rng_wrap (k := .u64) (by simp only [rng]; omega)
 simp only [binOp, ne_eq, not_true_eq_false, if_false, Op.intBits]
 show Result.ok (Value.int .u64 (IntKind.u64.wrap _)) w = _
 rw [← e3]; rfl
theorem Gives.binK {d : Nat} {op : BinOp} {t t2 : TypeId} {x y : Operand} {k k' : IntKind} {a b c : Int} {ty : TypeId} {pos : String} {af : Array Edge} {g : Option (Nat × Bool)}
 (hx : ev tm x = some (.int k a)) (hy : ev tm y = some (.int k' b))
 (hr : ∀ w, (binOp op t (.int k a) (.int k' b)).run C.P w = .ok (.int k c) w) (hne : op ≠ .eql ∧ op ≠ .neq) :
 Gives C ⟨some d, .binOp op t x y t2, ty, pos, af, g⟩ nx tm hp (.int k c) := by
 intro E ρ a w H
 refine ⟨?_, trivial⟩
 simp only [execOp, (H.ev hx).1, (H.ev hy).1, AV.den]
 refine run_val ?_
 have : ∀ u v, (eqGuard op t x y u v).run C.P w = .ok () w := by
  intro u v
  cases op <;> first | rfl | exact absurd rfl hne.1 | exact absurd rfl hne.2
 simp only [Sem.run_bind, this, Result.andThen_ok, hr]
theorem run_xor (t : TypeId) (a b : Int) : ∃ v, (0 ≤ v ∧ v ≤ 18446744073709551615) ∧ ∀ w, (binOp .xor t (.int .u64 a) (.int .u64 b)).run C.P w = .ok (.int .u64 v) w := by
 refine ⟨IntKind.u64.wrap ((BitVec.ofInt IntKind.u64.bits a ^^^ BitVec.ofInt IntKind.u64.bits b).toNat), u64wrap _, fun w => ?_⟩
 simp only [binOp, ne_eq, not_true_eq_false, if_false, Op.intBits]
 rfl
theorem run_shl (t : TypeId) (k' : IntKind) (a b : Int) (hb : 0 ≤ b) : ∃ v, (0 ≤ v ∧ v ≤ 18446744073709551615) ∧ ∀ w, (binOp .shl t (.int .u64 a) (.int k' b)).run C.P w = .ok (.int .u64 v) w := by
 refine ⟨IntKind.u64.wrap (a * 2 ^ (min b.toNat IntKind.u64.bits)), u64wrap _, fun w => ?_⟩
 have h1 : ¬ (b < 0) := by omega
 simp only [binOp, Op.shift, if_neg h1]
 rfl
theorem run_shr (t : TypeId) (k' : IntKind) (a b : Int) (ha : 0 ≤ a ∧ a ≤ 18446744073709551615) (hb : 0 ≤ b) : ∃ v, (0 ≤ v ∧ v ≤ 18446744073709551615) ∧ ∀ w, (binOp .shr t (.int .u64 a) (.int k' b)).run C.P w = .ok (.int .u64 v) w := by
 refine ⟨a.fdiv (2 ^ (min b.toNat IntKind.u64.bits)), ?_, fun w => ?_⟩
 · have h2 : (0 : Int) < 2 ^ (min b.toNat IntKind.u64.bits) := Int.pow_pos (by omega)
   rw [Int.fdiv_eq_ediv_of_nonneg a (Int.le_of_lt h2)]
   exact ⟨Int.ediv_nonneg ha.1 (Int.le_of_lt h2), Int.le_trans (Int.ediv_le_self _ ha.1) ha.2⟩
 have h1 : ¬ (b < 0) := by omega
 simp only [binOp, Op.shift, if_neg h1]
 rfl
theorem WS_any {F : FL} {ids : List Nat} {hp0 : Hp} {tail : List Oper} {br : Bool} {K : Nat → Tm → Hp → Prop} {pos' : Nat} {rest : List (Nat × Oper)} {d : Nat} {op : BinOp} {t t2 : TypeId} {x y : Operand} {k' : IntKind} {a b : Int} {ty : TypeId} {pos : String} {af : Array Edge} {g : Option (Nat × Bool)}
 (hv : ∃ v, (0 ≤ v ∧ v ≤ 18446744073709551615) ∧ ∀ w, (binOp op t (.int .u64 a) (.int k' b)).run C.P w = .ok (.int .u64 v) w)
 (hq : F.fl ⟨some d, .binOp op t x y t2, ty, pos, af, g⟩ = true) (hb : (F.rq ⟨some d, .binOp op t x y t2, ty, pos, af, g⟩ && br) = false)
 (hx : ev tm x = some (.int .u64 a)) (hy : ev tm y = some (.int k' b)) (hne : op ≠ .eql ∧ op ≠ .neq) (hg : wanted ops tm g = some true) (hd : Nat.blt d E.nt = true)
 (h : ∀ v, 0 ≤ v ∧ v ≤ 18446744073709551615 → WS C E ops F ids hp0 tail br rest nx ((d, .int .u64 v) :: tm) hp K) :
 WS C E ops F ids hp0 tail br ((pos', ⟨some d, .binOp op t x y t2, ty, pos, af, g⟩) :: rest) nx tm hp K := by
 obtain ⟨v, h1, h2⟩ := hv
 exact WS_gives (o := ⟨some d, .binOp op t x y t2, ty, pos, af, g⟩) hq hb (Gives.binK hx hy h2 hne) hg (dlt hd) (h v h1)
end Go.Eng
namespace Go.Eng
def Ends {α : Type} (n0 : Nat) (N : α → Nat) (H : α → Hp) (V : α → AV) (I : α → Prop) : Rs := fun n hp r =>
 ∃ x pl, subHp (pm pl) (N x) hp (H x) ∧ okG (pm pl) (H x) = true ∧ Nat.ble n0 (N x) = true ∧ upto n0 (fun i => Nat.beq (pm pl i) i) = true ∧ r = (V x).ren (pm pl) ∧ (V x).lt (N x) ∧ I x
def Fin' {α : Type} (N : α → Nat) (H : α → Hp) (V : α → AV) (I : α → Prop) : Rs := fun n hp r => ∃ x, n = N x ∧ hp = H x ∧ r = V x ∧ I x
theorem Tri.renX {C : Cy} {f : FuncId} {n0 : Nat} {hp0 : Hp} {args : List AV} {α : Type} {N : α → Nat} {H : α → Hp} {V : α → AV} {I : α → Prop} (T : Tri C f n0 hp0 args (Ends n0 N H V I)) :
 Tri C f n0 hp0 args (Fin' N H V I) := by
 refine ⟨T.1, fun ρ w HH hl => (T.2 ρ w HH hl).mono ?_⟩
 rintro e w' ⟨ρ', n1, hp1, r, ⟨x, pl, h1, h2, h3, h4, h5, h6, h7⟩, he, hrl, hn, hag, H1, F⟩
 have key : ∀ {id o}, lk (H x) id = some o → lk hp1 (pm pl id) = some (o.ren (pm pl)) ∧ id < N x ∧ o.ltP (N x) := fun h' => subHp_mem h1 (lk_mem h')
 refine ⟨fun i => ρ' (pm pl i), N x, H x, V x, ⟨x, rfl, rfl, rfl, h7⟩, ?_, h6, Nat.le_of_ble_eq_true h3, ?_, H1.renG h1 h2, ⟨F.frame, ?_, ?_, F.hsize, F.tape, F.os, F.output⟩⟩
 · rw [he, h5, AV.den_ren]
 · intro i hi
   show ρ' (pm pl i) = ρ i
   rw [Nat.eq_of_beq_eq_true (upto_spec h4 hi)]; exact hag i hi
 · intro id o ho hm
   exact F.own _ _ (key ho).1 (by rw [AO.mut_ren]; exact hm)
 · intro id o ho hm
   exact F.own2 _ _ (key ho).1 (by rw [AO.live_ren]; exact hm)
mutual
theorem AV.ren_congr {π π' : Nat → Nat} {n : Nat} (h : ∀ i, i < n → π' i = π i) : ∀ (a : AV), a.lt n → a.ren π' = a.ren π
 | .int .., _ => rfl
 | .bool .., _ => rfl
 | .str .., _ => rfl
 | .v .., _ => rfl
 | .ptr id off, l => by simp only [AV.lt] at l; simp only [AV.ren, h id l]
 | .pix id n i j, l => by simp only [AV.lt] at l; simp only [AV.ren, h id l]
 | .sl nl id n off len cap, l => by simp only [AV.lt] at l; simp only [AV.ren, h id l]
 | .map id, l => by simp only [AV.lt] at l; simp only [AV.ren, h id l]
 | .agg cs, l => by simp only [AV.lt] at l; simp only [AV.ren, renL_congr h cs l]
 | .tup cs, l => by simp only [AV.lt] at l; simp only [AV.ren, renL_congr h cs l]
 | .fn f a b, l => by simp only [AV.lt] at l; simp only [AV.ren, renL_congr h a l.1, renL_congr h b l.2]
 | .ifc t x, l => by simp only [AV.lt] at l; simp only [AV.ren, AV.ren_congr h x l]
theorem renL_congr {π π' : Nat → Nat} {n : Nat} (h : ∀ i, i < n → π' i = π i) : ∀ (l : List AV), ltL n l → renL π' l = renL π l
 | [], _ => rfl
 | a :: l, hl => by simp only [ltL] at hl; simp only [renL, AV.ren_congr h a hl.1, renL_congr h l hl.2]
end
theorem AO.ren_congr {π π' : Nat → Nat} {n : Nat} (h : ∀ i, i < n → π' i = π i) (o : AO) (l : o.ltP n) : o.ren π' = o.ren π := by
 cases o with
 | cells e m cs =>
   have hl : ltL n cs := AO.ltP_lt (o := .cells e m cs) l
   simp only [AO.ren, renL_congr h cs hl]
 | _ => rfl
theorem lk_back {hp hp0 : Hp} {π : Nat → Nat} {n0 nx : Nat} (hh : subHp π n0 hp hp0) (hi : nodupB ((List.range n0).map π) = true) :
 ∀ id o, lk hp id = some o → lk (appH (renH (pn π n0 nx) hp0) (appH (deadH π hp0) hp)) id = some o := by
 intro id o ho
 have hk : ∀ p ∈ hp0, p.1 < n0 := fun p hp' => (subHp_mem hh (id := p.1) (o := p.2) hp').2.1
 have hinj : ∀ i j, i < n0 → j < n0 → pn π n0 nx i = pn π n0 nx j → i = j := by
  intro i j h1 h2 h3
  rw [pn_lt h1, pn_lt h2] at h3
  exact nodupB_id hi i j h1 h2 h3
 rw [lk_appH]
 cases hr : lk (renH (pn π n0 nx) hp0) id with
 | some o2 =>
   obtain ⟨i, p, h0, h1, h2, h3⟩ := lk_renH hinj hp0 hk hr
   obtain ⟨g1, _, g3⟩ := subHp_mem hh (lk_mem h1)
   rw [pn_lt h0] at h2
   rw [h2, ho] at g1
   cases g1
   rw [h3]
   show some _ = some _
   rw [AO.ren_congr (fun i hi => pn_lt hi) p g3]
 | none =>
   show lk (appH (deadH π hp0) hp) id = some o
   rw [lk_appH]
   cases hd : lk (deadH π hp0) id with
   | some o2 =>
     obtain ⟨_, i, p, h2, h3⟩ := lk_deadH hp0 hd
     have hlt := hk _ h2
     have : ∃ p', lk hp0 i = some p' := by
      clear hd hr hh hk hlt
      induction hp0 with
      | nil => cases h2
      | cons q l ih =>
        obtain ⟨j, q2⟩ := q
        rw [lk_cons]
        by_cases e : j = i
        · exact ⟨q2, if_pos e⟩
        · rw [if_neg e]
          rcases List.mem_cons.1 h2 with e2 | h2
          · cases e2; exact absurd rfl e
          · exact ih h2
     obtain ⟨p', hp'⟩ := this
     have := lk_renH_none (π := pn π n0 nx) hp0 hp'
     rw [pn_lt hlt, h3, hr] at this
     cases this
   | none => exact ho
theorem WL_callR {C : Cy} {E : En} {ops : Array Oper} {rest : List Oper} {nx : Nat} {tm : Tm} {hp : Hp} {Q : Po} {d : Nat} {op : Op} {ty : TypeId} {pos : String} {af : Array Edge} {g : Option (Nat × Bool)} {f : FuncId} {vs : List AV} {n0 : Nat} {hp0 : Hp} {args0 : List AV} {P : AV → Prop} (pl : List Nat)
 (T : Tri C f n0 hp0 args0 (fun k hp r => k = n0 ∧ hp = hp0 ∧ P r)) (hv : callV tm op = some (f, vs)) (hg : wanted ops tm g = some true)
 (ha : renL (pm pl) args0 = vs) (hl : ltL n0 args0) (hh : subHp (pm pl) n0 hp hp0) (hd : nodupB (hp0.map fun p => pm pl p.1) = true)
 (hi : nodupB ((List.range n0).map (pm pl)) = true) (hb : upto n0 (fun i => Nat.blt (pm pl i) nx) = true)
 (hdd : Nat.blt d E.nt = true)
 (h : ∀ r, P r → WL C E ops rest nx ((d, r.ren (pn (pm pl) n0 nx)) :: tm) hp Q) :
 WL C E ops (⟨some d, op, ty, pos, af, g⟩ :: rest) nx tm hp Q := by
 refine WL_call pl T hv hg ha hl hh hd hi hb hdd ?_
 rintro n1 hp1 r ⟨rfl, rfl, hP⟩
 rw [Nat.sub_self, Nat.add_zero]
 intro ρ a w H
 exact h r hP ρ a w (H.drop fun id o ho => .inr (lk_back hh hi id o ho))
variable {C : Cy} {E : En} {ops : Array Oper} {rest : List Oper} {nx : Nat} {tm : Tm} {hp : Hp} {Q : Po}
theorem WL_sliceE {d : Nat} {t e : TypeId} {x : Operand} {lo : Operand} {ty : TypeId} {pos : String} {af : Array Edge} {g : Option (Nat × Bool)} {s te : TS} {nl : Bool} {id n off cap : Nat} {a : Int}
 (hx : ev tm x = some (.sl nl id n off cap cap)) (hlo : evi tm (some lo) = some (some a)) (hs : C.ti t = some s) (hd : s.desc = .slice e) (hte : C.ti e = some te)
 (hg : wanted ops tm g = some true) (hdd : Nat.blt d E.nt = true) (ha : a = cap ∧ 0 < cap)
 (h : WL C E ops rest nx ((d, .sl false id n off 0 0) :: tm) hp Q) :
 WL C E ops (⟨some d, .slice t x (some lo) none none, ty, pos, af, g⟩ :: rest) nx tm hp Q := by
 intro ρ ac w H
 obtain ⟨kl, hkl⟩ := evi_sound H hlo
 have h1 : 0 ≤ a ∧ a ≤ (cap : Int) := by omega
 have h2 : a.toNat = cap := by omega
 have hnl : (nl && Nat.beq cap 0) = false := nlz ha.2
 have hrun : (execOp ac.eval ⟨some d, .slice t x (some lo) none none, ty, pos, af, g⟩).run C.P w = .ok (.value ((AV.sl false id n off 0 0).den ρ)) w := by
  simp only [execOp, (H.ev hx).1, hkl, Option.map_none]
  refine run_val ?_
  simp only [Instr.sliceAt, Sem.run_bind, run_underlying hs, Result.andThen_ok, hd]
  simp only [Instr.slice, Sem.run_bind, run_underlying hs, Result.andThen_ok, hd, AV.den, Sem.run_pure, Instr.sliceBounds]
  simp only [hnl, cond_false, BO, Sem.run_pure, Sem.run_bind, Result.andThen_ok, Instr.sliceBound, asIntOf, h1, and_self, if_true, h2, if_false, run_sizeOf hte, AV.den, Option.map_some, Bool.false_and, Nat.sub_self]
 exact wpList_of_run (wanted_sound H (o := ⟨some d, .slice t x (some lo) none none, ty, pos, af, g⟩) hg) hrun (h ρ _ w (H.put (av := .sl false id n off 0 0) (by simpa [Nat.blt_eq] using hdd) (H.ev hx).2))
end Go.Eng
namespace Go.Eng
abbrev slI (y : Bool × Nat) (id n len : Nat) : AV := .sl y.1 id n 0 len y.2
variable {C : Cy} {E : En} {ops : Array Oper} {rest : List Oper} {nx : Nat} {tm : Tm} {hp : Hp} {Q : Po}
def GOK' {α : Type} (n : Nat) (xs : List α) (y : Bool × Nat) (m : Option Nat) : Prop := (y = (true, 0) ∧ m = none ∧ xs = []) ∨ ∃ tt cap, y = (false, cap) ∧ m = some tt ∧ xs.length ≤ cap ∧ cap * n ≤ tt
theorem GOK'.cap {α : Type} {n : Nat} {xs : List α} {y : Bool × Nat} {m : Option Nat} (h : GOK' n xs y m) : xs.length ≤ y.2 := by
 rcases h with ⟨rfl, _, rfl⟩ | ⟨tt, cap, rfl, _, h, _⟩
 · exact Nat.zero_le _
 · exact h
theorem WL_appK {α : Type} {e : TypeId} {n : Nat} (F : Fam e n α) (ob : Option Nat → AO) (xs ys : List α) {d k j : Nat} {t : TypeId} {ty : TypeId} {pos : String} {af : Array Edge} {g : Option (Nat × Bool)} {s te : TS} {z : Value}
 {yl : Bool × Nat} {m : Option Nat} {id sid scap : Nat} {so : AO}
 (hG : GOK' n xs yl m) (hob : ∀ tt, ob (some tt) = F.ob tt xs)
 (hx : lk tm k = some (slI yl id n xs.length)) (hid : lk hp id = some (ob m)) (hy : lk tm j = some (.sl false sid n 0 ys.length scap)) (hjk : Nat.beq j k = false) (hsid : lk hp sid = some so)
 (hsa : isArr so = true) (hsv : so.avs = ys.flatMap F.cf)
 (hs : C.ti t = some s) (hsd : s.desc = .slice e) (hte : C.ti e = some te) (hsz : te.size = n)
 (hz : te.zero = some z) (hzc : Nat.beq z.cells.size te.size = true) (hg : g = none) (hd : Nat.blt d E.nt = true) (hidn : Nat.blt id nx = true)
 (hpos : 0 < ys.length) (hsc : ys.length ≤ scap) (hb : xs.length + ys.length ≤ 140737488355328 ∧ (xs.length + ys.length) * te.bytes ≤ 140737488355328)
 (h : ∀ cap' tt', GOK' n (xs ++ ys) (false, cap') (some tt') → WL C E ops rest (nx + 1) ((d, slI (false, cap') nx n (xs ++ ys).length) :: tm) ((nx, F.ob tt' (xs ++ ys)) :: (id, .dead) :: hp) Q) :
 WL C E ops (⟨some d, .call ⟨.builtin .append, #[.tmp k, .tmp j], #[t, t]⟩, ty, pos, af, g⟩ :: rest) nx tm hp Q := by
 subst hg
 have h' : ∀ cap' tt', xs.length + ys.length ≤ cap' → cap' * n ≤ tt' → WL C E ops rest (nx + 1) ((d, .sl false nx n 0 (xs.length + ys.length) cap') :: tm) ((nx, F.ob tt' (xs ++ ys)) :: (id, .dead) :: hp) Q :=
  fun cap' tt' h1 h2 => by
   have := h cap' tt' (.inr ⟨tt', cap', rfl, rfl, by rw [List.length_append]; exact h1, h2⟩)
   unfold slI at this
   rw [List.length_append] at this
   exact this
 rcases hG with ⟨rfl, rfl, rfl⟩ | ⟨tt, cap, rfl, rfl, h1, h2⟩
 · simp only [List.length_nil, Nat.zero_add, List.nil_append] at h' hb hx
   refine WL_imp (Imp_tm k (.v (.slice none 0 0)) hx (fun _ => rfl) trivial) ?_
   refine WL_appN F ys (by show lk ((k, _) :: tm) k = _; exact lk_hit _ _ _) (by show lk ((k, _) :: tm) j = _; rw [lk_miss _ _ (fun e => by subst e; simp at hjk)]; exact hy) hsid hsa hsv hs hsd hte hsz hz hzc rfl hd hpos hsc hb ?_
   intro cap' tt' h3 h4
   have w := h' cap' tt' h3 h4
   refine WL_imp (n' := nx + 1) (tm' := (d, .sl false nx n 0 ys.length cap') :: tm) (hp' := (nx, F.ob tt' ys) :: (id, .dead) :: hp) ?_ w
   intro ρ a w H
   refine ⟨ρ, ?_⟩
   have hidn0 : id < nx := by simpa [Nat.blt_eq] using hidn
   have hidn' : id < nx + 1 := by omega
   have H2 : ST C.toCx E ρ (nx + 1) ((d, .sl false nx n 0 ys.length cap') :: tm) ((nx, F.ob tt' ys) :: hp) a w := by
    by_cases hk : d = k
    · subst hk
      refine H.tm_sub fun t av ht => ?_
      rw [lk_cons] at ht ⊢
      split
      · rename_i e1; rw [if_pos e1] at ht; exact ht
      · rename_i e1; rw [if_neg e1] at ht; rw [lk_miss _ _ e1]; exact ht
    · refine (H.blur (t := k) (av := .v (.slice none 0 0)) (av' := .sl true id n 0 0 0) (by rw [lk_miss _ _ hk]; exact lk_hit _ _ _) rfl hidn').tm_sub fun t av ht => ?_
      rw [lk_cons] at ht ⊢
      split
      · rename_i e1; subst e1; rw [if_neg hk, hx] at ht; exact ht
      · rename_i e1; rw [lk_cons]
        split
        · rename_i e2; rw [if_pos e2] at ht; exact ht
        · rename_i e2; rw [if_neg e2] at ht; rw [lk_miss _ _ e1]; exact ht
   refine H2.drop fun i o ho => ?_
   have hne2 : nx ≠ id := by omega
   rw [lk_cons] at ho ⊢
   split
   · rename_i e1; rw [if_pos e1] at ho; exact .inr ho
   · rename_i e1; rw [if_neg e1, lk_cons] at ho
     split at ho
     · rename_i e2; subst e2; cases ho; exact .inl ⟨rfl, hidn'⟩
     · exact .inr ho
 · refine WL_appX F xs ys hx (by rw [hid, hob]) hy hsid hsa hsv hs hsd hte hsz hz hzc rfl hd ⟨h1, h2⟩ hpos hsc hb ?_
   exact h'
end Go.Eng
namespace Go.Eng
open Go.Proofs
structure RZ where
 fr : Int
 st : Int
 iv : Int
 wk : Int
 wn : Int
 ct : Int
 un : Int
 l0 : List Int
 l1 : List Int
 l2 : List Int
 l3 : List Int
 l4 : List Int
 l5 : List Int
 l6 : List Int
 l7 : List Int
 l8 : List Int
 dd : List (Int × Int)
structure LY where
 y0 : Bool × Nat
 y1 : Bool × Nat
 y2 : Bool × Nat
 y3 : Bool × Nat
 y4 : Bool × Nat
 y5 : Bool × Nat
 y6 : Bool × Nat
 y7 : Bool × Nat
 y8 : Bool × Nat
 yd : Bool × Nat
def RZ.zero : RZ := ⟨0, 0, 0, 0, 0, 0, 0, [], [], [], [], [], [], [], [], [], []⟩
def LY.zero : LY := ⟨(true, 0), (true, 0), (true, 0), (true, 0), (true, 0), (true, 0), (true, 0), (true, 0), (true, 0), (true, 0)⟩
def LOK (z : RZ) (y : LY) : Prop := z.l0.length ≤ y.y0.2 ∧ z.l1.length ≤ y.y1.2 ∧ z.l2.length ≤ y.y2.2 ∧ z.l3.length ≤ y.y3.2 ∧ z.l4.length ≤ y.y4.2 ∧ z.l5.length ≤ y.y5.2 ∧ z.l6.length ≤ y.y6.2 ∧ z.l7.length ≤ y.y7.2 ∧ z.l8.length ≤ y.y8.2 ∧ z.dd.length ≤ y.yd.2
abbrev prs2 (l : List (Int × Int)) : List (List Int) := l.map fun p => [p.1, p.2]
abbrev isl (xs : List Int) : AO := .ints 3 none .i64 xs
def cellsS (z : RZ) (y : LY) (b : Nat) : List AV := [.int .u8 z.fr, .bool (z.st != 0), .int .i64 z.st, .int .i64 z.iv, .int .i64 z.wk, .int .i64 z.ct, .bool (z.un != 0), .int .i64 z.un, slI y.y0 (b + 0) 1 z.l0.length, slI y.y1 (b + 1) 1 z.l1.length, slI y.y2 (b + 2) 1 z.l2.length, slI y.y3 (b + 3) 1 z.l3.length, slI y.y4 (b + 4) 1 z.l4.length, slI y.yd (b + 9) 2 z.dd.length, slI y.y5 (b + 5) 1 z.l5.length, slI y.y6 (b + 6) 1 z.l6.length, slI y.y7 (b + 7) 1 z.l7.length, slI y.y8 (b + 8) 1 z.l8.length]
def cellsP (z : RZ) (y : LY) (b : Nat) : List AV := [.int .i64 z.fr, .int .i64 z.st, .int .i64 0, .int .i64 z.iv, .int .i64 z.wk, .int .i64 z.wn, .int .i64 z.ct, .int .i64 z.un, .int .i64 0, slI y.y0 (b + 0) 1 z.l0.length, slI y.y1 (b + 1) 1 z.l1.length, slI y.y2 (b + 2) 1 z.l2.length, slI y.y3 (b + 3) 1 z.l3.length, slI y.y4 (b + 4) 1 z.l4.length, slI y.yd (b + 9) 2 z.dd.length, slI y.y5 (b + 5) 1 z.l5.length, slI y.y6 (b + 6) 1 z.l6.length, slI y.y7 (b + 7) 1 z.l7.length, slI y.y8 (b + 8) 1 z.l8.length]
def lstHp (e : TypeId) (z : RZ) (b : Nat) : Hp := [(b + 0, isl z.l0), (b + 1, isl z.l1), (b + 2, isl z.l2), (b + 3, isl z.l3), (b + 4, isl z.l4), (b + 5, isl z.l5), (b + 6, isl z.l6), (b + 7, isl z.l7), (b + 8, isl z.l8), (b + 9, .recs e none K2 (prs2 z.dd))]
def okZ {α : Type} (z : RZ) (o : Option α) (f : α → RZ) : RZ × Nat := match o with | some a => (f a, 0) | none => (z, 1)
def partZ (z : RZ) (k v : List UInt8) : RZ × Nat :=
 if k = [70, 82, 69, 81] then okZ z (freqZ v) fun f => { z with fr := f } else
 if k = [68, 84, 83, 84, 65, 82, 84] then if (momZ v).2 = 0 then ({ z with st := (momZ v).1 }, 0) else (z, (momZ v).2) else
 if k = [85, 78, 84, 73, 76] then if (momZ v).2 = 0 then ({ z with un := (momZ v).1 }, 0) else (z, (momZ v).2) else
 if k = [73, 78, 84, 69, 82, 86, 65, 76] then okZ z (intZ v) fun n => { z with iv := n } else
 if k = [67, 79, 85, 78, 84] then okZ z (intZ v) fun n => { z with ct := n } else
 if k = [87, 75, 83, 84] then match dayZ v with | some p => if p.2 = 0 then ({ z with wk := p.1, wn := 0 }, 0) else (z, 2) | none => (z, 1) else
 if k = [66, 89, 68, 65, 89] then okZ z (mapZ dayZ (splitB 44 v)) fun l => { z with dd := l } else
 if k = [66, 89, 83, 69, 84, 80, 79, 83] then okZ z (mapZ intZ (splitB 44 v)) fun l => { z with l0 := l } else
 if k = [66, 89, 77, 79, 78, 84, 72] then okZ z (mapZ intZ (splitB 44 v)) fun l => { z with l1 := l } else
 if k = [66, 89, 77, 79, 78, 84, 72, 68, 65, 89] then okZ z (mapZ intZ (splitB 44 v)) fun l => { z with l2 := l } else
 if k = [66, 89, 89, 69, 65, 82, 68, 65, 89] then okZ z (mapZ intZ (splitB 44 v)) fun l => { z with l3 := l } else
 if k = [66, 89, 87, 69, 69, 75, 78, 79] then okZ z (mapZ intZ (splitB 44 v)) fun l => { z with l4 := l } else
 if k = [66, 89, 72, 79, 85, 82] then okZ z (mapZ intZ (splitB 44 v)) fun l => { z with l5 := l } else
 if k = [66, 89, 77, 73, 78, 85, 84, 69] then okZ z (mapZ intZ (splitB 44 v)) fun l => { z with l6 := l } else
 if k = [66, 89, 83, 69, 67, 79, 78, 68] then okZ z (mapZ intZ (splitB 44 v)) fun l => { z with l7 := l } else
 if k = [66, 89, 69, 65, 83, 84, 69, 82] then okZ z (mapZ intZ (splitB 44 v)) fun l => { z with l8 := l } else (z, 1)
theorem partZ_FREQ (z : RZ) (v : List UInt8) : partZ z [70, 82, 69, 81] v = okZ z (freqZ v) fun f => { z with fr := f } := by unfold partZ; simp (config := {decide := true}) only [if_true, if_false]
theorem partZ_DTSTART (z : RZ) (v : List UInt8) : partZ z [68, 84, 83, 84, 65, 82, 84] v = if (momZ v).2 = 0 then ({ z with st := (momZ v).1 }, 0) else (z, (momZ v).2) := by unfold partZ; simp (config := {decide := true}) only [if_true, if_false]
theorem partZ_UNTIL (z : RZ) (v : List UInt8) : partZ z [85, 78, 84, 73, 76] v = if (momZ v).2 = 0 then ({ z with un := (momZ v).1 }, 0) else (z, (momZ v).2) := by unfold partZ; simp (config := {decide := true}) only [if_true, if_false]
theorem partZ_INTERVAL (z : RZ) (v : List UInt8) : partZ z [73, 78, 84, 69, 82, 86, 65, 76] v = okZ z (intZ v) fun n => { z with iv := n } := by unfold partZ; simp (config := {decide := true}) only [if_true, if_false]
theorem partZ_COUNT (z : RZ) (v : List UInt8) : partZ z [67, 79, 85, 78, 84] v = okZ z (intZ v) fun n => { z with ct := n } := by unfold partZ; simp (config := {decide := true}) only [if_true, if_false]
theorem partZ_WKST (z : RZ) (v : List UInt8) : partZ z [87, 75, 83, 84] v = match dayZ v with | some p => if p.2 = 0 then ({ z with wk := p.1, wn := 0 }, 0) else (z, 2) | none => (z, 1) := by unfold partZ; simp (config := {decide := true}) only [if_true, if_false]
theorem partZ_BYDAY (z : RZ) (v : List UInt8) : partZ z [66, 89, 68, 65, 89] v = okZ z (mapZ dayZ (splitB 44 v)) fun l => { z with dd := l } := by unfold partZ; simp (config := {decide := true}) only [if_true, if_false]
theorem partZ_BYSETPOS (z : RZ) (v : List UInt8) : partZ z [66, 89, 83, 69, 84, 80, 79, 83] v = okZ z (mapZ intZ (splitB 44 v)) fun l => { z with l0 := l } := by unfold partZ; simp (config := {decide := true}) only [if_true, if_false]
theorem partZ_BYMONTH (z : RZ) (v : List UInt8) : partZ z [66, 89, 77, 79, 78, 84, 72] v = okZ z (mapZ intZ (splitB 44 v)) fun l => { z with l1 := l } := by unfold partZ; simp (config := {decide := true}) only [if_true, if_false]
theorem partZ_BYMONTHDAY (z : RZ) (v : List UInt8) : partZ z [66, 89, 77, 79, 78, 84, 72, 68, 65, 89] v = okZ z (mapZ intZ (splitB 44 v)) fun l => { z with l2 := l } := by unfold partZ; simp (config := {decide := true}) only [if_true, if_false]
theorem partZ_BYYEARDAY (z : RZ) (v : List UInt8) : partZ z [66, 89, 89, 69, 65, 82, 68, 65, 89] v = okZ z (mapZ intZ (splitB 44 v)) fun l => { z with l3 := l } := by unfold partZ; simp (config := {decide := true}) only [if_true, if_false]
theorem partZ_BYWEEKNO (z : RZ) (v : List UInt8) : partZ z [66, 89, 87, 69, 69, 75, 78, 79] v = okZ z (mapZ intZ (splitB 44 v)) fun l => { z with l4 := l } := by unfold partZ; simp (config := {decide := true}) only [if_true, if_false]
theorem partZ_BYHOUR (z : RZ) (v : List UInt8) : partZ z [66, 89, 72, 79, 85, 82] v = okZ z (mapZ intZ (splitB 44 v)) fun l => { z with l5 := l } := by unfold partZ; simp (config := {decide := true}) only [if_true, if_false]
theorem partZ_BYMINUTE (z : RZ) (v : List UInt8) : partZ z [66, 89, 77, 73, 78, 85, 84, 69] v = okZ z (mapZ intZ (splitB 44 v)) fun l => { z with l6 := l } := by unfold partZ; simp (config := {decide := true}) only [if_true, if_false]
theorem partZ_BYSECOND (z : RZ) (v : List UInt8) : partZ z [66, 89, 83, 69, 67, 79, 78, 68] v = okZ z (mapZ intZ (splitB 44 v)) fun l => { z with l7 := l } := by unfold partZ; simp (config := {decide := true}) only [if_true, if_false]
theorem partZ_BYEASTER (z : RZ) (v : List UInt8) : partZ z [66, 89, 69, 65, 83, 84, 69, 82] v = okZ z (mapZ intZ (splitB 44 v)) fun l => { z with l8 := l } := by unfold partZ; simp (config := {decide := true}) only [if_true, if_false]
theorem partZ_other (z : RZ) (k v : List UInt8) (h0 : ¬ k = [70, 82, 69, 81]) (h1 : ¬ k = [68, 84, 83, 84, 65, 82, 84]) (h2 : ¬ k = [85, 78, 84, 73, 76]) (h3 : ¬ k = [73, 78, 84, 69, 82, 86, 65, 76]) (h4 : ¬ k = [67, 79, 85, 78, 84]) (h5 : ¬ k = [87, 75, 83, 84]) (h6 : ¬ k = [66, 89, 68, 65, 89]) (h7 : ¬ k = [66, 89, 83, 69, 84, 80, 79, 83]) (h8 : ¬ k = [66, 89, 77, 79, 78, 84, 72]) (h9 : ¬ k = [66, 89, 77, 79, 78, 84, 72, 68, 65, 89]) (h10 : ¬ k = [66, 89, 89, 69, 65, 82, 68, 65, 89]) (h11 : ¬ k = [66, 89, 87, 69, 69, 75, 78, 79]) (h12 : ¬ k = [66, 89, 72, 79, 85, 82]) (h13 : ¬ k = [66, 89, 77, 73, 78, 85, 84, 69]) (h14 : ¬ k = [66, 89, 83, 69, 67, 79, 78, 68]) (h15 : ¬ k = [66, 89, 69, 65, 83, 84, 69, 82]) : partZ z k v = (z, 1) := by unfold partZ; rw [if_neg h0, if_neg h1, if_neg h2, if_neg h3, if_neg h4, if_neg h5, if_neg h6, if_neg h7, if_neg h8, if_neg h9, if_neg h10, if_neg h11, if_neg h12, if_neg h13, if_neg h14, if_neg h15]
end Go.Eng
