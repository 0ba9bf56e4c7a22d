/- A part of the proof that the rows statement FnSetAny holds: the engine of abstract states, the walks through the program, the bridge; no conditions. -/
import Derived.Test.YthkgjhnckakliaaGreatDoorZAZ
import Derived.Test.YthkgjhnckakliaaGreatDoorZAN
import Derived.Test.YthkgjhnckakliaaGreatDoorZAM
import Derived.Test.YthkgjhnckakliaaGreatDoorZAO
import Derived.Test.YthkgjhnckakliaaGreatDoorZAP
set_option linter.unusedVariables false
set_option linter.unusedSimpArgs false
set_option linter.unusedSectionVars false
namespace Go.Eng
variable {C : Cy} {E : En} {ops : Array Oper} {rest : List Oper} {nx : Nat} {tm : Tm} {hp : Hp} {Q : Po}
theorem ST.cells {ρ : Nat → Nat × Nat} {a : Act} {w : World} (H : ST C.toCx E ρ nx tm hp a w) {id : Nat} {e : TypeId} {m : Option Nat} {cs cs' : List AV} (ho : lk hp id = some (.cells e m cs))
    (hd : denL ρ cs' = denL ρ cs) (hn : ltL nx cs') (hne : cs ≠ []) : ST C.toCx E ρ nx tm ((id, .cells e m cs') :: hp) a w := by
  have hmem : ∀ i p, lk ((id, AO.cells e m cs') :: hp) i = some p → ∃ q, lk hp i = some q ∧ q.mut = p.mut ∧ q.live = p.live := by
    intro i p h
    rw [lk_cons] at h
    split at h
    · rename_i e; subst e; cases h; exact ⟨_, ho, rfl, rfl⟩
    · exact ⟨p, h, rfl, rfl⟩
  refine ⟨H.defers, H.size, H.tmps, ⟨?_, ?_, ?_, ?_, H.heap.glob⟩, ⟨H.fr.frame, ?_, ?_, H.fr.hsize, H.fr.tape, H.fr.os, H.fr.output⟩, H.n0, H.agree⟩
  · intro i p h
    rw [lk_cons] at h
    split at h
    · rename_i e; subst e; cases h
      obtain ⟨g1, g2, g3⟩ := H.heap.objs _ _ ho
      refine ⟨g1, hn, ?_⟩
      rcases g3 with ⟨_, g4⟩ | ⟨pre, rest, fz, g4, g5, g6⟩
      · exact absurd g4 hne
      · refine .inr ⟨pre, rest, fz, ?_, g5, ?_⟩
        · simp only [AO.avs, AO.elem] at g4 ⊢; rw [hd]; exact g4
        · simp only [AO.avs, AO.tot] at g6 ⊢; rw [hd]; exact g6
    · exact H.heap.objs i p h
  · intro i p h hl
    obtain ⟨q, g1, _, g3⟩ := hmem i p h
    exact H.heap.bound i q g1 (by rw [g3]; exact hl)
  · intro i p i' p' h h' hm hl hne
    obtain ⟨q, g1, g2, _⟩ := hmem i p h
    obtain ⟨q', g1', _, g3'⟩ := hmem i' p' h'
    exact H.heap.sep i q i' q' g1 g1' (by rw [g2]; exact hm) (by rw [g3']; exact hl) hne
  · intro i p h hm
    obtain ⟨q, g1, g2, _⟩ := hmem i p h
    exact H.heap.apart i q g1 (by rw [g2]; exact hm)
  · intro i p h hm
    obtain ⟨q, g1, g2, _⟩ := hmem i p h
    exact H.fr.own i q g1 (by rw [g2]; exact hm)
  · intro i p h hm
    obtain ⟨q, g1, _, g3⟩ := hmem i p h
    exact H.fr.own2 i q g1 (by rw [g3]; exact hm)
def valsAt (ρ : Nat → Nat × Nat) (cs : List AV) (i : Nat) : Value := (cs.getD i (.v .nilIface)).den ρ
theorem W_blurC {c : Code} (id : Nat) {e : TypeId} {m : Option Nat} {cs : List AV} (mk : (Nat → Value) → List AV) (ho : lk hp id = some (.cells e m cs))
    (hd : ∀ ρ, denL ρ (mk (valsAt ρ cs)) = denL ρ cs) (hn : ∀ vs, ltL nx (mk vs)) (hne : cs ≠ []) (h : ∀ vs, W C E c nx tm ((id, .cells e m (mk vs)) :: hp) Q) : W C E c nx tm hp Q :=
  fun ρ a w H => h _ ρ a w (H.cells ho (hd ρ) (hn _) hne)
theorem WL_blurC (id : Nat) {e : TypeId} {m : Option Nat} {cs : List AV} (mk : (Nat → Value) → List AV) (ho : lk hp id = some (.cells e m cs))
    (hd : ∀ ρ, denL ρ (mk (valsAt ρ cs)) = denL ρ cs) (hn : ∀ vs, ltL nx (mk vs)) (hne : cs ≠ []) (h : ∀ vs, WL C E ops rest nx tm ((id, .cells e m (mk vs)) :: hp) Q) : WL C E ops rest nx tm hp Q :=
  fun ρ a w H => h _ ρ a w (H.cells ho (hd ρ) (hn _) hne)
theorem LP_blurC {c : Code} (id : Nat) {e : TypeId} {m : Option Nat} {cs : List AV} (mk : (Nat → Value) → List AV) (ho : lk hp id = some (.cells e m cs))
    (hd : ∀ ρ, denL ρ (mk (valsAt ρ cs)) = denL ρ cs) (hn : ∀ vs, ltL nx (mk vs)) (hne : cs ≠ []) (h : ∀ vs, LP C E c nx tm ((id, .cells e m (mk vs)) :: hp) Q) : LP C E c nx tm hp Q :=
  fun ρ a w H => h _ ρ a w (H.cells ho (hd ρ) (hn _) hne)
end Go.Eng
namespace Go.Eng
variable {C : Cy} {E : En} {ops : Array Oper} {rest : List Oper} {nx : Nat} {tm : Tm} {hp : Hp} {Q : Po}
theorem Tri.keepX {C : Cy} {f : FuncId} {n0 : Nat} {hp0 : Hp} {args : List AV} {α : Type} {H' : α → Hp} {P : α → AV → Prop} (T : Tri C f n0 hp0 args (fun n hp r => ∃ x, Keeps (H' x) (P x) n hp r)) (hh0 : ∀ x, ltH n0 (H' x)) (hr0 : ∀ x r, P x r → r.lt n0) :
    Tri C f n0 hp0 args (fun n hp r => n = n0 ∧ ∃ x, hp = H' x ∧ P x r) := by
  refine ⟨T.1, fun ρ w H hl => (T.2 ρ w H hl).mono ?_⟩
  rintro e w' ⟨ρ', n1, hp1, r, ⟨x, hk, hP⟩, he, hrl, hn, hag, H1, F⟩
  have hh := hh0 x
  have hr := hr0 x
  refine ⟨ρ', n0, H' x, r, ⟨rfl, x, rfl, hP⟩, he, hr r hP, Nat.le_refl _, hag, ⟨?_, ?_, ?_, ?_, H1.glob⟩, ⟨F.frame, ?_, ?_, F.hsize, F.tape, F.os, F.output⟩⟩
  · intro id o ho
    obtain ⟨h1, h2⟩ := ltH_lk hh ho
    exact ⟨h1, h2, (H1.objs id o (kpL_lk hk ho)).2.2⟩
  · intro id o ho hl
    exact H1.bound id o (kpL_lk hk ho) hl
  · intro id o id2 o2 ho ho2 hm hl hne
    exact H1.sep id o id2 o2 (kpL_lk hk ho) (kpL_lk hk ho2) hm hl hne
  · intro id o ho hm
    exact H1.apart id o (kpL_lk hk ho) hm
  · intro id o ho hm
    exact F.own id o (kpL_lk hk ho) hm
  · intro id o ho hm
    exact F.own2 id o (kpL_lk hk ho) hm
theorem WL_binK {d : Nat} {op : BinOp} {t t2 : TypeId} {x y : Operand} {k k' : IntKind} {a b c : Int} {ty : TypeId} {pos : String} {af : Array Edge} {g : Option (Nat × Bool)}
    (hx : ev tm x = some (.int k a)) (hy : ev tm y = some (.int k' b)) (hg : wanted ops tm g = some true) (hd : Nat.blt d E.nt = true)
    (hr : ∀ w, (binOp op t (.int k a) (.int k' b)).run C.P w = .ok (.int k c) w) (hne : op ≠ .eql ∧ op ≠ .neq)
    (h : WL C E ops rest nx ((d, .int k c) :: tm) hp Q) :
    WL C E ops (⟨some d, .binOp op t x y t2, ty, pos, af, g⟩ :: rest) nx tm hp Q := by
  intro ρ a w H
  have hrun : (execOp a.eval ⟨some d, .binOp op t x y t2, ty, pos, af, g⟩).run C.P w = .ok (.value ((AV.int k c).den ρ)) w := by
    simp only [execOp, (H.ev hx).1, (H.ev hy).1, AV.den]
    refine run_val ?_
    have : ∀ u v, (eqGuard op t x y u v).run C.P w = .ok () w := by
      intro u v
      cases op <;> first | rfl | exact absurd rfl hne.1 | exact absurd rfl hne.2
    simp only [Sem.run_bind, this, Result.andThen_ok, hr]
  exact wpList_of_run (wanted_sound H (o := ⟨some d, .binOp op t x y t2, ty, pos, af, g⟩) hg) hrun (h ρ _ w (H.put (av := .int k c) (by simpa [Nat.blt_eq] using hd) trivial))
theorem u64wrap (n : Int) : 0 ≤ IntKind.u64.wrap n ∧ IntKind.u64.wrap n ≤ 18446744073709551615 := by
  simp only [IntKind.wrap, IntKind.signed, IntKind.bits, Bool.false_and, Bool.false_eq_true, if_false]
  omega
theorem WL_shr {d : Nat} {t t2 : TypeId} {x y : Operand} {k k' : IntKind} {a : Int} {n : Nat} {ty : TypeId} {pos : String} {af : Array Edge} {g : Option (Nat × Bool)}
    (hx : ev tm x = some (.int k a)) (hy : ev tm y = some (.int k' n)) (hg : wanted ops tm g = some true) (hd : Nat.blt d E.nt = true) (hn : Nat.ble n k.bits = true)
    (h : WL C E ops rest nx ((d, .int k (a / 2 ^ n)) :: tm) hp Q) :
    WL C E ops (⟨some d, .binOp .shr t x y t2, ty, pos, af, g⟩ :: rest) nx tm hp Q := by
  refine WL_binK hx hy hg hd (fun w => ?_) ⟨by simp, by simp⟩ h
  have hn := Nat.le_of_ble_eq_true hn
  have h1 : ¬ ((n : Int) < 0) := by omega
  simp only [binOp, Op.shift, if_neg h1, Int.toNat_natCast, Nat.min_eq_left hn]
  rw [Int.fdiv_eq_ediv_of_nonneg a (show (0 : Int) ≤ 2 ^ n from Int.le_of_lt (Int.pow_pos (by omega)))]
  rfl
theorem WL_shl1 {d : Nat} {t t2 : TypeId} {x y : Operand} {k' : IntKind} {n : Nat} {ty : TypeId} {pos : String} {af : Array Edge} {g : Option (Nat × Bool)}
    (hx : ev tm x = some (.int .u64 1)) (hy : ev tm y = some (.int k' n)) (hg : wanted ops tm g = some true) (hd : Nat.blt d E.nt = true) (hn : n < 64)
    (h : WL C E ops rest nx ((d, .int .u64 (2 ^ n)) :: tm) hp Q) :
    WL C E ops (⟨some d, .binOp .shl t x y t2, ty, pos, af, g⟩ :: rest) nx tm hp Q := by
  refine WL_binK hx hy hg hd (fun w => ?_) ⟨by simp, by simp⟩ h
  have h1 : ¬ ((n : Int) < 0) := by omega
  have h2 : min n IntKind.u64.bits = n := Nat.min_eq_left (by simp only [IntKind.bits]; omega)
  simp only [binOp, Op.shift, if_neg h1, Int.toNat_natCast, h2]
  have h3 : (2 : Int) ^ n ≤ 2 ^ 63 := by
    have : (2 : Nat) ^ n ≤ 2 ^ 63 := Nat.pow_le_pow_right (by omega) (by omega)
    exact_mod_cast this
  have h4 : (0 : Int) ≤ 2 ^ n := Int.le_of_lt (Int.pow_pos (by omega))
  rw [Int.one_mul, rng_wrap (k := .u64) (n := 2 ^ n) (by simp only [rng]; omega)]
  rfl
theorem WL_and {d : Nat} {t t2 : TypeId} {x y : Operand} {a b : Int} {ty : TypeId} {pos : String} {af : Array Edge} {g : Option (Nat × Bool)}
    (hx : ev tm x = some (.int .u64 a)) (hy : ev tm y = some (.int .u64 b)) (hg : wanted ops tm g = some true) (hd : Nat.blt d E.nt = true)
    (hb : 0 ≤ b ∧ b ≤ 18446744073709551615)
    (h : ∀ v, 0 ≤ v ∧ v ≤ b → WL C E ops rest nx ((d, .int .u64 v) :: tm) hp Q) :
    WL C E ops (⟨some d, .binOp .and t x y t2, ty, pos, af, g⟩ :: rest) nx tm hp Q := by
  have e1 : (BitVec.ofInt 64 b).toNat = b.toNat := by
    rw [BitVec.toNat_ofInt]; omega
  have e2 : ((BitVec.ofInt 64 a &&& BitVec.ofInt 64 b).toNat : Int) ≤ b := by
    rw [BitVec.toNat_and, e1]
    have := Nat.and_le_right (n := (BitVec.ofInt 64 a).toNat) (m := b.toNat)
    omega
  refine WL_binK (c := ((BitVec.ofInt 64 a &&& BitVec.ofInt 64 b).toNat : Int)) hx hy hg hd (fun w => ?_) ⟨by simp, by simp⟩ (h _ ⟨by omega, e2⟩)
  have e3 : IntKind.u64.wrap ((BitVec.ofInt 64 a &&& BitVec.ofInt 64 b).toNat : Int) = _ := rng_wrap (k := .u64) (by simp only [rng]; omega)
  simp only [binOp, ne_eq, not_true_eq_false, if_false, Op.intBits]
  show Result.ok (Value.int .u64 (IntKind.u64.wrap _)) w = _
  rw [← e3]; rfl
theorem Gives.binK {d : Nat} {op : BinOp} {t t2 : TypeId} {x y : Operand} {k k' : IntKind} {a b c : Int} {ty : TypeId} {pos : String} {af : Array Edge} {g : Option (Nat × Bool)}
    (hx : ev tm x = some (.int k a)) (hy : ev tm y = some (.int k' b))
    (hr : ∀ w, (binOp op t (.int k a) (.int k' b)).run C.P w = .ok (.int k c) w) (hne : op ≠ .eql ∧ op ≠ .neq) :
    Gives C ⟨some d, .binOp op t x y t2, ty, pos, af, g⟩ nx tm hp (.int k c) := by
  intro E ρ a w H
  refine ⟨?_, trivial⟩
  simp only [execOp, (H.ev hx).1, (H.ev hy).1, AV.den]
  refine run_val ?_
  have : ∀ u v, (eqGuard op t x y u v).run C.P w = .ok () w := by
    intro u v
    cases op <;> first | rfl | exact absurd rfl hne.1 | exact absurd rfl hne.2
  simp only [Sem.run_bind, this, Result.andThen_ok, hr]
theorem run_xor (t : TypeId) (a b : Int) : ∃ v, (0 ≤ v ∧ v ≤ 18446744073709551615) ∧ ∀ w, (binOp .xor t (.int .u64 a) (.int .u64 b)).run C.P w = .ok (.int .u64 v) w := by
  refine ⟨IntKind.u64.wrap ((BitVec.ofInt IntKind.u64.bits a ^^^ BitVec.ofInt IntKind.u64.bits b).toNat), u64wrap _, fun w => ?_⟩
  simp only [binOp, ne_eq, not_true_eq_false, if_false, Op.intBits]
  rfl
theorem run_shl (t : TypeId) (k' : IntKind) (a b : Int) (hb : 0 ≤ b) : ∃ v, (0 ≤ v ∧ v ≤ 18446744073709551615) ∧ ∀ w, (binOp .shl t (.int .u64 a) (.int k' b)).run C.P w = .ok (.int .u64 v) w := by
  refine ⟨IntKind.u64.wrap (a * 2 ^ (min b.toNat IntKind.u64.bits)), u64wrap _, fun w => ?_⟩
  have h1 : ¬ (b < 0) := by omega
  simp only [binOp, Op.shift, if_neg h1]
  rfl
theorem run_shr (t : TypeId) (k' : IntKind) (a b : Int) (ha : 0 ≤ a ∧ a ≤ 18446744073709551615) (hb : 0 ≤ b) : ∃ v, (0 ≤ v ∧ v ≤ 18446744073709551615) ∧ ∀ w, (binOp .shr t (.int .u64 a) (.int k' b)).run C.P w = .ok (.int .u64 v) w := by
  refine ⟨a.fdiv (2 ^ (min b.toNat IntKind.u64.bits)), ?_, fun w => ?_⟩
  · have h2 : (0 : Int) < 2 ^ (min b.toNat IntKind.u64.bits) := Int.pow_pos (by omega)
    rw [Int.fdiv_eq_ediv_of_nonneg a (Int.le_of_lt h2)]
    exact ⟨Int.ediv_nonneg ha.1 (Int.le_of_lt h2), Int.le_trans (Int.ediv_le_self _ ha.1) ha.2⟩
  have h1 : ¬ (b < 0) := by omega
  simp only [binOp, Op.shift, if_neg h1]
  rfl
theorem WS_any {F : FL} {ids : List Nat} {hp0 : Hp} {tail : List Oper} {br : Bool} {K : Nat → Tm → Hp → Prop} {pos' : Nat} {rest : List (Nat × Oper)} {d : Nat} {op : BinOp} {t t2 : TypeId} {x y : Operand} {k' : IntKind} {a b : Int} {ty : TypeId} {pos : String} {af : Array Edge} {g : Option (Nat × Bool)}
    (hv : ∃ v, (0 ≤ v ∧ v ≤ 18446744073709551615) ∧ ∀ w, (binOp op t (.int .u64 a) (.int k' b)).run C.P w = .ok (.int .u64 v) w)
    (hq : F.fl ⟨some d, .binOp op t x y t2, ty, pos, af, g⟩ = true) (hb : (F.rq ⟨some d, .binOp op t x y t2, ty, pos, af, g⟩ && br) = false)
    (hx : ev tm x = some (.int .u64 a)) (hy : ev tm y = some (.int k' b)) (hne : op ≠ .eql ∧ op ≠ .neq) (hg : wanted ops tm g = some true) (hd : Nat.blt d E.nt = true)
    (h : ∀ v, 0 ≤ v ∧ v ≤ 18446744073709551615 → WS C E ops F ids hp0 tail br rest nx ((d, .int .u64 v) :: tm) hp K) :
    WS C E ops F ids hp0 tail br ((pos', ⟨some d, .binOp op t x y t2, ty, pos, af, g⟩) :: rest) nx tm hp K := by
  obtain ⟨v, h1, h2⟩ := hv
  exact WS_gives (o := ⟨some d, .binOp op t x y t2, ty, pos, af, g⟩) hq hb (Gives.binK hx hy h2 hne) hg (dlt hd) (h v h1)
end Go.Eng
namespace Go.Eng
open Go.Proofs
attribute [local irreducible] W WL LP Then InBl Tri WS
theorem ms_of2 (t f : Nat) (m : String) (i : TypeInfo) (sig d : TypeId) (hi : Tryz.prog.info? t = some i) (hm : i.methods.find? (·.name == m) = some ⟨m, sig, #[], some (f, false)⟩) (hu : Tryz.prog.underlying t = some (.slice d))
    (hf : ∀ args w, (callFunc f args).run Tryz.prog w = .ok (.enter f args) w) : ∀ v args w, (callMethod (.iface t v) m args).run Tryz.prog w = .ok (.enter f (#[v] ++ args)) w := by
  intro v args w
  have hmeth : ∀ n, (method (n + 1) t v m).run Tryz.prog w = .ok (f, v) w := by
    intro n
    have h1 : (typeInfo t).run Tryz.prog w = .ok i w := by simp only [typeInfo, Sem.run_bind, run_program, Result.andThen_ok, hi, Sem.run_pure]
    simp only [method, Sem.run_bind, h1, Result.andThen_ok, hm, follow, Sem.run_pure, receiverAt, Go.run_underlying hu, Place.get]
  have hn : Tryz.prog.types.size + Made.depth = (Tryz.prog.types.size + Made.depth - 1) + 1 := by
    have : 0 < Made.depth := by decide
    omega
  simp only [callMethod, Sem.run_bind, run_program, Result.andThen_ok]
  rw [hn, hmeth]
  simp only [Result.andThen_ok, hf]
theorem msLen : ∀ v args w, (callMethod (.iface 169 v) "Len" args).run C0.P w = .ok (.enter 358 (#[v] ++ args)) w := ms_of2 169 358 "Len" Tryz.t169 239 88 (by kernel_rfl) (by kernel_rfl) (by kernel_rfl) cf358
theorem msLess : ∀ v args w, (callMethod (.iface 169 v) "Less" args).run C0.P w = .ok (.enter 359 (#[v] ++ args)) w := ms_of2 169 359 "Less" Tryz.t169 303 88 (by kernel_rfl) (by kernel_rfl) (by kernel_rfl) cf359
theorem msSwap : ∀ v args w, (callMethod (.iface 169 v) "Swap" args).run C0.P w = .ok (.enter 360 (#[v] ++ args)) w := ms_of2 169 360 "Swap" Tryz.t169 345 88 (by kernel_rfl) (by kernel_rfl) (by kernel_rfl) cf360
abbrev SB (tt : Nat) (ns : List Int) : Hp := [(0, .recs 88 (some tt) K2 (tms ns))]
abbrev SV (nl : Bool) (n cap : Nat) : AV := .sl nl 0 2 0 n cap
abbrev SI (nl : Bool) (n cap : Nat) : AV := .ifc 169 (.sl nl 0 2 0 n cap)
theorem tms_get {ns : List Int} {i : Nat} (h : i < ns.length) : (tms ns).getD i [] = [ns.getD i 0, 0] := by
  simp [List.getD, h]
theorem tms_set {ns : List Int} {k : Nat} {a : Int} : (tms ns).set k [a, 0] = tms (ns.set k a) := (List.map_set).symm
theorem len_tri (nl : Bool) (tt : Nat) (ns : List Int) (n cap : Nat) (hl : ns.length = n) (hn : n ≤ cap ∧ n ≤ 1100000000) : Tri C0 358 1 (SB tt ns) [SV nl n cap] (fun k hp r => k = 1 ∧ hp = SB tt ns ∧ r = .int .i64 n) := by
  refine Tri.keep (Tri.mk 5 [.tmp 2] Tryz.func358 rfl rfl rfl rfl cf358 ?_) t_ (fun r h => q_); intro w0 S T ρ0
  refine w_ ?_
  refine k_ ?_
  rfl
theorem less_tri (nl : Bool) (tt : Nat) (ns : List Int) (n cap : Nat) (i j : Int) (hl : ns.length = n) (hn : n ≤ cap) (hi : 0 ≤ i ∧ i < n) (hj : 0 ≤ j ∧ j < n) : Tri C0 359 1 (SB tt ns) [SV nl n cap, .int .i64 i, .int .i64 j] (fun k hp r => k = 1 ∧ hp = SB tt ns ∧ ∃ b, r = .bool b) := by
  refine Tri.keep ?_ (s_) (by rintro r ⟨b, rfl⟩; trivial)
  have hml : (tms ns).length = n := by simp [hl]
  refine Tri.mk 16 [.tmp 6] Tryz.func359 rfl rfl rfl rfl cf359 ?_; intro w0 S T ρ0
  refine w_ ?_
  refine W_draw [0] [] 10 mo0 (by kernel_rfl) (by kernel_rfl) (fun ρ1 hkl => ?_); refine d_ ?_
  rw [tms_get (by omega), tms_get (by omega)]
  refine d_ ?_
  refine WS_loud rfl ?_ hkl; refine WL_call [] (before_tri (ns.getD (0 + i.toNat) 0) (ns.getD (0 + j.toNat) 0)) rfl rfl rfl t_ t_ rfl rfl rfl rfl ?_; rintro _ _ _ ⟨rfl, rfl, rfl⟩; refine WL_nil ?_; refine nq_walk ⟨fun _ => t_, ?_⟩; refine d_ ?_
  refine w_ ?_
  refine k_ ?_
  exact ⟨_, rfl⟩
def SP (tt n : Nat) (p : AV → Prop) : Rs := fun k hp r => k = 1 ∧ ∃ ns' : List Int, hp = SB tt ns' ∧ (ns'.length = n ∧ p r)
def SPk (tt n : Nat) (p : AV → Prop) : Rs := fun k hp r => ∃ ns' : List Int, Keeps (SB tt ns') (fun r => ns'.length = n ∧ p r) k hp r
theorem SP.keep {f : FuncId} {hp0 : Hp} {args : List AV} {tt n : Nat} {p : AV → Prop} (T : Tri C0 f 1 hp0 args (SPk tt n p)) (hp : ∀ r, p r → r.lt 1) : Tri C0 f 1 hp0 args (SP tt n p) :=
  Tri.keepX T (fun _ => s_) (fun _ r h => hp r h.2)
theorem SPk.mk {tt n k : Nat} {hp : Hp} {p : AV → Prop} {r : AV} (ns' : List Int) (h1 : kpL hp (SB tt ns')) (h2 : ns'.length = n) (h3 : p r) : SPk tt n p k hp r := ⟨ns', h1, h2, h3⟩
def isT (r : AV) : Prop := r = .tup []
theorem isT_lt {r : AV} (h : isT r) : r.lt 1 := by cases h; trivial
theorem swap_tri (nl : Bool) (tt : Nat) (ns : List Int) (n cap : Nat) (i j : Int) (hl : ns.length = n) (hn : n ≤ cap) (hi : 0 ≤ i ∧ i < n) (hj : 0 ≤ j ∧ j < n) : Tri C0 360 1 (SB tt ns) [SV nl n cap, .int .i64 i, .int .i64 j] (SP tt n isT) := by
  refine SP.keep ?_ (fun _ => isT_lt)
  have hml : (tms ns).length = n := by simp [hl]
  refine Tri.mk 20 [] Tryz.func360 rfl rfl rfl rfl cf360 ?_; intro w0 S T ρ0
  refine w_ ?_
  refine W_draw [0] [] 16 mo0 (by kernel_rfl) (by kernel_rfl) (fun ρ1 hkl => ?_); refine d_ ?_
  rw [tms_get (by omega), tms_get (by omega)]
  refine d_ ?_
  refine WS_loud rfl ?_ hkl
  refine WL_store rfl rfl (by show 0 + i.toNat < (tms ns).length; omega) ?_
  dsimp only
  rw [tms_get (show 0 + i.toNat < ns.length by omega)]
  dsimp only [List.tail, List.headD]
  rw [tms_set]
  refine WL_nil ?_
  refine nq_walk ⟨fun h => (by cases h), ?_⟩
  refine d_ ?_
  refine WS_loud rfl ?_ hkl
  have hs1 : (ns.set (0 + i.toNat) (ns.getD (0 + j.toNat) 0)).length = n := by rw [List.length_set]; exact hl
  generalize ns.set (0 + i.toNat) (ns.getD (0 + j.toNat) 0) = ns1 at *
  have hm1 : (tms ns1).length = n := by simp [hs1]
  refine WL_store rfl rfl (by show 0 + j.toNat < (tms ns1).length; omega) ?_
  dsimp only
  rw [tms_get (show 0 + j.toNat < ns1.length by omega)]
  dsimp only [List.tail, List.headD]
  rw [tms_set]
  refine WL_nil ?_
  refine nq_walk ⟨fun h => (by cases h), ?_⟩
  refine d_ ?_
  refine ⟨_, _, rfl, s_, SPk.mk (ns1.set (0 + j.toNat) (ns.getD (0 + i.toNat) 0)) (s_) (by rw [List.length_set]; exact hs1) rfl⟩
end Go.Eng
namespace Go.Eng
open Go.Proofs
attribute [local irreducible] W WL LP Then InBl Tri WS
theorem insertion_tri (nl : Bool) (tt : Nat) (ns : List Int) (n cap : Nat) (hl : ns.length = n) (hn : n ≤ cap ∧ n ≤ 1100000000) (a b : Int) (ha : 0 ≤ a ∧ a ≤ b ∧ b ≤ n) : Tri C0 229 1 (SB tt ns) [SI nl n cap, .int .i64 a, .int .i64 b] (SP tt n isT) := by
  refine SP.keep ?_ (fun _ => isT_lt)
  refine Tri.mk 33 [] Tryz.func229 rfl rfl rfl rfl cf229 ?_; intro w0 S T ρ0
  refine w_ ?_
  refine W_loop ?_; refine LP_ren [0] (LP_ind 1 (fun q : Int × List Int => ([(0, SI nl n cap), (1, .int .i64 a), (2, .int .i64 b), (6, .int .i64 q.1)], SB tt q.2)) (fun q => (b - q.1).toNat) (fun q => a + 1 ≤ q.1 ∧ q.1 ≤ b + 1 ∧ q.2.length = n) (a + 1, ns) ?_ (⟨Int.le_refl _, by show a + 1 ≤ b + 1; omega, hl⟩)) s_ s_ rfl rfl rfl
  clear hl
  rintro ⟨i, ns⟩ ⟨g1, g2, hl⟩ ih
  simp only at g1 g2 hl
  refine LP_round ?_; try dsimp only
  refine w_ ?_
  refine i_ ?_ ?_ <;> intro h1
  rotate_left 1
  · refine w_ ?_
    refine x_ ?_
    refine w_ ?_
    refine ⟨_, _, rfl, s_, SPk.mk ns (s_) hl rfl⟩
  refine w_ ?_
  refine W_loop ?_; refine LP_ren [0] (LP_ind 1 (fun q : Int × List Int => ([(0, SI nl n cap), (1, .int .i64 a), (2, .int .i64 b), (6, .int .i64 i), (7, .int .i64 q.1)], SB tt q.2)) (fun q => (q.1 - a).toNat) (fun q => a ≤ q.1 ∧ q.1 ≤ i ∧ q.2.length = n) (i, ns) ?_ (⟨by show a ≤ i; omega, Int.le_refl _, hl⟩)) s_ s_ rfl rfl rfl
  clear hl
  rintro ⟨j, ns⟩ ⟨f1, f2, hl⟩ ih2
  simp only at f1 f2 hl
  refine LP_round ?_; try dsimp only
  refine w_ ?_
  refine j_ 19 ?_ ?_ <;> intro h2
  · refine w_ ?_
    refine WL_callG [0] (less_tri nl tt ns n cap (j) (j - 1) hl hn.1 (by omega) (by omega)) (callsTo_invoke msLess rfl rfl) rfl rfl t_ t_ rfl rfl rfl rfl ?_; rintro _ _ _ ⟨rfl, rfl, lb, rfl⟩
    refine w_ ?_
    refine i_ ?_ ?_ <;> intro h3
    · refine w_ ?_
      refine WL_callG [0] (swap_tri nl tt ns n cap (j) (j - 1) hl hn.1 (by omega) (by omega)) (callsTo_invoke msSwap rfl rfl) rfl rfl t_ t_ rfl rfl rfl rfl ?_; rintro _ _ _ ⟨rfl, ns1, rfl, hl1, rfl⟩
      refine w_ ?_
      refine LP_ren [0] (ih2 (j - 1, ns1) ⟨by show a ≤ j - 1; omega, by show j - 1 ≤ i; omega, hl1⟩ (by simp only; omega)) ?_ ?_ rfl rfl rfl; (focus (exact s_; done)); (focus (exact s_; done))
    · refine w_ ?_
      refine x_ ?_
      refine w_ ?_
      refine LP_ren [0] (ih (i + 1, ns) ⟨by show a + 1 ≤ i + 1; omega, by show i + 1 ≤ b + 1; omega, hl⟩ (by simp only; omega)) ?_ ?_ rfl rfl rfl; (focus (exact s_; done)); (focus (exact s_; done))
  · refine w_ ?_
    refine W_cond_false rfl ?_
    refine w_ ?_
    refine x_ ?_
    refine w_ ?_
    refine LP_ren [0] (ih (i + 1, ns) ⟨by show a + 1 ≤ i + 1; omega, by show i + 1 ≤ b + 1; omega, hl⟩ (by simp only; omega)) ?_ ?_ rfl rfl rfl; (focus (exact s_; done)); (focus (exact s_; done))
theorem sift_tri (nl : Bool) (tt : Nat) (ns : List Int) (n cap : Nat) (hl : ns.length = n) (hn : n ≤ cap ∧ n ≤ 1100000000) (lo hi first : Int) (h0 : 0 ≤ lo ∧ lo ≤ 1100000000) (h00 : 0 ≤ hi ∧ 0 ≤ first ∧ first + hi ≤ n) : Tri C0 277 1 (SB tt ns) [SI nl n cap, .int .i64 lo, .int .i64 hi, .int .i64 first] (SP tt n isT) := by
  refine SP.keep ?_ (fun _ => isT_lt)
  refine Tri.mk 52 [] Tryz.func277 rfl rfl rfl rfl cf277 ?_; intro w0 S T ρ0
  refine w_ ?_
  refine W_loop ?_; refine LP_ren [0] (LP_ind 1 (fun q : Int × List Int => ([(0, SI nl n cap), (1, .int .i64 lo), (2, .int .i64 hi), (3, .int .i64 first), (8, .int .i64 q.1)], SB tt q.2)) (fun q => (hi - q.1).toNat) (fun q => 0 ≤ q.1 ∧ q.1 ≤ 1100000000 ∧ q.2.length = n) (lo, ns) ?_ (⟨h0.1, h0.2, hl⟩)) s_ s_ rfl rfl rfl
  clear hl
  rintro ⟨root, ns⟩ ⟨g1, g2, hl⟩ ih
  simp only at g1 g2 hl
  refine LP_round ?_; try dsimp only
  refine w_ ?_
  refine i_ ?_ ?_ <;> intro h1
  · refine w_ ?_
    refine x_ ?_
    refine w_ ?_
    refine ⟨_, _, rfl, s_, SPk.mk ns (s_) hl rfl⟩
  refine w_ ?_
  refine j_ 21 ?_ ?_ <;> intro h2
  · refine w_ ?_
    refine WL_callG [0] (less_tri nl tt ns n cap (first + (2 * root + 1)) (first + (2 * root + 1) + 1) hl hn.1 (by omega) (by omega)) (callsTo_invoke msLess rfl rfl) rfl rfl t_ t_ rfl rfl rfl rfl ?_; rintro _ _ _ ⟨rfl, rfl, lb, rfl⟩
    refine w_ ?_
    refine i_ ?_ ?_ <;> intro h3
    · refine w_ ?_
      refine WL_callG [0] (less_tri nl tt ns n cap (first + root) (first + (2 * root + 1 + 1)) hl hn.1 (by omega) (by omega)) (callsTo_invoke msLess rfl rfl) rfl rfl t_ t_ rfl rfl rfl rfl ?_; rintro _ _ _ ⟨rfl, rfl, lb2, rfl⟩
      refine w_ ?_
      refine i_ ?_ ?_ <;> intro h5
      · refine w_ ?_
        refine W_ret ?_; (repeat (first | refine then_ret ?_ | refine inbl_ret ?_)); refine ⟨_, _, rfl, s_, SPk.mk ns (s_) hl rfl⟩
      · refine w_ ?_
        refine WL_callG [0] (swap_tri nl tt ns n cap (first + root) (first + (2 * root + 1 + 1)) hl hn.1 (by omega) (by omega)) (callsTo_invoke msSwap rfl rfl) rfl rfl t_ t_ rfl rfl rfl rfl ?_; rintro _ _ _ ⟨rfl, ns1, rfl, hl1, rfl⟩
        refine w_ ?_
        refine LP_ren [0] (ih (2 * root + 1 + 1, ns1) ⟨by show 0 ≤ 2 * root + 1 + 1; omega, by show 2 * root + 1 + 1 ≤ 1100000000; omega, hl1⟩ (by simp only; omega)) ?_ ?_ rfl rfl rfl; (focus (exact s_; done)); (focus (exact s_; done))
    · refine w_ ?_
      refine WL_callG [0] (less_tri nl tt ns n cap (first + root) (first + (2 * root + 1)) hl hn.1 (by omega) (by omega)) (callsTo_invoke msLess rfl rfl) rfl rfl t_ t_ rfl rfl rfl rfl ?_; rintro _ _ _ ⟨rfl, rfl, lb2, rfl⟩
      refine w_ ?_
      refine i_ ?_ ?_ <;> intro h5
      · refine w_ ?_
        refine W_ret ?_; (repeat (first | refine then_ret ?_ | refine inbl_ret ?_)); refine ⟨_, _, rfl, s_, SPk.mk ns (s_) hl rfl⟩
      · refine w_ ?_
        refine WL_callG [0] (swap_tri nl tt ns n cap (first + root) (first + (2 * root + 1)) hl hn.1 (by omega) (by omega)) (callsTo_invoke msSwap rfl rfl) rfl rfl t_ t_ rfl rfl rfl rfl ?_; rintro _ _ _ ⟨rfl, ns1, rfl, hl1, rfl⟩
        refine w_ ?_
        refine LP_ren [0] (ih (2 * root + 1, ns1) ⟨by show 0 ≤ 2 * root + 1; omega, by show 2 * root + 1 ≤ 1100000000; omega, hl1⟩ (by simp only; omega)) ?_ ?_ rfl rfl rfl; (focus (exact s_; done)); (focus (exact s_; done))
  · refine w_ ?_
    refine W_cond_false rfl ?_
    refine w_ ?_
    refine WL_callG [0] (less_tri nl tt ns n cap (first + root) (first + (2 * root + 1)) hl hn.1 (by omega) (by omega)) (callsTo_invoke msLess rfl rfl) rfl rfl t_ t_ rfl rfl rfl rfl ?_; rintro _ _ _ ⟨rfl, rfl, lb2, rfl⟩
    refine w_ ?_
    refine i_ ?_ ?_ <;> intro h5
    · refine w_ ?_
      refine W_ret ?_; (repeat (first | refine then_ret ?_ | refine inbl_ret ?_)); refine ⟨_, _, rfl, s_, SPk.mk ns (s_) hl rfl⟩
    · refine w_ ?_
      refine WL_callG [0] (swap_tri nl tt ns n cap (first + root) (first + (2 * root + 1)) hl hn.1 (by omega) (by omega)) (callsTo_invoke msSwap rfl rfl) rfl rfl t_ t_ rfl rfl rfl rfl ?_; rintro _ _ _ ⟨rfl, ns1, rfl, hl1, rfl⟩
      refine w_ ?_
      refine LP_ren [0] (ih (2 * root + 1, ns1) ⟨by show 0 ≤ 2 * root + 1; omega, by show 2 * root + 1 ≤ 1100000000; omega, hl1⟩ (by simp only; omega)) ?_ ?_ rfl rfl rfl; (focus (exact s_; done)); (focus (exact s_; done))
theorem heap_tri (nl : Bool) (tt : Nat) (ns : List Int) (n cap : Nat) (hl : ns.length = n) (hn : n ≤ cap ∧ n ≤ 1100000000) (a b : Int) (ha : 0 ≤ a ∧ a ≤ b ∧ b ≤ n) : Tri C0 230 1 (SB tt ns) [SI nl n cap, .int .i64 a, .int .i64 b] (SP tt n isT) := by
  refine SP.keep ?_ (fun _ => isT_lt)
  have hq : (b - a - 1).tdiv 2 ≤ 1100000000 ∧ -1 ≤ (b - a - 1).tdiv 2 := by
    rcases (show b - a - 1 = -1 ∨ 0 ≤ b - a - 1 by omega) with h | h
    · rw [h]; decide
    · rw [Int.tdiv_eq_ediv_of_nonneg h]; omega
  refine Tri.mk 44 [] Tryz.func230 rfl rfl rfl rfl cf230 ?_; intro w0 S T ρ0
  refine w_ ?_
  generalize (b - a - 1).tdiv 2 = i0 at *
  refine W_loop ?_; refine LP_ren [0] (LP_ind 1 (fun q : Int × List Int => ([(0, SI nl n cap), (6, .int .i64 a), (7, .int .i64 0), (8, .int .i64 (b - a)), (9, .int .i64 q.1)], SB tt q.2)) (fun q => (q.1 + 1).toNat) (fun q => -1 ≤ q.1 ∧ q.1 ≤ 1100000000 ∧ q.2.length = n) (i0, ns) ?_ (⟨hq.2, hq.1, hl⟩)) s_ s_ rfl rfl rfl
  clear hl
  rintro ⟨i, ns⟩ ⟨g1, g2, hl⟩ ih
  simp only at g1 g2 hl
  refine LP_round ?_; try dsimp only
  refine w_ ?_
  refine i_ ?_ ?_ <;> intro h1
  · refine w_ ?_
    refine WL_call [0] (sift_tri nl tt ns n cap hl hn i (b - a) a (by omega) (by omega)) rfl rfl rfl t_ t_ rfl rfl rfl rfl ?_; rintro _ _ _ ⟨rfl, ns1, rfl, hl1, rfl⟩
    refine w_ ?_
    refine LP_ren [0] (ih (i - 1, ns1) ⟨by show -1 ≤ i - 1; omega, by show i - 1 ≤ 1100000000; omega, hl1⟩ (by simp only; omega)) ?_ ?_ rfl rfl rfl; (focus (exact s_; done)); (focus (exact s_; done))
  refine w_ ?_
  refine x_ ?_
  refine w_ ?_
  clear ih
  refine W_loop ?_; refine LP_ren [0] (LP_ind 1 (fun q : Int × List Int => ([(0, SI nl n cap), (6, .int .i64 a), (7, .int .i64 0), (8, .int .i64 (b - a)), (10, .int .i64 q.1)], SB tt q.2)) (fun q => (q.1 + 1).toNat) (fun q => -1 ≤ q.1 ∧ q.1 ≤ b - a - 1 ∧ q.2.length = n) (b - a - 1, ns) ?_ (⟨by show -1 ≤ b - a - 1; omega, Int.le_refl _, hl⟩)) s_ s_ rfl rfl rfl
  clear hl g1 g2 h1
  rintro ⟨i, ns⟩ ⟨g1, g2, hl⟩ ih
  simp only at g1 g2 hl
  refine LP_round ?_; try dsimp only
  refine w_ ?_
  refine i_ ?_ ?_ <;> intro h1
  · refine w_ ?_
    refine WL_callG [0] (swap_tri nl tt ns n cap (a) (a + i) hl hn.1 (by omega) (by omega)) (callsTo_invoke msSwap rfl rfl) rfl rfl t_ t_ rfl rfl rfl rfl ?_; rintro _ _ _ ⟨rfl, ns1, rfl, hl1, rfl⟩
    refine w_ ?_
    refine WL_call [0] (sift_tri nl tt ns1 n cap hl1 hn 0 i a (by omega) (by omega)) rfl rfl rfl t_ t_ rfl rfl rfl rfl ?_; rintro _ _ _ ⟨rfl, ns2, rfl, hl2, rfl⟩
    refine w_ ?_
    refine LP_ren [0] (ih (i - 1, ns2) ⟨by show -1 ≤ i - 1; omega, by show i - 1 ≤ b - a - 1; omega, hl2⟩ (by simp only; omega)) ?_ ?_ rfl rfl rfl; (focus (exact s_; done)); (focus (exact s_; done))
  refine w_ ?_
  refine x_ ?_
  refine w_ ?_
  refine ⟨_, _, rfl, s_, SPk.mk ns (s_) hl rfl⟩
end Go.Eng
