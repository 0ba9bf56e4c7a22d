/- A part of the proof that the rows statement FnSetBack holds; no conditions. -/
import Derived.Test.YthkgjhnckakliaaGreatDoorZBJ
import Derived.KernelRfl
set_option linter.unusedVariables false
set_option linter.unusedSimpArgs false
set_option linter.unusedSectionVars false
namespace Go.Eng
open Go.Proofs
theorem ZOK_told {s : SZ} (h : ZOK s) (st2 : Int) : ZOK (toldZ s st2) := by
 obtain ⟨a, b, c, d, e⟩ := h
 refine ⟨fun hh => ?_, b, c, d, e⟩
 show ({ s.z with st := if s.has = true then st2 else 0 } : RZ) = RZ.zero
 rw [a hh, if_neg (by rw [show s.has = false from hh]; decide)]
 rfl
attribute [local irreducible] W WL LP Then InBl Tri WS
def plR (O : SZ × Nat) : Rs := fun k hp r =>
 (O.2 = 0 ∧ ∃ st2 y, SOK (toldZ O.1 st2) y ∧ k = 14 ∧ hp = (13, .cells 40 (some 22) (cellsT (toldZ O.1 st2) y 1)) :: setHp 110 (toldZ O.1 st2) 1 ∧ r = .tup [.agg (cellsT (toldZ O.1 st2) y 1), .bool true]) ∨
 (O.2 = 1 ∧ k = 2 ∧ hp = [(1, .cells 40 (some 22) zcT)] ∧ r = .tup [.agg zcT, .bool false])
theorem parseLinesP_tri (ek : TypeId) (nl : Bool) (cap : Nat) (ls : List (List UInt8)) (hc : ls.length ≤ cap) (hL : LIM ls) (hop : (linesZ true SZ.zero ls).2 ≠ 2) (hz : (linesZ true SZ.zero ls).2 = 0 → ZOK (linesZ true SZ.zero ls).1) :
 Tri C0 15 1 [(0, .strs ek none ls)] [.sl nl 0 1 0 ls.length cap] (plR (linesZ true SZ.zero ls)) := by
 have TT := setLines_tri ek nl cap ls hc hL hop
 generalize linesZ true SZ.zero ls = O at *
 refine Tri.mk 16 [.cell 2 40, .tmp 3] Tryz.func15 rfl rfl rfl rfl cf15 ?_; intro w0 S T ρ0
 refine w_ ?_
 refine WL_call [0] TT rfl rfl rfl (s_) (s_) rfl rfl rfl rfl ?_
 rintro _ _ _ (⟨p0, q, hq, rfl, rfl, rfl⟩ | ⟨p1, rfl, rfl, t, p, rfl⟩)
 rotate_left 1
 · refine w_ ?_
   refine W_cond_true rfl ?_
   refine w_ ?_
   refine W_renG [0, 1] (n := 2) (tm' := [(2, .ptr 1 0), (3, .bool false)]) (hp' := [(1, .cells 40 (some 22) zcT)]) ?_ s_ s_ rfl rfl rfl
   refine r_ ?_ ?_
   · exact s_
   · exact .inr ⟨p1, rfl, rfl, rfl⟩
 · have hz := hz p0
   have hgr := GOKR_le hq.gr
   have hge := GOKR_le hq.ge
   obtain ⟨⟨st, has, z, rd, ex⟩, c⟩ := O
   obtain ⟨y, vs, st2, yr, ye, mr, me⟩ := q
   cases has with
   | false =>
     refine w_ ?_
     refine W_cond_false rfl ?_
     refine w_ ?_
     refine WL_imp (Imp_conv 14 (.recs 88 none K2 (tms rd)) rfl rfl rfl rfl (.inl rfl) ⟨[], by simp [AO.avs, AO.ren]⟩) ?_
     refine WL_imp (Imp_conv 15 (.recs 88 none K2 (tms ex)) rfl rfl rfl rfl (.inl rfl) ⟨[], by simp [AO.avs, AO.ren]⟩) ?_
     refine WL_call [2, 3, 4, 5, 6, 7, 8, 9, 10, 11, 12, 13, 14, 15] (toldSet_tri ⟨st, false, z, rd, ex⟩ ⟨y, vs, st2, yr, ye, none, none⟩ hq.lok hgr hge hz) rfl rfl rfl (s_) (s_) rfl rfl rfl rfl ?_
     rintro _ _ _ ⟨y2, rfl, rfl, rfl, hy2⟩
     refine w_ ?_
     refine W_renG [0, 16, 17, 18, 19, 20, 21, 22, 23, 24, 25, 26, 27, 1] (n := 14) (tm' := [(2, .ptr 13 0), (3, .bool true)]) (hp' := (13, .cells 40 (some 22) (cellsT (toldZ ⟨st, false, z, rd, ex⟩ st2) y2 1)) :: setHp 110 (toldZ ⟨st, false, z, rd, ex⟩ st2) 1) ?_ s_ s_ rfl rfl rfl
     refine r_ ?_ ?_
     · exact s_
     · exact .inl ⟨p0, st2, y2, hy2, rfl, rfl, rfl⟩
   | true =>
     refine w_ ?_
     refine W_cond_false rfl ?_
     refine w_ ?_
     refine WL_imp (Imp_conv 14 (.recs 88 none K2 (tms rd)) rfl rfl rfl rfl (.inl rfl) ⟨[], by simp [AO.avs, AO.ren]⟩) ?_
     refine WL_imp (Imp_conv 15 (.recs 88 none K2 (tms ex)) rfl rfl rfl rfl (.inl rfl) ⟨[], by simp [AO.avs, AO.ren]⟩) ?_
     refine WL_call [2, 3, 4, 5, 6, 7, 8, 9, 10, 11, 12, 13, 14, 15] (toldSet_tri ⟨st, true, z, rd, ex⟩ ⟨y, vs, st2, yr, ye, none, none⟩ hq.lok hgr hge hz) rfl rfl rfl (s_) (s_) rfl rfl rfl rfl ?_
     rintro _ _ _ ⟨y2, rfl, rfl, rfl, hy2⟩
     refine w_ ?_
     refine W_renG [0, 16, 17, 18, 19, 20, 21, 22, 23, 24, 25, 26, 27, 1] (n := 14) (tm' := [(2, .ptr 13 0), (3, .bool true)]) (hp' := (13, .cells 40 (some 22) (cellsT (toldZ ⟨st, true, z, rd, ex⟩ st2) y2 1)) :: setHp 110 (toldZ ⟨st, true, z, rd, ex⟩ st2) 1) ?_ s_ s_ rfl rfl rfl
     refine r_ ?_ ?_
     · exact s_
     · exact .inl ⟨p0, st2, y2, hy2, rfl, rfl, rfl⟩
def setPR0 (O : SZ × Nat) : Rs := fun k hp r => O.2 = 0 ∧ ∃ q, POK O.1 q ∧ k = 14 ∧ hp = setHpR O.1 q 0 ∧ r = .tup [.ptr 11 0, .v .nilIface]
theorem strToSet_tri (t : List UInt8) (ls : List (List UInt8)) (ha : asc t) (hl : t.length ≤ 1073741824) (h1 : Lib.trimSpace t = t) (h2 : t ≠ []) (h3 : splitB 10 t = ls) (hL : LIM ls) (h0 : (linesZ true SZ.zero ls).2 = 0) :
 Tri C0 45 0 [] [.str t] (setPR0 (linesZ true SZ.zero ls)) := by
 have TT := fun cap (hc : ls.length ≤ cap) => setLines_tri 9 false cap ls hc hL (by rw [h0]; decide)
 generalize linesZ true SZ.zero ls = O at *
 refine Tri.mk 16 [.tmp 2, .tmp 3] Tryz.func45 rfl rfl rfl rfl cf45 ?_; intro w0 S T ρ0
 refine w_ ?_
 refine WL_call [] (trimSpace_tri t (by omega) ha) rfl rfl rfl t_ t_ rfl rfl rfl rfl ?_; rintro _ _ _ ⟨rfl, rfl, rfl⟩
 rw [h1]
 refine w_ ?_
 refine W_cond rfl (fun hb => absurd (by simpa using hb) h2) (fun hb => ?_)
 refine w_ ?_
 refine WL_call [] (split_str_tri 10 t hl) rfl rfl rfl s_ s_ rfl rfl rfl rfl ?_
 rw [h3]
 rintro _ _ _ ⟨cap, tt, hc, ht, rfl, rfl, rfl⟩
 refine w_ ?_
 refine WL_imp (Imp_conv 0 (.strs 9 none ls) rfl rfl rfl rfl (.inl rfl) ⟨[], by simp [AO.avs, AO.ren]⟩) ?_
 refine WL_call [0] (TT cap hc) rfl rfl rfl s_ s_ rfl rfl rfl rfl ?_
 rintro _ _ _ (⟨p0, q, hq, rfl, rfl, rfl⟩ | ⟨p1, _⟩)
 rotate_left 1
 · rw [h0] at p1; cases p1
 obtain ⟨⟨st, has, z, rd, ex⟩, c⟩ := O
 obtain ⟨y, vs, st2, yr, ye, mr, me⟩ := q
 cases has with
 | false =>
   refine w_ ?_
   refine W_renG [1, 2, 3, 4, 5, 6, 7, 8, 9, 10, 11, 12, 13, 14] (n := 14) (tm' := [(2, .ptr 11 0), (3, .v .nilIface)]) (hp' := setHpR ⟨st, false, z, rd, ex⟩ ⟨y, vs, st2, yr, ye, mr, me⟩ 0) ?_ s_ s_ rfl rfl rfl
   refine r_ ?_ ?_
   · exact s_
   · exact ⟨p0, _, hq, rfl, rfl, rfl⟩
 | true =>
   refine w_ ?_
   refine W_renG [1, 2, 3, 4, 5, 6, 7, 8, 9, 10, 11, 12, 13, 14] (n := 14) (tm' := [(2, .ptr 11 0), (3, .v .nilIface)]) (hp' := setHpR ⟨st, true, z, rd, ex⟩ ⟨y, vs, st2, yr, ye, mr, me⟩ 0) ?_ s_ s_ rfl rfl rfl
   refine r_ ?_ ?_
   · exact s_
   · exact ⟨p0, _, hq, rfl, rfl, rfl⟩
def psR (O : SZ × Nat) : Rs := fun k hp r => ∃ st2 y, SOK (toldZ O.1 st2) y ∧ k = 13 ∧ hp = (12, .cells 40 (some 22) (cellsT (toldZ O.1 st2) y 0)) :: setHp 110 (toldZ O.1 st2) 0 ∧ r = .tup [.agg (cellsT (toldZ O.1 st2) y 0), .bool true]
theorem parseSetP_tri (t : List UInt8) (ls : List (List UInt8)) (ha : asc t) (hl : t.length ≤ 1073741824) (h1 : Lib.trimSpace t = t) (h2 : t ≠ []) (h3 : splitB 10 t = ls) (hL : LIM ls) (h0 : (linesZ true SZ.zero ls).2 = 0) (hz : ZOK (linesZ true SZ.zero ls).1) :
 Tri C0 16 0 [] [.str t] (psR (linesZ true SZ.zero ls)) := by
 have TT := strToSet_tri t ls ha hl h1 h2 h3 hL h0
 generalize linesZ true SZ.zero ls = O at *
 refine Tri.mk 16 [.cell 2 40, .tmp 3] Tryz.func16 rfl rfl rfl rfl cf16 ?_; intro w0 S T ρ0
 refine w_ ?_
 refine WL_call [] TT rfl rfl rfl s_ s_ rfl rfl rfl rfl ?_
 rintro _ _ _ ⟨p0, q, hq, rfl, rfl, rfl⟩
 have hgr := GOKR_le hq.gr
 have hge := GOKR_le hq.ge
 obtain ⟨⟨st, has, z, rd, ex⟩, c⟩ := O
 obtain ⟨y, vs, st2, yr, ye, mr, me⟩ := q
 cases has with
 | false =>
   refine w_ ?_
   refine W_cond_false rfl ?_
   refine w_ ?_
   refine WL_imp (Imp_conv 13 (.recs 88 none K2 (tms rd)) rfl rfl rfl rfl (.inl rfl) ⟨[], by simp [AO.avs, AO.ren]⟩) ?_
   refine WL_imp (Imp_conv 14 (.recs 88 none K2 (tms ex)) rfl rfl rfl rfl (.inl rfl) ⟨[], by simp [AO.avs, AO.ren]⟩) ?_
   refine WL_call [1, 2, 3, 4, 5, 6, 7, 8, 9, 10, 11, 12, 13, 14] (toldSet_tri ⟨st, false, z, rd, ex⟩ ⟨y, vs, st2, yr, ye, none, none⟩ hq.lok hgr hge hz) rfl rfl rfl s_ s_ rfl rfl rfl rfl ?_
   rintro _ _ _ ⟨y2, rfl, rfl, rfl, hy2⟩
   refine w_ ?_
   refine W_renG [15, 16, 17, 18, 19, 20, 21, 22, 23, 24, 25, 26, 0] (n := 13) (tm' := [(2, .ptr 12 0), (3, .bool true)]) (hp' := (12, .cells 40 (some 22) (cellsT (toldZ ⟨st, false, z, rd, ex⟩ st2) y2 0)) :: setHp 110 (toldZ ⟨st, false, z, rd, ex⟩ st2) 0) ?_ s_ s_ rfl rfl rfl
   refine r_ ?_ ?_
   · exact s_
   · exact ⟨st2, y2, hy2, rfl, rfl, rfl⟩
 | true =>
   refine w_ ?_
   refine W_cond_false rfl ?_
   refine w_ ?_
   refine WL_imp (Imp_conv 13 (.recs 88 none K2 (tms rd)) rfl rfl rfl rfl (.inl rfl) ⟨[], by simp [AO.avs, AO.ren]⟩) ?_
   refine WL_imp (Imp_conv 14 (.recs 88 none K2 (tms ex)) rfl rfl rfl rfl (.inl rfl) ⟨[], by simp [AO.avs, AO.ren]⟩) ?_
   refine WL_call [1, 2, 3, 4, 5, 6, 7, 8, 9, 10, 11, 12, 13, 14] (toldSet_tri ⟨st, true, z, rd, ex⟩ ⟨y, vs, st2, yr, ye, none, none⟩ hq.lok hgr hge hz) rfl rfl rfl s_ s_ rfl rfl rfl rfl ?_
   rintro _ _ _ ⟨y2, rfl, rfl, rfl, hy2⟩
   refine w_ ?_
   refine W_renG [15, 16, 17, 18, 19, 20, 21, 22, 23, 24, 25, 26, 0] (n := 13) (tm' := [(2, .ptr 12 0), (3, .bool true)]) (hp' := (12, .cells 40 (some 22) (cellsT (toldZ ⟨st, true, z, rd, ex⟩ st2) y2 0)) :: setHp 110 (toldZ ⟨st, true, z, rd, ex⟩ st2) 0) ?_ s_ s_ rfl rfl rfl
   refine r_ ?_ ?_
   · exact s_
   · exact ⟨st2, y2, hy2, rfl, rfl, rfl⟩
end Go.Eng
namespace Go.Eng
open Go.Proofs
inductive BT (α : Type) where
 | nil
 | node (k : Nat) (v : α) (l r : BT α)
noncomputable def BT.get {α : Type} (t : BT α) : Nat → Option α :=
 BT.rec (motive := fun _ => Nat → Option α) (fun _ => none) (fun k v _ _ gl gr i => bif Nat.beq i k then some v else bif Nat.blt i k then gl i else gr i) t
def BT.All {α : Type} (p : Nat → α → Prop) : BT α → Prop
 | .nil => True
 | .node k v l r => p k v ∧ l.All p ∧ r.All p
theorem BT.get_all {α : Type} {p : Nat → α → Prop} : ∀ {t : BT α}, t.All p → ∀ {i s}, t.get i = some s → p i s
 | .nil, _, _, _, h => by cases h
 | .node k v l r, ha, i, s, h => by
   replace h : (bif Nat.beq i k then some v else bif Nat.blt i k then l.get i else r.get i) = some s := h
   cases e : Nat.beq i k <;> rw [e] at h
   · cases e2 : Nat.blt i k <;> rw [e2] at h
     · exact BT.get_all ha.2.2 h
     · exact BT.get_all ha.2.1 h
   · cases h; have := Nat.eq_of_beq_eq_true e; subst this; exact ha.1
def okB (fn : Func) : Bool := match fn.body with | some c => okC c | none => true
structure FOK (P : Program) (f : FuncId) (fu : Func) : Prop where
 fn : P.funcs[f]? = some fu
 enter : ∀ args w, (callFunc f args).run P w = .ok (.enter f args) w
 ok : okB fu = true
theorem fok11 : FOK Tryz.prog 11 Tryz.f11 := ⟨Tryz.func11, fun _ _ => by kernel_rfl, by kernel_rfl⟩
theorem fok13 : FOK Tryz.prog 13 Tryz.f13 := ⟨Tryz.func13, fun _ _ => by kernel_rfl, by kernel_rfl⟩
theorem fok22 : FOK Tryz.prog 22 Tryz.f22 := ⟨Tryz.func22, fun _ _ => by kernel_rfl, by kernel_rfl⟩
theorem fok23 : FOK Tryz.prog 23 Tryz.f23 := ⟨Tryz.func23, fun _ _ => by kernel_rfl, by kernel_rfl⟩
theorem fok28 : FOK Tryz.prog 28 Tryz.f28 := ⟨Tryz.func28, fun _ _ => by kernel_rfl, by kernel_rfl⟩
theorem fok40 : FOK Tryz.prog 40 Tryz.f40 := ⟨Tryz.func40, fun _ _ => by kernel_rfl, by kernel_rfl⟩
theorem fok50 : FOK Tryz.prog 50 Tryz.f50 := ⟨Tryz.func50, fun _ _ => by kernel_rfl, by kernel_rfl⟩
theorem fok51 : FOK Tryz.prog 51 Tryz.f51 := ⟨Tryz.func51, fun _ _ => by kernel_rfl, by kernel_rfl⟩
theorem fok71 : FOK Tryz.prog 71 Tryz.f71 := ⟨Tryz.func71, fun _ _ => by kernel_rfl, by kernel_rfl⟩
theorem fok87 : FOK Tryz.prog 87 Tryz.f87 := ⟨Tryz.func87, fun _ _ => by kernel_rfl, by kernel_rfl⟩
theorem fok88 : FOK Tryz.prog 88 Tryz.f88 := ⟨Tryz.func88, fun _ _ => by kernel_rfl, by kernel_rfl⟩
theorem fok89 : FOK Tryz.prog 89 Tryz.f89 := ⟨Tryz.func89, fun _ _ => by kernel_rfl, by kernel_rfl⟩
theorem fok90 : FOK Tryz.prog 90 Tryz.f90 := ⟨Tryz.func90, fun _ _ => by kernel_rfl, by kernel_rfl⟩
theorem fok91 : FOK Tryz.prog 91 Tryz.f91 := ⟨Tryz.func91, fun _ _ => by kernel_rfl, by kernel_rfl⟩
theorem fok92 : FOK Tryz.prog 92 Tryz.f92 := ⟨Tryz.func92, fun _ _ => by kernel_rfl, by kernel_rfl⟩
theorem fok93 : FOK Tryz.prog 93 Tryz.f93 := ⟨Tryz.func93, fun _ _ => by kernel_rfl, by kernel_rfl⟩
theorem fok94 : FOK Tryz.prog 94 Tryz.f94 := ⟨Tryz.func94, fun _ _ => by kernel_rfl, by kernel_rfl⟩
theorem fok95 : FOK Tryz.prog 95 Tryz.f95 := ⟨Tryz.func95, fun _ _ => by kernel_rfl, by kernel_rfl⟩
theorem fok100 : FOK Tryz.prog 100 Tryz.f100 := ⟨Tryz.func100, fun _ _ => by kernel_rfl, by kernel_rfl⟩
theorem fok108 : FOK Tryz.prog 108 Tryz.f108 := ⟨Tryz.func108, fun _ _ => by kernel_rfl, by kernel_rfl⟩
theorem fok112 : FOK Tryz.prog 112 Tryz.f112 := ⟨Tryz.func112, fun _ _ => by kernel_rfl, by kernel_rfl⟩
theorem fok113 : FOK Tryz.prog 113 Tryz.f113 := ⟨Tryz.func113, fun _ _ => by kernel_rfl, by kernel_rfl⟩
theorem fok114 : FOK Tryz.prog 114 Tryz.f114 := ⟨Tryz.func114, fun _ _ => by kernel_rfl, by kernel_rfl⟩
theorem fok115 : FOK Tryz.prog 115 Tryz.f115 := ⟨Tryz.func115, fun _ _ => by kernel_rfl, by kernel_rfl⟩
theorem fok116 : FOK Tryz.prog 116 Tryz.f116 := ⟨Tryz.func116, fun _ _ => by kernel_rfl, by kernel_rfl⟩
theorem fok117 : FOK Tryz.prog 117 Tryz.f117 := ⟨Tryz.func117, fun _ _ => by kernel_rfl, by kernel_rfl⟩
theorem fok118 : FOK Tryz.prog 118 Tryz.f118 := ⟨Tryz.func118, fun _ _ => by kernel_rfl, by kernel_rfl⟩
theorem fok137 : FOK Tryz.prog 137 Tryz.f137 := ⟨Tryz.func137, fun _ _ => by kernel_rfl, by kernel_rfl⟩
theorem fok138 : FOK Tryz.prog 138 Tryz.f138 := ⟨Tryz.func138, fun _ _ => by kernel_rfl, by kernel_rfl⟩
theorem fok152 : FOK Tryz.prog 152 Tryz.f152 := ⟨Tryz.func152, fun _ _ => by kernel_rfl, by kernel_rfl⟩
theorem fok153 : FOK Tryz.prog 153 Tryz.f153 := ⟨Tryz.func153, fun _ _ => by kernel_rfl, by kernel_rfl⟩
theorem fok154 : FOK Tryz.prog 154 Tryz.f154 := ⟨Tryz.func154, fun _ _ => by kernel_rfl, by kernel_rfl⟩
theorem fok155 : FOK Tryz.prog 155 Tryz.f155 := ⟨Tryz.func155, fun _ _ => by kernel_rfl, by kernel_rfl⟩
theorem fok156 : FOK Tryz.prog 156 Tryz.f156 := ⟨Tryz.func156, fun _ _ => by kernel_rfl, by kernel_rfl⟩
theorem fok157 : FOK Tryz.prog 157 Tryz.f157 := ⟨Tryz.func157, fun _ _ => by kernel_rfl, by kernel_rfl⟩
theorem fok180 : FOK Tryz.prog 180 Tryz.f180 := ⟨Tryz.func180, fun _ _ => by kernel_rfl, by kernel_rfl⟩
theorem fok181 : FOK Tryz.prog 181 Tryz.f181 := ⟨Tryz.func181, fun _ _ => by kernel_rfl, by kernel_rfl⟩
theorem fok182 : FOK Tryz.prog 182 Tryz.f182 := ⟨Tryz.func182, fun _ _ => by kernel_rfl, by kernel_rfl⟩
theorem fok183 : FOK Tryz.prog 183 Tryz.f183 := ⟨Tryz.func183, fun _ _ => by kernel_rfl, by kernel_rfl⟩
theorem fok184 : FOK Tryz.prog 184 Tryz.f184 := ⟨Tryz.func184, fun _ _ => by kernel_rfl, by kernel_rfl⟩
theorem fok185 : FOK Tryz.prog 185 Tryz.f185 := ⟨Tryz.func185, fun _ _ => by kernel_rfl, by kernel_rfl⟩
theorem fok186 : FOK Tryz.prog 186 Tryz.f186 := ⟨Tryz.func186, fun _ _ => by kernel_rfl, by kernel_rfl⟩
theorem fok187 : FOK Tryz.prog 187 Tryz.f187 := ⟨Tryz.func187, fun _ _ => by kernel_rfl, by kernel_rfl⟩
theorem fok188 : FOK Tryz.prog 188 Tryz.f188 := ⟨Tryz.func188, fun _ _ => by kernel_rfl, by kernel_rfl⟩
theorem fok189 : FOK Tryz.prog 189 Tryz.f189 := ⟨Tryz.func189, fun _ _ => by kernel_rfl, by kernel_rfl⟩
theorem fok199 : FOK Tryz.prog 199 Tryz.f199 := ⟨Tryz.func199, fun _ _ => by kernel_rfl, by kernel_rfl⟩
theorem fok200 : FOK Tryz.prog 200 Tryz.f200 := ⟨Tryz.func200, fun _ _ => by kernel_rfl, by kernel_rfl⟩
theorem fok201 : FOK Tryz.prog 201 Tryz.f201 := ⟨Tryz.func201, fun _ _ => by kernel_rfl, by kernel_rfl⟩
theorem fok202 : FOK Tryz.prog 202 Tryz.f202 := ⟨Tryz.func202, fun _ _ => by kernel_rfl, by kernel_rfl⟩
theorem fok203 : FOK Tryz.prog 203 Tryz.f203 := ⟨Tryz.func203, fun _ _ => by kernel_rfl, by kernel_rfl⟩
theorem fok204 : FOK Tryz.prog 204 Tryz.f204 := ⟨Tryz.func204, fun _ _ => by kernel_rfl, by kernel_rfl⟩
theorem fok205 : FOK Tryz.prog 205 Tryz.f205 := ⟨Tryz.func205, fun _ _ => by kernel_rfl, by kernel_rfl⟩
theorem fok206 : FOK Tryz.prog 206 Tryz.f206 := ⟨Tryz.func206, fun _ _ => by kernel_rfl, by kernel_rfl⟩
theorem fok207 : FOK Tryz.prog 207 Tryz.f207 := ⟨Tryz.func207, fun _ _ => by kernel_rfl, by kernel_rfl⟩
theorem fok229 : FOK Tryz.prog 229 Tryz.f229 := ⟨Tryz.func229, fun _ _ => by kernel_rfl, by kernel_rfl⟩
theorem fok230 : FOK Tryz.prog 230 Tryz.f230 := ⟨Tryz.func230, fun _ _ => by kernel_rfl, by kernel_rfl⟩
theorem fok231 : FOK Tryz.prog 231 Tryz.f231 := ⟨Tryz.func231, fun _ _ => by kernel_rfl, by kernel_rfl⟩
theorem fok232 : FOK Tryz.prog 232 Tryz.f232 := ⟨Tryz.func232, fun _ _ => by kernel_rfl, by kernel_rfl⟩
theorem fok233 : FOK Tryz.prog 233 Tryz.f233 := ⟨Tryz.func233, fun _ _ => by kernel_rfl, by kernel_rfl⟩
theorem fok234 : FOK Tryz.prog 234 Tryz.f234 := ⟨Tryz.func234, fun _ _ => by kernel_rfl, by kernel_rfl⟩
theorem fok235 : FOK Tryz.prog 235 Tryz.f235 := ⟨Tryz.func235, fun _ _ => by kernel_rfl, by kernel_rfl⟩
theorem fok236 : FOK Tryz.prog 236 Tryz.f236 := ⟨Tryz.func236, fun _ _ => by kernel_rfl, by kernel_rfl⟩
theorem fok237 : FOK Tryz.prog 237 Tryz.f237 := ⟨Tryz.func237, fun _ _ => by kernel_rfl, by kernel_rfl⟩
theorem fok238 : FOK Tryz.prog 238 Tryz.f238 := ⟨Tryz.func238, fun _ _ => by kernel_rfl, by kernel_rfl⟩
theorem fok239 : FOK Tryz.prog 239 Tryz.f239 := ⟨Tryz.func239, fun _ _ => by kernel_rfl, by kernel_rfl⟩
theorem fok240 : FOK Tryz.prog 240 Tryz.f240 := ⟨Tryz.func240, fun _ _ => by kernel_rfl, by kernel_rfl⟩
theorem fok241 : FOK Tryz.prog 241 Tryz.f241 := ⟨Tryz.func241, fun _ _ => by kernel_rfl, by kernel_rfl⟩
theorem fok242 : FOK Tryz.prog 242 Tryz.f242 := ⟨Tryz.func242, fun _ _ => by kernel_rfl, by kernel_rfl⟩
theorem fok243 : FOK Tryz.prog 243 Tryz.f243 := ⟨Tryz.func243, fun _ _ => by kernel_rfl, by kernel_rfl⟩
theorem fok244 : FOK Tryz.prog 244 Tryz.f244 := ⟨Tryz.func244, fun _ _ => by kernel_rfl, by kernel_rfl⟩
theorem fok245 : FOK Tryz.prog 245 Tryz.f245 := ⟨Tryz.func245, fun _ _ => by kernel_rfl, by kernel_rfl⟩
theorem fok246 : FOK Tryz.prog 246 Tryz.f246 := ⟨Tryz.func246, fun _ _ => by kernel_rfl, by kernel_rfl⟩
theorem fok247 : FOK Tryz.prog 247 Tryz.f247 := ⟨Tryz.func247, fun _ _ => by kernel_rfl, by kernel_rfl⟩
theorem fok248 : FOK Tryz.prog 248 Tryz.f248 := ⟨Tryz.func248, fun _ _ => by kernel_rfl, by kernel_rfl⟩
theorem fok249 : FOK Tryz.prog 249 Tryz.f249 := ⟨Tryz.func249, fun _ _ => by kernel_rfl, by kernel_rfl⟩
theorem fok250 : FOK Tryz.prog 250 Tryz.f250 := ⟨Tryz.func250, fun _ _ => by kernel_rfl, by kernel_rfl⟩
theorem fok251 : FOK Tryz.prog 251 Tryz.f251 := ⟨Tryz.func251, fun _ _ => by kernel_rfl, by kernel_rfl⟩
theorem fok252 : FOK Tryz.prog 252 Tryz.f252 := ⟨Tryz.func252, fun _ _ => by kernel_rfl, by kernel_rfl⟩
theorem fok253 : FOK Tryz.prog 253 Tryz.f253 := ⟨Tryz.func253, fun _ _ => by kernel_rfl, by kernel_rfl⟩
theorem fok254 : FOK Tryz.prog 254 Tryz.f254 := ⟨Tryz.func254, fun _ _ => by kernel_rfl, by kernel_rfl⟩
theorem fok255 : FOK Tryz.prog 255 Tryz.f255 := ⟨Tryz.func255, fun _ _ => by kernel_rfl, by kernel_rfl⟩
theorem fok256 : FOK Tryz.prog 256 Tryz.f256 := ⟨Tryz.func256, fun _ _ => by kernel_rfl, by kernel_rfl⟩
theorem fok258 : FOK Tryz.prog 258 Tryz.f258 := ⟨Tryz.func258, fun _ _ => by kernel_rfl, by kernel_rfl⟩
theorem fok277 : FOK Tryz.prog 277 Tryz.f277 := ⟨Tryz.func277, fun _ _ => by kernel_rfl, by kernel_rfl⟩
theorem fok278 : FOK Tryz.prog 278 Tryz.f278 := ⟨Tryz.func278, fun _ _ => by kernel_rfl, by kernel_rfl⟩
theorem fok279 : FOK Tryz.prog 279 Tryz.f279 := ⟨Tryz.func279, fun _ _ => by kernel_rfl, by kernel_rfl⟩
theorem fok280 : FOK Tryz.prog 280 Tryz.f280 := ⟨Tryz.func280, fun _ _ => by kernel_rfl, by kernel_rfl⟩
theorem fok281 : FOK Tryz.prog 281 Tryz.f281 := ⟨Tryz.func281, fun _ _ => by kernel_rfl, by kernel_rfl⟩
theorem fok282 : FOK Tryz.prog 282 Tryz.f282 := ⟨Tryz.func282, fun _ _ => by kernel_rfl, by kernel_rfl⟩
theorem fok283 : FOK Tryz.prog 283 Tryz.f283 := ⟨Tryz.func283, fun _ _ => by kernel_rfl, by kernel_rfl⟩
theorem fok284 : FOK Tryz.prog 284 Tryz.f284 := ⟨Tryz.func284, fun _ _ => by kernel_rfl, by kernel_rfl⟩
theorem fok285 : FOK Tryz.prog 285 Tryz.f285 := ⟨Tryz.func285, fun _ _ => by kernel_rfl, by kernel_rfl⟩
theorem fok286 : FOK Tryz.prog 286 Tryz.f286 := ⟨Tryz.func286, fun _ _ => by kernel_rfl, by kernel_rfl⟩
theorem fok287 : FOK Tryz.prog 287 Tryz.f287 := ⟨Tryz.func287, fun _ _ => by kernel_rfl, by kernel_rfl⟩
theorem fok288 : FOK Tryz.prog 288 Tryz.f288 := ⟨Tryz.func288, fun _ _ => by kernel_rfl, by kernel_rfl⟩
theorem fok289 : FOK Tryz.prog 289 Tryz.f289 := ⟨Tryz.func289, fun _ _ => by kernel_rfl, by kernel_rfl⟩
theorem fok290 : FOK Tryz.prog 290 Tryz.f290 := ⟨Tryz.func290, fun _ _ => by kernel_rfl, by kernel_rfl⟩
theorem fok291 : FOK Tryz.prog 291 Tryz.f291 := ⟨Tryz.func291, fun _ _ => by kernel_rfl, by kernel_rfl⟩
theorem fok292 : FOK Tryz.prog 292 Tryz.f292 := ⟨Tryz.func292, fun _ _ => by kernel_rfl, by kernel_rfl⟩
theorem fok293 : FOK Tryz.prog 293 Tryz.f293 := ⟨Tryz.func293, fun _ _ => by kernel_rfl, by kernel_rfl⟩
theorem fok294 : FOK Tryz.prog 294 Tryz.f294 := ⟨Tryz.func294, fun _ _ => by kernel_rfl, by kernel_rfl⟩
theorem fok295 : FOK Tryz.prog 295 Tryz.f295 := ⟨Tryz.func295, fun _ _ => by kernel_rfl, by kernel_rfl⟩
theorem fok296 : FOK Tryz.prog 296 Tryz.f296 := ⟨Tryz.func296, fun _ _ => by kernel_rfl, by kernel_rfl⟩
theorem fok312 : FOK Tryz.prog 312 Tryz.f312 := ⟨Tryz.func312, fun _ _ => by kernel_rfl, by kernel_rfl⟩
theorem fok314 : FOK Tryz.prog 314 Tryz.f314 := ⟨Tryz.func314, fun _ _ => by kernel_rfl, by kernel_rfl⟩
theorem fok323 : FOK Tryz.prog 323 Tryz.f323 := ⟨Tryz.func323, fun _ _ => by kernel_rfl, by kernel_rfl⟩
theorem fok324 : FOK Tryz.prog 324 Tryz.f324 := ⟨Tryz.func324, fun _ _ => by kernel_rfl, by kernel_rfl⟩
theorem fok325 : FOK Tryz.prog 325 Tryz.f325 := ⟨Tryz.func325, fun _ _ => by kernel_rfl, by kernel_rfl⟩
theorem fok333 : FOK Tryz.prog 333 Tryz.f333 := ⟨Tryz.func333, fun _ _ => by kernel_rfl, by kernel_rfl⟩
theorem fok334 : FOK Tryz.prog 334 Tryz.f334 := ⟨Tryz.func334, fun _ _ => by kernel_rfl, by kernel_rfl⟩
theorem fok335 : FOK Tryz.prog 335 Tryz.f335 := ⟨Tryz.func335, fun _ _ => by kernel_rfl, by kernel_rfl⟩
theorem fok339 : FOK Tryz.prog 339 Tryz.f339 := ⟨Tryz.func339, fun _ _ => by kernel_rfl, by kernel_rfl⟩
theorem fok358 : FOK Tryz.prog 358 Tryz.f358 := ⟨Tryz.func358, fun _ _ => by kernel_rfl, by kernel_rfl⟩
theorem fok359 : FOK Tryz.prog 359 Tryz.f359 := ⟨Tryz.func359, fun _ _ => by kernel_rfl, by kernel_rfl⟩
theorem fok360 : FOK Tryz.prog 360 Tryz.f360 := ⟨Tryz.func360, fun _ _ => by kernel_rfl, by kernel_rfl⟩
theorem fok361 : FOK Tryz.prog 361 Tryz.f361 := ⟨Tryz.func361, fun _ _ => by kernel_rfl, by kernel_rfl⟩
theorem fok362 : FOK Tryz.prog 362 Tryz.f362 := ⟨Tryz.func362, fun _ _ => by kernel_rfl, by kernel_rfl⟩
theorem fok363 : FOK Tryz.prog 363 Tryz.f363 := ⟨Tryz.func363, fun _ _ => by kernel_rfl, by kernel_rfl⟩
noncomputable def fnTree : BT Func := (.node 234 Tryz.f234 (.node 152 Tryz.f152 (.node 92 Tryz.f92 (.node 51 Tryz.f51 (.node 23 Tryz.f23 (.node 13 Tryz.f13 (.node 11 Tryz.f11 .nil .nil) (.node 22 Tryz.f22 .nil .nil)) (.node 40 Tryz.f40 (.node 28 Tryz.f28 .nil .nil) (.node 50 Tryz.f50 .nil .nil))) (.node 89 Tryz.f89 (.node 87 Tryz.f87 (.node 71 Tryz.f71 .nil .nil) (.node 88 Tryz.f88 .nil .nil)) (.node 91 Tryz.f91 (.node 90 Tryz.f90 .nil .nil) .nil))) (.node 114 Tryz.f114 (.node 100 Tryz.f100 (.node 94 Tryz.f94 (.node 93 Tryz.f93 .nil .nil) (.node 95 Tryz.f95 .nil .nil)) (.node 112 Tryz.f112 (.node 108 Tryz.f108 .nil .nil) (.node 113 Tryz.f113 .nil .nil))) (.node 118 Tryz.f118 (.node 116 Tryz.f116 (.node 115 Tryz.f115 .nil .nil) (.node 117 Tryz.f117 .nil .nil)) (.node 138 Tryz.f138 (.node 137 Tryz.f137 .nil .nil) .nil)))) (.node 189 Tryz.f189 (.node 182 Tryz.f182 (.node 156 Tryz.f156 (.node 154 Tryz.f154 (.node 153 Tryz.f153 .nil .nil) (.node 155 Tryz.f155 .nil .nil)) (.node 180 Tryz.f180 (.node 157 Tryz.f157 .nil .nil) (.node 181 Tryz.f181 .nil .nil))) (.node 186 Tryz.f186 (.node 184 Tryz.f184 (.node 183 Tryz.f183 .nil .nil) (.node 185 Tryz.f185 .nil .nil)) (.node 188 Tryz.f188 (.node 187 Tryz.f187 .nil .nil) .nil))) (.node 206 Tryz.f206 (.node 202 Tryz.f202 (.node 200 Tryz.f200 (.node 199 Tryz.f199 .nil .nil) (.node 201 Tryz.f201 .nil .nil)) (.node 204 Tryz.f204 (.node 203 Tryz.f203 .nil .nil) (.node 205 Tryz.f205 .nil .nil))) (.node 231 Tryz.f231 (.node 229 Tryz.f229 (.node 207 Tryz.f207 .nil .nil) (.node 230 Tryz.f230 .nil .nil)) (.node 233 Tryz.f233 (.node 232 Tryz.f232 .nil .nil) .nil))))) (.node 283 Tryz.f283 (.node 249 Tryz.f249 (.node 242 Tryz.f242 (.node 238 Tryz.f238 (.node 236 Tryz.f236 (.node 235 Tryz.f235 .nil .nil) (.node 237 Tryz.f237 .nil .nil)) (.node 240 Tryz.f240 (.node 239 Tryz.f239 .nil .nil) (.node 241 Tryz.f241 .nil .nil))) (.node 246 Tryz.f246 (.node 244 Tryz.f244 (.node 243 Tryz.f243 .nil .nil) (.node 245 Tryz.f245 .nil .nil)) (.node 248 Tryz.f248 (.node 247 Tryz.f247 .nil .nil) .nil))) (.node 258 Tryz.f258 (.node 253 Tryz.f253 (.node 251 Tryz.f251 (.node 250 Tryz.f250 .nil .nil) (.node 252 Tryz.f252 .nil .nil)) (.node 255 Tryz.f255 (.node 254 Tryz.f254 .nil .nil) (.node 256 Tryz.f256 .nil .nil))) (.node 280 Tryz.f280 (.node 278 Tryz.f278 (.node 277 Tryz.f277 .nil .nil) (.node 279 Tryz.f279 .nil .nil)) (.node 282 Tryz.f282 (.node 281 Tryz.f281 .nil .nil) .nil)))) (.node 314 Tryz.f314 (.node 291 Tryz.f291 (.node 287 Tryz.f287 (.node 285 Tryz.f285 (.node 284 Tryz.f284 .nil .nil) (.node 286 Tryz.f286 .nil .nil)) (.node 289 Tryz.f289 (.node 288 Tryz.f288 .nil .nil) (.node 290 Tryz.f290 .nil .nil))) (.node 295 Tryz.f295 (.node 293 Tryz.f293 (.node 292 Tryz.f292 .nil .nil) (.node 294 Tryz.f294 .nil .nil)) (.node 312 Tryz.f312 (.node 296 Tryz.f296 .nil .nil) .nil))) (.node 339 Tryz.f339 (.node 333 Tryz.f333 (.node 324 Tryz.f324 (.node 323 Tryz.f323 .nil .nil) (.node 325 Tryz.f325 .nil .nil)) (.node 335 Tryz.f335 (.node 334 Tryz.f334 .nil .nil) .nil)) (.node 361 Tryz.f361 (.node 359 Tryz.f359 (.node 358 Tryz.f358 .nil .nil) (.node 360 Tryz.f360 .nil .nil)) (.node 363 Tryz.f363 (.node 362 Tryz.f362 .nil .nil) .nil))))))
theorem fnAll : fnTree.All (FOK Tryz.prog) := ⟨fok234, ⟨fok152, ⟨fok92, ⟨fok51, ⟨fok23, ⟨fok13, ⟨fok11, trivial, trivial⟩, ⟨fok22, trivial, trivial⟩⟩, ⟨fok40, ⟨fok28, trivial, trivial⟩, ⟨fok50, trivial, trivial⟩⟩⟩, ⟨fok89, ⟨fok87, ⟨fok71, trivial, trivial⟩, ⟨fok88, trivial, trivial⟩⟩, ⟨fok91, ⟨fok90, trivial, trivial⟩, trivial⟩⟩⟩, ⟨fok114, ⟨fok100, ⟨fok94, ⟨fok93, trivial, trivial⟩, ⟨fok95, trivial, trivial⟩⟩, ⟨fok112, ⟨fok108, trivial, trivial⟩, ⟨fok113, trivial, trivial⟩⟩⟩, ⟨fok118, ⟨fok116, ⟨fok115, trivial, trivial⟩, ⟨fok117, trivial, trivial⟩⟩, ⟨fok138, ⟨fok137, trivial, trivial⟩, trivial⟩⟩⟩⟩, ⟨fok189, ⟨fok182, ⟨fok156, ⟨fok154, ⟨fok153, trivial, trivial⟩, ⟨fok155, trivial, trivial⟩⟩, ⟨fok180, ⟨fok157, trivial, trivial⟩, ⟨fok181, trivial, trivial⟩⟩⟩, ⟨fok186, ⟨fok184, ⟨fok183, trivial, trivial⟩, ⟨fok185, trivial, trivial⟩⟩, ⟨fok188, ⟨fok187, trivial, trivial⟩, trivial⟩⟩⟩, ⟨fok206, ⟨fok202, ⟨fok200, ⟨fok199, trivial, trivial⟩, ⟨fok201, trivial, trivial⟩⟩, ⟨fok204, ⟨fok203, trivial, trivial⟩, ⟨fok205, trivial, trivial⟩⟩⟩, ⟨fok231, ⟨fok229, ⟨fok207, trivial, trivial⟩, ⟨fok230, trivial, trivial⟩⟩, ⟨fok233, ⟨fok232, trivial, trivial⟩, trivial⟩⟩⟩⟩⟩, ⟨fok283, ⟨fok249, ⟨fok242, ⟨fok238, ⟨fok236, ⟨fok235, trivial, trivial⟩, ⟨fok237, trivial, trivial⟩⟩, ⟨fok240, ⟨fok239, trivial, trivial⟩, ⟨fok241, trivial, trivial⟩⟩⟩, ⟨fok246, ⟨fok244, ⟨fok243, trivial, trivial⟩, ⟨fok245, trivial, trivial⟩⟩, ⟨fok248, ⟨fok247, trivial, trivial⟩, trivial⟩⟩⟩, ⟨fok258, ⟨fok253, ⟨fok251, ⟨fok250, trivial, trivial⟩, ⟨fok252, trivial, trivial⟩⟩, ⟨fok255, ⟨fok254, trivial, trivial⟩, ⟨fok256, trivial, trivial⟩⟩⟩, ⟨fok280, ⟨fok278, ⟨fok277, trivial, trivial⟩, ⟨fok279, trivial, trivial⟩⟩, ⟨fok282, ⟨fok281, trivial, trivial⟩, trivial⟩⟩⟩⟩, ⟨fok314, ⟨fok291, ⟨fok287, ⟨fok285, ⟨fok284, trivial, trivial⟩, ⟨fok286, trivial, trivial⟩⟩, ⟨fok289, ⟨fok288, trivial, trivial⟩, ⟨fok290, trivial, trivial⟩⟩⟩, ⟨fok295, ⟨fok293, ⟨fok292, trivial, trivial⟩, ⟨fok294, trivial, trivial⟩⟩, ⟨fok312, ⟨fok296, trivial, trivial⟩, trivial⟩⟩⟩, ⟨fok339, ⟨fok333, ⟨fok324, ⟨fok323, trivial, trivial⟩, ⟨fok325, trivial, trivial⟩⟩, ⟨fok335, ⟨fok334, trivial, trivial⟩, trivial⟩⟩, ⟨fok361, ⟨fok359, ⟨fok358, trivial, trivial⟩, ⟨fok360, trivial, trivial⟩⟩, ⟨fok363, ⟨fok362, trivial, trivial⟩, trivial⟩⟩⟩⟩⟩⟩
end Go.Eng
namespace Go.Eng
open Go.Proofs
noncomputable def msT : TypeId → String → Option FuncId := fun t m =>
 bif Nat.beq t 169 then (if m = "Len" then some 358 else if m = "Less" then some 359 else if m = "Swap" then some 360 else none)
 else bif Nat.beq t 175 then (if m = "Len" then some 361 else if m = "Less" then some 362 else if m = "Swap" then some 363 else none) else none
theorem ms_of (t f : Nat) (m : String) (i : TypeInfo) (sig d : TypeId) (hi : Tryz.prog.info? t = some i) (hm : i.methods.find? (·.name == m) = some ⟨m, sig, #[], some (f, false)⟩) (hu : Tryz.prog.underlying t = some (.slice d))
 (hf : ∀ args w, (callFunc f args).run Tryz.prog w = .ok (.enter f args) w) : ∀ v args w, (callMethod (.iface t v) m args).run Tryz.prog w = .ok (.enter f (#[v] ++ args)) w := by
 intro v args w
 have hmeth : ∀ n, (method (n + 1) t v m).run Tryz.prog w = .ok (f, v) w := by
  intro n
  have h1 : (typeInfo t).run Tryz.prog w = .ok i w := by simp only [typeInfo, Sem.run_bind, run_program, Result.andThen_ok, hi, Sem.run_pure]
  simp only [method, Sem.run_bind, h1, Result.andThen_ok, hm, follow, Sem.run_pure, receiverAt, Go.run_underlying hu, Place.get]
 have hn : Tryz.prog.types.size + Made.depth = (Tryz.prog.types.size + Made.depth - 1) + 1 := by
  have : 0 < Made.depth := by decide
  omega
 simp only [callMethod, Sem.run_bind, run_program, Result.andThen_ok]
 rw [hn, hmeth]
 simp only [Result.andThen_ok, hf]
theorem ms_all : ∀ t m f, msT t m = some f → ∀ v args w, (callMethod (.iface t v) m args).run Tryz.prog w = .ok (.enter f (#[v] ++ args)) w := by
 intro t m f h
 unfold msT at h
 cases h1 : Nat.beq t 169 <;> rw [h1] at h
 · simp only [cond_false] at h
   cases h2 : Nat.beq t 175 <;> rw [h2] at h
   · cases h
   · have := Nat.eq_of_beq_eq_true h2
     subst this
     simp only [cond_true] at h
     split at h
     · rename_i e; subst e; cases h; exact ms_of 175 361 "Len" Tryz.t175 239 177 (by kernel_rfl) (by kernel_rfl) (by kernel_rfl) fok361.enter
     · split at h
       · rename_i e; subst e; cases h; exact ms_of 175 362 "Less" Tryz.t175 303 177 (by kernel_rfl) (by kernel_rfl) (by kernel_rfl) fok362.enter
       · split at h
         · rename_i e; subst e; cases h; exact ms_of 175 363 "Swap" Tryz.t175 345 177 (by kernel_rfl) (by kernel_rfl) (by kernel_rfl) fok363.enter
         · cases h
 · have := Nat.eq_of_beq_eq_true h1
   subst this
   simp only [cond_true] at h
   split at h
   · rename_i e; subst e; cases h; exact ms_of 169 358 "Len" Tryz.t169 239 88 (by kernel_rfl) (by kernel_rfl) (by kernel_rfl) fok358.enter
   · split at h
     · rename_i e; subst e; cases h; exact ms_of 169 359 "Less" Tryz.t169 303 88 (by kernel_rfl) (by kernel_rfl) (by kernel_rfl) fok359.enter
     · split at h
       · rename_i e; subst e; cases h; exact ms_of 169 360 "Swap" Tryz.t169 345 88 (by kernel_rfl) (by kernel_rfl) (by kernel_rfl) fok360.enter
       · cases h
noncomputable def X0 : XC := { C0 with
 ft := fnTree.get
 ftok := fun f fn h => ⟨(BT.get_all fnAll h).fn, (BT.get_all fnAll h).enter⟩
 gx := fun _ => none
 gxok := fun _ _ h => (by cases h)
 ms := msT
 msok := ms_all
 dr := by kernel_rfl
 okc := okC
 okf := fun f fn c h hb => (by have := (BT.get_all fnAll h).ok; unfold okB at this; rw [hb] at this; exact this) }
end Go.Eng
