/- A part of the proof that the rows statement FnSetBack holds; no conditions. -/
import Derived.Test.YthkgjhnckakliaaGreatDoorZBE
set_option linter.unusedVariables false
set_option linter.unusedSimpArgs false
set_option linter.unusedSectionVars false
namespace Go.Eng
open Go.Proofs
attribute [local irreducible] W WL LP Then InBl Tri WS
abbrev ruleO (z : RZ) (y : LY) (vs : Nat → Value) : AO := .cells 152 (some 60) (cellsR z y 0 vs)
def newR (z : RZ) (y : LY) : Rs := fun k hp r =>
 (rightZ z = true ∧ ∃ vs, k = 11 ∧ hp = (10, ruleO z y vs) :: lstHp 142 z 0 ∧ r = .tup [.ptr 10 0, .v .nilIface]) ∨
 (rightZ z = false ∧ k = 10 ∧ hp = lstHp 142 z 0 ∧ ∃ t p, r = .tup [.v (.pointer none), .ifc t (.v p)])
set_option maxRecDepth 8192 in
set_option maxHeartbeats 4000000 in
theorem newRRule_tri (z : RZ) (y : LY) (hy : LOK z y) (hB : BND z) : Tri C0 89 10 (lstHp 142 z 0) [.agg (cellsP z y 0)] (newR z y) := by
 refine Tri.mk 13 [.tmp 2, .tmp 3] Tryz.func89 rfl rfl rfl rfl cf89 ?_; intro w0 S T ρ0
 refine w_ ?_
 refine WL_call [0, 1, 2, 3, 4, 5, 6, 7, 8, 9] (validate_tri z y hy hB.len) rfl rfl rfl (s_) (s_) rfl rfl rfl rfl ?_; rintro _ _ _ ⟨rfl, rfl, hr⟩
 rcases hr with ⟨hr, rfl⟩ | ⟨hr, et, ep, rfl⟩
 rotate_left 1
 · refine w_ ?_
   refine W_cond_true rfl ?_
   refine w_ ?_
   refine W_ren [0, 1, 2, 3, 4, 5, 6, 7, 8, 9] (n := 10) (tm' := [(2, .v (.pointer none)), (3, .ifc et (.v ep))]) (hp' := lstHp 142 z 0) ?_ s_ s_ rfl rfl rfl
   refine r_ ?_ ?_
   · exact s_
   · exact .inr ⟨hr, rfl, rfl, _, _, rfl⟩
 · refine w_ ?_
   refine W_cond_false rfl ?_
   refine w_ ?_
   refine WL_call [0, 1, 2, 3, 4, 5, 6, 7, 8, 9] (build_tri z y hy hr hB) rfl rfl rfl (s_) (s_) rfl rfl rfl rfl ?_; rintro _ _ _ ⟨rfl, rfl, vs, rfl⟩
   refine w_ ?_
   refine W_ren [0, 1, 2, 3, 4, 5, 6, 7, 8, 9, 11] (n := 11) (tm' := [(2, .ptr 10 0), (3, .v .nilIface)]) (hp' := (10, ruleO z y vs) :: lstHp 142 z 0) ?_ s_ s_ rfl rfl rfl
   refine r_ ?_ ?_
   · exact s_
   · exact .inl ⟨hr, vs, rfl, rfl, rfl⟩
set_option maxRecDepth 8192 in
set_option maxHeartbeats 4000000 in
theorem dtstartR_tri (z : RZ) (y : LY) (hy : LOK z y) (hr : rightZ z = true) (hB : BND z) (s : Int) (hs : -1000000000000 ≤ s ∧ s ≤ 1000000000000) (vs : Nat → Value) :
 Tri C0 153 11 ((10, ruleO z y vs) :: lstHp 142 z 0) [.ptr 10 0, tsec s 0] (Fin' (fun _ => 11) (fun vs' => (10, ruleO { z with st := s } y vs') :: lstHp 142 z 0) (fun _ => .tup []) (fun _ : Nat → Value => True)) := by
 refine Tri.renX ?_
 refine Tri.mk 17 [] Tryz.func153 rfl rfl rfl rfl cf153 ?_; intro w0 S T ρ0
 refine w_ ?_
 refine WL_call [] (truncate_tri s 0 1000000000) rfl rfl rfl t_ t_ rfl rfl rfl rfl ?_; rintro _ _ _ ⟨rfl, rfl, rfl⟩
 refine w_ ?_
 refine WL_call [0, 1, 2, 3, 4, 5, 6, 7, 8, 9] (build_tri { z with st := s } y hy hr ⟨hs, hB.len, hB.h5, hB.h6, hB.h7⟩) rfl rfl rfl (s_) (s_) rfl rfl rfl rfl ?_; rintro _ _ _ ⟨rfl, rfl, vs2, rfl⟩
 refine w_ ?_
 exact ⟨_, _, rfl, s_, vs2, [0, 1, 2, 3, 4, 5, 6, 7, 8, 9, 10], s_, rfl, rfl, rfl, rfl, s_, trivial⟩
def cellsQ (s : Int) (p a b : AV) : List AV := [.int .i64 s, .int .i64 0, p, a, b]
abbrev setO (s : Int) (p a b : AV) : AO := .cells 135 (some 5) (cellsQ s p a b)
theorem dtstartS_tri (s : Int) : Tri C0 87 1 [(0, setO 0 (.v (.pointer none)) (.v (.slice none 0 0)) (.v (.slice none 0 0)))] [.ptr 0 0, tsec s 0]
 (Fin' (fun _ => 1) (fun _ => [(0, setO s (.v (.pointer none)) (.v (.slice none 0 0)) (.v (.slice none 0 0)))]) (fun _ => .tup []) (fun _ : Unit => True)) := by
 refine Tri.renX ?_
 refine Tri.mk 23 [] Tryz.func87 rfl rfl rfl rfl cf87 ?_; intro w0 S T ρ0
 refine w_ ?_
 refine WL_call [] (truncate_tri s 0 1000000000) rfl rfl rfl t_ t_ rfl rfl rfl rfl ?_; rintro _ _ _ ⟨rfl, rfl, rfl⟩
 refine w_ ?_
 refine W_cond_false rfl ?_
 refine w_ ?_
 exact ⟨_, _, rfl, s_, (), [0], s_, rfl, rfl, rfl, rfl, s_, trivial⟩
def startW (z : RZ) (s : Int) : Int := if z.st = 0 then s else z.st
set_option maxRecDepth 8192 in
set_option maxHeartbeats 4000000 in
theorem ruleS_tri (z : RZ) (y : LY) (hy : LOK z y) (hr : rightZ z = true) (hB : BND z) (s : Int) (hs : -1000000000000 ≤ s ∧ s ≤ 1000000000000) (vs : Nat → Value) (p : Option Addr) (ya yb : Bool × Nat) (na nb : Nat) :
 Tri C0 91 14 ((11, setO s (.v (.pointer p)) (slI ya 12 2 na) (slI yb 13 2 nb)) :: (10, ruleO z y vs) :: lstHp 142 z 0) [.ptr 11 0, .ptr 10 0]
 (Fin' (fun _ => 14) (fun q : Int × (Nat → Value) => (11, setO (startW z s) (.ptr 10 0) (slI ya 12 2 na) (slI yb 13 2 nb)) :: (10, ruleO { z with st := q.1 } y q.2) :: lstHp 142 z 0) (fun _ => .tup []) (fun _ => True)) := by
 refine Tri.renX ?_
 by_cases h0 : z.st = 0
 · have e : startW z s = s := if_pos h0
   rw [e]
   refine Tri.mk 34 [] Tryz.func91 rfl rfl rfl rfl cf91 ?_; intro w0 S T ρ0
   refine w_ ?_
   refine WL_call [] (isZero_tri z.st) rfl rfl rfl t_ t_ rfl rfl rfl rfl ?_; rintro _ _ _ ⟨rfl, rfl, rfl⟩
   rw [decide_eq_true h0]
   refine w_ ?_
   refine W_cond_false rfl ?_
   refine w_ ?_
   refine WL_call [] (isZero_tri s) rfl rfl rfl t_ t_ rfl rfl rfl rfl ?_; rintro _ _ _ ⟨rfl, rfl, rfl⟩
   by_cases h1 : s = 0
   · rw [decide_eq_true h1]
     refine w_ ?_
     refine W_cond_false rfl ?_
     refine w_ ?_
     exact ⟨_, _, rfl, s_, (z.st, vs), [0, 1, 2, 3, 4, 5, 6, 7, 8, 9, 10, 11, 12, 13], s_, rfl, rfl, rfl, rfl, s_, trivial⟩
   · rw [decide_eq_false h1]
     refine w_ ?_
     refine W_cond_true rfl ?_
     refine w_ ?_
     refine WL_call [0, 1, 2, 3, 4, 5, 6, 7, 8, 9, 10] (dtstartR_tri z y hy hr hB s hs vs) rfl rfl rfl (s_) (s_) rfl rfl rfl rfl ?_; rintro _ _ _ ⟨vs2, rfl, rfl, rfl, _⟩
     refine w_ ?_
     exact ⟨_, _, rfl, s_, (s, vs2), [0, 1, 2, 3, 4, 5, 6, 7, 8, 9, 10, 11, 12, 13], s_, rfl, rfl, rfl, rfl, s_, trivial⟩
 · have e : startW z s = dst z := by unfold startW dst; rw [if_neg h0, if_neg h0]
   rw [e]
   refine Tri.mk 34 [] Tryz.func91 rfl rfl rfl rfl cf91 ?_; intro w0 S T ρ0
   refine w_ ?_
   refine WL_call [] (isZero_tri z.st) rfl rfl rfl t_ t_ rfl rfl rfl rfl ?_; rintro _ _ _ ⟨rfl, rfl, rfl⟩
   rw [decide_eq_false h0]
   refine w_ ?_
   refine W_cond_true rfl ?_
   refine w_ ?_
   exact ⟨_, _, rfl, s_, (z.st, vs), [0, 1, 2, 3, 4, 5, 6, 7, 8, 9, 10, 11, 12, 13], s_, rfl, rfl, rfl, rfl, s_, trivial⟩
def pQ (b : Bool) (id : Nat) : AV := if b = true then .ptr id 0 else .v (.pointer none)
theorem rdate_tri (t s : Int) (hb : Bool) (xs : List Int) (hx : xs.length ≤ 1000000000000) (yl : Bool × Nat) (m : Option Nat) (hg : GOKR (tms xs) yl m) (yo : Bool × Nat) (no : Nat) :
 Tri C0 172 4 [(0, setO s (pQ hb 3) (slI yl 1 2 xs.length) (slI yo 2 2 no)), (1, .recs 88 m K2 (tms xs))] [.ptr 0 0, tsec t 0]
 (Fin' (fun _ => 5) (fun q : Nat × Nat => [(0, setO s (pQ hb 3) (.sl false 4 2 0 (xs.length + 1) q.1) (slI yo 2 2 no)), (4, .recs 88 (some q.2) K2 (tms xs ++ [[t, 0]]))]) (fun _ => .tup []) (fun q => xs.length + 1 ≤ q.1 ∧ q.1 * 2 ≤ q.2)) := by
 refine Tri.renX ?_
 cases hb with
 | false =>
   rcases hg with ⟨rfl, rfl, hxs⟩ | ⟨tt0, cap0, rfl, rfl, q1, q2⟩
   · obtain rfl : xs = [] := by simpa using hxs
     refine Tri.mk 15 [] Tryz.func172 rfl rfl rfl rfl cf172 ?_; intro w0 S T ρ0
     refine w_ ?_
     refine W_draw [0, 4] [] 12 mo0 (by kernel_rfl) (by kernel_rfl) (fun ρ1 hkl => ?_); refine d_ ?_
     refine WS_loud rfl ?_ hkl; refine WL_call [] (truncate_tri t 0 1000000000) rfl rfl rfl t_ t_ rfl rfl rfl rfl ?_; rintro _ _ _ ⟨rfl, rfl, rfl⟩; refine WL_nil ?_; refine nq_walk ⟨fun _ => t_, ?_⟩; refine d_ ?_
     refine WS_loud rfl ?_ hkl
     refine WL_new rfl rfl rfl ?_
     refine WL_nil ?_; refine nq_walk ⟨fun _ => t_, ?_⟩; refine d_ ?_
     refine WS_loud rfl ?_ hkl
     refine WL_imp (Imp_tm 8 (.v (.slice none 0 0)) rfl (fun _ => rfl) trivial) ?_
     refine WL_appN (FamR 88 K2) [[t, 0]] rfl rfl rfl rfl rfl rfl rfl rfl rfl rfl rfl rfl rfl (Nat.le_of_ble_eq_true rfl) (Nat.le_refl _) ⟨Nat.le_of_ble_eq_true rfl, Nat.le_of_ble_eq_true rfl⟩ ?_
     intro cap3 tt3 hc3 hc4
     refine WL_nil ?_; refine nq_walk ⟨fun _ => t_, ?_⟩; refine d_ ?_
     refine d_ ?_
     refine WS_loud rfl ?_ hkl
     refine WL_store rfl rfl trivial ?_
     refine WL_nil ?_
     refine nq_walk ⟨fun h => (by cases h), ?_⟩
     refine d_ ?_
     exact ⟨_, _, rfl, s_, (cap3, tt3), [0, 1, 2, 3, 6], s_, rfl, rfl, rfl, rfl, s_, ⟨hc3, hc4⟩⟩
   · have htl : (tms xs).length = xs.length := by simp
     rw [htl] at q1
     refine Tri.mk 15 [] Tryz.func172 rfl rfl rfl rfl cf172 ?_; intro w0 S T ρ0
     refine w_ ?_
     rw [← htl]
     refine W_draw [0, 4] [] 12 mo0 (by kernel_rfl) (by kernel_rfl) (fun ρ1 hkl => ?_); refine d_ ?_
     refine WS_loud rfl ?_ hkl; refine WL_call [] (truncate_tri t 0 1000000000) rfl rfl rfl t_ t_ rfl rfl rfl rfl ?_; rintro _ _ _ ⟨rfl, rfl, rfl⟩; refine WL_nil ?_; refine nq_walk ⟨fun _ => t_, ?_⟩; refine d_ ?_
     refine WS_loud rfl ?_ hkl
     refine WL_new rfl rfl rfl ?_
     refine WL_nil ?_; refine nq_walk ⟨fun _ => t_, ?_⟩; refine d_ ?_
     refine WS_loud rfl ?_ hkl
     refine WL_app1 (FamR 88 K2) (tms xs) ([t, 0]) rfl rfl rfl rfl rfl rfl rfl rfl rfl rfl rfl rfl rfl rfl ?_ ?_ ?_
     · exact ⟨by omega, q2⟩
     · exact ⟨by omega, by show ((tms xs).length + 1) * 16 ≤ _; omega⟩
     intro cap3 tt3 hc3 hc4 _
     refine WL_nil ?_; refine nq_walk ⟨fun _ => t_, ?_⟩; refine d_ ?_
     refine d_ ?_
     refine WS_loud rfl ?_ hkl
     refine WL_store rfl rfl trivial ?_
     refine WL_nil ?_
     refine nq_walk ⟨fun h => (by cases h), ?_⟩
     refine d_ ?_
     exact ⟨_, _, rfl, s_, (cap3, tt3), [0, 1, 2, 3, 6], s_, rfl, rfl, rfl, rfl, s_, ⟨by omega, hc4⟩⟩
 | true =>
   rcases hg with ⟨rfl, rfl, hxs⟩ | ⟨tt0, cap0, rfl, rfl, q1, q2⟩
   · obtain rfl : xs = [] := by simpa using hxs
     refine Tri.mk 15 [] Tryz.func172 rfl rfl rfl rfl cf172 ?_; intro w0 S T ρ0
     refine w_ ?_
     refine W_draw [0, 4] [] 12 mo0 (by kernel_rfl) (by kernel_rfl) (fun ρ1 hkl => ?_); refine d_ ?_
     refine WS_loud rfl ?_ hkl; refine WL_call [] (truncate_tri t 0 1000000000) rfl rfl rfl t_ t_ rfl rfl rfl rfl ?_; rintro _ _ _ ⟨rfl, rfl, rfl⟩; refine WL_nil ?_; refine nq_walk ⟨fun _ => t_, ?_⟩; refine d_ ?_
     refine WS_loud rfl ?_ hkl
     refine WL_new rfl rfl rfl ?_
     refine WL_nil ?_; refine nq_walk ⟨fun _ => t_, ?_⟩; refine d_ ?_
     refine WS_loud rfl ?_ hkl
     refine WL_imp (Imp_tm 8 (.v (.slice none 0 0)) rfl (fun _ => rfl) trivial) ?_
     refine WL_appN (FamR 88 K2) [[t, 0]] rfl rfl rfl rfl rfl rfl rfl rfl rfl rfl rfl rfl rfl (Nat.le_of_ble_eq_true rfl) (Nat.le_refl _) ⟨Nat.le_of_ble_eq_true rfl, Nat.le_of_ble_eq_true rfl⟩ ?_
     intro cap3 tt3 hc3 hc4
     refine WL_nil ?_; refine nq_walk ⟨fun _ => t_, ?_⟩; refine d_ ?_
     refine d_ ?_
     refine WS_loud rfl ?_ hkl
     refine WL_store rfl rfl trivial ?_
     refine WL_nil ?_
     refine nq_walk ⟨fun h => (by cases h), ?_⟩
     refine d_ ?_
     exact ⟨_, _, rfl, s_, (cap3, tt3), [0, 1, 2, 3, 6], s_, rfl, rfl, rfl, rfl, s_, ⟨hc3, hc4⟩⟩
   · have htl : (tms xs).length = xs.length := by simp
     rw [htl] at q1
     refine Tri.mk 15 [] Tryz.func172 rfl rfl rfl rfl cf172 ?_; intro w0 S T ρ0
     refine w_ ?_
     rw [← htl]
     refine W_draw [0, 4] [] 12 mo0 (by kernel_rfl) (by kernel_rfl) (fun ρ1 hkl => ?_); refine d_ ?_
     refine WS_loud rfl ?_ hkl; refine WL_call [] (truncate_tri t 0 1000000000) rfl rfl rfl t_ t_ rfl rfl rfl rfl ?_; rintro _ _ _ ⟨rfl, rfl, rfl⟩; refine WL_nil ?_; refine nq_walk ⟨fun _ => t_, ?_⟩; refine d_ ?_
     refine WS_loud rfl ?_ hkl
     refine WL_new rfl rfl rfl ?_
     refine WL_nil ?_; refine nq_walk ⟨fun _ => t_, ?_⟩; refine d_ ?_
     refine WS_loud rfl ?_ hkl
     refine WL_app1 (FamR 88 K2) (tms xs) ([t, 0]) rfl rfl rfl rfl rfl rfl rfl rfl rfl rfl rfl rfl rfl rfl ?_ ?_ ?_
     · exact ⟨by omega, q2⟩
     · exact ⟨by omega, by show ((tms xs).length + 1) * 16 ≤ _; omega⟩
     intro cap3 tt3 hc3 hc4 _
     refine WL_nil ?_; refine nq_walk ⟨fun _ => t_, ?_⟩; refine d_ ?_
     refine d_ ?_
     refine WS_loud rfl ?_ hkl
     refine WL_store rfl rfl trivial ?_
     refine WL_nil ?_
     refine nq_walk ⟨fun h => (by cases h), ?_⟩
     refine d_ ?_
     exact ⟨_, _, rfl, s_, (cap3, tt3), [0, 1, 2, 3, 6], s_, rfl, rfl, rfl, rfl, s_, ⟨by omega, hc4⟩⟩
theorem exdate_tri (t s : Int) (hb : Bool) (xs : List Int) (hx : xs.length ≤ 1000000000000) (yl : Bool × Nat) (m : Option Nat) (hg : GOKR (tms xs) yl m) (yo : Bool × Nat) (no : Nat) :
 Tri C0 173 4 [(0, setO s (pQ hb 3) (slI yo 2 2 no) (slI yl 1 2 xs.length)), (1, .recs 88 m K2 (tms xs))] [.ptr 0 0, tsec t 0]
 (Fin' (fun _ => 5) (fun q : Nat × Nat => [(0, setO s (pQ hb 3) (slI yo 2 2 no) (.sl false 4 2 0 (xs.length + 1) q.1)), (4, .recs 88 (some q.2) K2 (tms xs ++ [[t, 0]]))]) (fun _ => .tup []) (fun q => xs.length + 1 ≤ q.1 ∧ q.1 * 2 ≤ q.2)) := by
 refine Tri.renX ?_
 cases hb with
 | false =>
   rcases hg with ⟨rfl, rfl, hxs⟩ | ⟨tt0, cap0, rfl, rfl, q1, q2⟩
   · obtain rfl : xs = [] := by simpa using hxs
     refine Tri.mk 15 [] Tryz.func173 rfl rfl rfl rfl cf173 ?_; intro w0 S T ρ0
     refine w_ ?_
     refine W_draw [0, 4] [] 12 mo0 (by kernel_rfl) (by kernel_rfl) (fun ρ1 hkl => ?_); refine d_ ?_
     refine WS_loud rfl ?_ hkl; refine WL_call [] (truncate_tri t 0 1000000000) rfl rfl rfl t_ t_ rfl rfl rfl rfl ?_; rintro _ _ _ ⟨rfl, rfl, rfl⟩; refine WL_nil ?_; refine nq_walk ⟨fun _ => t_, ?_⟩; refine d_ ?_
     refine WS_loud rfl ?_ hkl
     refine WL_new rfl rfl rfl ?_
     refine WL_nil ?_; refine nq_walk ⟨fun _ => t_, ?_⟩; refine d_ ?_
     refine WS_loud rfl ?_ hkl
     refine WL_imp (Imp_tm 8 (.v (.slice none 0 0)) rfl (fun _ => rfl) trivial) ?_
     refine WL_appN (FamR 88 K2) [[t, 0]] rfl rfl rfl rfl rfl rfl rfl rfl rfl rfl rfl rfl rfl (Nat.le_of_ble_eq_true rfl) (Nat.le_refl _) ⟨Nat.le_of_ble_eq_true rfl, Nat.le_of_ble_eq_true rfl⟩ ?_
     intro cap3 tt3 hc3 hc4
     refine WL_nil ?_; refine nq_walk ⟨fun _ => t_, ?_⟩; refine d_ ?_
     refine d_ ?_
     refine WS_loud rfl ?_ hkl
     refine WL_store rfl rfl trivial ?_
     refine WL_nil ?_
     refine nq_walk ⟨fun h => (by cases h), ?_⟩
     refine d_ ?_
     exact ⟨_, _, rfl, s_, (cap3, tt3), [0, 1, 2, 3, 6], s_, rfl, rfl, rfl, rfl, s_, ⟨hc3, hc4⟩⟩
   · have htl : (tms xs).length = xs.length := by simp
     rw [htl] at q1
     refine Tri.mk 15 [] Tryz.func173 rfl rfl rfl rfl cf173 ?_; intro w0 S T ρ0
     refine w_ ?_
     rw [← htl]
     refine W_draw [0, 4] [] 12 mo0 (by kernel_rfl) (by kernel_rfl) (fun ρ1 hkl => ?_); refine d_ ?_
     refine WS_loud rfl ?_ hkl; refine WL_call [] (truncate_tri t 0 1000000000) rfl rfl rfl t_ t_ rfl rfl rfl rfl ?_; rintro _ _ _ ⟨rfl, rfl, rfl⟩; refine WL_nil ?_; refine nq_walk ⟨fun _ => t_, ?_⟩; refine d_ ?_
     refine WS_loud rfl ?_ hkl
     refine WL_new rfl rfl rfl ?_
     refine WL_nil ?_; refine nq_walk ⟨fun _ => t_, ?_⟩; refine d_ ?_
     refine WS_loud rfl ?_ hkl
     refine WL_app1 (FamR 88 K2) (tms xs) ([t, 0]) rfl rfl rfl rfl rfl rfl rfl rfl rfl rfl rfl rfl rfl rfl ?_ ?_ ?_
     · exact ⟨by omega, q2⟩
     · exact ⟨by omega, by show ((tms xs).length + 1) * 16 ≤ _; omega⟩
     intro cap3 tt3 hc3 hc4 _
     refine WL_nil ?_; refine nq_walk ⟨fun _ => t_, ?_⟩; refine d_ ?_
     refine d_ ?_
     refine WS_loud rfl ?_ hkl
     refine WL_store rfl rfl trivial ?_
     refine WL_nil ?_
     refine nq_walk ⟨fun h => (by cases h), ?_⟩
     refine d_ ?_
     exact ⟨_, _, rfl, s_, (cap3, tt3), [0, 1, 2, 3, 6], s_, rfl, rfl, rfl, rfl, s_, ⟨by omega, hc4⟩⟩
 | true =>
   rcases hg with ⟨rfl, rfl, hxs⟩ | ⟨tt0, cap0, rfl, rfl, q1, q2⟩
   · obtain rfl : xs = [] := by simpa using hxs
     refine Tri.mk 15 [] Tryz.func173 rfl rfl rfl rfl cf173 ?_; intro w0 S T ρ0
     refine w_ ?_
     refine W_draw [0, 4] [] 12 mo0 (by kernel_rfl) (by kernel_rfl) (fun ρ1 hkl => ?_); refine d_ ?_
     refine WS_loud rfl ?_ hkl; refine WL_call [] (truncate_tri t 0 1000000000) rfl rfl rfl t_ t_ rfl rfl rfl rfl ?_; rintro _ _ _ ⟨rfl, rfl, rfl⟩; refine WL_nil ?_; refine nq_walk ⟨fun _ => t_, ?_⟩; refine d_ ?_
     refine WS_loud rfl ?_ hkl
     refine WL_new rfl rfl rfl ?_
     refine WL_nil ?_; refine nq_walk ⟨fun _ => t_, ?_⟩; refine d_ ?_
     refine WS_loud rfl ?_ hkl
     refine WL_imp (Imp_tm 8 (.v (.slice none 0 0)) rfl (fun _ => rfl) trivial) ?_
     refine WL_appN (FamR 88 K2) [[t, 0]] rfl rfl rfl rfl rfl rfl rfl rfl rfl rfl rfl rfl rfl (Nat.le_of_ble_eq_true rfl) (Nat.le_refl _) ⟨Nat.le_of_ble_eq_true rfl, Nat.le_of_ble_eq_true rfl⟩ ?_
     intro cap3 tt3 hc3 hc4
     refine WL_nil ?_; refine nq_walk ⟨fun _ => t_, ?_⟩; refine d_ ?_
     refine d_ ?_
     refine WS_loud rfl ?_ hkl
     refine WL_store rfl rfl trivial ?_
     refine WL_nil ?_
     refine nq_walk ⟨fun h => (by cases h), ?_⟩
     refine d_ ?_
     exact ⟨_, _, rfl, s_, (cap3, tt3), [0, 1, 2, 3, 6], s_, rfl, rfl, rfl, rfl, s_, ⟨hc3, hc4⟩⟩
   · have htl : (tms xs).length = xs.length := by simp
     rw [htl] at q1
     refine Tri.mk 15 [] Tryz.func173 rfl rfl rfl rfl cf173 ?_; intro w0 S T ρ0
     refine w_ ?_
     rw [← htl]
     refine W_draw [0, 4] [] 12 mo0 (by kernel_rfl) (by kernel_rfl) (fun ρ1 hkl => ?_); refine d_ ?_
     refine WS_loud rfl ?_ hkl; refine WL_call [] (truncate_tri t 0 1000000000) rfl rfl rfl t_ t_ rfl rfl rfl rfl ?_; rintro _ _ _ ⟨rfl, rfl, rfl⟩; refine WL_nil ?_; refine nq_walk ⟨fun _ => t_, ?_⟩; refine d_ ?_
     refine WS_loud rfl ?_ hkl
     refine WL_new rfl rfl rfl ?_
     refine WL_nil ?_; refine nq_walk ⟨fun _ => t_, ?_⟩; refine d_ ?_
     refine WS_loud rfl ?_ hkl
     refine WL_app1 (FamR 88 K2) (tms xs) ([t, 0]) rfl rfl rfl rfl rfl rfl rfl rfl rfl rfl rfl rfl rfl rfl ?_ ?_ ?_
     · exact ⟨by omega, q2⟩
     · exact ⟨by omega, by show ((tms xs).length + 1) * 16 ≤ _; omega⟩
     intro cap3 tt3 hc3 hc4 _
     refine WL_nil ?_; refine nq_walk ⟨fun _ => t_, ?_⟩; refine d_ ?_
     refine d_ ?_
     refine WS_loud rfl ?_ hkl
     refine WL_store rfl rfl trivial ?_
     refine WL_nil ?_
     refine nq_walk ⟨fun h => (by cases h), ?_⟩
     refine d_ ?_
     exact ⟨_, _, rfl, s_, (cap3, tt3), [0, 1, 2, 3, 6], s_, rfl, rfl, rfl, rfl, s_, ⟨by omega, hc4⟩⟩
end Go.Eng
