/- A part of the proof that the rows statement FnSetAny holds: the engine of abstract states, the walks through the program, the bridge; no conditions. -/
import Derived.Test.YthkgjhnckakliaaGreatDoorZAO
import Derived.Test.YthkgjhnckakliaaGreatDoorZBL
import Derived.Test.YthkgjhnckakliaaGreatDoorZBN
set_option linter.unusedVariables false
set_option linter.unusedSimpArgs false
set_option linter.unusedSectionVars false
namespace Go.Eng
open Go.Proofs
def FRB (z : RZ) : Prop := 0 ≤ z.fr ∧ z.fr ≤ 6
theorem freqZ_bd {s : List UInt8} {f : Int} (h : freqZ s = some f) : 0 ≤ f ∧ f ≤ 6 := by
  unfold freqZ at h
  repeat' (split at h)
  all_goals first | (cases h; done) | (simp only [Option.some.injEq] at h; omega)
theorem FRB_zero (p : Int) : FRB { RZ.zero with st := p } := by unfold FRB RZ.zero; simp only; omega
theorem partZ_FRB {z : RZ} {k v : List UInt8} (h : FRB z) : FRB (partZ z k v).1 := by
  by_cases hFREQ : k = [70, 82, 69, 81]
  · subst hFREQ; rw [partZ_FREQ]
    exact okZ_cases h fun a e => freqZ_bd e
  by_cases hDTSTART : k = [68, 84, 83, 84, 65, 82, 84]
  · subst hDTSTART; rw [partZ_DTSTART]
    split <;> exact h
  by_cases hUNTIL : k = [85, 78, 84, 73, 76]
  · subst hUNTIL; rw [partZ_UNTIL]
    split <;> exact h
  by_cases hINTERVAL : k = [73, 78, 84, 69, 82, 86, 65, 76]
  · subst hINTERVAL; rw [partZ_INTERVAL]
    exact okZ_cases h fun a e => h
  by_cases hCOUNT : k = [67, 79, 85, 78, 84]
  · subst hCOUNT; rw [partZ_COUNT]
    exact okZ_cases h fun a e => h
  by_cases hWKST : k = [87, 75, 83, 84]
  · subst hWKST; rw [partZ_WKST]
    split
    · split <;> exact h
    · exact h
  by_cases hBYDAY : k = [66, 89, 68, 65, 89]
  · subst hBYDAY; rw [partZ_BYDAY]
    exact okZ_cases h fun a e => h
  by_cases hBYSETPOS : k = [66, 89, 83, 69, 84, 80, 79, 83]
  · subst hBYSETPOS; rw [partZ_BYSETPOS]
    exact okZ_cases h fun a e => h
  by_cases hBYMONTH : k = [66, 89, 77, 79, 78, 84, 72]
  · subst hBYMONTH; rw [partZ_BYMONTH]
    exact okZ_cases h fun a e => h
  by_cases hBYMONTHDAY : k = [66, 89, 77, 79, 78, 84, 72, 68, 65, 89]
  · subst hBYMONTHDAY; rw [partZ_BYMONTHDAY]
    exact okZ_cases h fun a e => h
  by_cases hBYYEARDAY : k = [66, 89, 89, 69, 65, 82, 68, 65, 89]
  · subst hBYYEARDAY; rw [partZ_BYYEARDAY]
    exact okZ_cases h fun a e => h
  by_cases hBYWEEKNO : k = [66, 89, 87, 69, 69, 75, 78, 79]
  · subst hBYWEEKNO; rw [partZ_BYWEEKNO]
    exact okZ_cases h fun a e => h
  by_cases hBYHOUR : k = [66, 89, 72, 79, 85, 82]
  · subst hBYHOUR; rw [partZ_BYHOUR]
    exact okZ_cases h fun a e => h
  by_cases hBYMINUTE : k = [66, 89, 77, 73, 78, 85, 84, 69]
  · subst hBYMINUTE; rw [partZ_BYMINUTE]
    exact okZ_cases h fun a e => h
  by_cases hBYSECOND : k = [66, 89, 83, 69, 67, 79, 78, 68]
  · subst hBYSECOND; rw [partZ_BYSECOND]
    exact okZ_cases h fun a e => h
  by_cases hBYEASTER : k = [66, 89, 69, 65, 83, 84, 69, 82]
  · subst hBYEASTER; rw [partZ_BYEASTER]
    exact okZ_cases h fun a e => h
  rw [partZ_other z k v hFREQ hDTSTART hUNTIL hINTERVAL hCOUNT hWKST hBYDAY hBYSETPOS hBYMONTH hBYMONTHDAY hBYYEARDAY hBYWEEKNO hBYHOUR hBYMINUTE hBYSECOND hBYEASTER]; exact h
theorem loopZ_FRB : ∀ (l : List (List UInt8)) (z : RZ) (fq : Bool), FRB z → FRB (loopZ z fq l).1
  | [], z, fq, h => by
    simp only [loopZ]; split
    · exact h
    · exact FRB_zero 0
  | p :: l, z, fq, h => by
    simp only [loopZ]
    split
    · split
      · exact FRB_zero 0
      · split
        · exact loopZ_FRB l _ _ (partZ_FRB h)
        · exact FRB_zero 0
    · exact FRB_zero 0
theorem optZ_FRB (s : List UInt8) : FRB (optZ s).1 := by
  unfold optZ
  generalize splitB 10 (Lib.trimSpace s) = ls
  match ls with
  | [] => exact FRB_zero 0
  | [x] => exact loopZ_FRB _ _ _ (FRB_zero 0)
  | [d, x] =>
    simp only [optL]
    split
    · exact FRB_zero 0
    · split
      · exact FRB_zero 0
      · split
        · exact loopZ_FRB _ _ _ (FRB_zero _)
        · exact FRB_zero 0
  | a :: b :: c :: l => exact FRB_zero 0
def KK : Nat := 536870913
structure ZB (k : Nat) (s : SZ) : Prop where
  zero : s.has = false → s.z = RZ.zero
  fr : FRB s.z
  len : LEN s.z
  rd : s.rd.length ≤ k * KK
  ex : s.ex.length ≤ k * KK
theorem ZB_zero : ZB 0 SZ.zero := ⟨fun _ => rfl, FRB_zero 0, LEN_zero 0, Nat.zero_le _, Nat.zero_le _⟩
theorem nameLine_ZB {f : Bool} {s : SZ} {n x : List UInt8} {k : Nat} (h : ZB k s) (hx : x.length ≤ 300) (h0 : (nameLine f s n x).2 = 0) : ZB (k + 1) (nameLine f s n x).1 := by
  obtain ⟨a, b, c, d, e⟩ := h
  have hk : (k + 1) * KK = k * KK + KK := Nat.succ_mul k _
  have hKK : KK = 536870913 := rfl
  unfold nameLine at *
  split at h0
  · rename_i h1; rw [if_pos h1]
    split at h0
    · rename_i h2; rw [if_pos h2]; exact ⟨a, b, c, by show s.rd.length ≤ _; omega, by show s.ex.length ≤ _; omega⟩
    · rename_i h2; exact absurd h0 h2
  · rename_i h1; rw [if_neg h1]
    split at h0
    · rename_i h3; rw [if_pos h3]
      split at h0
      · rename_i h2; rw [if_pos h2]
        split at h0
        · rename_i h4; rw [if_pos h4]
          exact ⟨(fun h => by cases h), optZ_FRB x, optZ_LEN (by omega), by show s.rd.length ≤ _; omega, by show s.ex.length ≤ _; omega⟩
        · cases h0
      · rename_i h2; exact absurd h0 h2
    · rename_i h3; rw [if_neg h3]
      split at h0
      · rename_i h5; rw [if_pos h5]
        split at h0
        · rename_i h2; rw [if_pos h2]
          have := datesZ_pos h2 (by omega)
          exact ⟨a, b, c, by show (s.rd ++ (datesZ x).1).length ≤ _; rw [List.length_append]; omega, by show s.ex.length ≤ _; omega⟩
        · rename_i h2; exact absurd h0 h2
      · rename_i h5; rw [if_neg h5]
        split at h0
        · rename_i h6; rw [if_pos h6]
          split at h0
          · rename_i h2; rw [if_pos h2]
            have := datesZ_pos h2 (by omega)
            exact ⟨a, b, c, by show s.rd.length ≤ _; omega, by show (s.ex ++ (datesZ x).1).length ≤ _; rw [List.length_append]; omega⟩
          · rename_i h2; exact absurd h0 h2
        · rename_i h6; rw [if_neg h6]
          exact ⟨a, b, c, by show s.rd.length ≤ _; omega, by show s.ex.length ≤ _; omega⟩
theorem lineZ_ZB {f : Bool} {s : SZ} {l : List UInt8} {k : Nat} (h : ZB k s) (hx : l.length ≤ 300) (h0 : (lineZ f s l).2 = 0) : ZB (k + 1) (lineZ f s l).1 := by
  unfold lineZ at *
  split at h0
  · cases h0
  · rename_i h1; rw [if_neg h1]
    unfold lineC at *
    cases hn : nameZ l with
    | none => rw [hn] at h0; cases h0
    | some n =>
      rw [hn] at h0
      exact nameLine_ZB h (by rw [List.length_drop]; omega) h0
theorem linesZ_ZB : ∀ (ls : List (List UInt8)) (f : Bool) (s : SZ) (k : Nat), ZB k s → (∀ l ∈ ls, l.length ≤ 300) → (linesZ f s ls).2 = 0 → ZB (k + ls.length) (linesZ f s ls).1
  | [], f, s, k, h, _, _ => h
  | l :: ls, f, s, k, h, hl, h0 => by
    simp only [linesZ] at h0 ⊢
    split at h0
    · rename_i h1; rw [if_pos h1]
      have := linesZ_ZB ls false _ (k + 1) (lineZ_ZB h (hl l (by simp)) h1) (fun x hx => hl x (List.mem_cons_of_mem _ hx)) h0
      rw [show k + (l :: ls).length = k + 1 + ls.length by simp; omega]
      exact this
    · rename_i h1; exact absurd h0 h1
theorem lines_ZOK {ls : List (List UInt8)} (hn : ls.length ≤ 40) (hl : ∀ l ∈ ls, l.length ≤ 300) (h0 : (linesZ true SZ.zero ls).2 = 0) : ZOK (linesZ true SZ.zero ls).1 := by
  obtain ⟨a, b, c, d, e⟩ := linesZ_ZB ls true SZ.zero 0 ZB_zero hl h0
  have hk : (0 + ls.length) * KK ≤ 40 * KK := Nat.mul_le_mul_right _ (by omega)
  have hKK : KK = 536870913 := rfl
  exact ⟨a, b, c, by omega, by omega⟩
theorem ZOK_told {s : SZ} (h : ZOK s) (st2 : Int) : ZOK (toldZ s st2) := by
  obtain ⟨a, b, c, d, e⟩ := h
  refine ⟨fun hh => ?_, b, c, d, e⟩
  show ({ s.z with st := if s.has = true then st2 else 0 } : RZ) = RZ.zero
  rw [a hh, if_neg (by rw [show s.has = false from hh]; decide)]
  rfl
attribute [local irreducible] W WL LP Then InBl Tri WS
def plR (O : SZ × Nat) : Rs := fun k hp r =>
  (O.2 = 0 ∧ ∃ st2 y, SOK (toldZ O.1 st2) y ∧ k = 14 ∧ hp = (13, .cells 40 (some 22) (cellsT (toldZ O.1 st2) y 1)) :: setHp 110 (toldZ O.1 st2) 1 ∧ r = .tup [.agg (cellsT (toldZ O.1 st2) y 1), .bool true]) ∨
  (O.2 = 1 ∧ k = 2 ∧ hp = [(1, .cells 40 (some 22) zcT)] ∧ r = .tup [.agg zcT, .bool false])
theorem parseLinesP_tri (ek : TypeId) (nl : Bool) (cap : Nat) (ls : List (List UInt8)) (hc : ls.length ≤ cap) (hn : ls.length ≤ 40) (hl : ∀ l ∈ ls, l.length ≤ 300) (hop : (linesZ true SZ.zero ls).2 ≠ 2) :
    Tri C0 15 1 [(0, .strs ek none ls)] [.sl nl 0 1 0 ls.length cap] (plR (linesZ true SZ.zero ls)) := by
  have TT := setLines_tri ek nl cap ls hc hn hl hop
  have hz := lines_ZOK hn hl
  generalize linesZ true SZ.zero ls = O at *
  refine Tri.mk 16 [.cell 2 40, .tmp 3] Tryz.func15 rfl rfl rfl rfl cf15 ?_; intro w0 S T ρ0
  refine w_ ?_
  refine WL_call [0] TT rfl rfl rfl (s_) (s_) rfl rfl rfl rfl ?_
  rintro _ _ _ (⟨p0, q, hq, rfl, rfl, rfl⟩ | ⟨p1, rfl, rfl, t, p, rfl⟩)
  rotate_left 1
  · refine w_ ?_
    refine W_cond_true rfl ?_
    refine w_ ?_
    refine W_renG [0, 1] (n := 2) (tm' := [(2, .ptr 1 0), (3, .bool false)]) (hp' := [(1, .cells 40 (some 22) zcT)]) ?_ s_ s_ rfl rfl rfl
    refine r_ ?_ ?_
    · exact s_
    · exact .inr ⟨p1, rfl, rfl, rfl⟩
  · have hz := hz p0
    have hgr := GOKR_le hq.gr
    have hge := GOKR_le hq.ge
    obtain ⟨⟨st, has, z, rd, ex⟩, c⟩ := O
    obtain ⟨y, vs, st2, yr, ye, mr, me⟩ := q
    cases has with
    | false =>
      refine w_ ?_
      refine W_cond_false rfl ?_
      refine w_ ?_
      refine WL_imp (Imp_conv 14 (.recs 88 none K2 (tms rd)) rfl rfl rfl rfl (.inl rfl) ⟨[], by simp [AO.avs, AO.ren]⟩) ?_
      refine WL_imp (Imp_conv 15 (.recs 88 none K2 (tms ex)) rfl rfl rfl rfl (.inl rfl) ⟨[], by simp [AO.avs, AO.ren]⟩) ?_
      refine WL_call [2, 3, 4, 5, 6, 7, 8, 9, 10, 11, 12, 13, 14, 15] (toldSet_tri ⟨st, false, z, rd, ex⟩ ⟨y, vs, st2, yr, ye, none, none⟩ hq.lok hgr hge hz) rfl rfl rfl (s_) (s_) rfl rfl rfl rfl ?_
      rintro _ _ _ ⟨y2, rfl, rfl, rfl, hy2⟩
      refine w_ ?_
      refine W_renG [0, 16, 17, 18, 19, 20, 21, 22, 23, 24, 25, 26, 27, 1] (n := 14) (tm' := [(2, .ptr 13 0), (3, .bool true)]) (hp' := (13, .cells 40 (some 22) (cellsT (toldZ ⟨st, false, z, rd, ex⟩ st2) y2 1)) :: setHp 110 (toldZ ⟨st, false, z, rd, ex⟩ st2) 1) ?_ s_ s_ rfl rfl rfl
      refine r_ ?_ ?_
      · exact s_
      · exact .inl ⟨p0, st2, y2, hy2, rfl, rfl, rfl⟩
    | true =>
      refine w_ ?_
      refine W_cond_false rfl ?_
      refine w_ ?_
      refine WL_imp (Imp_conv 14 (.recs 88 none K2 (tms rd)) rfl rfl rfl rfl (.inl rfl) ⟨[], by simp [AO.avs, AO.ren]⟩) ?_
      refine WL_imp (Imp_conv 15 (.recs 88 none K2 (tms ex)) rfl rfl rfl rfl (.inl rfl) ⟨[], by simp [AO.avs, AO.ren]⟩) ?_
      refine WL_call [2, 3, 4, 5, 6, 7, 8, 9, 10, 11, 12, 13, 14, 15] (toldSet_tri ⟨st, true, z, rd, ex⟩ ⟨y, vs, st2, yr, ye, none, none⟩ hq.lok hgr hge hz) rfl rfl rfl (s_) (s_) rfl rfl rfl rfl ?_
      rintro _ _ _ ⟨y2, rfl, rfl, rfl, hy2⟩
      refine w_ ?_
      refine W_renG [0, 16, 17, 18, 19, 20, 21, 22, 23, 24, 25, 26, 27, 1] (n := 14) (tm' := [(2, .ptr 13 0), (3, .bool true)]) (hp' := (13, .cells 40 (some 22) (cellsT (toldZ ⟨st, true, z, rd, ex⟩ st2) y2 1)) :: setHp 110 (toldZ ⟨st, true, z, rd, ex⟩ st2) 1) ?_ s_ s_ rfl rfl rfl
      refine r_ ?_ ?_
      · exact s_
      · exact .inl ⟨p0, st2, y2, hy2, rfl, rfl, rfl⟩
end Go.Eng
namespace Go.Eng
open Go.Proofs
attribute [local irreducible] W WL LP Then InBl Tri WS
theorem d2_ {g A B : Prop} (k : A) (l : B) (h : Hd A → Hd B → g := by
  intro k l
  repeat (first | refine WS_nil ?_ | refine nq_walk ?_ | refine W_seq ?_ | refine W_region ?_ | refine WL_nil ?_ | refine W_skip ?_ | refine then_normal ?_ | refine inbl_normal ?_ | refine W_block ?_ | (apply WL_val; exact rfl; exact rfl; exact rfl; first | exact trivial | omega | exact hside | exact hsid1 | exact hsid2 | (simp only [rng]; omega) | (simp only [rng, List.length_nil, List.length_cons]; omega) | decide) | (apply WL_skip; exact rfl; exact rfl) | (refine WL_skip0 rfl ?_) | (refine WL_new rfl rfl rfl ?_) | (refine WL_store rfl rfl trivial ?_) | (refine WL_store rfl rfl (by first | exact trivial | omega | exact hside | exact hsid1 | exact hsid2 | (simp only [rng]; omega) | (simp only [rng, List.length_nil, List.length_cons]; omega) | decide) ?_) | (refine WL_store0 rfl rfl rfl rfl rfl rfl ?_) | (apply WS_val; exact rfl; exact rfl; exact rfl; exact rfl; exact rfl; first | exact trivial | omega | exact hside | exact hsid1 | exact hsid2 | (simp only [rng]; omega) | (simp only [rng, List.length_nil, List.length_cons]; omega) | decide) | (apply WS_skip; exact rfl; (intro h; cases h); exact rfl))
  exact k.h
  exact l.h) : g := h ⟨k⟩ ⟨l⟩
theorem awake0 : Tri C0 11 0 [] [] (fun k hp r => k = 0 ∧ hp = [] ∧ r = .bool true) := Tri.keep (Tri.mono awake_tri (fun _ _ _ h => ⟨trivial, h⟩)) trivial (by rintro r rfl; trivial)
theorem easter_tri (z : RZ) (y : LY) (hy : LOK z y) (hL : LEN z) : Tri C0 9 10 (lstHp 95 z 0) [.agg (cellsS z y 0)] (fun k hp r => k = 10 ∧ hp = lstHp 95 z 0 ∧ ∃ b, r = .bool b) := by
  have h8 := hL.2.2.2.2.2.2.2.2.1
  have o8 := hy.2.2.2.2.2.2.2.2.1
  refine Tri.keep ?_ (s_) (by rintro r ⟨b, rfl⟩; trivial)
  refine Tri.mk 19 [.tmp 2] Tryz.func9 rfl rfl rfl rfl cf9 ?_; intro w0 S T ρ0
  refine w_ ?_
  refine W_loop ?_; refine LP_ren [0, 1, 2, 3, 4, 5, 6, 7, 8, 9, 10] (LP_ind 11 (fun i : Nat => ([(6, slI y.y8 8 1 z.l8.length), (7, .int .i64 z.l8.length), (8, .int .i64 i)], lstHp 95 z 0)) (fun i => z.l8.length - i) (fun i => i ≤ z.l8.length) 0 ?_ (Nat.zero_le _)) s_ s_ rfl rfl rfl
  intro i g1 ih
  refine LP_round ?_; try dsimp only
  refine w_ ?_
  refine i_ ?_ ?_ <;> intro h
  rotate_left 1
  · refine w_ ?_
    refine x_ ?_
    refine w_ ?_
    refine W_ret ?_; (repeat (first | refine then_ret ?_ | refine inbl_ret ?_))
    exact ⟨_, _, rfl, s_, s_, true, rfl⟩
  have h : i < z.l8.length := by omega
  refine w_ ?_
  rw [show 0 + (i : Int).toNat = i by omega]
  refine w_ ?_
  refine j_ 14 ?_ ?_ <;> intro h2
  · refine w_ ?_
    refine W_cond_true rfl ?_
    refine w_ ?_
    refine W_ret ?_; (repeat (first | refine then_ret ?_ | refine inbl_ret ?_))
    exact ⟨_, _, rfl, s_, s_, false, rfl⟩
  · refine w_ ?_
    refine i_ ?_ ?_ <;> intro h3
    · refine w_ ?_
      refine W_ret ?_; (repeat (first | refine then_ret ?_ | refine inbl_ret ?_))
      exact ⟨_, _, rfl, s_, s_, false, rfl⟩
    · refine w_ ?_
      exact LP_renG [0, 1, 2, 3, 4, 5, 6, 7, 8, 9, 10] (ih (i + 1) (by omega) (by omega)) s_ s_ rfl rfl rfl
theorem fits3_tri (ek : TypeId) (nl : Bool) (cap : Nat) (ls : List (List UInt8)) (hc : ls.length ≤ cap) : Tri C0 32 1 [(0, .strs ek none ls)] [.sl nl 0 1 0 ls.length cap] (fun k hp r => k = 1 ∧ hp = [(0, .strs ek none ls)] ∧ ∃ b, r = .bool b) := by
  refine Tri.keep ?_ (s_) (by rintro r ⟨b, rfl⟩; trivial)
  refine Tri.mk 18 [.tmp 2] Tryz.func32 rfl rfl rfl rfl cf32 ?_; intro w0 S T ρ0
  refine w_ ?_
  refine i_ ?_ ?_ <;> intro h0
  · refine w_ ?_
    refine W_ret ?_; (repeat (first | refine then_ret ?_ | refine inbl_ret ?_))
    exact ⟨_, _, rfl, s_, s_, false, rfl⟩
  refine w_ ?_
  refine W_loop ?_; refine LP_ren [0] (LP_ind 1 (fun i : Nat => ([(8, .sl nl 0 1 0 ls.length cap), (9, .int .i64 ls.length), (10, .int .i64 i)], [(0, .strs ek none ls)])) (fun i => ls.length - i) (fun i => i ≤ ls.length) 0 ?_ (Nat.zero_le _)) s_ s_ rfl rfl rfl
  intro i g1 ih
  refine LP_round ?_; try dsimp only
  refine w_ ?_
  refine i_ ?_ ?_ <;> intro h
  rotate_left 1
  · refine w_ ?_
    refine x_ ?_
    refine w_ ?_
    refine W_ret ?_; (repeat (first | refine then_ret ?_ | refine inbl_ret ?_))
    exact ⟨_, _, rfl, s_, s_, true, rfl⟩
  have h : i < ls.length := by omega
  refine w_ ?_
  refine i_ ?_ ?_ <;> intro h2
  · refine w_ ?_
    refine W_ret ?_; (repeat (first | refine then_ret ?_ | refine inbl_ret ?_))
    exact ⟨_, _, rfl, s_, s_, false, rfl⟩
  · refine w_ ?_
    refine LP_ren [0] (ih (i + 1) (by omega) (by omega)) ?_ ?_ rfl rfl rfl
    · exact s_
    · exact s_
set_option maxRecDepth 8192 in
set_option maxHeartbeats 4000000 in
theorem setAny_tri (ek : TypeId) (nl : Bool) (cap : Nat) (ls : List (List UInt8)) (hc : ls.length ≤ cap) : Tri C0 6 1 [(0, .strs ek none ls)] [.sl nl 0 1 0 ls.length cap] (fun k hp r => k = 1 ∧ hp = [(0, .strs ek none ls)] ∧ r = .bool true) := by
  refine Tri.keep (Tri.mk 88 [.tmp 2] Tryz.func6 rfl rfl rfl rfl cf6 ?_) t_ (fun r h => q_); intro w0 S T ρ0
  refine w_ ?_
  refine WL_callR [0] (fits3_tri ek nl cap ls hc) rfl rfl rfl t_ t_ rfl rfl rfl rfl ?_; rintro _ ⟨b0,rfl⟩
  refine w_ ?_
  refine i_ ?_ ?_ <;> intro h0
  · refine w_ ?_
    refine k_ ?_
    rfl
  refine w_ ?_
  refine i_ ?_ ?_ <;> intro h1
  · refine w_ ?_
    refine WL_callR [] (awake0) rfl rfl rfl t_ t_ rfl rfl rfl rfl ?_; rintro _ rfl
    refine w_ ?_
    refine k_ ?_
    rfl
  have hn : ls.length ≤ 40 := by omega
  clear h1 h0
  refine w_ ?_
  refine W_loop ?_; refine LP_ren [0] (LP_ind 1 (fun i : Nat => ([(0, .sl nl 0 1 0 ls.length cap), (21, .sl nl 0 1 0 ls.length cap), (22, .int .i64 ls.length), (23, .int .i64 i)], [(0, .strs ek none ls)])) (fun i => ls.length - i) (fun i => i ≤ ls.length ∧ ∀ k, k < i → (ls.getD k []).length ≤ 300) 0 ?_ (⟨Nat.zero_le _, fun k hk => absurd hk (Nat.not_lt_zero _)⟩)) s_ s_ rfl rfl rfl
  rintro i ⟨g1, g2⟩ ih
  refine LP_round ?_; try dsimp only
  refine w_ ?_
  refine i_ ?_ ?_ <;> intro h
  · have h : i < ls.length := by omega
    refine w_ ?_
    rw [show 0 + (i : Int).toNat = i by omega]
    refine w_ ?_
    refine i_ ?_ ?_ <;> intro h2
    · refine w_ ?_
      refine WL_callR [] (awake0) rfl rfl rfl t_ t_ rfl rfl rfl rfl ?_; rintro _ rfl
      refine w_ ?_
      refine k_ ?_
      rfl
    · refine w_ ?_
      refine LP_ren [0] (ih (i + 1) ⟨by omega, fun k hk => by
        rcases Nat.lt_succ_iff_lt_or_eq.1 hk with h3 | h3
        · exact g2 k h3
        · subst h3; omega⟩ (by omega)) ?_ ?_ rfl rfl rfl
      · exact s_
      · exact s_
  have h : i = ls.length := by omega
  have hl : ∀ l ∈ ls, l.length ≤ 300 := by
    intro l hl
    obtain ⟨k, hk, rfl⟩ := List.getElem_of_mem hl
    have := g2 k (by omega)
    simpa [List.getD, hk] using this
  clear ih g1 g2 h
  refine w_ ?_
  refine x_ ?_
  refine w_ ?_
  refine WL_call [0] (parseLinesS_tri ek nl cap ls hc hn hl) rfl rfl rfl (s_) (s_) rfl rfl rfl rfl ?_
  obtain ⟨O, hO⟩ : ∃ O, O = linesZ true SZ.zero ls := ⟨_, rfl⟩
  have TP := fun hop => parseLinesP_tri ek nl cap ls hc hn hl hop
  have hzk := lines_ZOK hn hl
  rw [← hO] at TP hzk ⊢
  rintro _ _ _ (⟨p0, y, hy, rfl, rfl, rfl⟩ | ⟨p0, rfl, rfl, rfl⟩)
  rotate_left 1
  · by_cases h2 : O.2 = 2
    · rw [h2]
      refine w_ ?_
      refine W_cond_true rfl ?_
      refine w_ ?_
      refine WL_callR [] (awake0) rfl rfl rfl t_ t_ rfl rfl rfl rfl ?_; rintro _ rfl
      refine w_ ?_
      refine k_ ?_
      rfl
    have hO2 : ¬ ((O.2 : Nat) : Int) = 2 := by omega
    have TP := TP h2
    refine w_ ?_
    refine i_ ?_ ?_ <;> intro h3
    · exact absurd h3 hO2
    refine w_ ?_
    refine W_loop ?_
    refine LP_renG [0, 2] (LP_ind 2 (fun i : Nat => ([(0, .sl nl 0 1 0 ls.length cap), (5, .ptr 1 0), (6, .int .u8 (O.2 : Nat)), (40, .sl nl 0 1 0 ls.length cap), (41, .int .i64 ls.length), (42, .int .i64 i)], (0, .strs ek none ls) :: (1, .cells 28 (some 22) zcT) :: [])) (fun i => ls.length - i) (fun i => i ≤ ls.length) 0 ?_ (Nat.zero_le _)) ?_ ?_ rfl rfl rfl
    rotate_left 1
    · exact s_
    · exact s_
    intro i g1 ih
    refine LP_round ?_; try dsimp only
    refine w_ ?_
    refine i_ ?_ ?_ <;> intro h
    rotate_left 1
    · refine w_ ?_
      refine x_ ?_
      refine w_ ?_
      refine WL_call [0] TP rfl rfl rfl (s_) (s_) rfl rfl rfl rfl ?_
      rintro _ _ _ (⟨p1, st2, y2, hy2, rfl, rfl, rfl⟩ | ⟨p1, rfl, rfl, rfl⟩)
      · exact absurd p1 p0
      rw [p1]
      refine w_ ?_
      refine W_draw [] [] 18 mo0 (by kernel_rfl) (by kernel_rfl) (fun ρ1 hkl => ?_); refine d_ ?_
      refine WS_loud rfl ?_ hkl
      refine WL_callR [] (awake0) rfl rfl rfl t_ t_ rfl rfl rfl rfl ?_; rintro _ rfl
      refine WL_nil ?_; refine nq_walk ⟨fun _ => t_, ?_⟩; refine d2_ ?_ ?_
      · rfl
      refine d2_ ?_ ?_
      · rfl
      refine d_ ?_
      refine k_ ?_
      rfl
    have h : i < ls.length := by omega
    have hli := hl _ (getD_mem h)
    refine w_ ?_
    rw [show 0 + (i : Int).toNat = i by omega]
    refine w_ ?_
    generalize ls.getD i [] = l at *
    refine i_ ?_ ?_ <;> intro h6
    rotate_left 1
    · refine w_ ?_
      exact LP_renG [0, 1] (ih (i + 1) (by omega) (by omega)) s_ s_ rfl rfl rfl
    refine w_ ?_
    refine WL_call [] (parseOption_tri (l.drop (6 : Int).toNat) (by rw [List.length_drop]; omega)) rfl rfl rfl (s_) (s_) rfl rfl rfl rfl ?_
    have hLE : LEN (optS (l.drop (6 : Int).toNat)).1 := by
      unfold optS; split
      · exact optZ_LEN (by rw [List.length_drop]; omega)
      · exact LEN_zero 0
    generalize optS (l.drop (6 : Int).toNat) = P at *
    rintro _ _ _ (⟨p0, y9, hy9, rfl, rfl, rfl⟩ | ⟨p0, rfl, rfl, rfl⟩)
    · refine w_ ?_
      refine WL_call [2, 3, 4, 5, 6, 7, 8, 9, 10, 11] (easter_tri P.1 y9 hy9 hLE) rfl rfl rfl (s_) (s_) rfl rfl rfl rfl ?_
      rintro _ _ _ ⟨rfl, rfl, b9, rfl⟩
      refine w_ ?_
      refine i_ ?_ ?_ <;> intro h7
      · refine w_ ?_
        refine WL_callR [] (awake0) rfl rfl rfl t_ t_ rfl rfl rfl rfl ?_; rintro _ rfl
        refine w_ ?_
        refine k_ ?_
        rfl
      · refine w_ ?_
        exact LP_renG [0, 1] (ih (i + 1) (by omega) (by omega)) s_ s_ rfl rfl rfl
    · have hp2 : ¬ ((P.2 : Nat) : Int) = 0 := by omega
      refine w_ ?_
      refine j_ 59 ?_ ?_ <;> intro h7
      · exact absurd h7 hp2
      refine w_ ?_
      refine W_cond_false rfl ?_
      refine w_ ?_
      exact LP_renG [0, 1] (ih (i + 1) (by omega) (by omega)) s_ s_ rfl rfl rfl
  have TP := TP (by rw [p0]; decide)
  have hzk := hzk p0
  refine w_ ?_
  refine W_cond_false rfl ?_
  refine w_ ?_
  refine W_loop ?_
  refine LP_renG [0, 1, 2, 3, 4, 5, 6, 7, 8, 9, 10, 11, 12, 14] (LP_ind 14 (fun i : Nat => ([(0, .sl nl 0 1 0 ls.length cap), (5, .ptr 13 0), (6, .int .u8 0), (40, .sl nl 0 1 0 ls.length cap), (41, .int .i64 ls.length), (42, .int .i64 i)], (0, .strs ek none ls) :: (13, .cells 28 (some 22) (cellsT O.1 y 1)) :: setHp 95 O.1 1)) (fun i => ls.length - i) (fun i => i ≤ ls.length) 0 ?_ (Nat.zero_le _)) ?_ ?_ rfl rfl rfl
  rotate_left 1
  · exact s_
  · exact s_
  intro i g1 ih
  refine LP_round ?_; try dsimp only
  refine w_ ?_
  refine i_ ?_ ?_ <;> intro h
  rotate_left 1
  · refine w_ ?_
    refine x_ ?_
    refine w_ ?_
    refine WL_call [0] TP rfl rfl rfl (s_) (s_) rfl rfl rfl rfl ?_
    rintro _ _ _ (⟨p1, st2, y2, hy2, rfl, rfl, rfl⟩ | ⟨p1, _⟩)
    rotate_left 1
    · rw [p0] at p1; cases p1
    have hzt := ZOK_told hzk st2
    have hsame : sameS (toldZ O.1 st2) ((toldZ O.1 st2).z.un != 0) O.1 (O.1.z.un != 0) := ⟨rfl, rfl, ⟨rfl, rfl, rfl, rfl, rfl, rfl, rfl, rfl, rfl, rfl, rfl, rfl, rfl, rfl, rfl, rfl, rfl, rfl⟩, rfl, rfl⟩
    refine w_ ?_
    refine W_draw [13, 27] [] 18 mo0 (by kernel_rfl) (by kernel_rfl) (fun ρ1 hkl => ?_); refine d_ ?_
    refine WS_loud rfl ?_ hkl
    refine WL_callR [] (awake0) rfl rfl rfl t_ t_ rfl rfl rfl rfl ?_; rintro _ rfl
    refine WL_nil ?_; refine nq_walk ⟨fun _ => t_, ?_⟩; refine d_ ?_
    refine WS_loud rfl ?_ hkl
    refine WL_call [14, 15, 16, 17, 18, 19, 20, 21, 22, 23, 24, 25] (ofSet_tri (toldZ O.1 st2) y2 hy2 hzt.len) rfl rfl rfl (s_) (s_) rfl rfl rfl rfl ?_; rintro _ _ _ ⟨q9, rfl, rfl, rfl, hq9⟩
    refine WL_nil ?_; refine nq_walk ⟨fun _ => t_, ?_⟩; refine d_ ?_
    refine WS_loud rfl ?_ hkl
    refine WL_callR [28, 29, 30, 31, 32, 33, 34, 35, 36, 37, 38, 39, 1, 2, 3, 4, 5, 6, 7, 8, 9, 10, 11, 12] (sameSet_tri (toldZ O.1 st2) ((toldZ O.1 st2).z.st != 0) ((toldZ O.1 st2).z.un != 0) ⟨{ y2.y with yd := q9 }, y2.yr, y2.ye⟩ O.1 (O.1.z.st != 0) (O.1.z.un != 0) y ⟨LOKd hy2.1 hq9, hy2.2.1, hy2.2.2⟩ hzt hy hzk) rfl rfl rfl t_ t_ rfl rfl rfl rfl ?_; rintro _ rfl
    rw [decide_eq_true hsame]
    refine WL_nil ?_; refine nq_walk ⟨fun _ => t_, ?_⟩; refine d_ ?_
    refine k_ ?_
    rfl
  have h : i < ls.length := by omega
  have hli := hl _ (getD_mem h)
  refine w_ ?_
  rw [show 0 + (i : Int).toNat = i by omega]
  refine w_ ?_
  generalize ls.getD i [] = l at *
  refine i_ ?_ ?_ <;> intro h6
  rotate_left 1
  · refine w_ ?_
    exact LP_renG [0, 1, 2, 3, 4, 5, 6, 7, 8, 9, 10, 11, 12, 13] (ih (i + 1) (by omega) (by omega)) s_ s_ rfl rfl rfl
  refine w_ ?_
  refine WL_call [] (parseOption_tri (l.drop (6 : Int).toNat) (by rw [List.length_drop]; omega)) rfl rfl rfl (s_) (s_) rfl rfl rfl rfl ?_
  have hLE : LEN (optS (l.drop (6 : Int).toNat)).1 := by
    unfold optS; split
    · exact optZ_LEN (by rw [List.length_drop]; omega)
    · exact LEN_zero 0
  generalize optS (l.drop (6 : Int).toNat) = P at *
  rintro _ _ _ (⟨p0, y9, hy9, rfl, rfl, rfl⟩ | ⟨p0, rfl, rfl, rfl⟩)
  · refine w_ ?_
    refine WL_call [14, 15, 16, 17, 18, 19, 20, 21, 22, 23] (easter_tri P.1 y9 hy9 hLE) rfl rfl rfl (s_) (s_) rfl rfl rfl rfl ?_
    rintro _ _ _ ⟨rfl, rfl, b9, rfl⟩
    refine w_ ?_
    refine i_ ?_ ?_ <;> intro h7
    · refine w_ ?_
      refine WL_callR [] (awake0) rfl rfl rfl t_ t_ rfl rfl rfl rfl ?_; rintro _ rfl
      refine w_ ?_
      refine k_ ?_
      rfl
    · refine w_ ?_
      exact LP_renG [0, 1, 2, 3, 4, 5, 6, 7, 8, 9, 10, 11, 12, 13] (ih (i + 1) (by omega) (by omega)) s_ s_ rfl rfl rfl
  · have hp2 : ¬ ((P.2 : Nat) : Int) = 0 := by omega
    refine w_ ?_
    refine j_ 59 ?_ ?_ <;> intro h7
    · exact absurd h7 hp2
    refine w_ ?_
    refine W_cond_false rfl ?_
    refine w_ ?_
    exact LP_renG [0, 1, 2, 3, 4, 5, 6, 7, 8, 9, 10, 11, 12, 13] (ih (i + 1) (by omega) (by omega)) s_ s_ rfl rfl rfl
end Go.Eng
