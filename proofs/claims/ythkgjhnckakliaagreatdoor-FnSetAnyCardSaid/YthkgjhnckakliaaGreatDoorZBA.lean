/- A part of the proof that the rows statement FnSetAny holds: the engine of abstract states, the walks through the program, the bridge; no conditions. -/
import Derived.Test.YthkgjhnckakliaaGreatDoorZAO
import Derived.Test.YthkgjhnckakliaaGreatDoorZAZ
set_option linter.unusedVariables false
set_option linter.unusedSimpArgs false
set_option linter.unusedSectionVars false
namespace Go.Eng
open Go.Proofs
theorem splitB_le {c : UInt8} {v : List UInt8} {α : Type} {f : List UInt8 → Option α} {xs : List α} (h : mapZ f (splitB c v) = some xs) (hv : v.length ≤ 536870912) : xs.length ≤ 1073741824 := by
  have := mapZ_len h; have := splitB_count c v; omega
theorem okZ_cases {α : Type} {P : RZ → Prop} {z : RZ} {o : Option α} {f : α → RZ} (h0 : P z) (h1 : ∀ a, o = some a → P (f a)) : P (okZ z o f).1 := by
  cases o with
  | none => exact h0
  | some a => exact h1 a rfl
theorem partZ_LEN {z : RZ} {k v : List UInt8} (h : LEN z) (hv : v.length ≤ 536870912) : LEN (partZ z k v).1 := by
  have h' := h
  obtain ⟨a0, a1, a2, a3, a4, a5, a6, a7, a8, ad⟩ := h'
  by_cases hFREQ : k = [70, 82, 69, 81]
  · subst hFREQ; rw [partZ_FREQ]; exact okZ_cases h fun a _ => h
  by_cases hDTSTART : k = [68, 84, 83, 84, 65, 82, 84]
  · subst hDTSTART; rw [partZ_DTSTART]; split <;> exact h
  by_cases hUNTIL : k = [85, 78, 84, 73, 76]
  · subst hUNTIL; rw [partZ_UNTIL]; split <;> exact h
  by_cases hINTERVAL : k = [73, 78, 84, 69, 82, 86, 65, 76]
  · subst hINTERVAL; rw [partZ_INTERVAL]; exact okZ_cases h fun a _ => h
  by_cases hCOUNT : k = [67, 79, 85, 78, 84]
  · subst hCOUNT; rw [partZ_COUNT]; exact okZ_cases h fun a _ => h
  by_cases hWKST : k = [87, 75, 83, 84]
  · subst hWKST; rw [partZ_WKST]; split
    · split <;> exact h
    · exact h
  by_cases hBYDAY : k = [66, 89, 68, 65, 89]
  · subst hBYDAY; rw [partZ_BYDAY]; exact okZ_cases h fun a e => ⟨a0, a1, a2, a3, a4, a5, a6, a7, a8, splitB_le e hv⟩
  by_cases hBYSETPOS : k = [66, 89, 83, 69, 84, 80, 79, 83]
  · subst hBYSETPOS; rw [partZ_BYSETPOS]; exact okZ_cases h fun a e => ⟨splitB_le e hv, a1, a2, a3, a4, a5, a6, a7, a8, ad⟩
  by_cases hBYMONTH : k = [66, 89, 77, 79, 78, 84, 72]
  · subst hBYMONTH; rw [partZ_BYMONTH]; exact okZ_cases h fun a e => ⟨a0, splitB_le e hv, a2, a3, a4, a5, a6, a7, a8, ad⟩
  by_cases hBYMONTHDAY : k = [66, 89, 77, 79, 78, 84, 72, 68, 65, 89]
  · subst hBYMONTHDAY; rw [partZ_BYMONTHDAY]; exact okZ_cases h fun a e => ⟨a0, a1, splitB_le e hv, a3, a4, a5, a6, a7, a8, ad⟩
  by_cases hBYYEARDAY : k = [66, 89, 89, 69, 65, 82, 68, 65, 89]
  · subst hBYYEARDAY; rw [partZ_BYYEARDAY]; exact okZ_cases h fun a e => ⟨a0, a1, a2, splitB_le e hv, a4, a5, a6, a7, a8, ad⟩
  by_cases hBYWEEKNO : k = [66, 89, 87, 69, 69, 75, 78, 79]
  · subst hBYWEEKNO; rw [partZ_BYWEEKNO]; exact okZ_cases h fun a e => ⟨a0, a1, a2, a3, splitB_le e hv, a5, a6, a7, a8, ad⟩
  by_cases hBYHOUR : k = [66, 89, 72, 79, 85, 82]
  · subst hBYHOUR; rw [partZ_BYHOUR]; exact okZ_cases h fun a e => ⟨a0, a1, a2, a3, a4, splitB_le e hv, a6, a7, a8, ad⟩
  by_cases hBYMINUTE : k = [66, 89, 77, 73, 78, 85, 84, 69]
  · subst hBYMINUTE; rw [partZ_BYMINUTE]; exact okZ_cases h fun a e => ⟨a0, a1, a2, a3, a4, a5, splitB_le e hv, a7, a8, ad⟩
  by_cases hBYSECOND : k = [66, 89, 83, 69, 67, 79, 78, 68]
  · subst hBYSECOND; rw [partZ_BYSECOND]; exact okZ_cases h fun a e => ⟨a0, a1, a2, a3, a4, a5, a6, splitB_le e hv, a8, ad⟩
  by_cases hBYEASTER : k = [66, 89, 69, 65, 83, 84, 69, 82]
  · subst hBYEASTER; rw [partZ_BYEASTER]; exact okZ_cases h fun a e => ⟨a0, a1, a2, a3, a4, a5, a6, a7, splitB_le e hv, ad⟩
  rw [partZ_other z k v hFREQ hDTSTART hUNTIL hINTERVAL hCOUNT hWKST hBYDAY hBYSETPOS hBYMONTH hBYMONTHDAY hBYYEARDAY hBYWEEKNO hBYHOUR hBYMINUTE hBYSECOND hBYEASTER]; exact h
theorem LEN_zero (p : Int) : LEN { RZ.zero with st := p } := by refine ⟨?_, ?_, ?_, ?_, ?_, ?_, ?_, ?_, ?_, ?_⟩ <;> exact Nat.zero_le _
theorem loopZ_LEN : ∀ (l : List (List UInt8)) (z : RZ) (fq : Bool), LEN z → (∀ x ∈ l, x.length ≤ 536870912) → LEN (loopZ z fq l).1
  | [], z, fq, h, _ => by simp only [loopZ]; split; exact h; exact LEN_zero 0
  | p :: l, z, fq, h, hl => by
    have hp := hl p (by simp)
    have hm := splitB_mem 61 p
    simp only [loopZ]
    split
    · rename_i k v e
      rw [e] at hm
      have hv := (hm v (by simp)).1
      split
      · exact LEN_zero 0
      · split
        · exact loopZ_LEN l _ _ (partZ_LEN h (by omega)) (fun x hx => hl x (List.mem_cons_of_mem _ hx))
        · exact LEN_zero 0
    · exact LEN_zero 0
theorem bareZ_le (x : List UInt8) : (bareZ x).length ≤ x.length := by unfold bareZ; split <;> simp
theorem partsZ_LEN {z : RZ} {x : List UInt8} (h : LEN z) (hx : x.length ≤ 536870912) : LEN (partsZ z x).1 := by
  unfold partsZ
  have := bareZ_le x
  exact loopZ_LEN _ _ _ h fun y hy => by have := (splitB_mem 59 _ y hy).1; omega
theorem optZ_LEN {s : List UInt8} (hs : s.length ≤ 536870912) : LEN (optZ s).1 := by
  have htl := trim_le s
  have hm := splitB_mem 10 (Lib.trimSpace s)
  unfold optZ
  generalize splitB 10 (Lib.trimSpace s) = ls at *
  match ls with
  | [] => exact LEN_zero 0
  | [x] => exact partsZ_LEN (LEN_zero 0) (by have := (hm x (by simp)).1; omega)
  | [d, x] =>
    simp only [optL]
    split
    · exact LEN_zero 0
    · split
      · exact LEN_zero 0
      · split
        · exact partsZ_LEN (LEN_zero _) (by have := (hm x (by simp)).1; omega)
        · exact LEN_zero 0
  | a :: b :: c :: l => exact LEN_zero 0
abbrev RRL : List UInt8 := [82, 82, 85, 76, 69]
abbrev RDT : List UInt8 := [82, 68, 65, 84, 69]
abbrev EXT : List UInt8 := [69, 88, 68, 65, 84, 69]
def withRule (s : SZ) (z : RZ) : SZ := { s with has := true, z := z, start := startOf { s with has := true, z := z } }
def blankZ (l : List UInt8) : Bool := !decide (l = []) && Lib.isSp (l.getD 0 0)
def nameLine (first : Bool) (s : SZ) (n rest : List UInt8) : SZ × Nat :=
  if first = true ∧ n = DTS then (if (startZ rest).2 = 0 then ({ s with start := (startZ rest).1 }, 0) else (SZ.zero, (startZ rest).2))
  else if n = RRL then (if (optZ rest).2 = 0 then (if rightZ (optZ rest).1 = true then (withRule s (optZ rest).1, 0) else (SZ.zero, 1)) else (SZ.zero, (optZ rest).2))
  else if n = RDT then (if (datesZ rest).2 = 0 then ({ s with rd := s.rd ++ (datesZ rest).1 }, 0) else (SZ.zero, (datesZ rest).2))
  else if n = EXT then (if (datesZ rest).2 = 0 then ({ s with ex := s.ex ++ (datesZ rest).1 }, 0) else (SZ.zero, (datesZ rest).2))
  else (s, 0)
def lineC (first : Bool) (s : SZ) (l : List UInt8) : SZ × Nat :=
  match nameZ l with
  | none => (SZ.zero, 1)
  | some n => nameLine first s n (l.drop (n.length + 1))
def lineZ (first : Bool) (s : SZ) (l : List UInt8) : SZ × Nat :=
  if ascB l = false ∨ blankZ l = true then (SZ.zero, 2) else lineC first s l
def linesZ : Bool → SZ → List (List UInt8) → SZ × Nat
  | _, s, [] => (s, 0)
  | f, s, l :: ls => if (lineZ f s l).2 = 0 then linesZ false (lineZ f s l).1 ls else (SZ.zero, (lineZ f s l).2)
theorem momsZ_len : ∀ {l : List (List UInt8)}, (momsZ l).2 = 0 → (momsZ l).1.length = l.length
  | [], _ => rfl
  | x :: l, h => by
    simp only [momsZ] at h ⊢
    split
    · rename_i h0
      rw [if_pos h0] at h
      split at h
      · rename_i h1
        rw [if_pos h1]; simp [momsZ_len h1]
      · rename_i h1; exact absurd h h1
    · rename_i h0; rw [if_neg h0] at h; exact absurd h h0
theorem datesZ_pos {s : List UInt8} (h : (datesZ s).2 = 0) (hs : s.length ≤ 536870912) : 0 < (datesZ s).1.length ∧ (datesZ s).1.length ≤ 536870913 := by
  have hm := splitB_mem 58 s
  unfold datesZ at *
  generalize splitB 58 s = l at *
  match l with
  | [] => exact absurd h Nat.one_ne_zero
  | [x] =>
    dsimp only at h ⊢
    rw [momsZ_len h]
    have := splitB_ne 44 x
    have := splitB_count 44 x
    have := (hm x (by simp)).1
    exact ⟨List.length_pos_iff.2 ‹_›, by omega⟩
  | [p, x] =>
    dsimp only at h ⊢
    split at h
    · rename_i h0
      rw [if_pos h0, momsZ_len h]
      have := splitB_ne 44 x
      have := splitB_count 44 x
      have := (hm x (by simp)).1
      exact ⟨List.length_pos_iff.2 ‹_›, by omega⟩
    · rename_i h0; exact absurd h h0
  | a :: b :: c :: l => exact absurd h Nat.one_ne_zero
end Go.Eng
namespace Go.Eng
open Go.Proofs
attribute [local irreducible] W WL LP Then InBl Tri WS
def zcT : List AV := .int .i64 0 :: .bool false :: (zcS ++ [.v (.slice none 0 0), .v (.slice none 0 0)])
def SY.zero : SY := ⟨LY.zero, (true, 0), (true, 0)⟩
abbrev dsl (m : Option Nat) (xs : List Int) : AO := .ints 2 m .i64 xs
def setHpM (e : TypeId) (s : SZ) (mr me : Option Nat) (b : Nat) : Hp := (b + 10, dsl mr s.rd) :: (b + 11, dsl me s.ex) :: lstHp e s.z b
def setHp (e : TypeId) (s : SZ) (b : Nat) : Hp := setHpM e s none none b
def nilsT (e : TypeId) : List AO := nils e ++ [dsl none [], dsl none []]
def GOKL (xs : List Int) (y : Bool × Nat) (m : Option Nat) : Prop := (y = (true, 0) ∧ m = none ∧ xs = []) ∨ ∃ tt cap, y = (false, cap) ∧ m = some tt ∧ xs.length ≤ cap ∧ cap ≤ tt
theorem GOKL_cap {xs : List Int} {y : Bool × Nat} {m : Option Nat} (h : GOKL xs y m) : xs.length ≤ y.2 := by
  rcases h with ⟨rfl, _, rfl⟩ | ⟨tt, cap, rfl, _, h, _⟩
  · exact Nat.le_refl _
  · exact h
def SOK (s : SZ) (y : SY) : Prop := LOK s.z y.y ∧ s.rd.length ≤ y.yr.2 ∧ s.ex.length ≤ y.ye.2
def linesSR (o : SZ × Nat) : Rs := fun k hp r =>
  (o.2 = 0 ∧ ∃ y, SOK o.1 y ∧ k = 14 ∧ hp = (13, .cells 28 (some 22) (cellsT o.1 y 1)) :: setHp 95 o.1 1 ∧ r = .tup [.agg (cellsT o.1 y 1), .int .u8 0]) ∨
  (o.2 ≠ 0 ∧ k = 2 ∧ hp = [(1, .cells 28 (some 22) zcT)] ∧ r = .tup [.agg zcT, .int .u8 (o.2 : Nat)])
theorem linesZ_ok {f : Bool} {s S' : SZ} {l : List UInt8} {ls : List (List UInt8)} {O : SZ × Nat} (hO : O = linesZ f s (l :: ls)) (h : lineZ f s l = (S', 0)) : O = linesZ false S' ls := by
  rw [hO, linesZ, h]; exact if_pos rfl
theorem linesZ_bad {f : Bool} {s S' : SZ} {l : List UInt8} {ls : List (List UInt8)} {O : SZ × Nat} {c : Nat} (hO : O = linesZ f s (l :: ls)) (h : lineZ f s l = (S', c)) (hc : c ≠ 0) : O = (SZ.zero, c) := by
  rw [hO, linesZ, h]; exact if_neg hc
theorem blank_bt (l : List UInt8) : Lib.isSp (l.getD 0 0) = (decide (bt l 0 = 32) || (decide (9 ≤ bt l 0) && decide (bt l 0 ≤ 13))) := by
  rw [isSp_nat, show bt l 0 = ((l.getD 0 0).toNat : Int) from bt_nat l 0]
set_option maxHeartbeats 2000000 in
theorem parseLinesS_tri (ek : TypeId) (nl : Bool) (cap : Nat) (ls : List (List UInt8)) (hc : ls.length ≤ cap) (hn : ls.length ≤ 40) (hl : ∀ l ∈ ls, l.length ≤ 300) :
    Tri C0 33 1 [(0, .strs ek none ls)] [.sl nl 0 1 0 ls.length cap] (linesSR (linesZ true SZ.zero ls)) := by
  obtain ⟨K, hK⟩ : ∃ K : Nat, K = 536870913 := ⟨_, rfl⟩
  obtain ⟨O, hO⟩ : ∃ O, O = linesZ true SZ.zero ls := ⟨_, rfl⟩
  rw [← hO]
  refine Tri.mk 129 [.cell 2 28, .tmp 3] Tryz.func33 rfl rfl rfl rfl cf33 ?_; intro w0 S T ρ0
  refine w_ ?_
  refine W_loop ?_
  refine LP_imp (Imp_nils (show 0 < 22 by omega) (nilsT 95) (s_)) ?_
  refine LP_imp (Imp_cells 2 (cellsT SZ.zero SY.zero 3) rfl (fun _ => rfl) (s_) (fun h => absurd (congrArg List.length h) (Nat.succ_ne_zero 21))) ?_
  refine LP_renG [0, 1, 2, 3, 4, 5, 6, 7, 8, 9, 10, 11, 12, 13, 14] (LP_ind 15 (fun q : Nat × SZ × SY × Option Nat × Option Nat => ([(2, .ptr 1 0), (4, .ptr 2 0), (17, .sl nl 0 1 0 ls.length cap), (18, .int .i64 ls.length), (19, .int .i64 q.1)],
      (0, .strs ek none ls) :: (1, .cells 28 (some 22) zcT) :: (2, .cells 28 (some 22) (cellsT q.2.1 q.2.2.1 3)) :: setHpM 95 q.2.1 q.2.2.2.1 q.2.2.2.2 3)) (fun q => ls.length - q.1)
    (fun q => q.1 ≤ ls.length ∧ LOK q.2.1.z q.2.2.1.y ∧ GOKL q.2.1.rd q.2.2.1.yr q.2.2.2.1 ∧ GOKL q.2.1.ex q.2.2.1.ye q.2.2.2.2 ∧ q.2.1.rd.length ≤ q.1 * K ∧ q.2.1.ex.length ≤ q.1 * K ∧ O = linesZ (decide (q.1 = 0)) q.2.1 (ls.drop q.1))
    (0, SZ.zero, SY.zero, none, none) ?_ ⟨Nat.zero_le _, LOK_zero _ rfl, .inl ⟨rfl, rfl, rfl⟩, .inl ⟨rfl, rfl, rfl⟩, Nat.zero_le _, Nat.zero_le _, hO⟩) ?_ ?_ rfl rfl rfl
  rotate_left 1
  · exact s_
  · exact s_
  rintro ⟨j, s, y, mr, me⟩ ⟨i1, i2, i3, i4, i5, i6, i7⟩ ih
  simp only at i1 i2 i3 i4 i5 i6 i7
  clear hO
  refine LP_round ?_; try dsimp only
  refine w_ ?_
  refine i_ ?_ ?_ <;> intro hj
  · have hj : j < ls.length := by omega
    have hKs : (j + 1) * K = j * K + K := Nat.succ_mul j K
    have hKb : j * K ≤ 40 * K := Nat.mul_le_mul_right K (by omega)
    have hnx : decide (j + 1 = 0) = false := rfl
    rw [drop_getL hj] at i7
    have hll := hl _ (getD_mem hj)
    obtain ⟨l, hle⟩ : ∃ l, l = ls.getD j [] := ⟨_, rfl⟩
    rw [← hle] at i7 hll
    refine w_ ?_
    rw [show 0 + (j : Int).toNat = j by omega, ← hle]
    refine WL_call [] (textASCII_tri l (by omega)) rfl rfl rfl t_ t_ rfl rfl rfl rfl ?_; rintro _ _ _ ⟨rfl, rfl, rfl⟩
    by_cases ha : ascB l = true
    rotate_left 1
    · have ha : ascB l = false := by simpa using ha
      have hz : lineZ (decide (j = 0)) s l = (SZ.zero, 2) := by unfold lineZ; rw [if_pos (.inl ha)]
      have hO := linesZ_bad i7 hz (Nat.succ_ne_zero _)
      rw [ha]
      refine w_ ?_
      refine W_cond_true rfl ?_
      refine w_ ?_
      refine W_renG [0, 1] (n := 2) (tm' := [(2, .ptr 1 0), (3, .int .u8 2)]) (hp' := [(1, .cells 28 (some 22) zcT)]) ?_ s_ s_ rfl rfl rfl
      refine r_ ?_ ?_
      · exact s_
      · rw [hO]; exact .inr ⟨Nat.succ_ne_zero _, rfl, rfl, rfl⟩
    rw [ha]
    refine w_ ?_
    refine W_cond_false rfl ?_
    refine w_ ?_
    refine WL_join 14 [(44, .bool (blankZ l)), (2, .ptr 1 0), (4, .ptr 2 0), (5, .int .i64 j), (6, .str l), (17, .sl nl 0 1 0 ls.length cap), (18, .int .i64 ls.length), (19, .int .i64 j)] ?_ ?_
    · have hbb := blank_bt l
      refine j_ 30 ?_ ?_ <;> intro h1
      · have h1 : ¬ l = [] := h1
        have hpos : 0 < l.length := List.length_pos_iff.2 h1
        have hB : blankZ l = Lib.isSp (l.getD 0 0) := by unfold blankZ; rw [decide_eq_false h1]; rfl
        rw [hB, hbb]
        refine w_ ?_
        refine j_ 34 ?_ ?_ <;> intro h2
        · refine w_ ?_
          rw [decide_eq_true h2]
          exact ⟨rfl, rfl, rfl, rfl, rfl, rfl, rfl, rfl, rfl, rfl, rfl, trivial⟩
        refine w_ ?_
        refine j_ 38 ?_ ?_ <;> intro h3
        · refine w_ ?_
          rw [decide_eq_false h2, decide_eq_true (show 9 ≤ bt l 0 from h3)]
          exact ⟨rfl, rfl, rfl, rfl, rfl, rfl, rfl, rfl, rfl, rfl, rfl, trivial⟩
        · refine w_ ?_
          rw [decide_eq_false h2, decide_eq_false (show ¬ 9 ≤ bt l 0 from h3)]
          exact ⟨rfl, rfl, rfl, rfl, rfl, rfl, rfl, rfl, rfl, rfl, rfl, trivial⟩
      · have h1 : l = [] := h1
        have hB : blankZ l = false := by unfold blankZ; rw [decide_eq_true h1]; rfl
        rw [hB]
        refine w_ ?_
        exact ⟨rfl, rfl, rfl, rfl, rfl, rfl, rfl, rfl, rfl, rfl, rfl, trivial⟩
    refine w_ ?_
    cases hb : blankZ l with
    | true =>
      have hz : lineZ (decide (j = 0)) s l = (SZ.zero, 2) := by unfold lineZ; rw [if_pos (.inr hb)]
      have hO := linesZ_bad i7 hz (Nat.succ_ne_zero _)
      refine W_cond_true rfl ?_
      refine w_ ?_
      refine W_renG [0, 1] (n := 2) (tm' := [(2, .ptr 1 0), (3, .int .u8 2)]) (hp' := [(1, .cells 28 (some 22) zcT)]) ?_ s_ s_ rfl rfl rfl
      refine r_ ?_ ?_
      · exact s_
      · rw [hO]; exact .inr ⟨Nat.succ_ne_zero _, rfl, rfl, rfl⟩
    | false =>
    refine W_cond_false rfl ?_
    have hzc : lineZ (decide (j = 0)) s l = lineC (decide (j = 0)) s l := by unfold lineZ; rw [if_neg (by rw [ha, hb]; simp)]
    refine w_ ?_
    refine WL_call [] (textName_tri l (by omega)) rfl rfl rfl t_ t_ rfl rfl rfl rfl ?_; rintro _ _ _ ⟨rfl, rfl, hr⟩
    rcases hr with ⟨n, hn, rfl⟩ | ⟨hn, n, rfl⟩
    rotate_left 1
    · have hz : lineZ (decide (j = 0)) s l = (SZ.zero, 1) := by rw [hzc]; unfold lineC; rw [hn]
      have hO := linesZ_bad i7 hz (Nat.succ_ne_zero _)
      refine w_ ?_
      refine W_cond_true rfl ?_
      refine w_ ?_
      refine W_renG [0, 1] (n := 2) (tm' := [(2, .ptr 1 0), (3, .int .u8 1)]) (hp' := [(1, .cells 28 (some 22) zcT)]) ?_ s_ s_ rfl rfl rfl
      refine r_ ?_ ?_
      · exact s_
      · rw [hO]; exact .inr ⟨Nat.succ_ne_zero _, rfl, rfl, rfl⟩
    have hzn : lineZ (decide (j = 0)) s l = nameLine (decide (j = 0)) s n (l.drop (n.length + 1)) := by rw [hzc]; unfold lineC; rw [hn]
    clear hzc
    have hnl := name_len hn
    have e1 : ((n.length : Int) + 1).toNat = n.length + 1 := by omega
    obtain ⟨x, hx⟩ : ∃ x, x = l.drop (n.length + 1) := ⟨_, rfl⟩
    have hxl : x.length ≤ 300 := by rw [hx, List.length_drop]; omega
    have hxa : ascB x = true := by rw [hx]; exact ascB_iff.2 (asc_drop (ascB_iff.1 ha) _)
    have hxs : startS x = startZ x := by unfold startS; rw [if_pos hxa]
    have hxo : optS x = optZ x := by unfold optS; rw [if_pos hxa]
    have hxd : datesS x = datesZ x := by unfold datesS; rw [if_pos hxa]
    rw [← hx] at hzn
    refine w_ ?_
    refine W_cond_false rfl ?_
    refine w_ ?_
    rw [e1, ← hx]
    refine w_ ?_
    obtain ⟨ff, hff⟩ : ∃ b, b = decide (j = 0) := ⟨_, rfl⟩
    refine WL_join 4 [(59, .bool (ff && decide (n = DTS))), (7, .str n), (9, .str x), (2, .ptr 1 0), (4, .ptr 2 0), (17, .sl nl 0 1 0 ls.length cap), (18, .int .i64 ls.length), (19, .int .i64 j)] ?_ ?_
    · refine j_ 62 ?_ ?_ <;> intro h0
      · have h0 : ff = true := by rw [hff]; simp; omega
        rw [h0]
        refine w_ ?_
        rw [show (n == DTS) = decide (n = DTS) by by_cases e : n = DTS <;> simp [e]]
        exact ⟨rfl, rfl, rfl, rfl, rfl, rfl, rfl, rfl, rfl, rfl, rfl, trivial⟩
      · have h0 : ff = false := by rw [hff]; simp; omega
        rw [h0]
        refine w_ ?_
        exact ⟨rfl, rfl, rfl, rfl, rfl, rfl, rfl, rfl, rfl, rfl, rfl, trivial⟩
    rw [← hff] at hzn i7
    refine w_ ?_
    refine W_cond rfl (fun hd => ?_) (fun hd => ?_)
    · simp only [Bool.and_eq_true, decide_eq_true_eq] at hd
      have hz : lineZ ff s l = if (startZ x).2 = 0 then ({ s with start := (startZ x).1 }, 0) else (SZ.zero, (startZ x).2) := by
        rw [hzn]; unfold nameLine; rw [if_pos hd]
      refine w_ ?_
      refine WL_call [] (textStart_tri x (by omega)) rfl rfl rfl t_ t_ rfl rfl rfl rfl ?_; rintro _ _ _ ⟨rfl, rfl, rfl⟩
      rw [hxs]
      refine w_ ?_
      refine i_ ?_ ?_ <;> intro h0
      · have h0 : ¬ (startZ x).2 = 0 := by omega
        rw [if_neg h0] at hz
        have hO := linesZ_bad i7 hz h0
        refine w_ ?_
        refine W_renG [0, 1] (n := 2) (tm' := [(2, .ptr 1 0), (3, .int .u8 ((startZ x).2 : Nat))]) (hp' := [(1, .cells 28 (some 22) zcT)]) ?_ s_ s_ rfl rfl rfl
        refine r_ ?_ ?_
        · exact s_
        · rw [hO]; exact .inr ⟨h0, rfl, rfl, rfl⟩
      · have h0 : (startZ x).2 = 0 := by omega
        rw [if_pos h0] at hz
        have hO := linesZ_ok i7 hz
        refine w_ ?_
        exact LP_renG [0, 1, 2, 3, 4, 5, 6, 7, 8, 9, 10, 11, 12, 13, 14] (ih (j + 1, { s with start := (startZ x).1 }, y, mr, me) ⟨by omega, i2, i3, i4, by show s.rd.length ≤ (j + 1) * K; omega, by show s.ex.length ≤ (j + 1) * K; omega, hO⟩ (by simp only; omega)) s_ s_ rfl rfl rfl
    have hd : ¬ (ff = true ∧ n = DTS) := by rintro ⟨e1, e2⟩; rw [e1, e2] at hd; exact absurd hd (by decide)
    refine w_ ?_
    refine i_ ?_ ?_ <;> intro hr
    · have hr : n = RRL := hr
      have hz : lineZ ff s l = if (optZ x).2 = 0 then (if rightZ (optZ x).1 = true then (withRule s (optZ x).1, 0) else (SZ.zero, 1)) else (SZ.zero, (optZ x).2) := by
        rw [hzn]; unfold nameLine; rw [if_neg hd, if_pos hr]
      have hLEN := optZ_LEN (s := x) (by omega)
      refine w_ ?_
      refine WL_call [] (parseOption_tri x (by omega)) rfl rfl rfl (s_) (s_) rfl rfl rfl rfl ?_
      rw [hxo]
      generalize optZ x = P at *
      rintro _ _ _ (⟨p0, y', p1, rfl, rfl, rfl⟩ | ⟨p0, rfl, rfl, rfl⟩)
      rotate_left 1
      · rw [if_neg p0] at hz
        have hO := linesZ_bad i7 hz p0
        refine w_ ?_
        refine i_ ?_ ?_ <;> intro h0
        rotate_left 1
        · exact absurd (by omega) p0
        refine w_ ?_
        refine W_renG [0, 1] (n := 2) (tm' := [(2, .ptr 1 0), (3, .int .u8 (P.2 : Nat))]) (hp' := [(1, .cells 28 (some 22) zcT)]) ?_ s_ s_ rfl rfl rfl
        refine r_ ?_ ?_
        · exact s_
        · rw [hO]; exact .inr ⟨p0, rfl, rfl, rfl⟩
      rw [if_pos p0] at hz
      refine w_ ?_
      refine W_cond_false rfl ?_
      refine w_ ?_
      refine WL_call [15, 16, 17, 18, 19, 20, 21, 22, 23, 24] (ruleRight_tri P.1 y' p1 hLEN) rfl rfl rfl t_ t_ rfl rfl rfl rfl ?_; rintro _ _ _ ⟨rfl, rfl, rfl⟩
      cases hrr : rightZ P.1 with
      | false =>
        rw [hrr] at hz
        have hz : lineZ ff s l = (SZ.zero, 1) := hz
        have hO := linesZ_bad i7 hz (Nat.succ_ne_zero _)
        refine w_ ?_
        refine W_cond_true rfl ?_
        refine w_ ?_
        refine W_renG [0, 1] (n := 2) (tm' := [(2, .ptr 1 0), (3, .int .u8 1)]) (hp' := [(1, .cells 28 (some 22) zcT)]) ?_ s_ s_ rfl rfl rfl
        refine r_ ?_ ?_
        · exact s_
        · rw [hO]; exact .inr ⟨Nat.succ_ne_zero _, rfl, rfl, rfl⟩
      | true =>
      rw [hrr] at hz
      have hz : lineZ ff s l = (withRule s P.1, 0) := hz
      have hO := linesZ_ok i7 hz
      refine w_ ?_
      refine W_cond_false rfl ?_
      refine w_ ?_
      refine W_draw [26] [] 3 mo0 (by kernel_rfl) (by kernel_rfl) (fun ρ1 hkl => ?_); refine d_ ?_
      refine WS_loud rfl ?_ hkl
      refine WL_store rfl rfl trivial ?_
      refine WL_nil ?_; refine nq_walk ⟨fun _ => t_, ?_⟩; refine d_ ?_
      refine w_ ?_
      refine WL_call [15, 16, 17, 18, 19, 20, 21, 22, 23, 24, 13, 14] (setStart_tri { s with has := true, z := P.1 } { y with y := y' }) rfl rfl rfl t_ t_ rfl rfl rfl rfl ?_; rintro _ _ _ ⟨rfl, rfl, rfl⟩
      refine w_ ?_
      exact LP_renG [0, 1, 2, 15, 16, 17, 18, 19, 20, 21, 22, 23, 24, 13, 14] (ih (j + 1, withRule s P.1, { y with y := y' }, mr, me) ⟨by omega, p1, i3, i4, by show s.rd.length ≤ (j + 1) * K; omega, by show s.ex.length ≤ (j + 1) * K; omega, hO⟩ (by simp only; omega)) s_ s_ rfl rfl rfl
    have hr : ¬ n = RRL := hr
    refine w_ ?_
    refine j_ 102 ?_ ?_ <;> intro hrd
    · have hrd : n = RDT := hrd
      refine w_ ?_
      refine W_cond_true rfl ?_
      have hz : lineZ ff s l = if (datesZ x).2 = 0 then ({ s with rd := s.rd ++ (datesZ x).1 }, 0) else (SZ.zero, (datesZ x).2) := by
        rw [hzn]; unfold nameLine; rw [if_neg hd, if_neg hr, if_pos hrd]
      have hpos := fun h => datesZ_pos (s := x) h (by omega)
      refine w_ ?_
      refine WL_call [] (textDates_tri x (by omega)) rfl rfl rfl (s_) (s_) rfl rfl rfl rfl ?_
      rw [hxd]
      generalize datesZ x = D at *
      rintro _ _ _ (⟨p0, cap2, tt2, p1, p2, rfl, rfl, rfl⟩ | ⟨p0, rfl, rfl, rfl⟩)
      rotate_left 1
      · rw [if_neg p0] at hz
        have hO := linesZ_bad i7 hz p0
        refine w_ ?_
        refine i_ ?_ ?_ <;> intro h0
        rotate_left 1
        · exact absurd (by omega) p0
        refine w_ ?_
        refine W_renG [0, 1] (n := 2) (tm' := [(2, .ptr 1 0), (3, .int .u8 (D.2 : Nat))]) (hp' := [(1, .cells 28 (some 22) zcT)]) ?_ s_ s_ rfl rfl rfl
        refine r_ ?_ ?_
        · exact s_
        · rw [hO]; exact .inr ⟨p0, rfl, rfl, rfl⟩
      rw [if_pos p0] at hz
      have hO := linesZ_ok i7 hz
      have hpos := hpos p0
      refine w_ ?_
      refine W_cond_false rfl ?_
      refine w_ ?_
      refine i_ ?_ ?_ <;> intro hq
      rotate_left 1
      · exact absurd hrd hq
      obtain ⟨st, has, z, rd, ex⟩ := s
      obtain ⟨y, yr, ye⟩ := y
      simp only at i2 i3 i4 i5 i6
      rcases i3 with ⟨rfl, rfl, rfl⟩ | ⟨tt0, cap0, rfl, rfl, q1, q2⟩
      · refine w_ ?_
        refine WL_imp (Imp_tm 118 (.v (.slice none 0 0)) rfl (fun _ => rfl) trivial) ?_
        refine WL_appN (FamI 2 .i64) D.1 rfl rfl rfl rfl (by rw [← (FamI 2 .i64).avs tt2 D.1]; rfl) rfl rfl rfl rfl rfl rfl rfl rfl hpos.1 p1 ⟨by omega, by show D.1.length * 8 ≤ _; omega⟩ ?_
        intro cap3 tt3 hc3 hc4
        refine w_ ?_
        have ih2 := ih (j + 1, ⟨st, has, z, D.1, ex⟩, ⟨y, (false, cap3), ye⟩, some tt3, me) ⟨by omega, i2, .inr ⟨tt3, cap3, rfl, rfl, by omega, by omega⟩, i4, by show D.1.length ≤ (j + 1) * K; omega, by show ex.length ≤ (j + 1) * K; omega, hO⟩ (by simp only; omega)
        dsimp only at ih2
        exact LP_renG [0, 1, 2, 3, 4, 5, 6, 7, 8, 9, 10, 11, 12, 16, 14] ih2 s_ s_ rfl rfl rfl
      · refine w_ ?_
        refine WL_appX (FamI 2 .i64) rd D.1 rfl rfl rfl rfl rfl (by rw [← (FamI 2 .i64).avs tt2 D.1]; rfl) rfl rfl rfl rfl rfl rfl rfl rfl ⟨q1, by show cap0 * 1 ≤ tt0; omega⟩ hpos.1 p1 ⟨by omega, by show (rd.length + D.1.length) * 8 ≤ _; omega⟩ ?_
        intro cap3 tt3 hc3 hc4
        refine w_ ?_
        have ih2 := ih (j + 1, ⟨st, has, z, rd ++ D.1, ex⟩, ⟨y, (false, cap3), ye⟩, some tt3, me) ⟨by omega, i2, .inr ⟨tt3, cap3, rfl, rfl, by show (rd ++ D.1).length ≤ cap3; rw [List.length_append]; omega, by omega⟩, i4, by show (rd ++ D.1).length ≤ (j + 1) * K; rw [List.length_append]; omega, by show ex.length ≤ (j + 1) * K; omega, hO⟩ (by simp only; omega)
        dsimp only at ih2
        unfold cellsT at ih2
        dsimp only at ih2
        rw [List.length_append] at ih2
        exact LP_renG [0, 1, 2, 3, 4, 5, 6, 7, 8, 9, 10, 11, 12, 16, 14] ih2 s_ s_ rfl rfl rfl
    have hrd : ¬ n = RDT := hrd
    refine w_ ?_
    refine i_ ?_ ?_ <;> intro hex
    · have hex : n = EXT := hex
      have hz : lineZ ff s l = if (datesZ x).2 = 0 then ({ s with ex := s.ex ++ (datesZ x).1 }, 0) else (SZ.zero, (datesZ x).2) := by
        rw [hzn]; unfold nameLine; rw [if_neg hd, if_neg hr, if_neg hrd, if_pos hex]
      have hpos := fun h => datesZ_pos (s := x) h (by omega)
      refine w_ ?_
      refine WL_call [] (textDates_tri x (by omega)) rfl rfl rfl (s_) (s_) rfl rfl rfl rfl ?_
      rw [hxd]
      generalize datesZ x = D at *
      rintro _ _ _ (⟨p0, cap2, tt2, p1, p2, rfl, rfl, rfl⟩ | ⟨p0, rfl, rfl, rfl⟩)
      rotate_left 1
      · rw [if_neg p0] at hz
        have hO := linesZ_bad i7 hz p0
        refine w_ ?_
        refine i_ ?_ ?_ <;> intro h0
        rotate_left 1
        · exact absurd (by omega) p0
        refine w_ ?_
        refine W_renG [0, 1] (n := 2) (tm' := [(2, .ptr 1 0), (3, .int .u8 (D.2 : Nat))]) (hp' := [(1, .cells 28 (some 22) zcT)]) ?_ s_ s_ rfl rfl rfl
        refine r_ ?_ ?_
        · exact s_
        · rw [hO]; exact .inr ⟨p0, rfl, rfl, rfl⟩
      rw [if_pos p0] at hz
      have hO := linesZ_ok i7 hz
      have hpos := hpos p0
      refine w_ ?_
      refine W_cond_false rfl ?_
      refine w_ ?_
      refine i_ ?_ ?_ <;> intro hq
      · exact absurd hq hrd
      obtain ⟨st, has, z, rd, ex⟩ := s
      obtain ⟨y, yr, ye⟩ := y
      simp only at i2 i3 i4 i5 i6
      rcases i4 with ⟨rfl, rfl, rfl⟩ | ⟨tt0, cap0, rfl, rfl, q1, q2⟩
      · refine w_ ?_
        refine WL_imp (Imp_tm 123 (.v (.slice none 0 0)) rfl (fun _ => rfl) trivial) ?_
        refine WL_appN (FamI 2 .i64) D.1 rfl rfl rfl rfl (by rw [← (FamI 2 .i64).avs tt2 D.1]; rfl) rfl rfl rfl rfl rfl rfl rfl rfl hpos.1 p1 ⟨by omega, by show D.1.length * 8 ≤ _; omega⟩ ?_
        intro cap3 tt3 hc3 hc4
        refine w_ ?_
        have ih2 := ih (j + 1, ⟨st, has, z, rd, D.1⟩, ⟨y, yr, (false, cap3)⟩, mr, some tt3) ⟨by omega, i2, i3, .inr ⟨tt3, cap3, rfl, rfl, by omega, by omega⟩, by show rd.length ≤ (j + 1) * K; omega, by show D.1.length ≤ (j + 1) * K; omega, hO⟩ (by simp only; omega)
        dsimp only at ih2
        exact LP_renG [0, 1, 2, 3, 4, 5, 6, 7, 8, 9, 10, 11, 12, 13, 16] ih2 s_ s_ rfl rfl rfl
      · refine w_ ?_
        refine WL_appX (FamI 2 .i64) ex D.1 rfl rfl rfl rfl rfl (by rw [← (FamI 2 .i64).avs tt2 D.1]; rfl) rfl rfl rfl rfl rfl rfl rfl rfl ⟨q1, by show cap0 * 1 ≤ tt0; omega⟩ hpos.1 p1 ⟨by omega, by show (ex.length + D.1.length) * 8 ≤ _; omega⟩ ?_
        intro cap3 tt3 hc3 hc4
        refine w_ ?_
        have ih2 := ih (j + 1, ⟨st, has, z, rd, ex ++ D.1⟩, ⟨y, yr, (false, cap3)⟩, mr, some tt3) ⟨by omega, i2, i3, .inr ⟨tt3, cap3, rfl, rfl, by show (ex ++ D.1).length ≤ cap3; rw [List.length_append]; omega, by omega⟩, by show rd.length ≤ (j + 1) * K; omega, by show (ex ++ D.1).length ≤ (j + 1) * K; rw [List.length_append]; omega, hO⟩ (by simp only; omega)
        dsimp only at ih2
        unfold cellsT at ih2
        dsimp only at ih2
        rw [List.length_append] at ih2
        exact LP_renG [0, 1, 2, 3, 4, 5, 6, 7, 8, 9, 10, 11, 12, 13, 16] ih2 s_ s_ rfl rfl rfl
    have hex : ¬ n = EXT := hex
    have hz : lineZ ff s l = (s, 0) := by rw [hzn]; unfold nameLine; rw [if_neg hd, if_neg hr, if_neg hrd, if_neg hex]
    have hO := linesZ_ok i7 hz
    refine w_ ?_
    exact LP_renG [0, 1, 2, 3, 4, 5, 6, 7, 8, 9, 10, 11, 12, 13, 14] (ih (j + 1, s, y, mr, me) ⟨by omega, i2, i3, i4, by show s.rd.length ≤ (j + 1) * K; omega, by show s.ex.length ≤ (j + 1) * K; omega, hO⟩ (by simp only; omega)) s_ s_ rfl rfl rfl
  · have hj : j = ls.length := by omega
    rw [hj, List.drop_length, linesZ] at i7
    rw [i7]
    refine w_ ?_
    refine x_ ?_
    refine w_ ?_
    refine W_imp (Imp_conv 13 (dsl none s.rd) rfl rfl rfl rfl (.inl rfl) ⟨[], by simp [AO.avs]⟩) ?_
    refine W_imp (Imp_conv 14 (dsl none s.ex) rfl rfl rfl rfl (.inl rfl) ⟨[], by simp [AO.avs]⟩) ?_
    refine W_renG [0, 3, 4, 5, 6, 7, 8, 9, 10, 11, 12, 13, 14, 1] (n := 14) (tm' := [(2, .ptr 13 0), (3, .int .u8 0)]) (hp' := (13, .cells 28 (some 22) (cellsT s y 1)) :: setHp 95 s 1) ?_ s_ s_ rfl rfl rfl
    refine r_ ?_ ?_
    · exact s_
    · exact .inl ⟨rfl, y, ⟨i2, GOKL_cap i3, GOKL_cap i4⟩, rfl, rfl, rfl⟩
end Go.Eng
