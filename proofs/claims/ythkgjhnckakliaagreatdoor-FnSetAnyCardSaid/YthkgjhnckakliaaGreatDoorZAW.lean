/- A part of the proof that the rows statement FnSetAny holds: the engine of abstract states, the walks through the program, the bridge; no conditions. -/
import Derived.Test.YthkgjhnckakliaaGreatDoorZAO
import Derived.Test.YthkgjhnckakliaaGreatDoorZAV
set_option linter.unusedVariables false
set_option linter.unusedSimpArgs false
set_option linter.unusedSectionVars false
namespace Go.Eng
open Go.Proofs
attribute [local irreducible] W WL LP Then InBl Tri WS
def dayZ (s : List UInt8) : Option (Int × Int) :=
  if s.length < 2 then none else
  match wdayZ (s.drop (s.length - 2)) with
  | none => none
  | some w => if s.length = 2 then some (w, 0) else (intZ (s.take (s.length - 2))).map fun n => (w, n)
abbrev dayA (p : Int × Int) : AV := .agg [.int .i64 p.1, .int .i64 p.2]
theorem dayZ_short {s : List UInt8} (h : s.length < 2) : dayZ s = none := by unfold dayZ; rw [if_pos h]
theorem dayZ_two {s : List UInt8} {w : Int} (h : ¬ s.length < 2) (hw : wdayZ (s.drop (s.length - 2)) = some w) (h2 : s.length = 2) : dayZ s = some (w, 0) := by
  unfold dayZ; rw [if_neg h, hw]; simp only [if_pos h2]
theorem dayZ_num {s : List UInt8} {w : Int} (h : ¬ s.length < 2) (hw : wdayZ (s.drop (s.length - 2)) = some w) (h2 : ¬ s.length = 2) : dayZ s = (intZ (s.take (s.length - 2))).map fun n => (w, n) := by
  unfold dayZ; rw [if_neg h, hw]; simp only [if_neg h2]
theorem dayZ_none {s : List UInt8} (h : ¬ s.length < 2) (hw : wdayZ (s.drop (s.length - 2)) = none) : dayZ s = none := by
  unfold dayZ; rw [if_neg h, hw]
theorem textDay_tri (s : List UInt8) (hs : s.length ≤ 1073741824) : Tri C0 145 0 [] [.str s] (fun k hp r => k = 0 ∧ hp = [] ∧ okR (dayZ s) dayA r) := by
  refine Tri.keep ?_ trivial (fun r h => okR_lt h fun _ => ⟨trivial, trivial, trivial⟩)
  refine Tri.mk 44 [.cell 2 95, .tmp 3] Tryz.func145 rfl rfl rfl rfl cf145 ?_; intro w0 S T ρ0
  refine w_ ?_
  refine i_ ?_ ?_ <;> intro hz
  · refine w_ ?_
    refine k_ ?_
    exact .inr ⟨dayZ_short (by omega), (0, 0), rfl⟩
  have hz : ¬ s.length < 2 := by omega
  have e1 : ((s.length : Int) - 2).toNat = s.length - 2 := by omega
  refine w_ ?_
  refine W_loop ?_
  refine LP_round ?_; try dsimp only
  refine w_ ?_
  refine W_cond_true rfl ?_
  refine w_ ?_
  rw [e1]
  refine i_ ?_ ?_ <;> intro h0
  rotate_left 1
  · have h0 : s.drop (s.length - 2) = [77, 79] := h0
    have e : wdayZ (s.drop (s.length - 2)) = some 0 := by unfold wdayZ; rw [if_pos h0]
    refine w_ ?_
    refine i_ ?_ ?_ <;> intro h2
    · refine w_ ?_
      refine k_ ?_
      exact .inl ⟨_, dayZ_two hz e (by omega), rfl⟩
    have hdn := dayZ_num hz e (by omega)
    refine w_ ?_
    rw [e1]
    refine WL_call [] (textInt_tri (s.take (s.length - 2)) (by simp; omega)) rfl rfl rfl t_ t_ rfl rfl rfl rfl ?_; rintro _ _ _ ⟨rfl, rfl, rfl⟩
    refine w_ ?_
    cases hv : intZ (s.take (s.length - 2)) with
    | none =>
      rw [hv] at hdn
      refine k_ ?_
      exact .inr ⟨hdn, (0, 0), rfl⟩
    | some v =>
      rw [hv] at hdn
      refine k_ ?_
      exact .inl ⟨_, hdn, rfl⟩
  have h0 : ¬ s.drop (s.length - 2) = [77, 79] := h0
  refine w_ ?_
  refine x_ ?_
  refine w_ ?_
  refine LP_round ?_; try dsimp only
  refine w_ ?_
  refine W_cond_true rfl ?_
  refine w_ ?_
  rw [e1]
  refine i_ ?_ ?_ <;> intro h1
  rotate_left 1
  · have h1 : s.drop (s.length - 2) = [84, 85] := h1
    have e : wdayZ (s.drop (s.length - 2)) = some 1 := by unfold wdayZ; rw [if_neg h0, if_pos h1]
    refine w_ ?_
    refine i_ ?_ ?_ <;> intro h2
    · refine w_ ?_
      refine k_ ?_
      exact .inl ⟨_, dayZ_two hz e (by omega), rfl⟩
    have hdn := dayZ_num hz e (by omega)
    refine w_ ?_
    rw [e1]
    refine WL_call [] (textInt_tri (s.take (s.length - 2)) (by simp; omega)) rfl rfl rfl t_ t_ rfl rfl rfl rfl ?_; rintro _ _ _ ⟨rfl, rfl, rfl⟩
    refine w_ ?_
    cases hv : intZ (s.take (s.length - 2)) with
    | none =>
      rw [hv] at hdn
      refine k_ ?_
      exact .inr ⟨hdn, (1, 0), rfl⟩
    | some v =>
      rw [hv] at hdn
      refine k_ ?_
      exact .inl ⟨_, hdn, rfl⟩
  have h1 : ¬ s.drop (s.length - 2) = [84, 85] := h1
  refine w_ ?_
  refine x_ ?_
  refine w_ ?_
  refine LP_round ?_; try dsimp only
  refine w_ ?_
  refine W_cond_true rfl ?_
  refine w_ ?_
  rw [e1]
  refine i_ ?_ ?_ <;> intro h2
  rotate_left 1
  · have h2 : s.drop (s.length - 2) = [87, 69] := h2
    have e : wdayZ (s.drop (s.length - 2)) = some 2 := by unfold wdayZ; rw [if_neg h0, if_neg h1, if_pos h2]
    refine w_ ?_
    refine i_ ?_ ?_ <;> intro h2
    · refine w_ ?_
      refine k_ ?_
      exact .inl ⟨_, dayZ_two hz e (by omega), rfl⟩
    have hdn := dayZ_num hz e (by omega)
    refine w_ ?_
    rw [e1]
    refine WL_call [] (textInt_tri (s.take (s.length - 2)) (by simp; omega)) rfl rfl rfl t_ t_ rfl rfl rfl rfl ?_; rintro _ _ _ ⟨rfl, rfl, rfl⟩
    refine w_ ?_
    cases hv : intZ (s.take (s.length - 2)) with
    | none =>
      rw [hv] at hdn
      refine k_ ?_
      exact .inr ⟨hdn, (2, 0), rfl⟩
    | some v =>
      rw [hv] at hdn
      refine k_ ?_
      exact .inl ⟨_, hdn, rfl⟩
  have h2 : ¬ s.drop (s.length - 2) = [87, 69] := h2
  refine w_ ?_
  refine x_ ?_
  refine w_ ?_
  refine LP_round ?_; try dsimp only
  refine w_ ?_
  refine W_cond_true rfl ?_
  refine w_ ?_
  rw [e1]
  refine i_ ?_ ?_ <;> intro h3
  rotate_left 1
  · have h3 : s.drop (s.length - 2) = [84, 72] := h3
    have e : wdayZ (s.drop (s.length - 2)) = some 3 := by unfold wdayZ; rw [if_neg h0, if_neg h1, if_neg h2, if_pos h3]
    refine w_ ?_
    refine i_ ?_ ?_ <;> intro h2
    · refine w_ ?_
      refine k_ ?_
      exact .inl ⟨_, dayZ_two hz e (by omega), rfl⟩
    have hdn := dayZ_num hz e (by omega)
    refine w_ ?_
    rw [e1]
    refine WL_call [] (textInt_tri (s.take (s.length - 2)) (by simp; omega)) rfl rfl rfl t_ t_ rfl rfl rfl rfl ?_; rintro _ _ _ ⟨rfl, rfl, rfl⟩
    refine w_ ?_
    cases hv : intZ (s.take (s.length - 2)) with
    | none =>
      rw [hv] at hdn
      refine k_ ?_
      exact .inr ⟨hdn, (3, 0), rfl⟩
    | some v =>
      rw [hv] at hdn
      refine k_ ?_
      exact .inl ⟨_, hdn, rfl⟩
  have h3 : ¬ s.drop (s.length - 2) = [84, 72] := h3
  refine w_ ?_
  refine x_ ?_
  refine w_ ?_
  refine LP_round ?_; try dsimp only
  refine w_ ?_
  refine W_cond_true rfl ?_
  refine w_ ?_
  rw [e1]
  refine i_ ?_ ?_ <;> intro h4
  rotate_left 1
  · have h4 : s.drop (s.length - 2) = [70, 82] := h4
    have e : wdayZ (s.drop (s.length - 2)) = some 4 := by unfold wdayZ; rw [if_neg h0, if_neg h1, if_neg h2, if_neg h3, if_pos h4]
    refine w_ ?_
    refine i_ ?_ ?_ <;> intro h2
    · refine w_ ?_
      refine k_ ?_
      exact .inl ⟨_, dayZ_two hz e (by omega), rfl⟩
    have hdn := dayZ_num hz e (by omega)
    refine w_ ?_
    rw [e1]
    refine WL_call [] (textInt_tri (s.take (s.length - 2)) (by simp; omega)) rfl rfl rfl t_ t_ rfl rfl rfl rfl ?_; rintro _ _ _ ⟨rfl, rfl, rfl⟩
    refine w_ ?_
    cases hv : intZ (s.take (s.length - 2)) with
    | none =>
      rw [hv] at hdn
      refine k_ ?_
      exact .inr ⟨hdn, (4, 0), rfl⟩
    | some v =>
      rw [hv] at hdn
      refine k_ ?_
      exact .inl ⟨_, hdn, rfl⟩
  have h4 : ¬ s.drop (s.length - 2) = [70, 82] := h4
  refine w_ ?_
  refine x_ ?_
  refine w_ ?_
  refine LP_round ?_; try dsimp only
  refine w_ ?_
  refine W_cond_true rfl ?_
  refine w_ ?_
  rw [e1]
  refine i_ ?_ ?_ <;> intro h5
  rotate_left 1
  · have h5 : s.drop (s.length - 2) = [83, 65] := h5
    have e : wdayZ (s.drop (s.length - 2)) = some 5 := by unfold wdayZ; rw [if_neg h0, if_neg h1, if_neg h2, if_neg h3, if_neg h4, if_pos h5]
    refine w_ ?_
    refine i_ ?_ ?_ <;> intro h2
    · refine w_ ?_
      refine k_ ?_
      exact .inl ⟨_, dayZ_two hz e (by omega), rfl⟩
    have hdn := dayZ_num hz e (by omega)
    refine w_ ?_
    rw [e1]
    refine WL_call [] (textInt_tri (s.take (s.length - 2)) (by simp; omega)) rfl rfl rfl t_ t_ rfl rfl rfl rfl ?_; rintro _ _ _ ⟨rfl, rfl, rfl⟩
    refine w_ ?_
    cases hv : intZ (s.take (s.length - 2)) with
    | none =>
      rw [hv] at hdn
      refine k_ ?_
      exact .inr ⟨hdn, (5, 0), rfl⟩
    | some v =>
      rw [hv] at hdn
      refine k_ ?_
      exact .inl ⟨_, hdn, rfl⟩
  have h5 : ¬ s.drop (s.length - 2) = [83, 65] := h5
  refine w_ ?_
  refine x_ ?_
  refine w_ ?_
  refine LP_round ?_; try dsimp only
  refine w_ ?_
  refine W_cond_true rfl ?_
  refine w_ ?_
  rw [e1]
  refine i_ ?_ ?_ <;> intro h6
  rotate_left 1
  · have h6 : s.drop (s.length - 2) = [83, 85] := h6
    have e : wdayZ (s.drop (s.length - 2)) = some 6 := by unfold wdayZ; rw [if_neg h0, if_neg h1, if_neg h2, if_neg h3, if_neg h4, if_neg h5, if_pos h6]
    refine w_ ?_
    refine i_ ?_ ?_ <;> intro h2
    · refine w_ ?_
      refine k_ ?_
      exact .inl ⟨_, dayZ_two hz e (by omega), rfl⟩
    have hdn := dayZ_num hz e (by omega)
    refine w_ ?_
    rw [e1]
    refine WL_call [] (textInt_tri (s.take (s.length - 2)) (by simp; omega)) rfl rfl rfl t_ t_ rfl rfl rfl rfl ?_; rintro _ _ _ ⟨rfl, rfl, rfl⟩
    refine w_ ?_
    cases hv : intZ (s.take (s.length - 2)) with
    | none =>
      rw [hv] at hdn
      refine k_ ?_
      exact .inr ⟨hdn, (6, 0), rfl⟩
    | some v =>
      rw [hv] at hdn
      refine k_ ?_
      exact .inl ⟨_, hdn, rfl⟩
  have h6 : ¬ s.drop (s.length - 2) = [83, 85] := h6
  refine w_ ?_
  refine x_ ?_
  refine w_ ?_
  refine LP_round ?_; try dsimp only
  refine w_ ?_
  refine W_cond_false rfl ?_
  refine w_ ?_
  refine x_ ?_
  refine w_ ?_
  refine k_ ?_
  exact .inr ⟨dayZ_none hz (by unfold wdayZ; rw [if_neg h0, if_neg h1, if_neg h2, if_neg h3, if_neg h4, if_neg h5, if_neg h6]), (0, 0), rfl⟩
abbrev WM : List (List UInt8 × Value) := [([77, 79], .agg #[.int .i64 0, .int .i64 0]), ([84, 85], .agg #[.int .i64 1, .int .i64 0]), ([87, 69], .agg #[.int .i64 2, .int .i64 0]), ([84, 72], .agg #[.int .i64 3, .int .i64 0]), ([70, 82], .agg #[.int .i64 4, .int .i64 0]), ([83, 65], .agg #[.int .i64 5, .int .i64 0]), ([83, 85], .agg #[.int .i64 6, .int .i64 0])]
theorem WM_some (s : List UInt8) (v : Value) (h : lookS WM s = some v) : ∃ n : Int, v = .agg #[.int .i64 n, .int .i64 0] ∧ wdayZ s = some n := by
  simp only [WM, lookS] at h
  unfold wdayZ
  by_cases h0 : s = [77, 79]
  · rw [if_pos h0] at h; cases h; exact ⟨_, rfl, by rw [if_pos h0]⟩
  rw [if_neg h0] at h
  by_cases h1 : s = [84, 85]
  · rw [if_pos h1] at h; cases h; exact ⟨_, rfl, by rw [if_neg h0, if_pos h1]⟩
  rw [if_neg h1] at h
  by_cases h2 : s = [87, 69]
  · rw [if_pos h2] at h; cases h; exact ⟨_, rfl, by rw [if_neg h0, if_neg h1, if_pos h2]⟩
  rw [if_neg h2] at h
  by_cases h3 : s = [84, 72]
  · rw [if_pos h3] at h; cases h; exact ⟨_, rfl, by rw [if_neg h0, if_neg h1, if_neg h2, if_pos h3]⟩
  rw [if_neg h3] at h
  by_cases h4 : s = [70, 82]
  · rw [if_pos h4] at h; cases h; exact ⟨_, rfl, by rw [if_neg h0, if_neg h1, if_neg h2, if_neg h3, if_pos h4]⟩
  rw [if_neg h4] at h
  by_cases h5 : s = [83, 65]
  · rw [if_pos h5] at h; cases h; exact ⟨_, rfl, by rw [if_neg h0, if_neg h1, if_neg h2, if_neg h3, if_neg h4, if_pos h5]⟩
  rw [if_neg h5] at h
  by_cases h6 : s = [83, 85]
  · rw [if_pos h6] at h; cases h; exact ⟨_, rfl, by rw [if_neg h0, if_neg h1, if_neg h2, if_neg h3, if_neg h4, if_neg h5, if_pos h6]⟩
  rw [if_neg h6] at h
  cases h
theorem WM_none (s : List UInt8) (h : lookS WM s = none) : wdayZ s = none := by
  simp only [WM, lookS] at h
  unfold wdayZ
  by_cases h0 : s = [77, 79]
  · rw [if_pos h0] at h; cases h
  rw [if_neg h0] at h
  by_cases h1 : s = [84, 85]
  · rw [if_pos h1] at h; cases h
  rw [if_neg h1] at h
  by_cases h2 : s = [87, 69]
  · rw [if_pos h2] at h; cases h
  rw [if_neg h2] at h
  by_cases h3 : s = [84, 72]
  · rw [if_pos h3] at h; cases h
  rw [if_neg h3] at h
  by_cases h4 : s = [70, 82]
  · rw [if_pos h4] at h; cases h
  rw [if_neg h4] at h
  by_cases h5 : s = [83, 65]
  · rw [if_pos h5] at h; cases h
  rw [if_neg h5] at h
  by_cases h6 : s = [83, 85]
  · rw [if_pos h6] at h; cases h
  rw [if_neg h6] at h
  rw [if_neg h0, if_neg h1, if_neg h2, if_neg h3, if_neg h4, if_neg h5, if_neg h6]
theorem strToWeekday_tri (s : List UInt8) (hs : s.length ≤ 1073741824) : Tri C0 221 0 [] [.str s] (fun k hp r => k = 0 ∧ hp = [] ∧ resR (dayZ s) dayA r) := by
  refine Tri.keep ?_ trivial (fun r h => resR_lt h fun _ => ⟨trivial, trivial, trivial⟩)
  refine Tri.mk 60 [.cell 2 142, .tmp 3] Tryz.func221 rfl rfl rfl rfl cf221 ?_; intro w0 S T ρ0
  refine w_ ?_
  refine i_ ?_ ?_ <;> intro hz
  · refine w_ ?_
    refine WL_call [] (errNew_tri _) rfl rfl rfl t_ t_ rfl rfl rfl rfl ?_; rintro _ _ _ ⟨rfl, rfl, et, ep, rfl⟩
    refine w_ ?_
    refine k_ ?_
    exact .inr ⟨dayZ_short (by omega), (0, 0), _, _, rfl⟩
  have hz : ¬ s.length < 2 := by omega
  have e1 : ((s.length : Int) - 2).toNat = s.length - 2 := by omega
  refine w_ ?_
  refine WL_makeMap rfl rfl ?_
  refine w_ ?_
  refine WL_insert rfl rfl rfl rfl rfl rfl rfl rfl ⟨trivial, trivial, trivial⟩ rfl rfl ?_
  refine w_ ?_
  refine WL_insert rfl rfl rfl rfl rfl rfl rfl rfl ⟨trivial, trivial, trivial⟩ rfl rfl ?_
  refine w_ ?_
  refine WL_insert rfl rfl rfl rfl rfl rfl rfl rfl ⟨trivial, trivial, trivial⟩ rfl rfl ?_
  refine w_ ?_
  refine WL_insert rfl rfl rfl rfl rfl rfl rfl rfl ⟨trivial, trivial, trivial⟩ rfl rfl ?_
  refine w_ ?_
  refine WL_insert rfl rfl rfl rfl rfl rfl rfl rfl ⟨trivial, trivial, trivial⟩ rfl rfl ?_
  refine w_ ?_
  refine WL_insert rfl rfl rfl rfl rfl rfl rfl rfl ⟨trivial, trivial, trivial⟩ rfl rfl ?_
  refine w_ ?_
  refine WL_insert rfl rfl rfl rfl rfl rfl rfl rfl ⟨trivial, trivial, trivial⟩ rfl rfl ?_
  refine w_ ?_
  rw [e1]
  refine WL_lookup rfl rfl rfl rfl rfl rfl rfl rfl rfl rfl rfl ?_ ?_
  · intro v hv
    obtain ⟨w, rfl, hw⟩ := WM_some _ v hv
    refine w_ ?_
    refine W_cond_false rfl ?_
    refine w_ ?_
    refine i_ ?_ ?_ <;> intro h2
    · have hdn := dayZ_num hz hw (by omega)
      refine w_ ?_
      rw [e1]
      refine WL_call [] (atoi2_tri (s.take (s.length - 2)) (by simp; omega)) rfl rfl rfl t_ t_ rfl rfl rfl rfl ?_; rintro _ _ _ ⟨rfl, rfl, hr⟩
      rcases hr with ⟨v, hv, rfl⟩ | ⟨hv, v, t, p, rfl⟩
      · rw [hv] at hdn
        refine w_ ?_
        refine W_cond_false rfl ?_
        refine w_ ?_
        refine k_ ?_
        exact .inl ⟨_, hdn, rfl⟩
      · rw [hv] at hdn
        refine w_ ?_
        refine W_cond_true rfl ?_
        refine w_ ?_
        refine k_ ?_
        exact .inr ⟨hdn, (0, 0), _, _, rfl⟩
    · have hdn := dayZ_two hz hw (by omega)
      refine w_ ?_
      refine k_ ?_
      exact .inl ⟨_, hdn, rfl⟩
  · intro hv
    have hn := WM_none _ hv
    refine w_ ?_
    refine W_cond_true rfl ?_
    refine w_ ?_
    refine WL_call [] (errNew_tri _) rfl rfl rfl t_ t_ rfl rfl rfl rfl ?_; rintro _ _ _ ⟨rfl, rfl, et, ep, rfl⟩
    refine w_ ?_
    refine k_ ?_
    exact .inr ⟨dayZ_none hz hn, (0, 0), _, _, rfl⟩
end Go.Eng
namespace Go.Eng
open Go.Proofs
attribute [local irreducible] W WL LP Then InBl Tri WS
def mapZ {α : Type} (f : List UInt8 → Option α) : List (List UInt8) → Option (List α)
  | [] => some []
  | x :: l => match f x with | none => none | some v => (mapZ f l).map (v :: ·)
theorem mapZ_none {α : Type} {f : List UInt8 → Option α} {x : List UInt8} {l : List (List UInt8)} (h : f x = none) : mapZ f (x :: l) = none := by simp [mapZ, h]
theorem mapZ_some {α : Type} {f : List UInt8 → Option α} {x : List UInt8} {l : List (List UInt8)} {v : α} (h : f x = some v) : mapZ f (x :: l) = (mapZ f l).map (v :: ·) := by simp [mapZ, h]
theorem mapZ_len {α : Type} {f : List UInt8 → Option α} : ∀ {l : List (List UInt8)} {xs : List α}, mapZ f l = some xs → xs.length = l.length
  | [], xs, h => by simp only [mapZ, Option.some.injEq] at h; subst h; rfl
  | x :: l, xs, h => by
    cases hv : f x with
    | none => rw [mapZ_none hv] at h; cases h
    | some v =>
      rw [mapZ_some hv] at h
      obtain ⟨ys, h1, h2⟩ := map_some' h
      subst h2
      simp [mapZ_len h1]
theorem mapZ_acc {α : Type} {o : Option (List α)} {acc : List α} {v : α} : (o.map (v :: ·)).map (acc ++ ·) = o.map ((acc ++ [v]) ++ ·) := by
  cases o <;> simp
def listS {α : Type} (ob : List α → AO) (n : Nat) (o : Option (List α)) : Rs := fun k hp r =>
  (∃ xs cap, o = some xs ∧ 0 < xs.length ∧ xs.length ≤ cap ∧ k = 1 ∧ hp = [(0, ob xs)] ∧ r = .tup [.sl false 0 n 0 xs.length cap, .bool true]) ∨
  (o = none ∧ k = 0 ∧ hp = [] ∧ r = .tup [.v (.slice none 0 0), .bool false])
def listR {α : Type} (ob : List α → AO) (n : Nat) (o : Option (List α)) : Rs := fun k hp r =>
  (∃ xs cap, o = some xs ∧ 0 < xs.length ∧ xs.length ≤ cap ∧ k = 1 ∧ hp = [(0, ob xs)] ∧ r = .tup [.sl false 0 n 0 xs.length cap, .v .nilIface]) ∨
  (o = none ∧ k = 0 ∧ hp = [] ∧ ∃ t p, r = .tup [.v (.slice none 0 0), .ifc t (.v p)])
abbrev intA (xs : List Int) : AO := .ints 3 none .i64 xs
theorem textIntList_tri (s : List UInt8) (hl : s.length ≤ 536870912) : Tri C0 146 0 [] [.str s] (listS intA 1 (mapZ intZ (splitB 44 s))) := by
  refine Tri.mk 29 [.tmp 2, .tmp 3] Tryz.func146 rfl rfl rfl rfl cf146 ?_; intro w0 S T ρ0
  refine w_ ?_
  refine WL_call [] (textSplit_tri 44 s (by omega)) rfl rfl rfl (s_) (s_) rfl rfl rfl rfl ?_
  rintro _ _ _ ⟨cap2, tt2, hd1, hd2, rfl, rfl, rfl⟩
  have hm2 := splitB_mem 44 s
  have hne2 := splitB_ne 44 s
  have hcnt := splitB_count 44 s
  generalize splitB 44 s = ds at *
  have hpos : 0 < ds.length := List.length_pos_iff.2 hne2
  refine w_ ?_
  refine W_loop ?_
  refine LP_round ?_; try dsimp only
  refine w_ ?_
  refine i_ ?_ ?_ <;> intro hj
  rotate_left 1
  · exfalso; omega
  have hdr : ds = ds.getD 0 [] :: ds.drop 1 := by have := drop_getL hpos; simpa using this
  have hyl := (hm2 _ (getD_mem hpos)).1
  refine w_ ?_
  refine WL_call [] (textInt_tri (ds.getD 0 []) (by omega)) rfl rfl rfl t_ t_ rfl rfl rfl rfl ?_; rintro _ _ _ ⟨rfl, rfl, rfl⟩
  refine w_ ?_
  cases hv : intZ (ds.getD 0 []) with
  | none =>
    have hbad : mapZ intZ ds = none := by rw [hdr]; exact mapZ_none hv
    refine W_cond_true rfl ?_
    refine w_ ?_
    refine W_ren [] (n := 0) (tm' := [(2, .v (.slice none 0 0)), (3, .bool false)]) (hp' := []) ?_ s_ s_ rfl rfl rfl
    refine r_ ?_ ?_
    · exact s_
    · exact .inr ⟨hbad, rfl, rfl, rfl⟩
  | some v =>
  have hk := mapZ_some (l := ds.drop 1) hv
  rw [← hdr] at hk
  refine W_cond_false rfl ?_
  refine w_ ?_
  refine WL_app0 (FamI 3 .i64) (v) rfl rfl rfl rfl rfl rfl rfl rfl rfl rfl rfl rfl rfl (by decide) ?_
  intro cap3 tt3 hc3 hc4
  refine w_ ?_
  refine LP_ren [0, 2] (LP_ind 2 (fun q : Nat × List Int × Nat × Nat => ([(4, .sl false 1 1 0 q.2.1.length q.2.2.1), (10, .sl false 0 1 0 ds.length cap2), (11, .int .i64 ds.length), (12, .int .i64 q.1)], [(0, .strs 9 (some tt2) ds), (1, .ints 3 (some q.2.2.2) .i64 q.2.1)])) (fun q => ds.length - q.1)
    (fun q => q.1 ≤ ds.length ∧ q.2.1.length = q.1 ∧ 0 < q.2.1.length ∧ q.2.1.length ≤ q.2.2.1 ∧ q.2.2.1 * 1 ≤ q.2.2.2 ∧ mapZ intZ ds = (mapZ intZ (ds.drop q.1)).map (q.2.1 ++ ·)) (1, [v], cap3, tt3) ?_ ⟨by simp only; omega, rfl, by simp, hc3, hc4, hk⟩) ?_ ?_ rfl rfl rfl
  rotate_left 1
  · exact s_
  · exact s_
  rintro ⟨j, acc, cap3, tt3⟩ ⟨i1, i2, i5, i3, i4, i6⟩ ih
  simp only at i1 i2 i3 i4 i5 i6
  refine LP_round ?_; try dsimp only
  refine w_ ?_
  refine i_ ?_ ?_ <;> intro hj
  · have hj : j < ds.length := by omega
    rw [drop_getL hj] at i6
    have hyl := (hm2 _ (getD_mem hj)).1
    refine w_ ?_
    rw [show 0 + (j : Int).toNat = j by omega]
    refine WL_call [] (textInt_tri (ds.getD j []) (by omega)) rfl rfl rfl t_ t_ rfl rfl rfl rfl ?_; rintro _ _ _ ⟨rfl, rfl, rfl⟩
    refine w_ ?_
    cases hv : intZ (ds.getD j []) with
    | none =>
      rw [mapZ_none hv] at i6
      refine W_cond_true rfl ?_
      refine w_ ?_
      refine W_ren [] (n := 0) (tm' := [(2, .v (.slice none 0 0)), (3, .bool false)]) (hp' := []) ?_ s_ s_ rfl rfl rfl
      refine r_ ?_ ?_
      · exact s_
      · exact .inr ⟨i6, rfl, rfl, rfl⟩
    | some v =>
    rw [mapZ_some hv, mapZ_acc] at i6
    refine W_cond_false rfl ?_
    refine w_ ?_
    refine WL_app1 (FamI 3 .i64) (acc) (v) rfl rfl rfl rfl rfl rfl rfl rfl rfl rfl rfl rfl rfl rfl ?_ ?_ ?_
    · exact ⟨by omega, i4⟩
    · exact ⟨by omega, by show (acc.length + 1) * 8 ≤ _; omega⟩
    intro cap4 tt4 hc3 hc4 _
    refine w_ ?_
    have ih2 := ih (j + 1, acc ++ [v], cap4, tt4) ⟨by omega, by simp; omega, by simp, by simp at hc3 ⊢; omega, hc4, i6⟩ (by simp only; omega)
    dsimp only at ih2
    rw [show (acc ++ [v]).length = acc.length + 1 by simp] at ih2
    refine LP_ren [0, 3] ih2 ?_ ?_ rfl rfl rfl
    · exact s_
    · exact s_
  · have hj : j = ds.length := by omega
    rw [hj, List.drop_length, mapZ] at i6
    simp only [Option.map_some, List.append_nil] at i6
    refine w_ ?_
    refine x_ ?_
    refine w_ ?_
    refine W_conv 1 (.ints 3 none .i64 acc) rfl rfl rfl rfl (.inl rfl) ⟨[], by simp [AO.avs]⟩ ?_
    refine W_ren [1] (n := 1) (tm' := [(2, .sl false 0 1 0 acc.length cap3), (3, .bool true)]) (hp' := [(0, .ints 3 none .i64 acc)]) ?_ s_ s_ rfl rfl rfl
    refine r_ ?_ ?_
    · exact s_
    · exact .inl ⟨acc, cap3, i6, i5, i3, rfl, rfl, rfl⟩
end Go.Eng
namespace Go.Eng
open Go.Proofs
attribute [local irreducible] W WL LP Then InBl Tri WS
theorem take_set {α : Type} {xs : List α} {i : Nat} {v : α} (h : i < xs.length) : (xs.set i v).take (i + 1) = xs.take i ++ [v] := by
  rw [List.take_add_one, List.take_set_of_le (Nat.le_refl _), List.getElem?_set_self (by simpa using h)]; rfl
theorem take_setL {xs : List Int} {i : Nat} {v : Int} (h : i < xs.length) : (xs.set i v).take (i + 1) = xs.take i ++ [v] := take_set h
theorem rep_days : ∀ n : Nat, ((List.replicate n ((0 : Int), (0 : Int))).map fun p => [p.1, p.2]).flatMap (rowA K2) = (List.replicate n [AV.int .i64 0, AV.int .i64 0]).flatten
  | 0 => rfl
  | n + 1 => by rw [List.replicate_succ, List.replicate_succ, List.map_cons, List.flatten_cons, List.flatMap_cons, rep_days n]; rfl
theorem strToInts_tri (s : List UInt8) (hl : s.length ≤ 536870912) : Tri C0 222 0 [] [.str s] (listR intA 1 (mapZ intZ (splitB 44 s))) := by
  refine Tri.mk 34 [.tmp 2, .tmp 3] Tryz.func222 rfl rfl rfl rfl cf222 ?_; intro w0 S T ρ0
  refine w_ ?_
  refine WL_call [] (split_str_tri 44 s (by omega)) rfl rfl rfl (s_) (s_) rfl rfl rfl rfl ?_
  rintro _ _ _ ⟨cap2, tt2, hd1, hd2, rfl, rfl, rfl⟩
  have hm2 := splitB_mem 44 s
  have hne2 := splitB_ne 44 s
  have hcnt := splitB_count 44 s
  generalize splitB 44 s = ds at *
  have hpos : 0 < ds.length := List.length_pos_iff.2 hne2
  refine w_ ?_
  refine WL_make (.ints 3 (some ds.length) .i64 (List.replicate ds.length 0)) rfl rfl rfl rfl rfl rfl rfl rfl rfl rfl ?_ rfl rfl ?_ ?_ ?_
  · refine ⟨by omega, by omega, by omega, ?_⟩
    show (8 : Int) * (ds.length : Int) ≤ _; omega
  · simp [AO.avs]; exact .inr rfl
  · simp [AO.avs, AO.tot]
  rw [Int.toNat_natCast]
  refine w_ ?_
  refine W_loop ?_; refine LP_ren [0, 1] (LP_ind 2 (fun q : Nat × List Int => ([(5, .sl false 1 1 0 ds.length ds.length), (14, .sl false 0 1 0 ds.length cap2), (15, .int .i64 ds.length), (16, .int .i64 q.1)], [(0, .strs 9 (some tt2) ds), (1, .ints 3 (some ds.length) .i64 q.2)])) (fun q => ds.length - q.1) (fun q => q.1 ≤ ds.length ∧ q.2.length = ds.length ∧ mapZ intZ ds = (mapZ intZ (ds.drop q.1)).map (q.2.take q.1 ++ ·)) (0, List.replicate ds.length 0) ?_ (⟨Nat.zero_le _, by simp, by simp⟩)) s_ s_ rfl rfl rfl
  rintro ⟨j, xs⟩ ⟨i1, i2, i6⟩ ih
  simp only at i1 i2 i6
  refine LP_round ?_; try dsimp only
  refine w_ ?_
  refine i_ ?_ ?_ <;> intro hj
  · have hj : j < ds.length := by omega
    rw [drop_getL hj] at i6
    have hyl := (hm2 _ (getD_mem hj)).1
    refine w_ ?_
    rw [show 0 + (j : Int).toNat = j by omega]
    refine WL_call [] (atoi2_tri (ds.getD j []) (by omega)) rfl rfl rfl t_ t_ rfl rfl rfl rfl ?_; rintro _ _ _ ⟨rfl, rfl, hr⟩
    rcases hr with ⟨v, hv, rfl⟩ | ⟨hv, v, t, p, rfl⟩
    · rw [mapZ_some hv, mapZ_acc] at i6
      refine w_ ?_
      refine W_cond_false rfl ?_
      refine w_ ?_
      rw [show 0 + (j : Int).toNat = j by omega]
      refine LP_ren [0, 1] (ih (j + 1, xs.set j v) (⟨by omega, by simpa using i2, by rw [take_setL (by omega)]; exact i6⟩) (by omega)) s_ s_ rfl rfl rfl
    · rw [mapZ_none hv] at i6
      refine w_ ?_
      refine W_cond_true rfl ?_
      refine w_ ?_
      refine W_ren [] (n := 0) (tm' := [(2, .v (.slice none 0 0)), (3, .ifc t (.v p))]) (hp' := []) ?_ s_ s_ rfl rfl rfl
      refine r_ ?_ ?_
      · exact s_
      · exact .inr ⟨i6, rfl, rfl, _, _, rfl⟩
  · have hj : j = ds.length := by omega
    rw [hj, List.drop_length, mapZ, List.take_of_length_le (by omega)] at i6
    simp only [Option.map_some, List.append_nil] at i6
    refine w_ ?_
    refine x_ ?_
    refine w_ ?_
    refine W_conv 1 (.ints 3 none .i64 xs) rfl rfl rfl rfl (.inl rfl) ⟨[], by simp [AO.avs]⟩ ?_
    rw [← i2]
    refine W_ren [1] (n := 1) (tm' := [(2, .sl false 0 1 0 xs.length xs.length), (3, .v .nilIface)]) (hp' := [(0, .ints 3 none .i64 xs)]) ?_ s_ s_ rfl rfl rfl
    refine r_ ?_ ?_
    · exact s_
    · exact .inl ⟨xs, xs.length, i6, by omega, Nat.le_refl _, rfl, rfl, rfl⟩
abbrev dayO (xs : List (Int × Int)) : AO := .recs 142 none K2 (xs.map fun p => [p.1, p.2])
theorem strToWeekdays_tri (s : List UInt8) (hl : s.length ≤ 536870912) : Tri C0 223 0 [] [.str s] (listR dayO 2 (mapZ dayZ (splitB 44 s))) := by
  refine Tri.mk 34 [.tmp 2, .tmp 3] Tryz.func223 rfl rfl rfl rfl cf223 ?_; intro w0 S T ρ0
  refine w_ ?_
  refine WL_call [] (split_str_tri 44 s (by omega)) rfl rfl rfl (s_) (s_) rfl rfl rfl rfl ?_
  rintro _ _ _ ⟨cap2, tt2, hd1, hd2, rfl, rfl, rfl⟩
  have hm2 := splitB_mem 44 s
  have hne2 := splitB_ne 44 s
  have hcnt := splitB_count 44 s
  generalize splitB 44 s = ds at *
  have hpos : 0 < ds.length := List.length_pos_iff.2 hne2
  refine w_ ?_
  refine WL_make (.recs 142 (some (ds.length * 2)) K2 ((List.replicate ds.length ((0 : Int), (0 : Int))).map fun p => [p.1, p.2])) rfl rfl rfl rfl rfl rfl rfl rfl rfl rfl ?_ rfl rfl ?_ ?_ ?_
  · refine ⟨by omega, by omega, by omega, ?_⟩
    show (16 : Int) * (ds.length : Int) ≤ _; omega
  · show _ = _
    rw [Int.toNat_natCast]
    exact rep_days _
  · show some (ds.length * 2) = some _
    congr 1
    simp only [AO.avs, flat_length, List.length_map, List.length_replicate]; rfl
  rw [Int.toNat_natCast]
  refine w_ ?_
  refine W_loop ?_; refine LP_ren [0, 1] (LP_ind 2 (fun q : Nat × List (Int × Int) => ([(5, .sl false 1 2 0 ds.length ds.length), (14, .sl false 0 1 0 ds.length cap2), (15, .int .i64 ds.length), (16, .int .i64 q.1)], [(0, .strs 9 (some tt2) ds), (1, .recs 142 (some (ds.length * 2)) K2 (q.2.map fun p => [p.1, p.2]))])) (fun q => ds.length - q.1) (fun q => q.1 ≤ ds.length ∧ q.2.length = ds.length ∧ mapZ dayZ ds = (mapZ dayZ (ds.drop q.1)).map (q.2.take q.1 ++ ·)) (0, List.replicate ds.length (0, 0)) ?_ (⟨Nat.zero_le _, by simp, by simp⟩)) s_ s_ rfl rfl rfl
  rintro ⟨j, xs⟩ ⟨i1, i2, i6⟩ ih
  simp only at i1 i2 i6
  refine LP_round ?_; try dsimp only
  refine w_ ?_
  refine i_ ?_ ?_ <;> intro hj
  · have hj : j < ds.length := by omega
    rw [drop_getL hj] at i6
    have hyl := (hm2 _ (getD_mem hj)).1
    have hml : (xs.map fun p => [p.1, p.2]).length = ds.length := by simpa using i2
    refine w_ ?_
    rw [show 0 + (j : Int).toNat = j by omega]
    refine WL_call [] (strToWeekday_tri (ds.getD j []) (by omega)) rfl rfl rfl t_ t_ rfl rfl rfl rfl ?_; rintro _ _ _ ⟨rfl, rfl, hr⟩
    rcases hr with ⟨v, hv, rfl⟩ | ⟨hv, v, t, p, rfl⟩
    · rw [mapZ_some hv, mapZ_acc] at i6
      refine w_ ?_
      refine W_cond_false rfl ?_
      refine w_ ?_
      rw [show 0 + (j : Int).toNat = j by omega]
      have ih2 := ih (j + 1, xs.set j v) ⟨by omega, by simpa using i2, by rw [take_set (by omega)]; exact i6⟩ (by simp only; omega)
      dsimp only at ih2
      rw [List.map_set] at ih2
      have ht : ((xs.map fun p => [p.1, p.2]).getD j []).tail.tail = [] := by
        rw [List.getD_eq_getElem?_getD, List.getElem?_map, List.getElem?_eq_getElem (by omega)]; rfl
      rw [ht]
      refine LP_ren [0, 1] ih2 ?_ ?_ rfl rfl rfl
      · exact s_
      · exact s_
    · rw [mapZ_none hv] at i6
      refine w_ ?_
      refine W_cond_true rfl ?_
      refine w_ ?_
      refine W_ren [] (n := 0) (tm' := [(2, .v (.slice none 0 0)), (3, .ifc t (.v p))]) (hp' := []) ?_ s_ s_ rfl rfl rfl
      refine r_ ?_ ?_
      · exact s_
      · exact .inr ⟨i6, rfl, rfl, _, _, rfl⟩
  · have hj : j = ds.length := by omega
    rw [hj, List.drop_length, mapZ, List.take_of_length_le (by omega)] at i6
    simp only [Option.map_some, List.append_nil] at i6
    refine w_ ?_
    refine x_ ?_
    refine w_ ?_
    refine W_conv 1 (.recs 142 none K2 (xs.map fun p => [p.1, p.2])) rfl rfl rfl rfl (.inl rfl) ⟨[], by simp [AO.avs]⟩ ?_
    rw [← i2]
    refine W_ren [1] (n := 1) (tm' := [(2, .sl false 0 2 0 xs.length xs.length), (3, .v .nilIface)]) (hp' := [(0, .recs 142 none K2 (xs.map fun p => [p.1, p.2]))]) ?_ s_ s_ rfl rfl rfl
    refine r_ ?_ ?_
    · exact s_
    · exact .inl ⟨xs, xs.length, i6, by omega, Nat.le_refl _, rfl, rfl, rfl⟩
end Go.Eng
namespace Go.Eng
def okG (π : Nat → Nat) : Hp → Bool
  | [] => true
  | p :: l => (l.all fun q => !(Nat.beq (π p.1) (π q.1)) || Nat.beq p.1 q.1 || !(p.2.mut || q.2.mut)) && okG π l
theorem okG_sep {π : Nat → Nat} : ∀ {l : Hp}, okG π l = true → ∀ {p q}, p ∈ l → q ∈ l → p.1 ≠ q.1 → p.2.mut = true ∨ q.2.mut = true → π p.1 ≠ π q.1
  | [], _, _, _, h, _, _, _ => by cases h
  | x :: l, hk, p, q, hp, hq, hne, hm => by
    simp only [okG, Bool.and_eq_true, List.all_eq_true] at hk
    have one : ∀ y ∈ l, x.1 ≠ y.1 → x.2.mut = true ∨ y.2.mut = true → π x.1 ≠ π y.1 := by
      intro y hy h1 h2 e
      have h3 := hk.1 y hy
      rw [e, Nat.beq_refl] at h3
      have h4 : Nat.beq x.1 y.1 = false := by
        cases h5 : Nat.beq x.1 y.1
        · rfl
        · exact absurd (Nat.eq_of_beq_eq_true h5) h1
      rw [h4] at h3
      rcases h2 with h2 | h2 <;> simp [h2] at h3
    rcases List.mem_cons.1 hp with e1 | h1 <;> rcases List.mem_cons.1 hq with e2 | h2
    · rw [e1, e2] at hne; exact absurd rfl hne
    · subst e1; exact one q h2 hne hm
    · subst e2; exact fun e => one p h1 (Ne.symm hne) hm.symm e.symm
    · exact okG_sep hk.2 h1 h2 hne hm
theorem HR.renG {C : Cx} {ρ : Nat → Nat × Nat} {nx n : Nat} {hp hp' : Hp} {w : World} (H : HR C ρ nx hp w) {π : Nat → Nat} (h : subHp π n hp hp') (hd : okG π hp' = true) :
    HR C (fun i => ρ (π i)) n hp' w := by
  have key : ∀ {id o}, lk hp' id = some o → lk hp (π id) = some (o.ren π) ∧ id < n ∧ o.ltP n := fun h' => subHp_mem h (lk_mem h')
  refine ⟨?_, ?_, ?_, ?_, H.glob⟩
  · intro id o ho
    obtain ⟨h1, h2, h3⟩ := key ho
    exact ⟨h2, AO.ltP_lt h3, (AO.is_ren ρ π _ o _).1 (H.objs _ _ h1).2.2⟩
  · intro id o ho hl
    exact H.bound _ _ (key ho).1 (by rw [AO.live_ren]; exact hl)
  · intro id o id' o' h1 h2 hm hl hne
    exact H.sep _ _ _ _ (key h1).1 (key h2).1 (by rw [AO.mut_ren]; exact hm) (by rw [AO.live_ren]; exact hl) (okG_sep hd (lk_mem h1) (lk_mem h2) hne (.inl hm))
  · intro id o ho hm
    exact H.apart _ _ (key ho).1 (by rw [AO.mut_ren]; exact hm)
theorem ST.renG {C : Cx} {E : En} {ρ : Nat → Nat × Nat} {nx n : Nat} {tm tm' : Tm} {hp hp' : Hp} {a : Act} {w : World} (H : ST C E ρ nx tm hp a w) {π : Nat → Nat}
    (ht : subTm π n tm tm') (h : subHp π n hp hp') (hd : okG π hp' = true) (hn : E.n0 ≤ n) (hi : ∀ i, i < E.n0 → π i = i) :
    ST C E (fun i => ρ (π i)) n tm' hp' a w := by
  have key : ∀ {id o}, lk hp' id = some o → lk hp (π id) = some (o.ren π) ∧ id < n ∧ o.ltP n := fun h' => subHp_mem h (lk_mem h')
  refine ⟨H.defers, H.size, ?_, H.heap.renG h hd, ⟨H.fr.frame, ?_, ?_, H.fr.hsize, H.fr.tape, H.fr.os, H.fr.output⟩, hn, ?_⟩
  · intro t av h'
    obtain ⟨h1, h2⟩ := subTm_mem ht (lk_mem h')
    exact ⟨h2, by rw [← AV.den_ren]; exact (H.tmps t _ h1).2⟩
  · intro id o ho hm
    exact H.fr.own _ _ (key ho).1 (by rw [AO.mut_ren]; exact hm)
  · intro id o ho hm
    exact H.fr.own2 _ _ (key ho).1 (by rw [AO.live_ren]; exact hm)
  · intro i h'
    rw [hi i h']; exact H.agree i h'
variable {C : Cy} {E : En} {ops : Array Oper} {rest : List Oper} {nx : Nat} {tm : Tm} {hp : Hp} {Q : Po}
theorem Imp_renG (pl : List Nat) {n : Nat} {tm' : Tm} {hp' : Hp} (ht : subTm (pm pl) n tm tm') (hh : subHp (pm pl) n hp hp')
    (hd : okG (pm pl) hp' = true) (hn : Nat.ble E.n0 n = true) (hi : upto E.n0 (fun i => Nat.beq (pm pl i) i) = true) : Imp C E nx tm hp n tm' hp' :=
  fun ρ a w H => ⟨_, H.renG ht hh hd (Nat.le_of_ble_eq_true hn) fun i h => Nat.eq_of_beq_eq_true (upto_spec hi h)⟩
theorem W_renG {c : Code} (pl : List Nat) {n : Nat} {tm' : Tm} {hp' : Hp} (h : W C E c n tm' hp' Q) (ht : subTm (pm pl) n tm tm') (hh : subHp (pm pl) n hp hp')
    (hd : okG (pm pl) hp' = true) (hn : Nat.ble E.n0 n = true) (hi : upto E.n0 (fun i => Nat.beq (pm pl i) i) = true) : W C E c nx tm hp Q := W_imp (Imp_renG pl ht hh hd hn hi) h
theorem LP_renG {c : Code} (pl : List Nat) {n : Nat} {tm' : Tm} {hp' : Hp} (h : LP C E c n tm' hp' Q) (ht : subTm (pm pl) n tm tm') (hh : subHp (pm pl) n hp hp')
    (hd : okG (pm pl) hp' = true) (hn : Nat.ble E.n0 n = true) (hi : upto E.n0 (fun i => Nat.beq (pm pl i) i) = true) : LP C E c nx tm hp Q := LP_imp (Imp_renG pl ht hh hd hn hi) h
end Go.Eng
