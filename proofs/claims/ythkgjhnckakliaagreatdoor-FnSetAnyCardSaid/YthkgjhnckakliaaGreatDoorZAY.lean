/- A part of the proof that the rows statement FnSetAny holds: the engine of abstract states, the walks through the program, the bridge; no conditions. -/
import Derived.Test.YthkgjhnckakliaaGreatDoorZAO
import Derived.Test.YthkgjhnckakliaaGreatDoorZAX
set_option linter.unusedVariables false
set_option linter.unusedSimpArgs false
set_option linter.unusedSectionVars false
namespace Go.Eng
open Go.Proofs
attribute [local irreducible] W WL LP Then InBl Tri WS
theorem told_tri (b : Bool) : Tri C0 142 0 [] [.bool b] (fun k hp r => k = 0 ∧ hp = [] ∧ r = .int .u8 (if b = true then 0 else 1)) := by
  refine Tri.keep (Tri.mk 4 [.tmp 2] Tryz.func142 rfl rfl rfl rfl cf142 ?_) t_ (fun r h => q_); intro w0 S T ρ0
  refine w_ ?_
  cases b
  · refine W_cond_false rfl ?_
    refine w_ ?_
    refine k_ ?_
    rfl
  · refine W_cond_true rfl ?_
    refine w_ ?_
    refine k_ ?_
    rfl
theorem told1_tri : Tri C0 142 0 [] [.bool true] (fun k hp r => k = 0 ∧ hp = [] ∧ r = .int .u8 0) := told_tri true
theorem told0_tri : Tri C0 142 0 [] [.bool false] (fun k hp r => k = 0 ∧ hp = [] ∧ r = .int .u8 1) := told_tri false
def partR (p : RZ × Nat) : Rs := fun n hp r =>
  (p.2 = 0 ∧ ∃ y', LOK p.1 y' ∧ n = 21 ∧ hp = (0, .cells 25 (some 18) (cellsS p.1 y' 11)) :: lstHp 95 p.1 11 ∧ r = .int .u8 0) ∨ (p.2 ≠ 0 ∧ n = 11 ∧ hp = [] ∧ r = .int .u8 (p.2 : Nat))
set_option maxHeartbeats 2000000 in
theorem part_tri (z : RZ) (y : LY) (hy : LOK z y) (k v : List UInt8) (hv : v.length ≤ 536870912) : Tri C0 79 11 ((0, .cells 25 (some 18) (cellsS z y 1)) :: lstHp 95 z 1) [.ptr 0 0, .str k, .str v] (partR (partZ z k v)) := by
  refine Tri.mk 196 [.tmp 6] Tryz.func79 rfl rfl rfl rfl cf79 ?_; intro w0 S T ρ0
  refine w_ ?_
  refine i_ ?_ ?_ <;> intro hk
  · have hk : k = [70, 82, 69, 81] := hk
    subst hk
    have hZ := partZ_FREQ z v
    refine w_ ?_
    refine WL_call [] (freqOf_tri v) rfl rfl rfl t_ t_ rfl rfl rfl rfl ?_; rintro _ _ _ ⟨rfl, rfl, hr⟩
    rcases hr with ⟨f, hf, rfl⟩ | ⟨hf, f, rfl⟩
    · rw [hf] at hZ
      have hZ : partZ z [70, 82, 69, 81] v = ({ z with fr := f }, 0) := hZ
      refine w_ ?_
      refine WL_call [] (told1_tri) rfl rfl rfl t_ t_ rfl rfl rfl rfl ?_; rintro _ _ _ ⟨rfl, rfl, rfl⟩
      refine w_ ?_
      refine W_renG [0, 1, 2, 3, 4, 5, 6, 7, 8, 9, 10, 1, 2, 3, 4, 5, 6, 7, 8, 9, 10] (n := 21) (tm' := [(6, .int .u8 0)]) (hp' := (0, .cells 25 (some 18) (cellsS { z with fr := f } y 11)) :: lstHp 95 { z with fr := f } 11) ?_ s_ s_ rfl rfl rfl
      refine r_ ?_ ?_
      · exact s_
      · rw [hZ]; exact .inl ⟨rfl, y, hy, rfl, rfl, rfl⟩
    · rw [hf] at hZ
      have hZ : partZ z [70, 82, 69, 81] v = (z, 1) := hZ
      refine w_ ?_
      refine WL_call [] (told0_tri) rfl rfl rfl t_ t_ rfl rfl rfl rfl ?_; rintro _ _ _ ⟨rfl, rfl, rfl⟩
      refine w_ ?_
      refine W_renG [0, 1, 2, 3, 4, 5, 6, 7, 8, 9, 10] (n := 11) (tm' := [(6, .int .u8 1)]) (hp' := []) ?_ s_ s_ rfl rfl rfl
      refine r_ ?_ ?_
      · exact s_
      · rw [hZ]; exact .inr ⟨by first | exact Nat.succ_ne_zero _ | exact r1, rfl, rfl, rfl⟩
  have hk0 : ¬ k = [70, 82, 69, 81] := hk
  refine w_ ?_
  refine i_ ?_ ?_ <;> intro hk
  · have hk : k = [68, 84, 83, 84, 65, 82, 84] := hk
    subst hk
    have hZ := partZ_DTSTART z v
    refine w_ ?_
    refine WL_call [] (textMoment_tri v (by omega)) rfl rfl rfl t_ t_ rfl rfl rfl rfl ?_; rintro _ _ _ ⟨rfl, rfl, rfl⟩
    refine w_ ?_
    by_cases r1 : (momZ v).2 = 0
    · rw [if_pos r1] at hZ
      rw [r1]
      refine W_renG [0, 1, 2, 3, 4, 5, 6, 7, 8, 9, 10, 1, 2, 3, 4, 5, 6, 7, 8, 9, 10] (n := 21) (tm' := [(6, .int .u8 0)]) (hp' := (0, .cells 25 (some 18) (cellsS { z with st := (momZ v).1 } y 11)) :: lstHp 95 { z with st := (momZ v).1 } 11) ?_ s_ s_ rfl rfl rfl
      refine r_ ?_ ?_
      · exact s_
      · rw [hZ]; exact .inl ⟨rfl, y, hy, rfl, rfl, rfl⟩
    · rw [if_neg r1] at hZ
      refine W_renG [0, 1, 2, 3, 4, 5, 6, 7, 8, 9, 10] (n := 11) (tm' := [(6, .int .u8 ((momZ v).2 : Nat))]) (hp' := []) ?_ s_ s_ rfl rfl rfl
      refine r_ ?_ ?_
      · exact s_
      · rw [hZ]; exact .inr ⟨by first | exact Nat.succ_ne_zero _ | exact r1, rfl, rfl, rfl⟩
  have hk1 : ¬ k = [68, 84, 83, 84, 65, 82, 84] := hk
  refine w_ ?_
  refine i_ ?_ ?_ <;> intro hk
  · have hk : k = [85, 78, 84, 73, 76] := hk
    subst hk
    have hZ := partZ_UNTIL z v
    refine w_ ?_
    refine WL_call [] (textMoment_tri v (by omega)) rfl rfl rfl t_ t_ rfl rfl rfl rfl ?_; rintro _ _ _ ⟨rfl, rfl, rfl⟩
    refine w_ ?_
    by_cases r1 : (momZ v).2 = 0
    · rw [if_pos r1] at hZ
      rw [r1]
      refine W_renG [0, 1, 2, 3, 4, 5, 6, 7, 8, 9, 10, 1, 2, 3, 4, 5, 6, 7, 8, 9, 10] (n := 21) (tm' := [(6, .int .u8 0)]) (hp' := (0, .cells 25 (some 18) (cellsS { z with un := (momZ v).1 } y 11)) :: lstHp 95 { z with un := (momZ v).1 } 11) ?_ s_ s_ rfl rfl rfl
      refine r_ ?_ ?_
      · exact s_
      · rw [hZ]; exact .inl ⟨rfl, y, hy, rfl, rfl, rfl⟩
    · rw [if_neg r1] at hZ
      refine W_renG [0, 1, 2, 3, 4, 5, 6, 7, 8, 9, 10] (n := 11) (tm' := [(6, .int .u8 ((momZ v).2 : Nat))]) (hp' := []) ?_ s_ s_ rfl rfl rfl
      refine r_ ?_ ?_
      · exact s_
      · rw [hZ]; exact .inr ⟨by first | exact Nat.succ_ne_zero _ | exact r1, rfl, rfl, rfl⟩
  have hk2 : ¬ k = [85, 78, 84, 73, 76] := hk
  refine w_ ?_
  refine i_ ?_ ?_ <;> intro hk
  · have hk : k = [73, 78, 84, 69, 82, 86, 65, 76] := hk
    subst hk
    have hZ := partZ_INTERVAL z v
    refine w_ ?_
    refine WL_call [] (textInt_tri v (by omega)) rfl rfl rfl t_ t_ rfl rfl rfl rfl ?_; rintro _ _ _ ⟨rfl, rfl, rfl⟩
    refine w_ ?_
    cases hf : intZ v with
    | some f =>
      rw [hf] at hZ
      have hZ : partZ z [73, 78, 84, 69, 82, 86, 65, 76] v = ({ z with iv := f }, 0) := hZ
      refine WL_call [] (told1_tri) rfl rfl rfl t_ t_ rfl rfl rfl rfl ?_; rintro _ _ _ ⟨rfl, rfl, rfl⟩
      refine w_ ?_
      refine W_renG [0, 1, 2, 3, 4, 5, 6, 7, 8, 9, 10, 1, 2, 3, 4, 5, 6, 7, 8, 9, 10] (n := 21) (tm' := [(6, .int .u8 0)]) (hp' := (0, .cells 25 (some 18) (cellsS { z with iv := f } y 11)) :: lstHp 95 { z with iv := f } 11) ?_ s_ s_ rfl rfl rfl
      refine r_ ?_ ?_
      · exact s_
      · rw [hZ]; exact .inl ⟨rfl, y, hy, rfl, rfl, rfl⟩
    | none =>
      rw [hf] at hZ
      have hZ : partZ z [73, 78, 84, 69, 82, 86, 65, 76] v = (z, 1) := hZ
      refine WL_call [] (told0_tri) rfl rfl rfl t_ t_ rfl rfl rfl rfl ?_; rintro _ _ _ ⟨rfl, rfl, rfl⟩
      refine w_ ?_
      refine W_renG [0, 1, 2, 3, 4, 5, 6, 7, 8, 9, 10] (n := 11) (tm' := [(6, .int .u8 1)]) (hp' := []) ?_ s_ s_ rfl rfl rfl
      refine r_ ?_ ?_
      · exact s_
      · rw [hZ]; exact .inr ⟨by first | exact Nat.succ_ne_zero _ | exact r1, rfl, rfl, rfl⟩
  have hk3 : ¬ k = [73, 78, 84, 69, 82, 86, 65, 76] := hk
  refine w_ ?_
  refine i_ ?_ ?_ <;> intro hk
  · have hk : k = [67, 79, 85, 78, 84] := hk
    subst hk
    have hZ := partZ_COUNT z v
    refine w_ ?_
    refine WL_call [] (textInt_tri v (by omega)) rfl rfl rfl t_ t_ rfl rfl rfl rfl ?_; rintro _ _ _ ⟨rfl, rfl, rfl⟩
    refine w_ ?_
    cases hf : intZ v with
    | some f =>
      rw [hf] at hZ
      have hZ : partZ z [67, 79, 85, 78, 84] v = ({ z with ct := f }, 0) := hZ
      refine WL_call [] (told1_tri) rfl rfl rfl t_ t_ rfl rfl rfl rfl ?_; rintro _ _ _ ⟨rfl, rfl, rfl⟩
      refine w_ ?_
      refine W_renG [0, 1, 2, 3, 4, 5, 6, 7, 8, 9, 10, 1, 2, 3, 4, 5, 6, 7, 8, 9, 10] (n := 21) (tm' := [(6, .int .u8 0)]) (hp' := (0, .cells 25 (some 18) (cellsS { z with ct := f } y 11)) :: lstHp 95 { z with ct := f } 11) ?_ s_ s_ rfl rfl rfl
      refine r_ ?_ ?_
      · exact s_
      · rw [hZ]; exact .inl ⟨rfl, y, hy, rfl, rfl, rfl⟩
    | none =>
      rw [hf] at hZ
      have hZ : partZ z [67, 79, 85, 78, 84] v = (z, 1) := hZ
      refine WL_call [] (told0_tri) rfl rfl rfl t_ t_ rfl rfl rfl rfl ?_; rintro _ _ _ ⟨rfl, rfl, rfl⟩
      refine w_ ?_
      refine W_renG [0, 1, 2, 3, 4, 5, 6, 7, 8, 9, 10] (n := 11) (tm' := [(6, .int .u8 1)]) (hp' := []) ?_ s_ s_ rfl rfl rfl
      refine r_ ?_ ?_
      · exact s_
      · rw [hZ]; exact .inr ⟨by first | exact Nat.succ_ne_zero _ | exact r1, rfl, rfl, rfl⟩
  have hk4 : ¬ k = [67, 79, 85, 78, 84] := hk
  refine w_ ?_
  refine i_ ?_ ?_ <;> intro hk
  · have hk : k = [87, 75, 83, 84] := hk
    subst hk
    have hZ := partZ_WKST z v
    refine w_ ?_
    refine WL_call [] (textDay_tri v (by omega)) rfl rfl rfl t_ t_ rfl rfl rfl rfl ?_; rintro _ _ _ ⟨rfl, rfl, hr⟩
    rcases hr with ⟨f, hf, rfl⟩ | ⟨hf, f, rfl⟩
    · rw [hf] at hZ
      refine w_ ?_
      refine i_ ?_ ?_ <;> intro hn
      · have hZ : partZ z [87, 75, 83, 84] v = (z, 2) := by rw [hZ]; exact if_neg hn
        refine w_ ?_
        refine W_renG [0, 1, 2, 3, 4, 5, 6, 7, 8, 9, 10] (n := 11) (tm' := [(6, .int .u8 2)]) (hp' := []) ?_ s_ s_ rfl rfl rfl
        refine r_ ?_ ?_
        · exact s_
        · rw [hZ]; exact .inr ⟨by first | exact Nat.succ_ne_zero _ | exact r1, rfl, rfl, rfl⟩
      · have hZ : partZ z [87, 75, 83, 84] v = ({ z with wk := f.1, wn := 0 }, 0) := by rw [hZ]; exact if_pos hn
        refine w_ ?_
        refine WL_call [] (told1_tri) rfl rfl rfl t_ t_ rfl rfl rfl rfl ?_; rintro _ _ _ ⟨rfl, rfl, rfl⟩
        refine w_ ?_
        refine W_renG [0, 1, 2, 3, 4, 5, 6, 7, 8, 9, 10, 1, 2, 3, 4, 5, 6, 7, 8, 9, 10] (n := 21) (tm' := [(6, .int .u8 0)]) (hp' := (0, .cells 25 (some 18) (cellsS { z with wk := f.1, wn := 0 } y 11)) :: lstHp 95 { z with wk := f.1, wn := 0 } 11) ?_ s_ s_ rfl rfl rfl
        refine r_ ?_ ?_
        · exact s_
        · rw [hZ]; exact .inl ⟨rfl, y, hy, rfl, rfl, rfl⟩
    · rw [hf] at hZ
      have hZ : partZ z [87, 75, 83, 84] v = (z, 1) := hZ
      refine w_ ?_
      refine W_cond_false rfl ?_
      refine w_ ?_
      refine WL_call [] (told0_tri) rfl rfl rfl t_ t_ rfl rfl rfl rfl ?_; rintro _ _ _ ⟨rfl, rfl, rfl⟩
      refine w_ ?_
      refine W_renG [0, 1, 2, 3, 4, 5, 6, 7, 8, 9, 10] (n := 11) (tm' := [(6, .int .u8 1)]) (hp' := []) ?_ s_ s_ rfl rfl rfl
      refine r_ ?_ ?_
      · exact s_
      · rw [hZ]; exact .inr ⟨by first | exact Nat.succ_ne_zero _ | exact r1, rfl, rfl, rfl⟩
  have hk5 : ¬ k = [87, 75, 83, 84] := hk
  refine w_ ?_
  refine i_ ?_ ?_ <;> intro hk
  · have hk : k = [66, 89, 68, 65, 89] := hk
    subst hk
    have hZ := partZ_BYDAY z v
    refine w_ ?_
    refine WL_call [] (textSplit_tri 44 v (by omega)) rfl rfl rfl (s_) (s_) rfl rfl rfl rfl ?_
    rintro _ _ _ ⟨cap2, tt2, hd1, hd2, rfl, rfl, rfl⟩
    have hm2 := splitB_mem 44 v
    have hne2 := splitB_ne 44 v
    have hcnt := splitB_count 44 v
    generalize splitB 44 v = ds at *
    have hpos : 0 < ds.length := List.length_pos_iff.2 hne2
    refine w_ ?_
    refine W_loop ?_
    refine LP_round ?_; try dsimp only
    refine w_ ?_
    refine i_ ?_ ?_ <;> intro hj
    rotate_left 1
    · exfalso; omega
    have hdr : ds = ds.getD 0 [] :: ds.drop 1 := by have := drop_getL hpos; simpa using this
    have hyl := (hm2 _ (getD_mem hpos)).1
    refine w_ ?_
    refine WL_call [] (textDay_tri (ds.getD 0 []) (by omega)) rfl rfl rfl t_ t_ rfl rfl rfl rfl ?_; rintro _ _ _ ⟨rfl, rfl, hr⟩
    rcases hr with ⟨f, hf, rfl⟩ | ⟨hf, f, rfl⟩
    rotate_left 1
    · have hmz : mapZ dayZ ds = none := by rw [hdr]; exact mapZ_none hf
      have hZ : partZ z [66, 89, 68, 65, 89] v = (z, 1) := by rw [hZ, hmz]; rfl
      refine w_ ?_
      refine W_cond_true rfl ?_
      refine w_ ?_
      refine W_renG [0, 1, 2, 3, 4, 5, 6, 7, 8, 9, 10] (n := 11) (tm' := [(6, .int .u8 1)]) (hp' := []) ?_ s_ s_ rfl rfl rfl
      refine r_ ?_ ?_
      · exact s_
      · rw [hZ]; exact .inr ⟨by first | exact Nat.succ_ne_zero _ | exact r1, rfl, rfl, rfl⟩
    have hk := mapZ_some (l := ds.drop 1) hf
    rw [← hdr] at hk
    refine w_ ?_
    refine W_cond_false rfl ?_
    refine w_ ?_
    refine W_draw [0, 12] [] 10 mo0 (by kernel_rfl) (by kernel_rfl) (fun ρ1 hkl => ?_); refine d_ ?_
    refine WS_loud rfl ?_ hkl
    refine WL_new rfl rfl rfl ?_
    refine WL_nil ?_; refine nq_walk ⟨fun _ => t_, ?_⟩; refine d_ ?_
    refine WS_loud rfl ?_ hkl
    refine WL_app0 (FamR 95 K2) ([f.1, f.2]) rfl rfl rfl rfl rfl rfl rfl rfl rfl rfl rfl rfl rfl (by decide) ?_
    intro cap3 tt3 hc3 hc4
    refine WL_nil ?_; refine nq_walk ⟨fun _ => t_, ?_⟩; refine d_ ?_
    refine w_ ?_
    refine LP_renG [0, 1, 2, 3, 4, 5, 6, 7, 8, 9, 10, 11, 14] (LP_ind 13 (fun q : Nat × List (Int × Int) × Nat × Nat => ([(0, .ptr 0 0), (123, .sl false 11 1 0 ds.length cap2), (124, .int .i64 ds.length), (125, .int .i64 q.1)], (0, .cells 25 (some 18) (cellsSd { z with dd := q.2.1 } { y with yd := (false, q.2.2.1) } 1 12)) :: (11, .strs 9 (some tt2) ds) :: (12, .recs 95 (some q.2.2.2) K2 (prs2 q.2.1)) :: lstHp 95 z 1)) (fun q => ds.length - q.1)
      (fun q => q.1 ≤ ds.length ∧ q.2.1.length = q.1 ∧ q.2.1.length ≤ q.2.2.1 ∧ q.2.2.1 * 2 ≤ q.2.2.2 ∧ mapZ dayZ ds = (mapZ dayZ (ds.drop q.1)).map (q.2.1 ++ ·)) (1, [f], cap3, tt3) ?_ ⟨by simp only; omega, rfl, hc3, hc4, hk⟩) ?_ ?_ rfl rfl rfl
    rotate_left 1
    · exact s_
    · exact s_
    rintro ⟨j, acc, cap3, tt3⟩ ⟨i1, i2, i3, i4, i6⟩ ih
    simp only at i1 i2 i3 i4 i6
    refine LP_round ?_; try dsimp only
    refine w_ ?_
    refine i_ ?_ ?_ <;> intro hj
    · have hj : j < ds.length := by omega
      rw [drop_getL hj] at i6
      have hyl := (hm2 _ (getD_mem hj)).1
      refine w_ ?_
      rw [show 0 + (j : Int).toNat = j by omega]
      refine WL_call [] (textDay_tri (ds.getD j []) (by omega)) rfl rfl rfl t_ t_ rfl rfl rfl rfl ?_; rintro _ _ _ ⟨rfl, rfl, hr⟩
      rcases hr with ⟨f, hf, rfl⟩ | ⟨hf, f, rfl⟩
      rotate_left 1
      · rw [mapZ_none hf] at i6
        have hZ : partZ z [66, 89, 68, 65, 89] v = (z, 1) := by rw [hZ, i6]; rfl
        refine w_ ?_
        refine W_cond_true rfl ?_
        refine w_ ?_
        refine W_renG [0, 1, 2, 3, 4, 5, 6, 7, 8, 9, 10] (n := 11) (tm' := [(6, .int .u8 1)]) (hp' := []) ?_ s_ s_ rfl rfl rfl
        refine r_ ?_ ?_
        · exact s_
        · rw [hZ]; exact .inr ⟨by first | exact Nat.succ_ne_zero _ | exact r1, rfl, rfl, rfl⟩
      rw [mapZ_some hf, mapZ_acc] at i6
      have htl : (prs2 acc).length = acc.length := by simp
      refine w_ ?_
      refine W_cond_false rfl ?_
      refine w_ ?_
      refine W_draw [0, 13] [] 10 mo0 (by kernel_rfl) (by kernel_rfl) (fun ρ1 hkl => ?_); refine d_ ?_
      refine WS_loud rfl ?_ hkl
      refine WL_new rfl rfl rfl ?_
      refine WL_nil ?_; refine nq_walk ⟨fun _ => t_, ?_⟩; refine d_ ?_
      refine WS_loud rfl ?_ hkl
      rw [← htl]
      refine WL_app1 (FamR 95 K2) (prs2 acc) ([f.1, f.2]) rfl rfl rfl rfl rfl rfl rfl rfl rfl rfl rfl rfl rfl rfl ?_ ?_ ?_
      · exact ⟨by show (prs2 acc).length ≤ cap3; omega, i4⟩
      · exact ⟨by omega, by show ((prs2 acc).length + 1) * 16 ≤ _; omega⟩
      intro cap4 tt4 hc3 hc4 _
      refine WL_nil ?_; refine nq_walk ⟨fun _ => t_, ?_⟩; refine d_ ?_
      refine w_ ?_
      have ih2 := ih (j + 1, acc ++ [f], cap4, tt4) ⟨by omega, by simp; omega, by simp at hc3 ⊢; omega, hc4, i6⟩ (by simp only; omega)
      dsimp only at ih2
      rw [show prs2 (acc ++ [f]) = prs2 acc ++ [[f.1, f.2]] by simp] at ih2
      unfold cellsSd at ih2
      dsimp only at ih2
      rw [show (acc ++ [f]).length = (prs2 acc).length + 1 by simp] at ih2
      exact LP_renG [0, 1, 2, 3, 4, 5, 6, 7, 8, 9, 10, 11, 15] ih2 s_ s_ rfl rfl rfl
    · have hj : j = ds.length := by omega
      rw [hj, List.drop_length, mapZ] at i6
      simp only [Option.map_some, List.append_nil] at i6
      have hZ : partZ z [66, 89, 68, 65, 89] v = ({ z with dd := acc }, 0) := by rw [hZ, i6]; rfl
      refine w_ ?_
      refine x_ ?_
      refine w_ ?_
      refine W_conv 12 (.recs 95 none K2 (prs2 acc)) rfl rfl rfl rfl (.inl rfl) ⟨[], by simp [AO.avs]⟩ ?_
      refine W_renG [0, 1, 2, 3, 4, 5, 6, 7, 8, 9, 10, 1, 2, 3, 4, 5, 6, 7, 8, 9, 12] (n := 21) (tm' := [(6, .int .u8 0)]) (hp' := (0, .cells 25 (some 18) (cellsS { z with dd := acc } { y with yd := (false, cap3) } 11)) :: lstHp 95 { z with dd := acc } 11) ?_ s_ s_ rfl rfl rfl
      refine r_ ?_ ?_
      · exact s_
      · rw [hZ]; exact .inl ⟨rfl, { y with yd := (false, cap3) }, ⟨hy.1, hy.2.1, hy.2.2.1, hy.2.2.2.1, hy.2.2.2.2.1, hy.2.2.2.2.2.1, hy.2.2.2.2.2.2.1, hy.2.2.2.2.2.2.2.1, hy.2.2.2.2.2.2.2.2.1, i3⟩, rfl, rfl, rfl⟩
  have hk6 : ¬ k = [66, 89, 68, 65, 89] := hk
  refine w_ ?_
  refine W_loop ?_
  refine LP_round ?_; try dsimp only
  refine w_ ?_
  refine W_cond_true rfl ?_
  refine w_ ?_
  refine i_ ?_ ?_ <;> intro hk
  · have hk : k = [66, 89, 83, 69, 84, 80, 79, 83] := hk
    subst hk
    have hZ := partZ_BYSETPOS z v
    refine w_ ?_
    refine W_draw [] [] 31 mo0 (by kernel_rfl) (by kernel_rfl) (fun ρ1 hkl => ?_); refine d_ ?_
    refine w_ ?_
    refine WL_call [] (textIntList_tri v (by omega)) rfl rfl rfl (s_) (s_) rfl rfl rfl rfl ?_
    rintro _ _ _ (⟨xs, cap, h1, h2, h3, rfl, rfl, rfl⟩ | ⟨h1, rfl, rfl, rfl⟩)
    · rw [h1] at hZ
      have hZ : partZ z [66, 89, 83, 69, 84, 80, 79, 83] v = ({ z with l0 := xs }, 0) := hZ
      refine w_ ?_
      refine WL_call [] (told1_tri) rfl rfl rfl t_ t_ rfl rfl rfl rfl ?_; rintro _ _ _ ⟨rfl, rfl, rfl⟩
      refine w_ ?_
      refine W_renG [0, 1, 2, 3, 4, 5, 6, 7, 8, 9, 10, 11, 2, 3, 4, 5, 6, 7, 8, 9, 10] (n := 21) (tm' := [(6, .int .u8 0)]) (hp' := (0, .cells 25 (some 18) (cellsS { z with l0 := xs } { y with y0 := (false, cap) } 11)) :: lstHp 95 { z with l0 := xs } 11) ?_ s_ s_ rfl rfl rfl
      refine r_ ?_ ?_
      · exact s_
      · rw [hZ]; exact .inl ⟨rfl, { y with y0 := (false, cap) }, ⟨h3, hy.2.1, hy.2.2.1, hy.2.2.2.1, hy.2.2.2.2.1, hy.2.2.2.2.2.1, hy.2.2.2.2.2.2.1, hy.2.2.2.2.2.2.2.1, hy.2.2.2.2.2.2.2.2.1, hy.2.2.2.2.2.2.2.2.2⟩, rfl, rfl, rfl⟩
    · rw [h1] at hZ
      have hZ : partZ z [66, 89, 83, 69, 84, 80, 79, 83] v = (z, 1) := hZ
      refine w_ ?_
      refine WL_call [] (told0_tri) rfl rfl rfl t_ t_ rfl rfl rfl rfl ?_; rintro _ _ _ ⟨rfl, rfl, rfl⟩
      refine w_ ?_
      refine W_renG [0, 1, 2, 3, 4, 5, 6, 7, 8, 9, 10] (n := 11) (tm' := [(6, .int .u8 1)]) (hp' := []) ?_ s_ s_ rfl rfl rfl
      refine r_ ?_ ?_
      · exact s_
      · rw [hZ]; exact .inr ⟨by first | exact Nat.succ_ne_zero _ | exact r1, rfl, rfl, rfl⟩
  have hl0 : ¬ k = [66, 89, 83, 69, 84, 80, 79, 83] := hk
  refine w_ ?_
  refine LP_round ?_; try dsimp only
  refine w_ ?_
  refine W_cond_true rfl ?_
  refine w_ ?_
  refine i_ ?_ ?_ <;> intro hk
  · have hk : k = [66, 89, 77, 79, 78, 84, 72] := hk
    subst hk
    have hZ := partZ_BYMONTH z v
    refine w_ ?_
    refine W_draw [] [] 31 mo0 (by kernel_rfl) (by kernel_rfl) (fun ρ1 hkl => ?_); refine d_ ?_
    refine w_ ?_
    refine WL_call [] (textIntList_tri v (by omega)) rfl rfl rfl (s_) (s_) rfl rfl rfl rfl ?_
    rintro _ _ _ (⟨xs, cap, h1, h2, h3, rfl, rfl, rfl⟩ | ⟨h1, rfl, rfl, rfl⟩)
    · rw [h1] at hZ
      have hZ : partZ z [66, 89, 77, 79, 78, 84, 72] v = ({ z with l1 := xs }, 0) := hZ
      refine w_ ?_
      refine WL_call [] (told1_tri) rfl rfl rfl t_ t_ rfl rfl rfl rfl ?_; rintro _ _ _ ⟨rfl, rfl, rfl⟩
      refine w_ ?_
      refine W_renG [0, 1, 2, 3, 4, 5, 6, 7, 8, 9, 10, 1, 11, 3, 4, 5, 6, 7, 8, 9, 10] (n := 21) (tm' := [(6, .int .u8 0)]) (hp' := (0, .cells 25 (some 18) (cellsS { z with l1 := xs } { y with y1 := (false, cap) } 11)) :: lstHp 95 { z with l1 := xs } 11) ?_ s_ s_ rfl rfl rfl
      refine r_ ?_ ?_
      · exact s_
      · rw [hZ]; exact .inl ⟨rfl, { y with y1 := (false, cap) }, ⟨hy.1, h3, hy.2.2.1, hy.2.2.2.1, hy.2.2.2.2.1, hy.2.2.2.2.2.1, hy.2.2.2.2.2.2.1, hy.2.2.2.2.2.2.2.1, hy.2.2.2.2.2.2.2.2.1, hy.2.2.2.2.2.2.2.2.2⟩, rfl, rfl, rfl⟩
    · rw [h1] at hZ
      have hZ : partZ z [66, 89, 77, 79, 78, 84, 72] v = (z, 1) := hZ
      refine w_ ?_
      refine WL_call [] (told0_tri) rfl rfl rfl t_ t_ rfl rfl rfl rfl ?_; rintro _ _ _ ⟨rfl, rfl, rfl⟩
      refine w_ ?_
      refine W_renG [0, 1, 2, 3, 4, 5, 6, 7, 8, 9, 10] (n := 11) (tm' := [(6, .int .u8 1)]) (hp' := []) ?_ s_ s_ rfl rfl rfl
      refine r_ ?_ ?_
      · exact s_
      · rw [hZ]; exact .inr ⟨by first | exact Nat.succ_ne_zero _ | exact r1, rfl, rfl, rfl⟩
  have hl1 : ¬ k = [66, 89, 77, 79, 78, 84, 72] := hk
  refine w_ ?_
  refine LP_round ?_; try dsimp only
  refine w_ ?_
  refine W_cond_true rfl ?_
  refine w_ ?_
  refine i_ ?_ ?_ <;> intro hk
  · have hk : k = [66, 89, 77, 79, 78, 84, 72, 68, 65, 89] := hk
    subst hk
    have hZ := partZ_BYMONTHDAY z v
    refine w_ ?_
    refine W_draw [] [] 31 mo0 (by kernel_rfl) (by kernel_rfl) (fun ρ1 hkl => ?_); refine d_ ?_
    refine w_ ?_
    refine WL_call [] (textIntList_tri v (by omega)) rfl rfl rfl (s_) (s_) rfl rfl rfl rfl ?_
    rintro _ _ _ (⟨xs, cap, h1, h2, h3, rfl, rfl, rfl⟩ | ⟨h1, rfl, rfl, rfl⟩)
    · rw [h1] at hZ
      have hZ : partZ z [66, 89, 77, 79, 78, 84, 72, 68, 65, 89] v = ({ z with l2 := xs }, 0) := hZ
      refine w_ ?_
      refine WL_call [] (told1_tri) rfl rfl rfl t_ t_ rfl rfl rfl rfl ?_; rintro _ _ _ ⟨rfl, rfl, rfl⟩
      refine w_ ?_
      refine W_renG [0, 1, 2, 3, 4, 5, 6, 7, 8, 9, 10, 1, 2, 11, 4, 5, 6, 7, 8, 9, 10] (n := 21) (tm' := [(6, .int .u8 0)]) (hp' := (0, .cells 25 (some 18) (cellsS { z with l2 := xs } { y with y2 := (false, cap) } 11)) :: lstHp 95 { z with l2 := xs } 11) ?_ s_ s_ rfl rfl rfl
      refine r_ ?_ ?_
      · exact s_
      · rw [hZ]; exact .inl ⟨rfl, { y with y2 := (false, cap) }, ⟨hy.1, hy.2.1, h3, hy.2.2.2.1, hy.2.2.2.2.1, hy.2.2.2.2.2.1, hy.2.2.2.2.2.2.1, hy.2.2.2.2.2.2.2.1, hy.2.2.2.2.2.2.2.2.1, hy.2.2.2.2.2.2.2.2.2⟩, rfl, rfl, rfl⟩
    · rw [h1] at hZ
      have hZ : partZ z [66, 89, 77, 79, 78, 84, 72, 68, 65, 89] v = (z, 1) := hZ
      refine w_ ?_
      refine WL_call [] (told0_tri) rfl rfl rfl t_ t_ rfl rfl rfl rfl ?_; rintro _ _ _ ⟨rfl, rfl, rfl⟩
      refine w_ ?_
      refine W_renG [0, 1, 2, 3, 4, 5, 6, 7, 8, 9, 10] (n := 11) (tm' := [(6, .int .u8 1)]) (hp' := []) ?_ s_ s_ rfl rfl rfl
      refine r_ ?_ ?_
      · exact s_
      · rw [hZ]; exact .inr ⟨by first | exact Nat.succ_ne_zero _ | exact r1, rfl, rfl, rfl⟩
  have hl2 : ¬ k = [66, 89, 77, 79, 78, 84, 72, 68, 65, 89] := hk
  refine w_ ?_
  refine LP_round ?_; try dsimp only
  refine w_ ?_
  refine W_cond_true rfl ?_
  refine w_ ?_
  refine i_ ?_ ?_ <;> intro hk
  · have hk : k = [66, 89, 89, 69, 65, 82, 68, 65, 89] := hk
    subst hk
    have hZ := partZ_BYYEARDAY z v
    refine w_ ?_
    refine W_draw [] [] 31 mo0 (by kernel_rfl) (by kernel_rfl) (fun ρ1 hkl => ?_); refine d_ ?_
    refine w_ ?_
    refine WL_call [] (textIntList_tri v (by omega)) rfl rfl rfl (s_) (s_) rfl rfl rfl rfl ?_
    rintro _ _ _ (⟨xs, cap, h1, h2, h3, rfl, rfl, rfl⟩ | ⟨h1, rfl, rfl, rfl⟩)
    · rw [h1] at hZ
      have hZ : partZ z [66, 89, 89, 69, 65, 82, 68, 65, 89] v = ({ z with l3 := xs }, 0) := hZ
      refine w_ ?_
      refine WL_call [] (told1_tri) rfl rfl rfl t_ t_ rfl rfl rfl rfl ?_; rintro _ _ _ ⟨rfl, rfl, rfl⟩
      refine w_ ?_
      refine W_renG [0, 1, 2, 3, 4, 5, 6, 7, 8, 9, 10, 1, 2, 3, 11, 5, 6, 7, 8, 9, 10] (n := 21) (tm' := [(6, .int .u8 0)]) (hp' := (0, .cells 25 (some 18) (cellsS { z with l3 := xs } { y with y3 := (false, cap) } 11)) :: lstHp 95 { z with l3 := xs } 11) ?_ s_ s_ rfl rfl rfl
      refine r_ ?_ ?_
      · exact s_
      · rw [hZ]; exact .inl ⟨rfl, { y with y3 := (false, cap) }, ⟨hy.1, hy.2.1, hy.2.2.1, h3, hy.2.2.2.2.1, hy.2.2.2.2.2.1, hy.2.2.2.2.2.2.1, hy.2.2.2.2.2.2.2.1, hy.2.2.2.2.2.2.2.2.1, hy.2.2.2.2.2.2.2.2.2⟩, rfl, rfl, rfl⟩
    · rw [h1] at hZ
      have hZ : partZ z [66, 89, 89, 69, 65, 82, 68, 65, 89] v = (z, 1) := hZ
      refine w_ ?_
      refine WL_call [] (told0_tri) rfl rfl rfl t_ t_ rfl rfl rfl rfl ?_; rintro _ _ _ ⟨rfl, rfl, rfl⟩
      refine w_ ?_
      refine W_renG [0, 1, 2, 3, 4, 5, 6, 7, 8, 9, 10] (n := 11) (tm' := [(6, .int .u8 1)]) (hp' := []) ?_ s_ s_ rfl rfl rfl
      refine r_ ?_ ?_
      · exact s_
      · rw [hZ]; exact .inr ⟨by first | exact Nat.succ_ne_zero _ | exact r1, rfl, rfl, rfl⟩
  have hl3 : ¬ k = [66, 89, 89, 69, 65, 82, 68, 65, 89] := hk
  refine w_ ?_
  refine LP_round ?_; try dsimp only
  refine w_ ?_
  refine W_cond_true rfl ?_
  refine w_ ?_
  refine i_ ?_ ?_ <;> intro hk
  · have hk : k = [66, 89, 87, 69, 69, 75, 78, 79] := hk
    subst hk
    have hZ := partZ_BYWEEKNO z v
    refine w_ ?_
    refine W_draw [] [] 31 mo0 (by kernel_rfl) (by kernel_rfl) (fun ρ1 hkl => ?_); refine d_ ?_
    refine w_ ?_
    refine WL_call [] (textIntList_tri v (by omega)) rfl rfl rfl (s_) (s_) rfl rfl rfl rfl ?_
    rintro _ _ _ (⟨xs, cap, h1, h2, h3, rfl, rfl, rfl⟩ | ⟨h1, rfl, rfl, rfl⟩)
    · rw [h1] at hZ
      have hZ : partZ z [66, 89, 87, 69, 69, 75, 78, 79] v = ({ z with l4 := xs }, 0) := hZ
      refine w_ ?_
      refine WL_call [] (told1_tri) rfl rfl rfl t_ t_ rfl rfl rfl rfl ?_; rintro _ _ _ ⟨rfl, rfl, rfl⟩
      refine w_ ?_
      refine W_renG [0, 1, 2, 3, 4, 5, 6, 7, 8, 9, 10, 1, 2, 3, 4, 11, 6, 7, 8, 9, 10] (n := 21) (tm' := [(6, .int .u8 0)]) (hp' := (0, .cells 25 (some 18) (cellsS { z with l4 := xs } { y with y4 := (false, cap) } 11)) :: lstHp 95 { z with l4 := xs } 11) ?_ s_ s_ rfl rfl rfl
      refine r_ ?_ ?_
      · exact s_
      · rw [hZ]; exact .inl ⟨rfl, { y with y4 := (false, cap) }, ⟨hy.1, hy.2.1, hy.2.2.1, hy.2.2.2.1, h3, hy.2.2.2.2.2.1, hy.2.2.2.2.2.2.1, hy.2.2.2.2.2.2.2.1, hy.2.2.2.2.2.2.2.2.1, hy.2.2.2.2.2.2.2.2.2⟩, rfl, rfl, rfl⟩
    · rw [h1] at hZ
      have hZ : partZ z [66, 89, 87, 69, 69, 75, 78, 79] v = (z, 1) := hZ
      refine w_ ?_
      refine WL_call [] (told0_tri) rfl rfl rfl t_ t_ rfl rfl rfl rfl ?_; rintro _ _ _ ⟨rfl, rfl, rfl⟩
      refine w_ ?_
      refine W_renG [0, 1, 2, 3, 4, 5, 6, 7, 8, 9, 10] (n := 11) (tm' := [(6, .int .u8 1)]) (hp' := []) ?_ s_ s_ rfl rfl rfl
      refine r_ ?_ ?_
      · exact s_
      · rw [hZ]; exact .inr ⟨by first | exact Nat.succ_ne_zero _ | exact r1, rfl, rfl, rfl⟩
  have hl4 : ¬ k = [66, 89, 87, 69, 69, 75, 78, 79] := hk
  refine w_ ?_
  refine LP_round ?_; try dsimp only
  refine w_ ?_
  refine W_cond_true rfl ?_
  refine w_ ?_
  refine i_ ?_ ?_ <;> intro hk
  · have hk : k = [66, 89, 72, 79, 85, 82] := hk
    subst hk
    have hZ := partZ_BYHOUR z v
    refine w_ ?_
    refine W_draw [] [] 31 mo0 (by kernel_rfl) (by kernel_rfl) (fun ρ1 hkl => ?_); refine d_ ?_
    refine w_ ?_
    refine WL_call [] (textIntList_tri v (by omega)) rfl rfl rfl (s_) (s_) rfl rfl rfl rfl ?_
    rintro _ _ _ (⟨xs, cap, h1, h2, h3, rfl, rfl, rfl⟩ | ⟨h1, rfl, rfl, rfl⟩)
    · rw [h1] at hZ
      have hZ : partZ z [66, 89, 72, 79, 85, 82] v = ({ z with l5 := xs }, 0) := hZ
      refine w_ ?_
      refine WL_call [] (told1_tri) rfl rfl rfl t_ t_ rfl rfl rfl rfl ?_; rintro _ _ _ ⟨rfl, rfl, rfl⟩
      refine w_ ?_
      refine W_renG [0, 1, 2, 3, 4, 5, 6, 7, 8, 9, 10, 1, 2, 3, 4, 5, 11, 7, 8, 9, 10] (n := 21) (tm' := [(6, .int .u8 0)]) (hp' := (0, .cells 25 (some 18) (cellsS { z with l5 := xs } { y with y5 := (false, cap) } 11)) :: lstHp 95 { z with l5 := xs } 11) ?_ s_ s_ rfl rfl rfl
      refine r_ ?_ ?_
      · exact s_
      · rw [hZ]; exact .inl ⟨rfl, { y with y5 := (false, cap) }, ⟨hy.1, hy.2.1, hy.2.2.1, hy.2.2.2.1, hy.2.2.2.2.1, h3, hy.2.2.2.2.2.2.1, hy.2.2.2.2.2.2.2.1, hy.2.2.2.2.2.2.2.2.1, hy.2.2.2.2.2.2.2.2.2⟩, rfl, rfl, rfl⟩
    · rw [h1] at hZ
      have hZ : partZ z [66, 89, 72, 79, 85, 82] v = (z, 1) := hZ
      refine w_ ?_
      refine WL_call [] (told0_tri) rfl rfl rfl t_ t_ rfl rfl rfl rfl ?_; rintro _ _ _ ⟨rfl, rfl, rfl⟩
      refine w_ ?_
      refine W_renG [0, 1, 2, 3, 4, 5, 6, 7, 8, 9, 10] (n := 11) (tm' := [(6, .int .u8 1)]) (hp' := []) ?_ s_ s_ rfl rfl rfl
      refine r_ ?_ ?_
      · exact s_
      · rw [hZ]; exact .inr ⟨by first | exact Nat.succ_ne_zero _ | exact r1, rfl, rfl, rfl⟩
  have hl5 : ¬ k = [66, 89, 72, 79, 85, 82] := hk
  refine w_ ?_
  refine LP_round ?_; try dsimp only
  refine w_ ?_
  refine W_cond_true rfl ?_
  refine w_ ?_
  refine i_ ?_ ?_ <;> intro hk
  · have hk : k = [66, 89, 77, 73, 78, 85, 84, 69] := hk
    subst hk
    have hZ := partZ_BYMINUTE z v
    refine w_ ?_
    refine W_draw [] [] 31 mo0 (by kernel_rfl) (by kernel_rfl) (fun ρ1 hkl => ?_); refine d_ ?_
    refine w_ ?_
    refine WL_call [] (textIntList_tri v (by omega)) rfl rfl rfl (s_) (s_) rfl rfl rfl rfl ?_
    rintro _ _ _ (⟨xs, cap, h1, h2, h3, rfl, rfl, rfl⟩ | ⟨h1, rfl, rfl, rfl⟩)
    · rw [h1] at hZ
      have hZ : partZ z [66, 89, 77, 73, 78, 85, 84, 69] v = ({ z with l6 := xs }, 0) := hZ
      refine w_ ?_
      refine WL_call [] (told1_tri) rfl rfl rfl t_ t_ rfl rfl rfl rfl ?_; rintro _ _ _ ⟨rfl, rfl, rfl⟩
      refine w_ ?_
      refine W_renG [0, 1, 2, 3, 4, 5, 6, 7, 8, 9, 10, 1, 2, 3, 4, 5, 6, 11, 8, 9, 10] (n := 21) (tm' := [(6, .int .u8 0)]) (hp' := (0, .cells 25 (some 18) (cellsS { z with l6 := xs } { y with y6 := (false, cap) } 11)) :: lstHp 95 { z with l6 := xs } 11) ?_ s_ s_ rfl rfl rfl
      refine r_ ?_ ?_
      · exact s_
      · rw [hZ]; exact .inl ⟨rfl, { y with y6 := (false, cap) }, ⟨hy.1, hy.2.1, hy.2.2.1, hy.2.2.2.1, hy.2.2.2.2.1, hy.2.2.2.2.2.1, h3, hy.2.2.2.2.2.2.2.1, hy.2.2.2.2.2.2.2.2.1, hy.2.2.2.2.2.2.2.2.2⟩, rfl, rfl, rfl⟩
    · rw [h1] at hZ
      have hZ : partZ z [66, 89, 77, 73, 78, 85, 84, 69] v = (z, 1) := hZ
      refine w_ ?_
      refine WL_call [] (told0_tri) rfl rfl rfl t_ t_ rfl rfl rfl rfl ?_; rintro _ _ _ ⟨rfl, rfl, rfl⟩
      refine w_ ?_
      refine W_renG [0, 1, 2, 3, 4, 5, 6, 7, 8, 9, 10] (n := 11) (tm' := [(6, .int .u8 1)]) (hp' := []) ?_ s_ s_ rfl rfl rfl
      refine r_ ?_ ?_
      · exact s_
      · rw [hZ]; exact .inr ⟨by first | exact Nat.succ_ne_zero _ | exact r1, rfl, rfl, rfl⟩
  have hl6 : ¬ k = [66, 89, 77, 73, 78, 85, 84, 69] := hk
  refine w_ ?_
  refine LP_round ?_; try dsimp only
  refine w_ ?_
  refine W_cond_true rfl ?_
  refine w_ ?_
  refine i_ ?_ ?_ <;> intro hk
  · have hk : k = [66, 89, 83, 69, 67, 79, 78, 68] := hk
    subst hk
    have hZ := partZ_BYSECOND z v
    refine w_ ?_
    refine W_draw [] [] 31 mo0 (by kernel_rfl) (by kernel_rfl) (fun ρ1 hkl => ?_); refine d_ ?_
    refine w_ ?_
    refine WL_call [] (textIntList_tri v (by omega)) rfl rfl rfl (s_) (s_) rfl rfl rfl rfl ?_
    rintro _ _ _ (⟨xs, cap, h1, h2, h3, rfl, rfl, rfl⟩ | ⟨h1, rfl, rfl, rfl⟩)
    · rw [h1] at hZ
      have hZ : partZ z [66, 89, 83, 69, 67, 79, 78, 68] v = ({ z with l7 := xs }, 0) := hZ
      refine w_ ?_
      refine WL_call [] (told1_tri) rfl rfl rfl t_ t_ rfl rfl rfl rfl ?_; rintro _ _ _ ⟨rfl, rfl, rfl⟩
      refine w_ ?_
      refine W_renG [0, 1, 2, 3, 4, 5, 6, 7, 8, 9, 10, 1, 2, 3, 4, 5, 6, 7, 11, 9, 10] (n := 21) (tm' := [(6, .int .u8 0)]) (hp' := (0, .cells 25 (some 18) (cellsS { z with l7 := xs } { y with y7 := (false, cap) } 11)) :: lstHp 95 { z with l7 := xs } 11) ?_ s_ s_ rfl rfl rfl
      refine r_ ?_ ?_
      · exact s_
      · rw [hZ]; exact .inl ⟨rfl, { y with y7 := (false, cap) }, ⟨hy.1, hy.2.1, hy.2.2.1, hy.2.2.2.1, hy.2.2.2.2.1, hy.2.2.2.2.2.1, hy.2.2.2.2.2.2.1, h3, hy.2.2.2.2.2.2.2.2.1, hy.2.2.2.2.2.2.2.2.2⟩, rfl, rfl, rfl⟩
    · rw [h1] at hZ
      have hZ : partZ z [66, 89, 83, 69, 67, 79, 78, 68] v = (z, 1) := hZ
      refine w_ ?_
      refine WL_call [] (told0_tri) rfl rfl rfl t_ t_ rfl rfl rfl rfl ?_; rintro _ _ _ ⟨rfl, rfl, rfl⟩
      refine w_ ?_
      refine W_renG [0, 1, 2, 3, 4, 5, 6, 7, 8, 9, 10] (n := 11) (tm' := [(6, .int .u8 1)]) (hp' := []) ?_ s_ s_ rfl rfl rfl
      refine r_ ?_ ?_
      · exact s_
      · rw [hZ]; exact .inr ⟨by first | exact Nat.succ_ne_zero _ | exact r1, rfl, rfl, rfl⟩
  have hl7 : ¬ k = [66, 89, 83, 69, 67, 79, 78, 68] := hk
  refine w_ ?_
  refine LP_round ?_; try dsimp only
  refine w_ ?_
  refine W_cond_true rfl ?_
  refine w_ ?_
  refine i_ ?_ ?_ <;> intro hk
  · have hk : k = [66, 89, 69, 65, 83, 84, 69, 82] := hk
    subst hk
    have hZ := partZ_BYEASTER z v
    refine w_ ?_
    refine W_draw [] [] 31 mo0 (by kernel_rfl) (by kernel_rfl) (fun ρ1 hkl => ?_); refine d_ ?_
    refine w_ ?_
    refine WL_call [] (textIntList_tri v (by omega)) rfl rfl rfl (s_) (s_) rfl rfl rfl rfl ?_
    rintro _ _ _ (⟨xs, cap, h1, h2, h3, rfl, rfl, rfl⟩ | ⟨h1, rfl, rfl, rfl⟩)
    · rw [h1] at hZ
      have hZ : partZ z [66, 89, 69, 65, 83, 84, 69, 82] v = ({ z with l8 := xs }, 0) := hZ
      refine w_ ?_
      refine WL_call [] (told1_tri) rfl rfl rfl t_ t_ rfl rfl rfl rfl ?_; rintro _ _ _ ⟨rfl, rfl, rfl⟩
      refine w_ ?_
      refine W_renG [0, 1, 2, 3, 4, 5, 6, 7, 8, 9, 10, 1, 2, 3, 4, 5, 6, 7, 8, 11, 10] (n := 21) (tm' := [(6, .int .u8 0)]) (hp' := (0, .cells 25 (some 18) (cellsS { z with l8 := xs } { y with y8 := (false, cap) } 11)) :: lstHp 95 { z with l8 := xs } 11) ?_ s_ s_ rfl rfl rfl
      refine r_ ?_ ?_
      · exact s_
      · rw [hZ]; exact .inl ⟨rfl, { y with y8 := (false, cap) }, ⟨hy.1, hy.2.1, hy.2.2.1, hy.2.2.2.1, hy.2.2.2.2.1, hy.2.2.2.2.2.1, hy.2.2.2.2.2.2.1, hy.2.2.2.2.2.2.2.1, h3, hy.2.2.2.2.2.2.2.2.2⟩, rfl, rfl, rfl⟩
    · rw [h1] at hZ
      have hZ : partZ z [66, 89, 69, 65, 83, 84, 69, 82] v = (z, 1) := hZ
      refine w_ ?_
      refine WL_call [] (told0_tri) rfl rfl rfl t_ t_ rfl rfl rfl rfl ?_; rintro _ _ _ ⟨rfl, rfl, rfl⟩
      refine w_ ?_
      refine W_renG [0, 1, 2, 3, 4, 5, 6, 7, 8, 9, 10] (n := 11) (tm' := [(6, .int .u8 1)]) (hp' := []) ?_ s_ s_ rfl rfl rfl
      refine r_ ?_ ?_
      · exact s_
      · rw [hZ]; exact .inr ⟨by first | exact Nat.succ_ne_zero _ | exact r1, rfl, rfl, rfl⟩
  have hl8 : ¬ k = [66, 89, 69, 65, 83, 84, 69, 82] := hk
  refine w_ ?_
  refine LP_round ?_; try dsimp only
  refine w_ ?_
  refine W_cond_false rfl ?_
  refine w_ ?_
  refine x_ ?_
  refine w_ ?_
  have hZ := partZ_other z k v hk0 hk1 hk2 hk3 hk4 hk5 hk6 hl0 hl1 hl2 hl3 hl4 hl5 hl6 hl7 hl8
  refine W_renG [0, 1, 2, 3, 4, 5, 6, 7, 8, 9, 10] (n := 11) (tm' := [(6, .int .u8 1)]) (hp' := []) ?_ s_ s_ rfl rfl rfl
  refine r_ ?_ ?_
  · exact s_
  · rw [hZ]; exact .inr ⟨by first | exact Nat.succ_ne_zero _ | exact r1, rfl, rfl, rfl⟩
end Go.Eng
