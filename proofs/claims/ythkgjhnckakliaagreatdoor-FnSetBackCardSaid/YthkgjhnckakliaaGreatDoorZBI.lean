/- A part of the proof that the rows statement FnSetBack holds; no conditions. -/
import Derived.Test.YthkgjhnckakliaaGreatDoorZBH
set_option linter.unusedVariables false
set_option linter.unusedSimpArgs false
set_option linter.unusedSectionVars false
namespace Go.Eng
open Go.Proofs
attribute [local irreducible] W WL LP Then InBl Tri WS
def daysT (l : List (Int × Int)) : List UInt8 := Lib.join (l.map fun p => wdZ p.1 p.2) [44]
def addX (b : Bool) (out : List (List UInt8)) (x : List UInt8) : List (List UInt8) := if b = true then out ++ [x] else out
def addD (out : List (List UInt8)) (l : List (Int × Int)) : List (List UInt8) := if l = [] then out else out ++ [[66, 89, 68, 65, 89, 61] ++ daysT l]
def prt0 (z : RZ) : List (List UInt8) := [[70, 82, 69, 81, 61] ++ freqN z.fr]
def prt1 (z : RZ) : List (List UInt8) := addX (z.iv != 0) (prt0 z) ([73, 78, 84, 69, 82, 86, 65, 76, 61] ++ Lib.itoa z.iv)
def prt2 (z : RZ) : List (List UInt8) := addX (z.wk != 0) (prt1 z) ([87, 75, 83, 84, 61] ++ wdZ z.wk z.wn)
def prt3 (z : RZ) : List (List UInt8) := addX (z.ct != 0) (prt2 z) ([67, 79, 85, 78, 84, 61] ++ Lib.itoa z.ct)
def prt4 (z : RZ) : List (List UInt8) := addX (z.un != 0) (prt3 z) ([85, 78, 84, 73, 76, 61] ++ stampZ z.un)
def prt5 (z : RZ) : List (List UInt8) := addI (prt4 z) [66, 89, 83, 69, 84, 80, 79, 83] z.l0
def prt6 (z : RZ) : List (List UInt8) := addI (prt5 z) [66, 89, 77, 79, 78, 84, 72] z.l1
def prt7 (z : RZ) : List (List UInt8) := addI (prt6 z) [66, 89, 77, 79, 78, 84, 72, 68, 65, 89] z.l2
def prt8 (z : RZ) : List (List UInt8) := addI (prt7 z) [66, 89, 89, 69, 65, 82, 68, 65, 89] z.l3
def prt9 (z : RZ) : List (List UInt8) := addI (prt8 z) [66, 89, 87, 69, 69, 75, 78, 79] z.l4
def prt10 (z : RZ) : List (List UInt8) := addD (prt9 z) z.dd
def prt11 (z : RZ) : List (List UInt8) := addI (prt10 z) [66, 89, 72, 79, 85, 82] z.l5
def prt12 (z : RZ) : List (List UInt8) := addI (prt11 z) [66, 89, 77, 73, 78, 85, 84, 69] z.l6
def prt13 (z : RZ) : List (List UInt8) := addI (prt12 z) [66, 89, 83, 69, 67, 79, 78, 68] z.l7
def prt14 (z : RZ) : List (List UInt8) := addI (prt13 z) [66, 89, 69, 65, 83, 84, 69, 82] z.l8
def ruleT (z : RZ) : List UInt8 := Lib.join (prt14 z) [59]
structure FMT (z : RZ) : Prop where
 fr : 0 ≤ z.fr ∧ z.fr ≤ 6
 iv : I64 z.iv
 ct : I64 z.ct
 wk : 0 ≤ z.wk ∧ z.wk ≤ 6
 wn : z.wn = 0
 un : DateR z.un
 n0 : z.l0.length ≤ 40
 i0 : ∀ x ∈ z.l0, I64 x
 n1 : z.l1.length ≤ 40
 i1 : ∀ x ∈ z.l1, I64 x
 n2 : z.l2.length ≤ 40
 i2 : ∀ x ∈ z.l2, I64 x
 n3 : z.l3.length ≤ 40
 i3 : ∀ x ∈ z.l3, I64 x
 n4 : z.l4.length ≤ 40
 i4 : ∀ x ∈ z.l4, I64 x
 n5 : z.l5.length ≤ 40
 i5 : ∀ x ∈ z.l5, I64 x
 n6 : z.l6.length ≤ 40
 i6 : ∀ x ∈ z.l6, I64 x
 n7 : z.l7.length ≤ 40
 i7 : ∀ x ∈ z.l7, I64 x
 n8 : z.l8.length ≤ 40
 i8 : ∀ x ∈ z.l8, I64 x
 nd : z.dd.length ≤ 40
 id : ∀ p ∈ z.dd, (0 ≤ p.1 ∧ p.1 ≤ 6) ∧ -1000000000 ≤ p.2 ∧ p.2 ≤ 1000000000
theorem addX_len (b : Bool) (out : List (List UInt8)) (x : List UInt8) : (addX b out x).length ≤ out.length + 1 := by
 unfold addX; split <;> simp
theorem addD_len (out : List (List UInt8)) (l : List (Int × Int)) : (addD out l).length ≤ out.length + 1 := by
 unfold addD; split <;> simp
theorem mem_addX {b : Bool} {out : List (List UInt8)} {x t : List UInt8} (h : t ∈ addX b out x) : t ∈ out ∨ t = x := by
 unfold addX at h; split at h
 · simpa using h
 · exact .inl h
theorem mem_addI {out : List (List UInt8)} {key : List UInt8} {xs : List Int} {t : List UInt8} (h : t ∈ addI out key xs) : t ∈ out ∨ t = key ++ [61] ++ numsZ xs := by
 unfold addI at h; split at h
 · exact .inl h
 · rcases List.mem_append.1 h with h | h
   · exact .inl h
   · exact .inr (List.mem_singleton.1 h)
theorem mem_addD {out : List (List UInt8)} {l : List (Int × Int)} {t : List UInt8} (h : t ∈ addD out l) : t ∈ out ∨ t = [66, 89, 68, 65, 89, 61] ++ daysT l := by
 unfold addD at h; split at h
 · exact .inl h
 · rcases List.mem_append.1 h with h | h
   · exact .inl h
   · exact .inr (List.mem_singleton.1 h)
theorem wdN_len (w : Int) : (wdN w).length = 2 := by unfold wdN; (repeat' split) <;> rfl
theorem wdZ_le {w n : Int} (hn : -1000000000 ≤ n ∧ n ≤ 1000000000) : (wdZ w n).length ≤ 24 := by
 have := signZ_le hn
 have := wdN_len w
 unfold wdZ; split
 · omega
 · rw [List.length_append]; omega
theorem freqN_len (f : Int) : (freqN f).length ≤ 8 := by unfold freqN; (repeat' split) <;> decide
theorem daysT_le {l : List (Int × Int)} (h : ∀ p ∈ l, (0 ≤ p.1 ∧ p.1 ≤ 6) ∧ -1000000000 ≤ p.2 ∧ p.2 ≤ 1000000000) : (daysT l).length ≤ l.length * 25 := by
 have := join_le (B := 24) (xs := l.map fun p => wdZ p.1 p.2) (c := 44) (by
  intro y hy
  obtain ⟨p, hp, rfl⟩ := List.mem_map.1 hy
  exact wdZ_le (h p hp).2)
 rwa [List.length_map] at this
theorem prt_len (z : RZ) : (prt0 z).length ≤ 1 ∧ (prt1 z).length ≤ 2 ∧ (prt2 z).length ≤ 3 ∧ (prt3 z).length ≤ 4 ∧ (prt4 z).length ≤ 5 ∧ (prt5 z).length ≤ 6 ∧ (prt6 z).length ≤ 7 ∧ (prt7 z).length ≤ 8 ∧ (prt8 z).length ≤ 9 ∧ (prt9 z).length ≤ 10 ∧ (prt10 z).length ≤ 11 ∧ (prt11 z).length ≤ 12 ∧ (prt12 z).length ≤ 13 ∧ (prt13 z).length ≤ 14 ∧ (prt14 z).length ≤ 15 := by
 have h0 : (prt0 z).length ≤ 1 := Nat.le_refl _
 have h1 : (prt1 z).length ≤ 2 := Nat.le_trans (addX_len (z.iv != 0) (prt0 z) _) (by omega)
 have h2 : (prt2 z).length ≤ 3 := Nat.le_trans (addX_len (z.wk != 0) (prt1 z) _) (by omega)
 have h3 : (prt3 z).length ≤ 4 := Nat.le_trans (addX_len (z.ct != 0) (prt2 z) _) (by omega)
 have h4 : (prt4 z).length ≤ 5 := Nat.le_trans (addX_len (z.un != 0) (prt3 z) _) (by omega)
 have h5 : (prt5 z).length ≤ 6 := Nat.le_trans (addI_len (prt4 z) _ _) (by omega)
 have h6 : (prt6 z).length ≤ 7 := Nat.le_trans (addI_len (prt5 z) _ _) (by omega)
 have h7 : (prt7 z).length ≤ 8 := Nat.le_trans (addI_len (prt6 z) _ _) (by omega)
 have h8 : (prt8 z).length ≤ 9 := Nat.le_trans (addI_len (prt7 z) _ _) (by omega)
 have h9 : (prt9 z).length ≤ 10 := Nat.le_trans (addI_len (prt8 z) _ _) (by omega)
 have h10 : (prt10 z).length ≤ 11 := Nat.le_trans (addD_len (prt9 z) _) (by omega)
 have h11 : (prt11 z).length ≤ 12 := Nat.le_trans (addI_len (prt10 z) _ _) (by omega)
 have h12 : (prt12 z).length ≤ 13 := Nat.le_trans (addI_len (prt11 z) _ _) (by omega)
 have h13 : (prt13 z).length ≤ 14 := Nat.le_trans (addI_len (prt12 z) _ _) (by omega)
 have h14 : (prt14 z).length ≤ 15 := Nat.le_trans (addI_len (prt13 z) _ _) (by omega)
 exact ⟨h0, h1, h2, h3, h4, h5, h6, h7, h8, h9, h10, h11, h12, h13, h14⟩
theorem numsZ_40 {xs : List Int} (h : ∀ x ∈ xs, I64 x) (hn : xs.length ≤ 40) : (numsZ xs).length ≤ 880 := Nat.le_trans (numsZ_le h) (by omega)
theorem prt_mem {z : RZ} (F : FMT z) {t : List UInt8} (h : t ∈ prt14 z) : t.length ≤ 1100 := by
 rcases mem_addI h with h | rfl
 rotate_left 1
 · have := numsZ_40 F.i8 F.n8; simp only [List.length_append, List.length_cons, List.length_nil]; omega
 rcases mem_addI h with h | rfl
 rotate_left 1
 · have := numsZ_40 F.i7 F.n7; simp only [List.length_append, List.length_cons, List.length_nil]; omega
 rcases mem_addI h with h | rfl
 rotate_left 1
 · have := numsZ_40 F.i6 F.n6; simp only [List.length_append, List.length_cons, List.length_nil]; omega
 rcases mem_addI h with h | rfl
 rotate_left 1
 · have := numsZ_40 F.i5 F.n5; simp only [List.length_append, List.length_cons, List.length_nil]; omega
 rcases mem_addD h with h | rfl
 rotate_left 1
 · have := daysT_le F.id; have := F.nd; simp only [List.length_append, List.length_cons, List.length_nil]; omega
 rcases mem_addI h with h | rfl
 rotate_left 1
 · have := numsZ_40 F.i4 F.n4; simp only [List.length_append, List.length_cons, List.length_nil]; omega
 rcases mem_addI h with h | rfl
 rotate_left 1
 · have := numsZ_40 F.i3 F.n3; simp only [List.length_append, List.length_cons, List.length_nil]; omega
 rcases mem_addI h with h | rfl
 rotate_left 1
 · have := numsZ_40 F.i2 F.n2; simp only [List.length_append, List.length_cons, List.length_nil]; omega
 rcases mem_addI h with h | rfl
 rotate_left 1
 · have := numsZ_40 F.i1 F.n1; simp only [List.length_append, List.length_cons, List.length_nil]; omega
 rcases mem_addI h with h | rfl
 rotate_left 1
 · have := numsZ_40 F.i0 F.n0; simp only [List.length_append, List.length_cons, List.length_nil]; omega
 rcases mem_addX h with h | rfl
 rotate_left 1
 · have := stamp_len F.un; simp only [List.length_append, List.length_cons, List.length_nil]; omega
 rcases mem_addX h with h | rfl
 rotate_left 1
 · have := itoa_le F.ct.1 F.ct.2; simp only [List.length_append, List.length_cons, List.length_nil]; omega
 rcases mem_addX h with h | rfl
 rotate_left 1
 · have := wdZ_le (w := z.wk) (n := z.wn) (by rw [F.wn]; omega); simp only [List.length_append, List.length_cons, List.length_nil]; omega
 rcases mem_addX h with h | rfl
 rotate_left 1
 · have := itoa_le F.iv.1 F.iv.2; simp only [List.length_append, List.length_cons, List.length_nil]; omega
 have h := List.mem_singleton.1 h
 subst h
 have := freqN_len z.fr; simp only [List.length_append, List.length_cons, List.length_nil]; omega
theorem ruleT_le {z : RZ} (F : FMT z) : (ruleT z).length ≤ 17000 := by
 have := join_le (B := 1100) (xs := prt14 z) (c := 59) fun x hx => prt_mem F hx
 have := prt_len z
 have h14 := this.2.2.2.2.2.2.2.2.2.2.2.2.2.2
 unfold ruleT
 omega
theorem getDP_mem {l : List (Int × Int)} {i : Nat} (h : i < l.length) : l.getD i (0, 0) ∈ l := by
 simp [List.getD, h]
set_option maxRecDepth 8192 in
set_option maxHeartbeats 8000000 in
theorem ruleT_tri (z : RZ) (y : LY) (hy : LOK z y) (F : FMT z) (vs : Nat → Value) :
 Tri C0 97 11 ((10, ruleO z y vs) :: lstHp 142 z 0) [.ptr 10 0] (fun k hp r => k = 11 ∧ hp = (10, ruleO z y vs) :: lstHp 142 z 0 ∧ r = .str (ruleT z)) := by
 have hL := prt_len z
 refine Tri.keep ?_ (s_) (by rintro r rfl; trivial)
 refine Tri.mk 162 [.tmp 2] Tryz.func97 rfl rfl rfl rfl cf97 ?_; intro w0 S T ρ0
 refine w_ ?_
 refine WL_call [] (freqStr_tri z.fr F.fr) rfl rfl rfl t_ t_ rfl rfl rfl rfl ?_; rintro _ _ _ ⟨rfl, rfl, rfl⟩
 have hf := freqN_len z.fr
 have hside : ([70, 82, 69, 81, 61] : List UInt8).length + (freqN z.fr).length ≤ 9223372036854775807 := by show 5 + _ ≤ _; omega
 refine w_ ?_
 refine W_conv 11 (.strs 9 (some 1) (prt0 z)) rfl rfl rfl rfl (.inr rfl) ⟨[], rfl⟩ ?_
 have k1 : (prt0 z).length ≤ 1 := Nat.le_refl _
 have k2 : 1 ≤ 1 := Nat.le_refl _
 refine W_mid (α := Nat × Nat) (fun p : Nat × Nat => (12, [(0, .ptr 10 0), (3, .sl false 11 1 0 (prt1 z).length p.1)], (11, .strs 9 (some p.2) (prt1 z)) :: (10, ruleO z y vs) :: lstHp 142 z 0)) (fun p => (prt1 z).length ≤ p.1 ∧ p.1 ≤ p.2) ?_ ?_
 · refine i_ ?_ ?_ <;> intro h
   · have e : prt1 z = prt0 z ++ [[73, 78, 84, 69, 82, 86, 65, 76, 61] ++ Lib.itoa z.iv] := if_pos (by simp [h])
     rw [e, List.length_append]
     refine w_ ?_
     refine WL_call [] (itoa_tri z.iv F.iv.1 F.iv.2) rfl rfl rfl t_ t_ rfl rfl rfl rfl ?_; rintro _ _ _ ⟨rfl, rfl, rfl⟩
     have hside : ([73, 78, 84, 69, 82, 86, 65, 76, 61] : List UInt8).length + (Lib.itoa z.iv).length ≤ 9223372036854775807 := by have := itoa_le F.iv.1 F.iv.2; show 9 + _ ≤ _; omega
     refine w_ ?_
     refine WL_app1 (FamS 9) (prt0 z) (([73, 78, 84, 69, 82, 86, 65, 76, 61] ++ Lib.itoa z.iv)) rfl rfl rfl rfl rfl rfl rfl rfl rfl rfl rfl rfl rfl rfl ?_ ?_ ?_
     · exact ⟨k1, by omega⟩
     · exact ⟨by omega, by show ((prt0 z).length + 1) * 16 ≤ _; omega⟩
     intro cap' tt' h1 h2 _
     refine w_ ?_
     exact ⟨(cap', tt'), ⟨h1, by simp only; omega⟩, Imp_renG [0, 1, 2, 3, 4, 5, 6, 7, 8, 9, 10, 13] s_ s_ rfl rfl rfl⟩
   · have e : prt1 z = prt0 z := if_neg (by simp [h])
     rw [e]
     refine w_ ?_
     exact ⟨(1, 1), ⟨k1, k2⟩, Imp_renG [0, 1, 2, 3, 4, 5, 6, 7, 8, 9, 10, 11] s_ s_ rfl rfl rfl⟩
 clear k1 k2
 rintro ⟨c1, t1⟩ ⟨k1, k2⟩
 simp only at k1 k2
 refine w_ ?_
 refine W_draw [10] [] 5 mo0 (by kernel_rfl) (by kernel_rfl) (fun ρ1 hkl => ?_); refine d_ ?_
 refine d_ ?_
 refine W_mid (α := Nat × Nat) (fun p : Nat × Nat => (12, [(0, .ptr 10 0), (3, .sl false 11 1 0 (prt2 z).length p.1)], (11, .strs 9 (some p.2) (prt2 z)) :: (10, ruleO z y vs) :: lstHp 142 z 0)) (fun p => (prt2 z).length ≤ p.1 ∧ p.1 ≤ p.2) ?_ ?_
 · refine i_ ?_ ?_ <;> intro h
   · have e : prt2 z = prt1 z ++ [[87, 75, 83, 84, 61] ++ wdZ z.wk z.wn] := if_pos (by simpa [F.wn] using h)
     rw [e, List.length_append]
     refine w_ ?_
     refine WL_call [] (wdayStr_tri z.wk z.wn F.wk (by rw [F.wn]; omega)) rfl rfl rfl t_ t_ rfl rfl rfl rfl ?_; rintro _ _ _ ⟨rfl, rfl, rfl⟩
     have hside : ([87, 75, 83, 84, 61] : List UInt8).length + (wdZ z.wk z.wn).length ≤ 9223372036854775807 := by have := wdZ_le (w := z.wk) (n := z.wn) (by rw [F.wn]; omega); show 5 + _ ≤ _; omega
     refine w_ ?_
     refine WL_app1 (FamS 9) (prt1 z) (([87, 75, 83, 84, 61] ++ wdZ z.wk z.wn)) rfl rfl rfl rfl rfl rfl rfl rfl rfl rfl rfl rfl rfl rfl ?_ ?_ ?_
     · exact ⟨k1, by omega⟩
     · exact ⟨by omega, by show ((prt1 z).length + 1) * 16 ≤ _; omega⟩
     intro cap' tt' h1 h2 _
     refine w_ ?_
     exact ⟨(cap', tt'), ⟨h1, by simp only; omega⟩, Imp_renG [0, 1, 2, 3, 4, 5, 6, 7, 8, 9, 10, 13] s_ s_ rfl rfl rfl⟩
   · have e : prt2 z = prt1 z := if_neg (by simpa [F.wn] using h)
     rw [e]
     refine w_ ?_
     exact ⟨(c1, t1), ⟨k1, k2⟩, Imp_renG [0, 1, 2, 3, 4, 5, 6, 7, 8, 9, 10, 11] s_ s_ rfl rfl rfl⟩
 clear k1 k2
 rintro ⟨c2, t2⟩ ⟨k1, k2⟩
 simp only at k1 k2
 refine w_ ?_
 refine W_mid (α := Nat × Nat) (fun p : Nat × Nat => (12, [(0, .ptr 10 0), (3, .sl false 11 1 0 (prt3 z).length p.1)], (11, .strs 9 (some p.2) (prt3 z)) :: (10, ruleO z y vs) :: lstHp 142 z 0)) (fun p => (prt3 z).length ≤ p.1 ∧ p.1 ≤ p.2) ?_ ?_
 · refine i_ ?_ ?_ <;> intro h
   · have e : prt3 z = prt2 z ++ [[67, 79, 85, 78, 84, 61] ++ Lib.itoa z.ct] := if_pos (by simp [h])
     rw [e, List.length_append]
     refine w_ ?_
     refine WL_call [] (itoa_tri z.ct F.ct.1 F.ct.2) rfl rfl rfl t_ t_ rfl rfl rfl rfl ?_; rintro _ _ _ ⟨rfl, rfl, rfl⟩
     have hside : ([67, 79, 85, 78, 84, 61] : List UInt8).length + (Lib.itoa z.ct).length ≤ 9223372036854775807 := by have := itoa_le F.ct.1 F.ct.2; show 6 + _ ≤ _; omega
     refine w_ ?_
     refine WL_app1 (FamS 9) (prt2 z) (([67, 79, 85, 78, 84, 61] ++ Lib.itoa z.ct)) rfl rfl rfl rfl rfl rfl rfl rfl rfl rfl rfl rfl rfl rfl ?_ ?_ ?_
     · exact ⟨k1, by omega⟩
     · exact ⟨by omega, by show ((prt2 z).length + 1) * 16 ≤ _; omega⟩
     intro cap' tt' h1 h2 _
     refine w_ ?_
     exact ⟨(cap', tt'), ⟨h1, by simp only; omega⟩, Imp_renG [0, 1, 2, 3, 4, 5, 6, 7, 8, 9, 10, 13] s_ s_ rfl rfl rfl⟩
   · have e : prt3 z = prt2 z := if_neg (by simp [h])
     rw [e]
     refine w_ ?_
     exact ⟨(c2, t2), ⟨k1, k2⟩, Imp_renG [0, 1, 2, 3, 4, 5, 6, 7, 8, 9, 10, 11] s_ s_ rfl rfl rfl⟩
 clear k1 k2
 rintro ⟨c3, t3⟩ ⟨k1, k2⟩
 simp only at k1 k2
 refine w_ ?_
 refine WL_call [] (isZero_tri z.un) rfl rfl rfl t_ t_ rfl rfl rfl rfl ?_; rintro _ _ _ ⟨rfl, rfl, rfl⟩
 refine w_ ?_
 refine W_mid (α := Nat × Nat) (fun p : Nat × Nat => (12, [(0, .ptr 10 0), (3, .sl false 11 1 0 (prt4 z).length p.1)], (11, .strs 9 (some p.2) (prt4 z)) :: (10, ruleO z y vs) :: lstHp 142 z 0)) (fun p => (prt4 z).length ≤ p.1 ∧ p.1 ≤ p.2) ?_ ?_
 · refine i_ ?_ ?_ <;> intro h
   · have e : prt4 z = prt3 z ++ [[85, 78, 84, 73, 76, 61] ++ stampZ z.un] := if_pos (by simp [h])
     rw [e, List.length_append]
     refine w_ ?_
     refine WL_call [] (timeStr_tri z.un 0 F.un) rfl rfl rfl t_ t_ rfl rfl rfl rfl ?_; rintro _ _ _ ⟨rfl, rfl, rfl⟩
     have hside : ([85, 78, 84, 73, 76, 61] : List UInt8).length + (stampZ z.un).length ≤ 9223372036854775807 := by have := stamp_len F.un; show 6 + _ ≤ _; omega
     refine w_ ?_
     refine WL_app1 (FamS 9) (prt3 z) (([85, 78, 84, 73, 76, 61] ++ stampZ z.un)) rfl rfl rfl rfl rfl rfl rfl rfl rfl rfl rfl rfl rfl rfl ?_ ?_ ?_
     · exact ⟨k1, by omega⟩
     · exact ⟨by omega, by show ((prt3 z).length + 1) * 16 ≤ _; omega⟩
     intro cap' tt' h1 h2 _
     refine w_ ?_
     exact ⟨(cap', tt'), ⟨h1, by simp only; omega⟩, Imp_renG [0, 1, 2, 3, 4, 5, 6, 7, 8, 9, 10, 13] s_ s_ rfl rfl rfl⟩
   · have e : prt4 z = prt3 z := if_neg (by simp [h])
     rw [e]
     refine w_ ?_
     exact ⟨(c3, t3), ⟨k1, k2⟩, Imp_renG [0, 1, 2, 3, 4, 5, 6, 7, 8, 9, 10, 11] s_ s_ rfl rfl rfl⟩
 clear k1 k2
 rintro ⟨c4, t4⟩ ⟨k1, k2⟩
 simp only at k1 k2
 refine w_ ?_
 refine WL_call [11, 0] (appInts_tri [66, 89, 83, 69, 84, 80, 79, 83] (by decide) (prt4 z) c4 t4 ⟨by omega, k1, k2⟩ z.l0 y.y0 (by simp only [LOK] at hy; omega) (by have := F.n0; omega) F.i0) rfl rfl rfl s_ s_ rfl rfl rfl rfl ?_
 rintro _ _ _ ⟨⟨c5, t5⟩, rfl, rfl, rfl, g1, g2⟩
 simp only at g1 g2
 replace k1 : (prt5 z).length ≤ c5 := g1
 replace k2 : c5 ≤ t5 := g2
 clear g1 g2
 refine w_ ?_
 refine WL_call [12, 1] (appInts_tri [66, 89, 77, 79, 78, 84, 72] (by decide) (prt5 z) c5 t5 ⟨by omega, k1, k2⟩ z.l1 y.y1 (by simp only [LOK] at hy; omega) (by have := F.n1; omega) F.i1) rfl rfl rfl s_ s_ rfl rfl rfl rfl ?_
 rintro _ _ _ ⟨⟨c6, t6⟩, rfl, rfl, rfl, g1, g2⟩
 simp only at g1 g2
 replace k1 : (prt6 z).length ≤ c6 := g1
 replace k2 : c6 ≤ t6 := g2
 clear g1 g2
 refine w_ ?_
 refine WL_call [13, 2] (appInts_tri [66, 89, 77, 79, 78, 84, 72, 68, 65, 89] (by decide) (prt6 z) c6 t6 ⟨by omega, k1, k2⟩ z.l2 y.y2 (by simp only [LOK] at hy; omega) (by have := F.n2; omega) F.i2) rfl rfl rfl s_ s_ rfl rfl rfl rfl ?_
 rintro _ _ _ ⟨⟨c7, t7⟩, rfl, rfl, rfl, g1, g2⟩
 simp only at g1 g2
 replace k1 : (prt7 z).length ≤ c7 := g1
 replace k2 : c7 ≤ t7 := g2
 clear g1 g2
 refine w_ ?_
 refine WL_call [14, 3] (appInts_tri [66, 89, 89, 69, 65, 82, 68, 65, 89] (by decide) (prt7 z) c7 t7 ⟨by omega, k1, k2⟩ z.l3 y.y3 (by simp only [LOK] at hy; omega) (by have := F.n3; omega) F.i3) rfl rfl rfl s_ s_ rfl rfl rfl rfl ?_
 rintro _ _ _ ⟨⟨c8, t8⟩, rfl, rfl, rfl, g1, g2⟩
 simp only at g1 g2
 replace k1 : (prt8 z).length ≤ c8 := g1
 replace k2 : c8 ≤ t8 := g2
 clear g1 g2
 refine w_ ?_
 refine WL_call [15, 4] (appInts_tri [66, 89, 87, 69, 69, 75, 78, 79] (by decide) (prt8 z) c8 t8 ⟨by omega, k1, k2⟩ z.l4 y.y4 (by simp only [LOK] at hy; omega) (by have := F.n4; omega) F.i4) rfl rfl rfl s_ s_ rfl rfl rfl rfl ?_
 rintro _ _ _ ⟨⟨c9, t9⟩, rfl, rfl, rfl, g1, g2⟩
 simp only at g1 g2
 replace k1 : (prt9 z).length ≤ c9 := g1
 replace k2 : c9 ≤ t9 := g2
 clear g1 g2
 refine w_ ?_
 refine W_mid (α := Nat × Nat) (fun p : Nat × Nat => (12, [(0, .ptr 10 0), (3, .sl false 11 1 0 (prt10 z).length p.1)], (11, .strs 9 (some p.2) (prt10 z)) :: (10, ruleO z y vs) :: lstHp 142 z 0)) (fun p => (prt10 z).length ≤ p.1 ∧ p.1 ≤ p.2) ?_ ?_
 · refine i_ ?_ ?_ <;> intro h
   rotate_left 1
   · have h : z.dd = [] := List.length_eq_zero_iff.1 (by omega)
     have e : prt10 z = prt9 z := if_pos h
     rw [e]
     refine w_ ?_
     exact ⟨(c9, t9), ⟨k1, k2⟩, Imp_renG [0, 1, 2, 3, 4, 5, 6, 7, 8, 9, 10, 16] s_ s_ rfl rfl rfl⟩
   have hne : z.dd ≠ [] := fun e => h (by rw [e]; rfl)
   have hpos : 0 < z.dd.length := List.length_pos_iff.2 hne
   have hnd := F.nd
   have hml : (prs2 z.dd).length = z.dd.length := by simp
   have hyd : z.dd.length ≤ y.yd.2 := by have := hy; simp only [LOK] at this; omega
   refine W_renG [0, 1, 2, 3, 4, 5, 6, 7, 8, 9, 10, 16] (n := 12) (tm' := [(0, .ptr 10 0), (3, .sl false 11 1 0 (prt9 z).length c9)]) (hp' := (11, .strs 9 (some t9) (prt9 z)) :: (10, ruleO z y vs) :: lstHp 142 z 0) ?_ s_ s_ rfl rfl rfl
   refine w_ ?_
   refine WL_make (.strs 9 (some z.dd.length) (List.replicate z.dd.length [])) rfl rfl rfl rfl rfl rfl rfl rfl rfl rfl ?_ rfl rfl ?_ ?_ ?_
   · refine ⟨by omega, by omega, by omega, ?_⟩
     show (16 : Int) * (z.dd.length : Int) ≤ _; omega
   · simp [AO.avs]; exact .inr rfl
   · simp [AO.avs, AO.tot]
   rw [Int.toNat_natCast]
   refine w_ ?_
   refine W_loop ?_; refine LP_ren [0, 1, 2, 3, 4, 5, 6, 7, 8, 9, 10, 11, 12] (LP_ind 13 (fun q : Nat × List (List UInt8) => ([(0, .ptr 10 0), (3, .sl false 11 1 0 (prt9 z).length c9), (4, .sl false 12 1 0 z.dd.length z.dd.length), (117, slI y.yd 9 2 z.dd.length), (118, .int .i64 z.dd.length), (119, .int .i64 q.1)], (11, .strs 9 (some t9) (prt9 z)) :: (12, .strs 9 (some z.dd.length) q.2) :: (10, ruleO z y vs) :: lstHp 142 z 0)) (fun q => z.dd.length - q.1) (fun q => q.1 ≤ z.dd.length ∧ q.2.length = z.dd.length ∧ q.2.take q.1 = (z.dd.take q.1).map (fun p => wdZ p.1 p.2)) (0, List.replicate z.dd.length []) ?_ (⟨Nat.zero_le _, by simp, by simp⟩)) s_ s_ rfl rfl rfl
   rintro ⟨j, ss⟩ ⟨i1, i2, i3⟩ ih
   simp only at i1 i2 i3
   refine LP_round ?_; try dsimp only
   refine w_ ?_
   refine i_ ?_ ?_ <;> intro hj
   · have hj : j < z.dd.length := by omega
     have hb := F.id _ (getDP_mem hj)
     refine w_ ?_
     rw [show 0 + (j : Int).toNat = j by omega]
     refine w_ ?_
     rw [prs2_get hj]
     refine w_ ?_
     refine WL_call [] (wdayStr_tri (z.dd.getD j (0, 0)).1 (z.dd.getD j (0, 0)).2 hb.1 hb.2) rfl rfl rfl t_ t_ rfl rfl rfl rfl ?_; rintro _ _ _ ⟨rfl, rfl, rfl⟩
     refine w_ ?_
     rw [show 0 + (j : Int).toNat = j by omega]
     refine LP_renG [0, 1, 2, 3, 4, 5, 6, 7, 8, 9, 10, 11, 12] (ih (j + 1, ss.set j (wdZ (z.dd.getD j (0, 0)).1 (z.dd.getD j (0, 0)).2)) ⟨by omega, by simpa using i2, ?_⟩ (by simp only; omega)) s_ s_ rfl rfl rfl
     show (ss.set j _).take (j + 1) = _
     rw [take_set (by omega), i3, ← takeP_succ hj, List.map_append]; rfl
   · have hj : j = z.dd.length := by omega
     rw [hj, List.take_of_length_le (by omega), List.take_of_length_le (by omega)] at i3
     have hl := daysT_le F.id
     have hdt : daysT z.dd = Lib.join ss [44] := by rw [i3]; rfl
     have hlj : (Lib.join ss [44]).length ≤ 22000 := by rw [← hdt]; exact Nat.le_trans hl (by omega)
     have hJ := joinN_tri (some z.dd.length) ss z.dd.length z.dd.length 44 i2 (Nat.le_refl _) (by omega) (by omega)
     have e : prt10 z = prt9 z ++ [[66, 89, 68, 65, 89, 61] ++ Lib.join ss [44]] := by rw [← hdt]; exact if_neg hne
     rw [e]
     have hside : ([66, 89, 68, 65, 89, 61] : List UInt8).length + (Lib.join ss [44]).length ≤ 9223372036854775807 := by show 6 + _ ≤ _; omega
     refine w_ ?_
     refine x_ ?_
     refine w_ ?_
     refine WL_callR [12] (hJ) rfl rfl rfl t_ t_ rfl rfl rfl rfl ?_; rintro _ rfl
     generalize Lib.join ss [44] = t at *
     refine w_ ?_
     refine WL_app1 (FamS 9) (prt9 z) (([66, 89, 68, 65, 89, 61] ++ t)) rfl rfl rfl rfl rfl rfl rfl rfl rfl rfl rfl rfl rfl rfl ?_ ?_ ?_
     · exact ⟨k1, by omega⟩
     · exact ⟨by omega, by show ((prt9 z).length + 1) * 16 ≤ _; omega⟩
     intro cap' tt' h1 h2 _
     refine w_ ?_
     rw [List.length_append]
     exact ⟨(cap', tt'), ⟨h1, by simp only; omega⟩, Imp_renG [0, 1, 2, 3, 4, 5, 6, 7, 8, 9, 10, 14] s_ s_ rfl rfl rfl⟩
 clear k1 k2
 rintro ⟨c10, t10⟩ ⟨k1, k2⟩
 simp only at k1 k2
 refine w_ ?_
 refine WL_call [11, 5] (appInts_tri [66, 89, 72, 79, 85, 82] (by decide) (prt10 z) c10 t10 ⟨by omega, k1, k2⟩ z.l5 y.y5 (by simp only [LOK] at hy; omega) (by have := F.n5; omega) F.i5) rfl rfl rfl s_ s_ rfl rfl rfl rfl ?_
 rintro _ _ _ ⟨⟨c11, t11⟩, rfl, rfl, rfl, g1, g2⟩
 simp only at g1 g2
 replace k1 : (prt11 z).length ≤ c11 := g1
 replace k2 : c11 ≤ t11 := g2
 clear g1 g2
 refine w_ ?_
 refine WL_call [12, 6] (appInts_tri [66, 89, 77, 73, 78, 85, 84, 69] (by decide) (prt11 z) c11 t11 ⟨by omega, k1, k2⟩ z.l6 y.y6 (by simp only [LOK] at hy; omega) (by have := F.n6; omega) F.i6) rfl rfl rfl s_ s_ rfl rfl rfl rfl ?_
 rintro _ _ _ ⟨⟨c12, t12⟩, rfl, rfl, rfl, g1, g2⟩
 simp only at g1 g2
 replace k1 : (prt12 z).length ≤ c12 := g1
 replace k2 : c12 ≤ t12 := g2
 clear g1 g2
 refine w_ ?_
 refine WL_call [13, 7] (appInts_tri [66, 89, 83, 69, 67, 79, 78, 68] (by decide) (prt12 z) c12 t12 ⟨by omega, k1, k2⟩ z.l7 y.y7 (by simp only [LOK] at hy; omega) (by have := F.n7; omega) F.i7) rfl rfl rfl s_ s_ rfl rfl rfl rfl ?_
 rintro _ _ _ ⟨⟨c13, t13⟩, rfl, rfl, rfl, g1, g2⟩
 simp only at g1 g2
 replace k1 : (prt13 z).length ≤ c13 := g1
 replace k2 : c13 ≤ t13 := g2
 clear g1 g2
 refine w_ ?_
 refine WL_call [14, 8] (appInts_tri [66, 89, 69, 65, 83, 84, 69, 82] (by decide) (prt13 z) c13 t13 ⟨by omega, k1, k2⟩ z.l8 y.y8 (by simp only [LOK] at hy; omega) (by have := F.n8; omega) F.i8) rfl rfl rfl s_ s_ rfl rfl rfl rfl ?_
 rintro _ _ _ ⟨⟨c14, t14⟩, rfl, rfl, rfl, g1, g2⟩
 simp only at g1 g2
 replace k1 : (prt14 z).length ≤ c14 := g1
 replace k2 : c14 ≤ t14 := g2
 clear g1 g2
 refine w_ ?_
 have hR := ruleT_le F
 have hJ := joinN_tri (some t14) (prt14 z) (prt14 z).length c14 59 rfl k1 (by omega) (by unfold ruleT at hR; omega)
 refine WL_callR [15] (hJ) rfl rfl rfl t_ t_ rfl rfl rfl rfl ?_; rintro _ rfl
 refine w_ ?_
 refine r_ ?_ ?_
 · exact s_
 · exact ⟨s_, rfl⟩
end Go.Eng
