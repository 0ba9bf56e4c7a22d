/- A part of the proof that the rows statement FnSetAny holds: the engine of abstract states, the walks through the program, the bridge; no conditions. -/
import Derived.Test.YthkgjhnckakliaaGreatDoorZAW
import Derived.Test.YthkgjhnckakliaaGreatDoorZAO
import Derived.Test.YthkgjhnckakliaaGreatDoorZAY
import Derived.Test.YthkgjhnckakliaaGreatDoorZAS
set_option linter.unusedVariables false
set_option linter.unusedSimpArgs false
set_option linter.unusedSectionVars false
namespace Go.Eng
variable {C : Cy} {E : En} {ops : Array Oper} {rest : List Oper} {nx : Nat} {tm : Tm} {hp : Hp} {Q : Po}
theorem W_midB {c r : Code} {i : Nat} {Q' : Po} {α : Type} (S : α → Nat × Tm × Hp) (Inv : α → Prop)
    (h1 : W C E c nx tm hp (InBl i (Then (fun nx' tm' hp' => ∃ p, Inv p ∧ Imp C E nx' tm' hp' (S p).1 (S p).2.1 (S p).2.2) Q))) (h2 : ∀ p, Inv p → W C E r (S p).1 (S p).2.1 (S p).2.2 Q') :
    W C E c nx tm hp (InBl i (Then (fun nx tm hp => W C E r nx tm hp Q') Q)) := by
  refine W_mono h1 ?_
  have key : ∀ nx' tm' hp', (∃ p, Inv p ∧ Imp C E nx' tm' hp' (S p).1 (S p).2.1 (S p).2.2) → W C E r nx' tm' hp' Q' := by
    rintro nx' tm' hp' ⟨p, hi, him⟩
    exact W_imp him (h2 p hi)
  intro e nx' tm' hp' h
  cases e with
  | normal => exact key _ _ _ h
  | exit j =>
    simp only [InBl] at h ⊢
    cases hij : Nat.beq j i <;> rw [hij] at h
    · exact h
    · exact key _ _ _ h
  | ret => exact h
  | goto l => exact h
  | panic c => exact h
  | outgrown => exact h
theorem WL_cut (k : Nat) {l : List Oper} (h : WL C E ops (l.take k) nx tm hp (NQ fun nx tm hp => WL C E ops (l.drop k) nx tm hp Q)) : WL C E ops l nx tm hp Q := by
  intro ρ a w H
  rw [← List.take_append_drop k l]
  refine wpList_append _ _ _ _ (wpList_mono1 ?_ (h ρ a w H)) (fun c a w hh => by cases hh.1)
  rintro e a' w' ⟨ρ', nx', tm', hp', H', he, hk⟩
  exact ⟨he, hk ρ' a' w' H'⟩
theorem WL_appN {α : Type} {e : TypeId} {n : Nat} (F : Fam e n α) (ys : List α) {d : Nat} {x y : Operand} {t : TypeId} {ty : TypeId} {pos : String} {af : Array Edge} {g : Option (Nat × Bool)} {s te : TS} {z : Value}
    {sid scap : Nat} {so : AO}
    (hx : ev tm x = some (.v (.slice none 0 0))) (hy : ev tm y = some (.sl false sid n 0 ys.length scap)) (hsid : lk hp sid = some so)
    (hsa : isArr so = true) (hsv : so.avs = ys.flatMap F.cf)
    (hs : C.ti t = some s) (hsd : s.desc = .slice e) (hte : C.ti e = some te) (hsz : te.size = n)
    (hz : te.zero = some z) (hzc : Nat.beq z.cells.size te.size = true) (hg : wanted ops tm g = some true) (hd : Nat.blt d E.nt = true)
    (hpos : 0 < ys.length) (hsc : ys.length ≤ scap) (hb : ys.length ≤ 140737488355328 ∧ ys.length * te.bytes ≤ 140737488355328)
    (h : ∀ cap' tt', ys.length ≤ cap' → cap' * n ≤ tt' → WL C E ops rest (nx + 1) ((d, .sl false nx n 0 ys.length cap') :: tm) ((nx, F.ob tt' ys) :: hp) Q) :
    WL C E ops (⟨some d, .call ⟨.builtin .append, #[x, y], #[t, t]⟩, ty, pos, af, g⟩ :: rest) nx tm hp Q := by
  subst hsz
  have hlen : so.avs.length = ys.length * te.size := by rw [hsv, ← F.avs 0 ys, F.total]
  have hso : (so.avs.drop (0 * te.size)).take (ys.length * te.size) = ys.flatMap F.cf := by rw [Nat.zero_mul, List.drop_zero, ← hlen, List.take_length, hsv]
  have hda : dstA hp te.size (.v (.slice none 0 0)) = some (True, 0, [], none) := by simp [dstA]
  refine WL_append (fun k => F.ob k ys) hx hy hs hsd hte hz hzc hg hd hda trivial hsid hsa (by rw [hlen]; simp) hpos hsc ⟨by omega, by simpa using hb.2⟩ ?_ ?_ ?_ ?_
  · intro k
    refine ⟨F.arr _ _, F.tot _ _, F.elem _ _, ?_⟩
    rw [hso, F.avs]; simp
  · rw [hso]
    intro a ha
    obtain ⟨y, _, hy⟩ := List.mem_flatMap.1 ha
    exact F.plain y a hy
  · intro id o e1 e2; cases e1
  · intro cap' tt' h1 h2 h3
    have := h cap' tt' (by omega) h2
    rw [Nat.zero_add]; exact this
theorem WL_appX {α : Type} {e : TypeId} {n : Nat} (F : Fam e n α) (xs ys : List α) {d : Nat} {x y : Operand} {t : TypeId} {ty : TypeId} {pos : String} {af : Array Edge} {g : Option (Nat × Bool)} {s te : TS} {z : Value}
    {id cap tt sid scap : Nat} {so : AO}
    (hx : ev tm x = some (.sl false id n 0 xs.length cap)) (hid : lk hp id = some (F.ob tt xs)) (hy : ev tm y = some (.sl false sid n 0 ys.length scap)) (hsid : lk hp sid = some so)
    (hsa : isArr so = true) (hsv : so.avs = ys.flatMap F.cf)
    (hs : C.ti t = some s) (hsd : s.desc = .slice e) (hte : C.ti e = some te) (hsz : te.size = n)
    (hz : te.zero = some z) (hzc : Nat.beq z.cells.size te.size = true) (hg : wanted ops tm g = some true) (hd : Nat.blt d E.nt = true)
    (hcap : xs.length ≤ cap ∧ cap * n ≤ tt) (hpos : 0 < ys.length) (hsc : ys.length ≤ scap) (hb : xs.length + ys.length ≤ 140737488355328 ∧ (xs.length + ys.length) * te.bytes ≤ 140737488355328)
    (h : ∀ cap' tt', xs.length + ys.length ≤ cap' → cap' * n ≤ tt' → WL C E ops rest (nx + 1) ((d, .sl false nx n 0 (xs.length + ys.length) cap') :: tm) ((nx, F.ob tt' (xs ++ ys)) :: (id, .dead) :: hp) Q) :
    WL C E ops (⟨some d, .call ⟨.builtin .append, #[x, y], #[t, t]⟩, ty, pos, af, g⟩ :: rest) nx tm hp Q := by
  subst hsz
  have hlen : so.avs.length = ys.length * te.size := by rw [hsv, ← F.avs 0 ys, F.total]
  have hso : (so.avs.drop (0 * te.size)).take (ys.length * te.size) = ys.flatMap F.cf := by rw [Nat.zero_mul, List.drop_zero, ← hlen, List.take_length, hsv]
  have hda : dstA hp te.size (.sl false id te.size 0 xs.length cap) = some (xs.length * te.size ≤ (F.ob tt xs).avs.length ∧ cap * te.size ≤ tt ∧ xs.length ≤ cap, xs.length, (F.ob tt xs).avs.take (xs.length * te.size), some id) := by
    simp [dstA, hid, F.arr, F.tot]
  refine WL_append (fun k => F.ob k (xs ++ ys)) hx hy hs hsd hte hz hzc hg hd hda ⟨by rw [F.total]; exact Nat.le_refl _, hcap.2, hcap.1⟩ hsid hsa (by rw [hlen]; simp) hpos hsc hb ?_ ?_ ?_ ?_
  · intro k
    refine ⟨F.arr _ _, F.tot _ _, F.elem _ _, ?_⟩
    rw [hso, ← F.total tt xs, List.take_length, F.avs, F.avs]; simp
  · rw [hso]
    intro a ha
    obtain ⟨y, _, hy⟩ := List.mem_flatMap.1 ha
    exact F.plain y a hy
  · intro id' o e1 e2; cases e1; rw [hid] at e2; cases e2; exact F.elem _ _
  · intro cap' tt' h1 h2 h3
    exact h cap' tt' h1 h2
end Go.Eng
namespace Go.Eng
open Go.Proofs
attribute [local irreducible] W WL LP Then InBl Tri WS
abbrev DTS : List UInt8 := [68, 84, 83, 84, 65, 82, 84]
abbrev RRU : List UInt8 := [82, 82, 85, 76, 69, 58]
abbrev FRQ : List UInt8 := [70, 82, 69, 81]
def loopZ : RZ → Bool → List (List UInt8) → RZ × Nat
  | z, fq, [] => if fq = true then (z, 0) else (RZ.zero, 1)
  | z, fq, p :: l => match splitB 61 p with
    | [k, v] => if v = [] then (RZ.zero, 1) else if (partZ z k v).2 = 0 then loopZ (partZ z k v).1 (fq || decide (k = FRQ)) l else (RZ.zero, (partZ z k v).2)
    | _ => (RZ.zero, 1)
def bareZ (x : List UInt8) : List UInt8 := if Lib.hasPrefix x RRU = true then x.drop 6 else x
def partsZ (z : RZ) (x : List UInt8) : RZ × Nat := loopZ z false (splitB 59 (bareZ x))
def optL : List (List UInt8) → RZ × Nat
  | [x] => partsZ RZ.zero x
  | [d, x] => match nameZ d with
    | none => (RZ.zero, 1)
    | some n => if ¬ n = DTS then (RZ.zero, 1) else if (startZ (d.drop (n.length + 1))).2 = 0 then partsZ { RZ.zero with st := (startZ (d.drop (n.length + 1))).1 } x else (RZ.zero, (startZ (d.drop (n.length + 1))).2)
  | _ => (RZ.zero, 1)
def optZ (s : List UInt8) : RZ × Nat := optL (splitB 10 (Lib.trimSpace s))
def optS (s : List UInt8) : RZ × Nat := if ascB s = true then optZ s else (RZ.zero, 2)
def zcS : List AV := [.int .u8 0, .bool false, .int .i64 0, .int .i64 0, .int .i64 0, .int .i64 0, .bool false, .int .i64 0, .v (.slice none 0 0), .v (.slice none 0 0), .v (.slice none 0 0), .v (.slice none 0 0), .v (.slice none 0 0), .v (.slice none 0 0), .v (.slice none 0 0), .v (.slice none 0 0), .v (.slice none 0 0), .v (.slice none 0 0)]
def optSR (o : RZ × Nat) : Rs := fun k hp r =>
  (o.2 = 0 ∧ ∃ y, LOK o.1 y ∧ k = 11 ∧ hp = (10, .cells 25 (some 18) (cellsS o.1 y 0)) :: lstHp 95 o.1 0 ∧ r = .tup [.agg (cellsS o.1 y 0), .int .u8 0]) ∨
  (o.2 ≠ 0 ∧ k = 1 ∧ hp = [(0, .cells 25 (some 18) zcS)] ∧ r = .tup [.agg zcS, .int .u8 (o.2 : Nat)])
def nils (e : TypeId) : List AO := [isl [], isl [], isl [], isl [], isl [], isl [], isl [], isl [], isl [], .recs e none K2 []]
theorem LOK_zero (z : RZ) (h : z = { RZ.zero with st := z.st }) : LOK z LY.zero := by rw [h]; exact ⟨Nat.le_refl _, Nat.le_refl _, Nat.le_refl _, Nat.le_refl _, Nat.le_refl _, Nat.le_refl _, Nat.le_refl _, Nat.le_refl _, Nat.le_refl _, Nat.le_refl _⟩
theorem name_len {s n : List UInt8} (h : nameZ s = some n) : n.length + 1 ≤ s.length := by
  unfold nameZ nameU at h
  have h1 := trim_le s
  have h2 : (Lib.toUpperA (Lib.trimSpace s)).length = (Lib.trimSpace s).length := by simp [Lib.toUpperA]
  generalize Lib.toUpperA (Lib.trimSpace s) = u at *
  split at h
  · cases h
  · split at h
    · cases h
    · split at h
      · cases h
      · cases h
        simp only [List.length_take]
        rename_i h3 _
        omega
theorem parseOption_tri (s : List UInt8) (hs : s.length ≤ 536870912) : Tri C0 34 0 [] [.str s] (optSR (optS s)) := by
  have htl := trim_le s
  have hmem := splitB_mem 10 (Lib.trimSpace s)
  unfold optS
  refine Tri.mk 114 [.cell 2 25, .tmp 3] Tryz.func34 rfl rfl rfl rfl cf34 ?_; intro w0 S T ρ0
  refine w_ ?_
  refine WL_call [] (textASCII_tri s (by omega)) rfl rfl rfl t_ t_ rfl rfl rfl rfl ?_; rintro _ _ _ ⟨rfl, rfl, rfl⟩
  by_cases ha : ascB s = true
  rotate_left 1
  · rw [if_neg ha]
    have ha : ascB s = false := by simpa using ha
    rw [ha]
    refine w_ ?_
    refine W_cond_true rfl ?_
    refine w_ ?_
    refine W_renG [0] (n := 1) (tm' := [(2, .ptr 0 0), (3, .int .u8 2)]) (hp' := [(0, .cells 25 (some 18) zcS)]) ?_ s_ s_ rfl rfl rfl
    refine r_ ?_ ?_
    · exact s_
    · exact .inr ⟨Nat.succ_ne_zero _, rfl, rfl, rfl⟩
  rw [if_pos ha, ha]
  unfold optZ
  refine w_ ?_
  refine W_cond_false rfl ?_
  refine w_ ?_
  refine WL_call [] (textTrim_tri s (by omega)) rfl rfl rfl t_ t_ rfl rfl rfl rfl ?_; rintro _ _ _ ⟨rfl, rfl, rfl⟩
  refine w_ ?_
  refine WL_call [] (textSplit_tri 10 (Lib.trimSpace s) (by omega)) rfl rfl rfl (s_) (s_) rfl rfl rfl rfl ?_
  rintro _ _ _ ⟨cap, tt, hc1, hc2, rfl, rfl, rfl⟩
  have hne := splitB_ne 10 (Lib.trimSpace s)
  have hcnt0 := splitB_count 10 (Lib.trimSpace s)
  generalize splitB 10 (Lib.trimSpace s) = ls at *
  refine w_ ?_
  have hpos : 0 < ls.length := List.length_pos_iff.2 hne
  obtain ⟨O, hO⟩ : ∃ O, O = optL ls := ⟨_, rfl⟩
  rw [← hO]
  refine W_midB (α := Int) (fun p => (13, [(2, .ptr 0 0), (4, .sl false 1 1 0 ls.length cap), (5, .ptr 2 0)], (0, .cells 25 (some 18) zcS) :: (1, .strs 9 (some tt) ls) :: (2, .cells 25 (some 18) (cellsS { RZ.zero with st := p } LY.zero 3)) :: lstHp 95 { RZ.zero with st := p } 3))
    (fun p => O = partsZ { RZ.zero with st := p } (ls.getD (ls.length - 1) [])) ?_ ?_
  · match ls, hne with
    | [x], _ =>
      refine W_cond_true rfl ?_
      refine w_ ?_
      refine ⟨0, hO, ?_⟩
      refine Imp_trans (Imp_nils (show 0 < 22 by omega) (nils 95) (s_)) ?_
      refine Imp_trans (Imp_cells 2 (cellsS RZ.zero LY.zero 3) rfl (fun _ => rfl) (s_) (fun h => absurd (congrArg List.length h) (Nat.succ_ne_zero 17))) ?_
      refine Imp_renG [0, 1, 2, 3, 4, 5, 6, 7, 8, 9, 10, 11, 12] ?_ ?_ rfl rfl rfl
      · exact s_
      · exact s_
    | [d, x], _ =>
      have hd := (hmem d (by simp))
      have hc1 : 2 ≤ cap := hc1
      simp only [optL] at hO
      refine W_cond_false rfl ?_
      refine w_ ?_
      refine W_cond_true rfl ?_
      refine w_ ?_
      refine WL_call [] (textName_tri d (by omega)) rfl rfl rfl t_ t_ rfl rfl rfl rfl ?_; rintro _ _ _ ⟨rfl, rfl, hr⟩
      rcases hr with ⟨n, hn, rfl⟩ | ⟨hn, n, rfl⟩
      rotate_left 1
      · rw [hn] at hO
        have hO : O = (RZ.zero, 1) := hO
        rw [hO]
        refine w_ ?_
        refine W_cond_true rfl ?_
        refine w_ ?_
        refine W_renG [0] (n := 1) (tm' := [(2, .ptr 0 0), (3, .int .u8 1)]) (hp' := [(0, .cells 25 (some 18) zcS)]) ?_ s_ s_ rfl rfl rfl
        refine r_ ?_ ?_
        · exact s_
        · exact .inr ⟨Nat.succ_ne_zero _, rfl, rfl, rfl⟩
      rw [hn] at hO
      dsimp only at hO
      have hnl := name_len hn
      refine w_ ?_
      refine i_ ?_ ?_ <;> intro hdt
      · have hdt : ¬ n = DTS := hdt
        rw [if_pos hdt] at hO
        rw [hO]
        refine w_ ?_
        refine W_renG [0] (n := 1) (tm' := [(2, .ptr 0 0), (3, .int .u8 1)]) (hp' := [(0, .cells 25 (some 18) zcS)]) ?_ s_ s_ rfl rfl rfl
        refine r_ ?_ ?_
        · exact s_
        · exact .inr ⟨Nat.succ_ne_zero _, rfl, rfl, rfl⟩
      have hdt : n = DTS := hdt
      rw [if_neg (fun h => h hdt)] at hO
      have e1 : ((n.length : Int) + 1).toNat = n.length + 1 := by omega
      have hasc : ascB (d.drop (n.length + 1)) = true := ascB_iff.2 (asc_drop (fun b hb => asc_trim (ascB_iff.1 ha) b (hd.2 b hb)) _)
      have hst : startS (d.drop (n.length + 1)) = startZ (d.drop (n.length + 1)) := by unfold startS; rw [if_pos hasc]
      have hside : 0 ≤ ((n.length : Int) + 1) ∧ ((n.length : Int) + 1) ≤ (d.length : Int) := by omega
      refine w_ ?_
      rw [e1]
      refine WL_call [] (textStart_tri (d.drop (n.length + 1)) (by simp; omega)) rfl rfl rfl t_ t_ rfl rfl rfl rfl ?_; rintro _ _ _ ⟨rfl, rfl, rfl⟩
      rw [hst]
      refine w_ ?_
      refine i_ ?_ ?_ <;> intro h0
      · have h0 : ¬ (startZ (d.drop (n.length + 1))).2 = 0 := by omega
        rw [if_neg h0] at hO
        rw [hO]
        refine w_ ?_
        refine W_renG [0] (n := 1) (tm' := [(2, .ptr 0 0), (3, .int .u8 ((startZ (d.drop (n.length + 1))).2 : Nat))]) (hp' := [(0, .cells 25 (some 18) zcS)]) ?_ s_ s_ rfl rfl rfl
        refine r_ ?_ ?_
        · exact s_
        · exact .inr ⟨h0, rfl, rfl, rfl⟩
      have h0 : (startZ (d.drop (n.length + 1))).2 = 0 := by omega
      rw [if_pos h0] at hO
      refine w_ ?_
      refine ⟨(startZ (d.drop (n.length + 1))).1, hO, ?_⟩
      refine Imp_trans (Imp_nils (show 0 < 22 by omega) (nils 95) (s_)) ?_
      refine Imp_trans (Imp_cells 2 (cellsS { RZ.zero with st := (startZ (d.drop (n.length + 1))).1 } LY.zero 3) rfl (fun _ => rfl) (s_) (fun h => absurd (congrArg List.length h) (Nat.succ_ne_zero 17))) ?_
      refine Imp_renG [0, 1, 2, 3, 4, 5, 6, 7, 8, 9, 10, 11, 12] ?_ ?_ rfl rfl rfl
      · exact s_
      · exact s_
    | a :: b :: c :: l, _ =>
      have e1 : ¬ ((a :: b :: c :: l).length : Int) = 1 := by simp; omega
      have e2 : ¬ ((a :: b :: c :: l).length : Int) = 2 := by simp; omega
      have hO : O = (RZ.zero, 1) := hO
      rw [hO]
      refine i_ ?_ ?_ <;> intro g
      · exact absurd g e1
      refine w_ ?_
      refine i_ ?_ ?_ <;> intro g
      · exact absurd g e2
      refine w_ ?_
      refine W_renG [0] (n := 1) (tm' := [(2, .ptr 0 0), (3, .int .u8 1)]) (hp' := [(0, .cells 25 (some 18) zcS)]) ?_ s_ s_ rfl rfl rfl
      refine r_ ?_ ?_
      · exact s_
      · exact .inr ⟨Nat.succ_ne_zero _, rfl, rfl, rfl⟩
  intro p hp
  rw [hp]
  clear hp hO
  have hx := (hmem _ (getD_mem (i := ls.length - 1) (by omega)))
  obtain ⟨x, hxe⟩ : ∃ x, x = ls.getD (ls.length - 1) [] := ⟨_, rfl⟩
  rw [← hxe] at hx ⊢
  have e1 : 0 + ((ls.length : Int) - 1).toNat = ls.length - 1 := by omega
  unfold partsZ
  refine w_ ?_
  rw [e1, ← hxe]
  refine WL_call [] (textBegins_tri x RRU (by omega) (by decide)) rfl rfl rfl t_ t_ rfl rfl rfl rfl ?_; rintro _ _ _ ⟨rfl, rfl, rfl⟩
  refine w_ ?_
  obtain ⟨B, hB⟩ : ∃ B, B = bareZ x := ⟨_, rfl⟩
  rw [← hB]
  have hBx : B.length ≤ x.length := by rw [hB]; unfold bareZ; split <;> simp
  refine W_mid (α := Unit) (fun _ => (12, [(2, .ptr 0 0), (5, .ptr 1 0), (10, .str B)], (0, .cells 25 (some 18) zcS) :: (1, .cells 25 (some 18) (cellsS { RZ.zero with st := p } LY.zero 2)) :: lstHp 95 { RZ.zero with st := p } 2)) (fun _ => True) ?_ ?_
  · by_cases hpre : Lib.hasPrefix x RRU = true
    · have hB : B = x.drop 6 := by rw [hB]; unfold bareZ; rw [if_pos hpre]
      rw [hpre]
      have hlen : 6 ≤ x.length := by
        have := (List.isPrefixOf_iff_prefix.1 hpre).length_le; exact this
      refine W_cond_true rfl ?_
      refine w_ ?_
      rw [show (6 : Int).toNat = 6 from rfl, ← hB]
      refine ⟨(), trivial, Imp_renG [0, 2, 3, 4, 5, 6, 7, 8, 9, 10, 11, 12] ?_ ?_ rfl rfl rfl⟩
      · exact s_
      · exact s_
    · have hpre : Lib.hasPrefix x RRU = false := by simpa using hpre
      have hB : B = x := by rw [hB]; unfold bareZ; rw [hpre]; rfl
      rw [hpre, ← hB]
      refine W_cond_false rfl ?_
      refine w_ ?_
      refine ⟨(), trivial, Imp_renG [0, 2, 3, 4, 5, 6, 7, 8, 9, 10, 11, 12] ?_ ?_ rfl rfl rfl⟩
      · exact s_
      · exact s_
  rintro _ _
  have hBl : B.length ≤ s.length := by omega
  clear hB hxe
  refine w_ ?_
  refine WL_call [] (textSplit_tri 59 B (by omega)) rfl rfl rfl (s_) (s_) rfl rfl rfl rfl ?_
  rintro _ _ _ ⟨cap2, tt2, hp1, hp2, rfl, rfl, rfl⟩
  have hmem2 := splitB_mem 59 B
  have hcnt := splitB_count 59 B
  generalize splitB 59 B = ps at *
  obtain ⟨O2, hO2⟩ : ∃ O : RZ × Nat, O = loopZ { RZ.zero with st := p } false ps := ⟨_, rfl⟩
  rw [← hO2]
  refine w_ ?_
  refine W_loop ?_
  refine LP_renG [0, 1, 2, 3, 4, 5, 6, 7, 8, 9, 10, 11, 12] (LP_ind 13 (fun q : Nat × RZ × LY × Bool => ([(2, .ptr 0 0), (5, .ptr 1 0), (11, .bool q.2.2.2), (76, .sl false 12 1 0 ps.length cap2), (77, .int .i64 ps.length), (78, .int .i64 q.1)], (0, .cells 25 (some 18) zcS) :: (1, .cells 25 (some 18) (cellsS q.2.1 q.2.2.1 2)) :: (12, .strs 9 (some tt2) ps) :: lstHp 95 q.2.1 2)) (fun q => ps.length - q.1)
    (fun q => q.1 ≤ ps.length ∧ LOK q.2.1 q.2.2.1 ∧ O2 = loopZ q.2.1 q.2.2.2 (ps.drop q.1)) (0, { RZ.zero with st := p }, LY.zero, false) ?_ ⟨Nat.zero_le _, LOK_zero _ rfl, hO2⟩) ?_ ?_ rfl rfl rfl
  rotate_left 1
  · exact s_
  · exact s_
  rintro ⟨j, z, y, fq⟩ ⟨i1, i2, i3⟩ ih
  simp only at i1 i2 i3
  clear hO2
  refine LP_round ?_; try dsimp only
  refine w_ ?_
  refine i_ ?_ ?_ <;> intro hj
  · have hj : j < ps.length := by omega
    rw [drop_getL hj, loopZ] at i3
    have hyl := (hmem2 _ (getD_mem hj)).1
    refine w_ ?_
    rw [show 0 + (j : Int).toNat = j by omega]
    have hm3 := splitB_mem 61 (ps.getD j [])
    have hne3 := splitB_ne 61 (ps.getD j [])
    refine WL_call [] (textSplit_tri 61 (ps.getD j []) (by omega)) rfl rfl rfl (s_) (s_) rfl rfl rfl rfl ?_
    rintro _ _ _ ⟨cap3, tt3, hq1, hq2, rfl, rfl, rfl⟩
    generalize splitB 61 (ps.getD j []) = kv at *
    match kv, hne3 with
    | [k, v], _ =>
      have hq1 : 2 ≤ cap3 := hq1
      have hvl := (hm3 v (by simp)).1
      dsimp only at i3
      refine w_ ?_
      refine i_ ?_ ?_ <;> intro hv
      · have hv : v = [] := hv
        rw [if_pos hv] at i3
        rw [i3]
        refine w_ ?_
        refine W_renG [0] (n := 1) (tm' := [(2, .ptr 0 0), (3, .int .u8 1)]) (hp' := [(0, .cells 25 (some 18) zcS)]) ?_ s_ s_ rfl rfl rfl
        refine r_ ?_ ?_
        · exact s_
        · exact .inr ⟨Nat.succ_ne_zero _, rfl, rfl, rfl⟩
      have hv : ¬ v = [] := hv
      rw [if_neg hv] at i3
      refine w_ ?_
      refine i_ ?_ ?_ <;> intro hk
      · have hk : k = FRQ := hk
        have hkd : (fq || decide (k = FRQ)) = true := by rw [hk]; simp
        rw [hkd] at i3
        refine w_ ?_
        refine W_draw [13] [] 8 mo0 (by kernel_rfl) (by kernel_rfl) (fun ρ1 hkl => ?_); refine d_ ?_
        refine WS_loud rfl ?_ hkl
        refine WL_call [1, 2, 3, 4, 5, 6, 7, 8, 9, 10, 11] (part_tri z y i2 k v (by omega)) rfl rfl rfl (s_) (s_) rfl rfl rfl rfl ?_
        rintro _ _ _ (⟨g0, y', g1, rfl, rfl, rfl⟩ | ⟨g0, rfl, rfl, rfl⟩)
        · rw [if_pos g0] at i3
          refine WL_nil ?_; refine nq_walk ⟨fun _ => t_, ?_⟩; refine d_ ?_
          refine w_ ?_
          refine W_cond_false rfl ?_
          refine w_ ?_
          exact LP_renG [0, 1, 14, 15, 16, 17, 18, 19, 20, 21, 22, 23, 12] (ih (j + 1, (partZ z k v).1, y', true) ⟨by omega, g1, i3⟩ (by simp only; omega)) s_ s_ rfl rfl rfl
        · rw [if_neg g0] at i3
          rw [i3]
          refine WL_nil ?_; refine nq_walk ⟨fun _ => t_, ?_⟩; refine d_ ?_
          refine w_ ?_
          refine W_if_ne rfl (fun _ => ?_) (fun h => absurd h (by omega))
          refine w_ ?_
          refine W_renG [0] (n := 1) (tm' := [(2, .ptr 0 0), (3, .int .u8 ((partZ z k v).2 : Nat))]) (hp' := [(0, .cells 25 (some 18) zcS)]) ?_ s_ s_ rfl rfl rfl
          refine r_ ?_ ?_
          · exact s_
          · exact .inr ⟨g0, rfl, rfl, rfl⟩
      · have hk : ¬ k = FRQ := hk
        have hkd : (fq || decide (k = FRQ)) = fq := by simp [hk]
        rw [hkd] at i3
        refine w_ ?_
        refine W_draw [13] [] 8 mo0 (by kernel_rfl) (by kernel_rfl) (fun ρ1 hkl => ?_); refine d_ ?_
        refine WS_loud rfl ?_ hkl
        refine WL_call [1, 2, 3, 4, 5, 6, 7, 8, 9, 10, 11] (part_tri z y i2 k v (by omega)) rfl rfl rfl (s_) (s_) rfl rfl rfl rfl ?_
        rintro _ _ _ (⟨g0, y', g1, rfl, rfl, rfl⟩ | ⟨g0, rfl, rfl, rfl⟩)
        · rw [if_pos g0] at i3
          refine WL_nil ?_; refine nq_walk ⟨fun _ => t_, ?_⟩; refine d_ ?_
          refine w_ ?_
          refine W_cond_false rfl ?_
          refine w_ ?_
          exact LP_renG [0, 1, 14, 15, 16, 17, 18, 19, 20, 21, 22, 23, 12] (ih (j + 1, (partZ z k v).1, y', fq) ⟨by omega, g1, i3⟩ (by simp only; omega)) s_ s_ rfl rfl rfl
        · rw [if_neg g0] at i3
          rw [i3]
          refine WL_nil ?_; refine nq_walk ⟨fun _ => t_, ?_⟩; refine d_ ?_
          refine w_ ?_
          refine W_if_ne rfl (fun _ => ?_) (fun h => absurd h (by omega))
          refine w_ ?_
          refine W_renG [0] (n := 1) (tm' := [(2, .ptr 0 0), (3, .int .u8 ((partZ z k v).2 : Nat))]) (hp' := [(0, .cells 25 (some 18) zcS)]) ?_ s_ s_ rfl rfl rfl
          refine r_ ?_ ?_
          · exact s_
          · exact .inr ⟨g0, rfl, rfl, rfl⟩
    | [k], _ =>
      have i3 : O2 = (RZ.zero, 1) := i3
      rw [i3]
      refine w_ ?_
      refine W_cond_true rfl ?_
      refine w_ ?_
      refine W_renG [0] (n := 1) (tm' := [(2, .ptr 0 0), (3, .int .u8 1)]) (hp' := [(0, .cells 25 (some 18) zcS)]) ?_ s_ s_ rfl rfl rfl
      refine r_ ?_ ?_
      · exact s_
      · exact .inr ⟨Nat.succ_ne_zero _, rfl, rfl, rfl⟩
    | a :: b :: c :: l, _ =>
      have e1 : ¬ ((a :: b :: c :: l).length : Int) = 2 := by simp; omega
      have i3 : O2 = (RZ.zero, 1) := i3
      rw [i3]
      refine w_ ?_
      refine W_cond_true rfl ?_
      refine w_ ?_
      refine W_renG [0] (n := 1) (tm' := [(2, .ptr 0 0), (3, .int .u8 1)]) (hp' := [(0, .cells 25 (some 18) zcS)]) ?_ s_ s_ rfl rfl rfl
      refine r_ ?_ ?_
      · exact s_
      · exact .inr ⟨Nat.succ_ne_zero _, rfl, rfl, rfl⟩
  · have hj : j = ps.length := by omega
    rw [hj, List.drop_length, loopZ] at i3
    cases fq
    · have i3 : O2 = (RZ.zero, 1) := i3
      rw [i3]
      refine w_ ?_
      refine x_ ?_
      refine w_ ?_
      refine W_cond_true rfl ?_
      refine w_ ?_
      refine W_renG [0] (n := 1) (tm' := [(2, .ptr 0 0), (3, .int .u8 1)]) (hp' := [(0, .cells 25 (some 18) zcS)]) ?_ s_ s_ rfl rfl rfl
      refine r_ ?_ ?_
      · exact s_
      · exact .inr ⟨Nat.succ_ne_zero _, rfl, rfl, rfl⟩
    · have i3 : O2 = (z, 0) := i3
      rw [i3]
      refine w_ ?_
      refine x_ ?_
      refine w_ ?_
      refine W_cond_false rfl ?_
      refine w_ ?_
      refine W_renG [2, 3, 4, 5, 6, 7, 8, 9, 10, 11, 0] (n := 11) (tm' := [(2, .ptr 10 0), (3, .int .u8 0)]) (hp' := (10, .cells 25 (some 18) (cellsS z y 0)) :: lstHp 95 z 0) ?_ s_ s_ rfl rfl rfl
      refine r_ ?_ ?_
      · exact s_
      · exact .inl ⟨rfl, y, i2, rfl, rfl, rfl⟩
end Go.Eng
namespace Go.Eng
open Go.Proofs
attribute [local irreducible] W WL LP Then InBl Tri
theorem drop_getD {xs : List Int} {i : Nat} (h : i < xs.length) : xs.drop i = xs.getD i 0 :: xs.drop (i + 1) := by
  rw [List.drop_eq_getElem_cons h]; simp [List.getD, h]
end Go.Eng
namespace Go.Eng
open Go.Proofs
attribute [local irreducible] W WL LP Then InBl Tri WS
def inOne (lo up : Int) (both : Bool) (n : Int) : Bool := !((decide (n < lo) || decide (n > up)) && !(both && (decide (n ≤ 0 - lo) && decide (n ≥ 0 - up))))
def withinZ (lo up : Int) (both : Bool) : List Int → Bool
  | [] => true
  | n :: l => inOne lo up both n && withinZ lo up both l
theorem within_false (lo up : Int) (hlo : -1000 ≤ lo ∧ lo ≤ 1000) (hup : -1000 ≤ up ∧ up ≤ 1000) (nl : Bool) (xs : List Int) (cap : Nat) (hl : xs.length ≤ cap) (hb : xs.length ≤ 1073741824) :
    Tri C0 82 1 [(0, isl xs)] [.sl nl 0 1 0 xs.length cap, .int .i64 lo, .int .i64 up, .bool false] (fun k hp r => k = 1 ∧ hp = [(0, isl xs)] ∧ r = .bool (withinZ lo up false xs)) := by
  refine Tri.keep (Tri.mk 42 [.tmp 8] Tryz.func82 rfl rfl rfl rfl cf82 ?_) t_ (fun r h => q_); intro w0 S T ρ0
  refine w_ ?_
  refine W_loop ?_; refine LP_ren [0] (LP_ind 1 (fun i : Nat => ([(1, .int .i64 lo), (2, .int .i64 up), (3, .bool false), (11, .sl nl 0 1 0 xs.length cap), (12, .int .i64 xs.length), (13, .int .i64 i)], [(0, isl xs)])) (fun i => xs.length - i) (fun i => i ≤ xs.length ∧ withinZ lo up false xs = withinZ lo up false (xs.drop i)) 0 ?_ (⟨Nat.zero_le _, rfl⟩)) s_ s_ rfl rfl rfl
  rintro i ⟨hi, hc⟩ ih
  refine LP_round ?_; try dsimp only
  refine w_ ?_
  refine i_ ?_ ?_ <;> intro h
  · have h : i < xs.length := by omega
    rw [drop_getD h, withinZ] at hc
    refine w_ ?_
    rw [show 0 + (i : Int).toNat = i by omega]
    obtain ⟨n, hn⟩ : ∃ n, n = xs.getD i 0 := ⟨_, rfl⟩
    rw [← hn] at hc ⊢
    refine j_ 20 ?_ ?_ <;> intro h1
    · have hout : (inOne lo up false n && withinZ lo up false (xs.drop (i + 1))) = false := by simp [inOne, h1]
      rw [hout] at hc
      rw [hc]
      refine w_ ?_
      refine W_cond_true rfl ?_
      refine w_ ?_
      refine k_ ?_
      rfl
    refine w_ ?_
    refine j_ 25 ?_ ?_ <;> intro h2
    · have hout : (inOne lo up false n && withinZ lo up false (xs.drop (i + 1))) = false := by
        have h2 : up < n := h2
        simp [inOne, h2]
      rw [hout] at hc
      rw [hc]
      refine w_ ?_
      refine W_cond_true rfl ?_
      refine w_ ?_
      refine k_ ?_
      rfl
    have hin : (inOne lo up false n && withinZ lo up false (xs.drop (i + 1))) = withinZ lo up false (xs.drop (i + 1)) := by
      have h2 : ¬ up < n := h2
      simp [inOne, h1, h2]
    refine w_ ?_
    refine W_cond_false rfl ?_
    rw [hin] at hc
    refine w_ ?_
    refine LP_ren [0] (ih (i + 1) (⟨by omega, hc⟩) (by omega)) s_ s_ rfl rfl rfl
  · have h : i = xs.length := by omega
    rw [h, List.drop_length, withinZ] at hc
    rw [hc]
    refine w_ ?_
    refine x_ ?_
    refine w_ ?_
    refine k_ ?_
    rfl
theorem within_true (lo up : Int) (hlo : -1000 ≤ lo ∧ lo ≤ 1000) (hup : -1000 ≤ up ∧ up ≤ 1000) (nl : Bool) (xs : List Int) (cap : Nat) (hl : xs.length ≤ cap) (hb : xs.length ≤ 1073741824) :
    Tri C0 82 1 [(0, isl xs)] [.sl nl 0 1 0 xs.length cap, .int .i64 lo, .int .i64 up, .bool true] (fun k hp r => k = 1 ∧ hp = [(0, isl xs)] ∧ r = .bool (withinZ lo up true xs)) := by
  refine Tri.keep (Tri.mk 42 [.tmp 8] Tryz.func82 rfl rfl rfl rfl cf82 ?_) t_ (fun r h => q_); intro w0 S T ρ0
  refine w_ ?_
  refine W_loop ?_; refine LP_ren [0] (LP_ind 1 (fun i : Nat => ([(1, .int .i64 lo), (2, .int .i64 up), (3, .bool true), (11, .sl nl 0 1 0 xs.length cap), (12, .int .i64 xs.length), (13, .int .i64 i)], [(0, isl xs)])) (fun i => xs.length - i) (fun i => i ≤ xs.length ∧ withinZ lo up true xs = withinZ lo up true (xs.drop i)) 0 ?_ (⟨Nat.zero_le _, rfl⟩)) s_ s_ rfl rfl rfl
  rintro i ⟨hi, hc⟩ ih
  refine LP_round ?_; try dsimp only
  refine w_ ?_
  refine i_ ?_ ?_ <;> intro h
  · have h : i < xs.length := by omega
    rw [drop_getD h, withinZ] at hc
    refine w_ ?_
    rw [show 0 + (i : Int).toNat = i by omega]
    obtain ⟨n, hn⟩ : ∃ n, n = xs.getD i 0 := ⟨_, rfl⟩
    rw [← hn] at hc ⊢
    refine j_ 20 ?_ ?_ <;> intro h1
    · refine w_ ?_
      have hor : (decide (n < lo) || decide (n > up)) = true := by simp; omega
      refine j_ 33 ?_ ?_ <;> intro h3
      · refine w_ ?_
        refine W_cond rfl (fun h4 => ?_) (fun h4 => ?_)
        · have h4 : ¬ n ≥ 0 - up := by simpa using h4
          have hout : (inOne lo up true n && withinZ lo up true (xs.drop (i + 1))) = false := by
            unfold inOne; rw [hor, decide_eq_true h3, decide_eq_false h4]; rfl
          rw [hout] at hc
          rw [hc]
          refine w_ ?_
          refine k_ ?_
          rfl
        · have h4 : n ≥ 0 - up := by simpa using h4
          have hin : (inOne lo up true n && withinZ lo up true (xs.drop (i + 1))) = withinZ lo up true (xs.drop (i + 1)) := by
            unfold inOne; rw [hor, decide_eq_true h3, decide_eq_true h4]; rfl
          rw [hin] at hc
          refine w_ ?_
          refine LP_ren [0] (ih (i + 1) (⟨by omega, hc⟩) (by omega)) s_ s_ rfl rfl rfl
      · have hout : (inOne lo up true n && withinZ lo up true (xs.drop (i + 1))) = false := by
          unfold inOne; rw [hor, decide_eq_false h3]; rfl
        rw [hout] at hc
        rw [hc]
        refine w_ ?_
        refine W_cond_true rfl ?_
        refine w_ ?_
        refine k_ ?_
        rfl
    refine w_ ?_
    refine j_ 25 ?_ ?_ <;> intro h2
    · refine w_ ?_
      have hor : (decide (n < lo) || decide (n > up)) = true := by simp; omega
      refine j_ 33 ?_ ?_ <;> intro h3
      · refine w_ ?_
        refine W_cond rfl (fun h4 => ?_) (fun h4 => ?_)
        · have h4 : ¬ n ≥ 0 - up := by simpa using h4
          have hout : (inOne lo up true n && withinZ lo up true (xs.drop (i + 1))) = false := by
            unfold inOne; rw [hor, decide_eq_true h3, decide_eq_false h4]; rfl
          rw [hout] at hc
          rw [hc]
          refine w_ ?_
          refine k_ ?_
          rfl
        · have h4 : n ≥ 0 - up := by simpa using h4
          have hin : (inOne lo up true n && withinZ lo up true (xs.drop (i + 1))) = withinZ lo up true (xs.drop (i + 1)) := by
            unfold inOne; rw [hor, decide_eq_true h3, decide_eq_true h4]; rfl
          rw [hin] at hc
          refine w_ ?_
          refine LP_ren [0] (ih (i + 1) (⟨by omega, hc⟩) (by omega)) s_ s_ rfl rfl rfl
      · have hout : (inOne lo up true n && withinZ lo up true (xs.drop (i + 1))) = false := by
          unfold inOne; rw [hor, decide_eq_false h3]; rfl
        rw [hout] at hc
        rw [hc]
        refine w_ ?_
        refine W_cond_true rfl ?_
        refine w_ ?_
        refine k_ ?_
        rfl
    have hin : (inOne lo up true n && withinZ lo up true (xs.drop (i + 1))) = withinZ lo up true (xs.drop (i + 1)) := by
      have h2 : ¬ up < n := h2
      simp [inOne, h1, h2]
    refine w_ ?_
    refine W_cond_false rfl ?_
    rw [hin] at hc
    refine w_ ?_
    refine LP_ren [0] (ih (i + 1) (⟨by omega, hc⟩) (by omega)) s_ s_ rfl rfl rfl
  · have h : i = xs.length := by omega
    rw [h, List.drop_length, withinZ] at hc
    rw [hc]
    refine w_ ?_
    refine x_ ?_
    refine w_ ?_
    refine k_ ?_
    rfl
end Go.Eng
namespace Go.Eng
open Go.Proofs
attribute [local irreducible] W WL LP Then InBl Tri WS
def daysOK : List (Int × Int) → Bool
  | [] => true
  | p :: l => !(decide (p.2 < -53) || decide (p.2 > 53)) && daysOK l
theorem prs2_get {l : List (Int × Int)} {i : Nat} (h : i < l.length) : (prs2 l).getD i [] = [(l.getD i (0, 0)).1, (l.getD i (0, 0)).2] := by
  simp [List.getD, h]
theorem drop_getP {l : List (Int × Int)} {i : Nat} (h : i < l.length) : l.drop i = l.getD i (0, 0) :: l.drop (i + 1) := by
  rw [List.drop_eq_getElem_cons h]; simp [List.getD, h]
def rightZ (z : RZ) : Bool := daysOK z.dd && (decide (z.iv ≥ 0) && withinZ 0 59 false z.l7 && withinZ 0 59 false z.l6 && withinZ 0 23 false z.l5 && withinZ 1 12 false z.l1 && withinZ 1 31 true z.l2 && withinZ 1 366 true z.l3 && withinZ 1 53 true z.l4 && withinZ 1 366 true z.l0)
def LEN (z : RZ) : Prop := z.l0.length ≤ 1073741824 ∧ z.l1.length ≤ 1073741824 ∧ z.l2.length ≤ 1073741824 ∧ z.l3.length ≤ 1073741824 ∧ z.l4.length ≤ 1073741824 ∧ z.l5.length ≤ 1073741824 ∧ z.l6.length ≤ 1073741824 ∧ z.l7.length ≤ 1073741824 ∧ z.l8.length ≤ 1073741824 ∧ z.dd.length ≤ 1073741824
theorem ruleRight_tri (z : RZ) (y : LY) (hy : LOK z y) (hL : LEN z) : Tri C0 37 10 (lstHp 95 z 0) [.agg (cellsS z y 0)] (fun k hp r => k = 10 ∧ hp = lstHp 95 z 0 ∧ r = .bool (rightZ z)) := by
  obtain ⟨y0, y1, y2, y3, y4, y5, y6, y7, y8, yd⟩ := hy
  obtain ⟨b0, b1, b2, b3, b4, b5, b6, b7, b8, bd⟩ := hL
  refine Tri.keep (Tri.mk 64 [.tmp 2] Tryz.func37 rfl rfl rfl rfl cf37 ?_) t_ (fun r h => q_); intro w0 S T ρ0
  refine w_ ?_
  refine W_loop ?_; refine LP_ren [0, 1, 2, 3, 4, 5, 6, 7, 8, 9, 10] (LP_ind 11 (fun i : Nat => ([(1, .ptr 10 0), (6, .sl y.yd.1 9 2 0 z.dd.length y.yd.2), (7, .int .i64 z.dd.length), (8, .int .i64 i)], (10, .cells 25 (some 18) (cellsS z y 0)) :: lstHp 95 z 0)) (fun i => z.dd.length - i) (fun i => i ≤ z.dd.length ∧ daysOK z.dd = daysOK (z.dd.drop i)) 0 ?_ (⟨Nat.zero_le _, rfl⟩)) s_ s_ rfl rfl rfl
  rintro i ⟨hi, hc⟩ ih
  refine LP_round ?_; try dsimp only
  refine w_ ?_
  refine i_ ?_ ?_ <;> intro h
  · have h : i < z.dd.length := by omega
    have hml : (prs2 z.dd).length = z.dd.length := by simp
    rw [drop_getP h, daysOK] at hc
    refine w_ ?_
    rw [show 0 + (i : Int).toNat = i by omega]
    refine w_ ?_
    rw [prs2_get h]
    refine w_ ?_
    refine j_ 15 ?_ ?_ <;> intro h1
    · have h1 : (z.dd.getD i (0, 0)).2 < -53 := h1
      have hr : rightZ z = false := by unfold rightZ; rw [hc, decide_eq_true h1]; rfl
      rw [hr]
      refine w_ ?_
      refine W_cond_true rfl ?_
      refine w_ ?_
      refine k_ ?_
      rfl
    have h1 : ¬ (z.dd.getD i (0, 0)).2 < -53 := h1
    refine w_ ?_
    refine i_ ?_ ?_ <;> intro h2
    · have h2 : (z.dd.getD i (0, 0)).2 > 53 := h2
      have hr : rightZ z = false := by unfold rightZ; rw [hc, decide_eq_false h1, decide_eq_true h2]; rfl
      rw [hr]
      refine w_ ?_
      refine k_ ?_
      rfl
    have h2 : ¬ (z.dd.getD i (0, 0)).2 > 53 := h2
    rw [decide_eq_false h1, decide_eq_false h2] at hc
    have hc : daysOK z.dd = daysOK (z.dd.drop (i + 1)) := hc
    refine w_ ?_
    refine LP_ren [0, 1, 2, 3, 4, 5, 6, 7, 8, 9, 10] (ih (i + 1) (⟨by omega, hc⟩) (by omega)) s_ s_ rfl rfl rfl
  · have h : i = z.dd.length := by omega
    rw [h, List.drop_length] at hc
    have hc : daysOK z.dd = true := hc
    refine w_ ?_
    refine x_ ?_
    refine w_ ?_
    refine j_ 24 ?_ ?_ <;> intro h0
    rotate_left 1
    · have hr : rightZ z = false := by unfold rightZ; rw [hc, decide_eq_false h0]; simp
      rw [hr]
      refine w_ ?_
      refine k_ ?_
      rfl
    refine w_ ?_
    refine WL_call [7] (within_false 0 59 (by omega) (by omega) y.y7.1 z.l7 y.y7.2 y7 b7) rfl rfl rfl t_ t_ rfl rfl rfl rfl ?_; rintro _ _ _ ⟨rfl, rfl, rfl⟩
    refine w_ ?_
    cases w0 : withinZ 0 59 false z.l7 with
    | false =>
      have hr : rightZ z = false := by unfold rightZ; rw [hc, decide_eq_true h0, w0]; simp
      rw [hr]
      refine w_ ?_
      refine k_ ?_
      rfl
    | true =>
    refine w_ ?_
    refine WL_call [6] (within_false 0 59 (by omega) (by omega) y.y6.1 z.l6 y.y6.2 y6 b6) rfl rfl rfl t_ t_ rfl rfl rfl rfl ?_; rintro _ _ _ ⟨rfl, rfl, rfl⟩
    refine w_ ?_
    cases w1 : withinZ 0 59 false z.l6 with
    | false =>
      have hr : rightZ z = false := by unfold rightZ; rw [hc, decide_eq_true h0, w0, w1]; simp
      rw [hr]
      refine w_ ?_
      refine k_ ?_
      rfl
    | true =>
    refine w_ ?_
    refine WL_call [5] (within_false 0 23 (by omega) (by omega) y.y5.1 z.l5 y.y5.2 y5 b5) rfl rfl rfl t_ t_ rfl rfl rfl rfl ?_; rintro _ _ _ ⟨rfl, rfl, rfl⟩
    refine w_ ?_
    cases w2 : withinZ 0 23 false z.l5 with
    | false =>
      have hr : rightZ z = false := by unfold rightZ; rw [hc, decide_eq_true h0, w0, w1, w2]; simp
      rw [hr]
      refine w_ ?_
      refine k_ ?_
      rfl
    | true =>
    refine w_ ?_
    refine WL_call [1] (within_false 1 12 (by omega) (by omega) y.y1.1 z.l1 y.y1.2 y1 b1) rfl rfl rfl t_ t_ rfl rfl rfl rfl ?_; rintro _ _ _ ⟨rfl, rfl, rfl⟩
    refine w_ ?_
    cases w3 : withinZ 1 12 false z.l1 with
    | false =>
      have hr : rightZ z = false := by unfold rightZ; rw [hc, decide_eq_true h0, w0, w1, w2, w3]; simp
      rw [hr]
      refine w_ ?_
      refine k_ ?_
      rfl
    | true =>
    refine w_ ?_
    refine WL_call [2] (within_true 1 31 (by omega) (by omega) y.y2.1 z.l2 y.y2.2 y2 b2) rfl rfl rfl t_ t_ rfl rfl rfl rfl ?_; rintro _ _ _ ⟨rfl, rfl, rfl⟩
    refine w_ ?_
    cases w4 : withinZ 1 31 true z.l2 with
    | false =>
      have hr : rightZ z = false := by unfold rightZ; rw [hc, decide_eq_true h0, w0, w1, w2, w3, w4]; simp
      rw [hr]
      refine w_ ?_
      refine k_ ?_
      rfl
    | true =>
    refine w_ ?_
    refine WL_call [3] (within_true 1 366 (by omega) (by omega) y.y3.1 z.l3 y.y3.2 y3 b3) rfl rfl rfl t_ t_ rfl rfl rfl rfl ?_; rintro _ _ _ ⟨rfl, rfl, rfl⟩
    refine w_ ?_
    cases w5 : withinZ 1 366 true z.l3 with
    | false =>
      have hr : rightZ z = false := by unfold rightZ; rw [hc, decide_eq_true h0, w0, w1, w2, w3, w4, w5]; simp
      rw [hr]
      refine w_ ?_
      refine k_ ?_
      rfl
    | true =>
    refine w_ ?_
    refine WL_call [4] (within_true 1 53 (by omega) (by omega) y.y4.1 z.l4 y.y4.2 y4 b4) rfl rfl rfl t_ t_ rfl rfl rfl rfl ?_; rintro _ _ _ ⟨rfl, rfl, rfl⟩
    refine w_ ?_
    cases w6 : withinZ 1 53 true z.l4 with
    | false =>
      have hr : rightZ z = false := by unfold rightZ; rw [hc, decide_eq_true h0, w0, w1, w2, w3, w4, w5, w6]; simp
      rw [hr]
      refine w_ ?_
      refine k_ ?_
      rfl
    | true =>
    refine w_ ?_
    refine WL_call [0] (within_true 1 366 (by omega) (by omega) y.y0.1 z.l0 y.y0.2 y0 b0) rfl rfl rfl t_ t_ rfl rfl rfl rfl ?_; rintro _ _ _ ⟨rfl, rfl, rfl⟩
    refine w_ ?_
    cases w7 : withinZ 1 366 true z.l0 with
    | false =>
      have hr : rightZ z = false := by unfold rightZ; rw [hc, decide_eq_true h0, w0, w1, w2, w3, w4, w5, w6, w7]; simp
      rw [hr]
      refine w_ ?_
      refine k_ ?_
      rfl
    | true =>
    have hr : rightZ z = true := by unfold rightZ; rw [hc, decide_eq_true h0, w0, w1, w2, w3, w4, w5, w6, w7]; rfl
    rw [hr]
    refine w_ ?_
    refine k_ ?_
    rfl
structure SZ where
  start : Int
  has : Bool
  z : RZ
  rd : List Int
  ex : List Int
structure SY where
  y : LY
  yr : Bool × Nat
  ye : Bool × Nat
def SZ.zero : SZ := ⟨0, false, RZ.zero, [], []⟩
def cellsT (s : SZ) (y : SY) (b : Nat) : List AV := .int .i64 s.start :: .bool s.has :: (cellsS s.z y.y b ++ [slI y.yr (b + 10) 1 s.rd.length, slI y.ye (b + 11) 1 s.ex.length])
def startOf (s : SZ) : Int := if s.has = true ∧ s.z.st ≠ 0 then s.z.st else s.start
theorem setStart_tri (s : SZ) (y : SY) : Tri C0 17 12 [] [.agg (cellsT s y 0)] (fun k hp r => k = 12 ∧ hp = [] ∧ r = .int .i64 (startOf s)) := by
  unfold startOf
  refine Tri.keep (Tri.mk 21 [.tmp 2] Tryz.func17 rfl rfl rfl rfl cf17 ?_) t_ (fun r h => q_); intro w0 S T ρ0
  refine w_ ?_
  cases hh : s.has with
  | false =>
    rw [if_neg (fun e => absurd e.1 (by decide))]
    refine w_ ?_
    refine W_cond_false rfl ?_
    refine w_ ?_
    refine k_ ?_
    rfl
  | true =>
  refine w_ ?_
  refine j_ 10 ?_ ?_ <;> intro h
  · have h : s.z.st ≠ 0 := h
    rw [if_pos ⟨rfl, h⟩]
    refine w_ ?_
    refine W_if_ne rfl (fun _ => ?_) (fun e => absurd e h)
    refine w_ ?_
    refine k_ ?_
    rfl
  · have h : s.z.st = 0 := h
    rw [if_neg (fun e => e.2 h)]
    refine w_ ?_
    refine W_cond_false rfl ?_
    refine w_ ?_
    refine k_ ?_
    rfl
end Go.Eng
