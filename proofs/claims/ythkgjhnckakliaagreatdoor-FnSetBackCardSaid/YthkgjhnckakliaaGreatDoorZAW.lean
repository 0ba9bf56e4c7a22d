/- A part of the proof that the rows statement FnSetBack holds; no conditions. -/
import Derived.Test.YthkgjhnckakliaaGreatDoorZAV
import Derived.Lib.ItoaLen
set_option linter.unusedVariables false
set_option linter.unusedSimpArgs false
set_option linter.unusedSectionVars false
namespace Go.Eng
open Go.Proofs Go.Proofs.YthkgjhnckakliaaGreatDoor
open Go.ChangeShapes Go.WideShapes Go.ChangeAt Go.RowKit
def svV (y : Bool × Nat) (β : Nat × Nat) (n len : Nat) : Value := .slice (bif y.1 && Nat.beq y.2 0 then none else some ⟨β.1, β.2 + 0 * n, none⟩) len y.2
theorem cell_slice {P : Program} {W : World} {base : Nat} {t e : TypeId} {v : Value} (ht : P.underlying t = some (.slice e)) (h : Cell.okWide P W .any base t v) :
 v = .slice none 0 0 ∨ ∃ a len cap c el fz, v = .slice (some a) len cap ∧ len ≤ cap ∧ a.spot = none ∧ W.heap[a.block]? = some (.cells c el fz) := by
 simp only [Cell.okWide, ht, Cell.ok] at h
 split at h <;> rename_i heq <;> first
  | (cases heq; done)
  | (exact .inl rfl)
  | (cases heq
     obtain ⟨h1, _, h2⟩ := h
     obtain ⟨_, h3, row, cells, h4, _⟩ := h2
     unfold World.shape? at h4
     split at h4
     · rename_i c el fz hh
       exact .inr ⟨_, _, _, c, el, fz, rfl, h1, h3, hh⟩
     · cases h4)
  | (cases h; done)
theorem lies {W : World} {β : Nat × Nat} {c : Array Value} {el : TypeId} {fz : Nat × Nat} (hh : W.heap[β.1]? = some (.cells c el fz)) (vs : List Value)
 (hc : ∀ i v, vs[i]? = some v → c[β.2 + i]? = some v) (hne : vs ≠ []) : ∃ pre rest fz' e, W.heap[β.1]? = some (.cells (pre ++ (vs ++ rest)).toArray e fz') ∧ pre.length = β.2 := by
 have hpos : 0 < vs.length := List.length_pos_iff.2 hne
 have hsz : β.2 + vs.length ≤ c.toList.length := by
  have h1 := hc (vs.length - 1) (vs[vs.length - 1]'(by omega)) (List.getElem?_eq_getElem _)
  have := (Array.getElem?_eq_some_iff.1 h1).1
  simp only [Array.length_toList]; omega
 have hmid : vs = (c.toList.drop β.2).take vs.length := by
  apply List.ext_getElem?
  intro i
  by_cases hi : i < vs.length
  · rw [List.getElem?_take_of_lt hi, List.getElem?_drop, List.getElem?_eq_getElem hi]
    have := hc i _ (List.getElem?_eq_getElem hi)
    rw [← this]; simp
  · rw [List.getElem?_eq_none (by omega), List.getElem?_eq_none (by simp; omega)]
 refine ⟨c.toList.take β.2, c.toList.drop (β.2 + vs.length), fz, el, ?_, by rw [List.length_take]; omega⟩
 rw [hh]
 congr 2
 apply Array.ext'
 rw [List.toList_toArray]
 conv => rhs; rw [hmid]
 rw [List.length_take, List.length_drop, Nat.min_eq_left (by omega), ← List.drop_drop, List.take_append_drop, List.take_append_drop]
structure OK1 (W : World) (v : Value) (n : Nat) (y : Bool × Nat) (β : Nat × Nat) (len : Nat) (o : AO) : Prop where
 v : v = svV y β n len
 c : len ≤ y.2
 b : β.1 < W.heap.size
 i : ∀ ρ, o.is ρ β.2 W.heap[β.1]?
def I64r (x : Int) : Prop := -9223372036854775808 ≤ x ∧ x ≤ 9223372036854775807
set_option maxRecDepth 100000 in
theorem int_slice {H : Type} {enc : TypeId × Value → H} {W : World} (hW : 0 < W.heap.size) {base n : Nat} {t e : TypeId} {v : Value} {x : DataW H × List MemPlace} (ht : Tryz.prog.underlying t = some (.slice e)) (he : Tryz.prog.underlying e = some (.int .i64)) (hce : Tryz.prog.cellsOf e = 1)
 (hok : Cell.okWide Tryz.prog W .any base t v) (h : DataW.trod enc Tryz.prog W 0 (fun _ => true) true n t [v] = some x) (el : TypeId) :
 ∃ (y : Bool × Nat) (β : Nat × Nat) (xs : List Int), OK1 W v 1 y β xs.length (.ints el none .i64 xs) ∧ ∀ x ∈ xs, I64r x := by
 rcases open_ints ht he hce h with ⟨e1, _⟩ | ⟨a, len, cap, zs, e1, _, hlc, _, hzl, _, hcell, hwf⟩
 · obtain rfl : v = .slice none 0 0 := (List.cons.inj e1).1
   exact ⟨(true, 0), (0, 0), [], ⟨rfl, Nat.le_refl _, hW, fun ρ => .inl ⟨rfl, rfl⟩⟩, fun x hx => by cases hx⟩
 · obtain rfl : v = .slice (some a) len cap := (List.cons.inj e1).1
   rcases cell_slice ht hok with h0 | ⟨a', len', cap', c, el', fz, e2, _, ha, hh⟩
   · cases h0
   obtain ⟨rfl, rfl, rfl⟩ : a = a' ∧ len = len' ∧ cap = cap' := by
    simp only [Value.slice.injEq, Option.some.injEq] at e2; exact e2
   obtain ⟨b, off, sp⟩ := a
   simp only at ha hh
   subst ha
   simp only [if_true] at hzl
   have hxl : (zs.take len).length = len := by rw [List.length_take]; omega
   refine ⟨(false, cap), (b, off), zs.take len, ⟨?_, by rw [hxl]; exact hlc, (Array.getElem?_eq_some_iff.1 hh).1, fun ρ => ?_⟩, fun x hx => ?_⟩
   · rw [hxl]; simp [svV]
   · by_cases hl : zs.take len = []
     · rw [hl]; exact .inl ⟨rfl, rfl⟩
     · obtain ⟨pre, rest, fz', e', h1, h2⟩ := lies (β := (b, off)) hh ((zs.take len).map (Value.int .i64)) (by
        intro i v hv
        rw [List.getElem?_map] at hv
        obtain ⟨z, hz, rfl⟩ := map_some' hv
        have hi : i < len := by
         rcases Nat.lt_or_ge i len with h | h
         · exact h
         · rw [List.getElem?_eq_none (by omega)] at hz; cases hz
        have h3 := hcell i (by omega)
        rw [add_none rfl, cell?_cells hh] at h3
        rw [List.getElem?_take_of_lt hi] at hz
        rw [h3]
        simp [List.getD, hz]) (by simpa using hl)
       refine .inr ⟨pre, rest, fz', e', ?_, h2, fun k hk => by cases hk⟩
       rw [h1]
       simp only [AO.avs, denL_eq_map, List.map_map]
       rfl
   · have := hwf x (List.mem_of_mem_take hx)
     exact bounds_i64 this
theorem i64_cell {H : Type} {enc : TypeId × Value → H} {W : World} {sp : Nat → Bool} {hd : Bool} {n : Nat} {t : TypeId} {k : IntKind} {v : Value} {x : DataW H × List MemPlace} (ht : Tryz.prog.underlying t = some (.int k)) (h : DataW.trod enc Tryz.prog W 0 sp hd n t [v] = some x) : ∃ z, v = .int k z ∧ (Lit.int k z).wf = true := by
 obtain ⟨z, e, _, hw⟩ := DataW.trod_int ht h
 exact ⟨z, (List.cons.inj e).1, hw⟩
theorem bool_cell {H : Type} {enc : TypeId × Value → H} {W : World} {sp : Nat → Bool} {hd : Bool} {n : Nat} {v : Value} {x : DataW H × List MemPlace} (h : DataW.trod enc Tryz.prog W 0 sp hd n 4 [v] = some x) : ∃ b, v = .bool b := by
 obtain ⟨z, e, _⟩ := DataW.trod_bool Tryz.underlying4 h
 exact ⟨z, (List.cons.inj e).1⟩
set_option maxRecDepth 100000 in
theorem day_elem {H : Type} {enc : TypeId × Value → H} {W : World} {sp : Nat → Bool} {hd : Bool} {n : Nat} {cs : List Value} {x : DataW H × List MemPlace} (h : DataW.trod enc Tryz.prog W 0 sp hd n 95 cs = some x) : ∃ p : Int × Int, cs = [.int .i64 p.1, .int .i64 p.2] ∧ I64r p.1 ∧ I64r p.2 := by
 obtain ⟨y0, y1, m, _, hl, e0, e1⟩ := trod_struct2 Tryz.underlying95 h
 have k3 : Tryz.prog.cellsOf 3 = 1 := by kernel_rfl
 rw [show Tryz.prog.cellsOf 95 = 2 by kernel_rfl] at hl
 match cs, hl with
 | [u, v], _ =>
   simp only [k3] at e0 e1
   obtain ⟨a, rfl, ha⟩ := i64_cell (v := u) Tryz.underlying3 e0
   obtain ⟨b, rfl, hb⟩ := i64_cell (v := v) Tryz.underlying3 e1
   exact ⟨(a, b), rfl, bounds_i64 ha, bounds_i64 hb⟩
theorem flat2_len (q : Nat → Int × Int) : ∀ k, ((List.range k).flatMap fun i => [Value.int .i64 (q i).1, Value.int .i64 (q i).2]).length = k * 2
 | 0 => rfl
 | k + 1 => by rw [List.range_succ, List.flatMap_append, List.length_append, flat2_len q k]; simp; omega
set_option maxRecDepth 100000 in
theorem day_slice {H : Type} {enc : TypeId × Value → H} {W : World} (hW : 0 < W.heap.size) {base n : Nat} {v : Value} {x : DataW H × List MemPlace}
 (hok : Cell.okWide Tryz.prog W .any base 23 v) (h : DataW.trod enc Tryz.prog W 0 (fun _ => true) true n 23 [v] = some x) :
 ∃ (y : Bool × Nat) (β : Nat × Nat) (l : List (Int × Int)), OK1 W v 2 y β l.length (.recs 95 none K2 (prs2 l)) ∧ ∀ p ∈ l, I64r p.1 ∧ I64r p.2 := by
 rcases Deep.open_slice Tryz.underlying23 h with ⟨e1, _⟩ | ⟨a, len, cap, m, n', D, Pl, e1, _, hlc, _, hm, _, hx⟩
 · obtain rfl : v = .slice none 0 0 := (List.cons.inj e1).1
   exact ⟨(true, 0), (0, 0), [], ⟨rfl, Nat.le_refl _, hW, fun ρ => .inl ⟨rfl, rfl⟩⟩, fun x hx => by cases hx⟩
 · obtain rfl : v = .slice (some a) len cap := (List.cons.inj e1).1
   rcases cell_slice Tryz.underlying23 hok with h0 | ⟨a', len', cap', c, el', fz, e2, _, ha, hh⟩
   · cases h0
   obtain ⟨rfl, rfl, rfl⟩ : a = a' ∧ len = len' ∧ cap = cap' := by
    simp only [Value.slice.injEq, Option.some.injEq] at e2; exact e2
   obtain ⟨b, off, sp⟩ := a
   simp only at ha hh
   subst ha
   simp only [if_true] at hm
   subst hm
   rw [show Tryz.prog.cellsOf 95 = 2 by kernel_rfl] at hx
   obtain ⟨p, hp⟩ := Deep.choose_lt (α := Int × Int) (p := fun i p => (W.cell? ⟨b, off + i * 2, none⟩ = some (.int .i64 p.1) ∧ W.cell? ⟨b, off + (i * 2 + 1), none⟩ = some (.int .i64 p.2)) ∧ I64r p.1 ∧ I64r p.2) (n := m) (fun i hi => by
    obtain ⟨cs', h1, h2⟩ := hx i hi
    obtain ⟨_, hl, hc⟩ := World.cells?_some h1
    obtain ⟨p, rfl, i1, i2⟩ := day_elem h2
    have c0 := hc 0 (by omega)
    have c1 := hc 1 (by omega)
    rw [add_none (by rw [add_none rfl]), add_none rfl] at c0 c1
    refine ⟨p, ⟨?_, ?_⟩, i1, i2⟩
    · simpa using c0
    · rw [← Nat.add_assoc]; simpa using c1)
   refine ⟨(false, m), (b, off), (List.range len).map p, ⟨by simp [svV], by simpa using hlc, (Array.getElem?_eq_some_iff.1 hh).1, fun ρ => ?_⟩, fun q hq => ?_⟩
   · by_cases hl : len = 0
     · subst hl; exact .inl ⟨rfl, rfl⟩
     · have hget : ∀ (k : Nat) (q : Nat → Int × Int) (i : Nat) (v : Value), ((List.range k).flatMap fun i => [Value.int .i64 (q i).1, Value.int .i64 (q i).2])[i]? = some v → i / 2 < k ∧ v = if i % 2 = 0 then .int .i64 (q (i / 2)).1 else .int .i64 (q (i / 2)).2 := by
        intro k
        induction k with
        | zero => intro q i v h; simp at h
        | succ k ih =>
          intro q i v h
          rw [List.range_succ, List.flatMap_append] at h
          have hlen := flat2_len q k
          by_cases hi : i < k * 2
          · rw [List.getElem?_append_left (by rw [hlen]; exact hi)] at h
            obtain ⟨g1, g2⟩ := ih q i v h
            exact ⟨by omega, g2⟩
          · rw [List.getElem?_append_right (by rw [hlen]; omega), hlen] at h
            simp only [List.flatMap_cons, List.flatMap_nil, List.append_nil] at h
            have h2 : i = k * 2 ∨ i = k * 2 + 1 := by
             have := (List.getElem?_eq_some_iff.1 h).1
             simp only [List.length_cons, List.length_nil] at this; omega
            rcases h2 with rfl | rfl
            · rw [Nat.sub_self] at h
              refine ⟨by omega, ?_⟩
              rw [if_pos (by omega), show k * 2 / 2 = k by omega]; simpa using h.symm
            · rw [show k * 2 + 1 - k * 2 = 1 by omega] at h
              refine ⟨by omega, ?_⟩
              rw [if_neg (by omega), show (k * 2 + 1) / 2 = k by omega]; simpa using h.symm
       obtain ⟨pre, rest, fz', e', h1, h2⟩ := lies (β := (b, off)) hh ((List.range len).flatMap fun i => [Value.int .i64 (p i).1, Value.int .i64 (p i).2]) (by
        intro i v hv
        obtain ⟨g1, g2⟩ := hget len p i v hv
        obtain ⟨⟨q1, q2⟩, _⟩ := hp (i / 2) (by omega)
        rw [cell?_cells hh] at q1 q2
        rcases Nat.mod_two_eq_zero_or_one i with h0 | h0
        · rw [if_pos h0] at g2
          rw [g2, ← q1]; congr 2; omega
        · rw [if_neg (by omega)] at g2
          rw [g2, ← q2]; congr 2; omega) (by
           intro h0
           have := congrArg List.length h0
           rw [flat2_len] at this; simp at this; omega)
       refine .inr ⟨pre, rest, fz', e', ?_, h2, fun k hk => by cases hk⟩
       rw [h1]
       congr 5
       simp only [AO.avs, denL_eq_map, List.map_flatMap, List.flatMap_map]
       rfl
   · obtain ⟨i, hi, rfl⟩ := List.mem_map.1 hq
     exact (hp i (by have := List.mem_range.1 hi; omega)).2
end Go.Eng
namespace Go.Eng
theorem qs_ {a b : Int} (hb : 0 < b) (ha : -9223372036854775808 ≤ a ∧ a ≤ 9223372036854775807) : b ≠ 0 ∧ rng .i64 (a.tdiv b) := by
 refine ⟨by omega, ?_⟩
 by_cases h : b = 1
 · subst h; rw [Int.tdiv_one]; exact ha
 · have h1 : (a.tdiv b).natAbs = a.natAbs / b.natAbs := Int.natAbs_tdiv a b
   have h2 : a.natAbs / b.natAbs ≤ a.natAbs / 2 := Nat.div_le_div_left (by omega) (by omega)
   rw [← h1] at h2
   generalize a.tdiv b = q at *
   simp only [rng]
   omega
theorem v_ {g P : Prop} (k : P) (h : Hd P → g := by
 intro k
 repeat (first | refine W_seq ?_ | refine W_region ?_ | refine WL_nil ?_ | refine W_skip ?_ | refine then_normal ?_ | refine inbl_normal ?_ | refine W_block ?_ | (apply WL_val; exact rfl; exact rfl; exact rfl; first | exact trivial | omega | exact hside | exact hsid1 | exact hsid2 | (simp only [rng]; omega) | (simp only [rng, List.length_nil, List.length_cons]; omega) | decide | (refine qs_ (by omega) (by omega)) | (simp (disch := omega) only [rng, Int.tdiv_eq_ediv_of_nonneg, Int.tmod_eq_emod_of_nonneg]; omega) | (simp only [List.length_append, List.length_cons, List.length_nil]; omega)) | (apply WL_skip; exact rfl; exact rfl) | (refine WL_skip0 rfl ?_) | (refine WL_new rfl rfl rfl ?_) | (refine WL_store rfl rfl trivial ?_) | (refine WL_store rfl rfl (by first | exact trivial | omega | exact hside | exact hsid1 | exact hsid2 | (simp only [rng]; omega) | (simp only [rng, List.length_nil, List.length_cons]; omega) | decide | (refine qs_ (by omega) (by omega)) | (simp (disch := omega) only [rng, Int.tdiv_eq_ediv_of_nonneg, Int.tmod_eq_emod_of_nonneg]; omega) | (simp only [List.length_append, List.length_cons, List.length_nil]; omega)) ?_) | (refine WL_store0 rfl rfl rfl rfl rfl rfl ?_))
 exact k.h) : g := h ⟨k⟩
theorem dv_ {g P : Prop} (k : P) (h : Hd P → g := by
 intro k
 repeat (first | refine WS_nil ?_ | refine nq_walk ?_ | refine W_seq ?_ | refine W_region ?_ | refine WL_nil ?_ | refine W_skip ?_ | refine then_normal ?_ | refine inbl_normal ?_ | refine W_block ?_ | (apply WL_val; exact rfl; exact rfl; exact rfl; first | exact trivial | omega | exact hside | exact hsid1 | exact hsid2 | (simp only [rng]; omega) | (simp only [rng, List.length_nil, List.length_cons]; omega) | decide | (refine qs_ (by omega) (by omega)) | (simp (disch := omega) only [rng, Int.tdiv_eq_ediv_of_nonneg, Int.tmod_eq_emod_of_nonneg]; omega) | (simp only [List.length_append, List.length_cons, List.length_nil]; omega)) | (apply WL_skip; exact rfl; exact rfl) | (refine WL_skip0 rfl ?_) | (refine WL_new rfl rfl rfl ?_) | (refine WL_store rfl rfl trivial ?_) | (refine WL_store rfl rfl (by first | exact trivial | omega | exact hside | exact hsid1 | exact hsid2 | (simp only [rng]; omega) | (simp only [rng, List.length_nil, List.length_cons]; omega) | decide | (refine qs_ (by omega) (by omega)) | (simp (disch := omega) only [rng, Int.tdiv_eq_ediv_of_nonneg, Int.tmod_eq_emod_of_nonneg]; omega) | (simp only [List.length_append, List.length_cons, List.length_nil]; omega)) ?_) | (refine WL_store0 rfl rfl rfl rfl rfl rfl ?_) | (apply WS_val; exact rfl; exact rfl; exact rfl; exact rfl; exact rfl; first | exact trivial | omega | exact hside | exact hsid1 | exact hsid2 | (simp only [rng]; omega) | (simp only [rng, List.length_nil, List.length_cons]; omega) | decide | (refine qs_ (by omega) (by omega)) | (simp (disch := omega) only [rng, Int.tdiv_eq_ediv_of_nonneg, Int.tmod_eq_emod_of_nonneg]; omega) | (simp only [List.length_append, List.length_cons, List.length_nil]; omega)) | (apply WS_skip; exact rfl; (intro h; cases h); exact rfl))
 exact k.h) : g := h ⟨k⟩
end Go.Eng
namespace Go.Eng
open Go.Proofs
attribute [local irreducible] W WL LP Then InBl Tri WS
def padZ (n : Int) (w : Nat) : List UInt8 := List.replicate (w - (Lib.itoa n).length) 48 ++ Lib.itoa n
theorem itoa_le {n : Int} (h0 : -9223372036854775808 ≤ n) (h1 : n ≤ 9223372036854775807) : (Lib.itoa n).length ≤ 21 := Lib.itoa_length_le n h0 h1
theorem padZ_le {n : Int} {w : Nat} (h0 : -9223372036854775808 ≤ n) (h1 : n ≤ 9223372036854775807) : (padZ n w).length ≤ 21 + w := by
 have := itoa_le h0 h1
 unfold padZ; rw [List.length_append, List.length_replicate]; omega
theorem pad_tri (n : Int) (w : Nat) (hn : 0 ≤ n ∧ n ≤ 1000000000) (hw : w ≤ 100) : Tri C0 208 0 [] [.int .i64 n, .int .i64 w] (fun k hp r => k = 0 ∧ hp = [] ∧ r = .str (padZ n w)) := by
 have hd := itoa_le (n := n) (by omega) (by omega)
 unfold padZ
 refine Tri.keep (Tri.mk 22 [.tmp 4] Tryz.func208 rfl rfl rfl rfl cf208 ?_) t_ (fun r h => q_); intro w0 S T ρ0
 refine w_ ?_
 refine i_ ?_ ?_ <;> intro h
 · exfalso; omega
 refine w_ ?_
 refine WL_call [] (itoa_tri n (by omega) (by omega)) rfl rfl rfl t_ t_ rfl rfl rfl rfl ?_; rintro _ _ _ ⟨rfl, rfl, rfl⟩
 generalize Lib.itoa n = d at *
 refine w_ ?_
 refine W_loop ?_; refine LP_ren [] (LP_ind 0 (fun x : Nat => ([(1, .int .i64 w), (5, .str []), (6, .str (List.replicate x 48 ++ d))], [])) (fun x => w - x) (fun x => x = 0 ∨ x + d.length ≤ w) 0 ?_ (.inl rfl)) s_ s_ rfl rfl rfl
 rintro x hx ih
 have hl : (List.replicate x (48 : UInt8) ++ d).length = x + d.length := by simp
 refine LP_round ?_; try dsimp only
 refine w_ ?_
 refine i_ ?_ ?_ <;> intro h2
 · rw [hl] at h2
   refine w_ ?_
   exact LP_ren [] (ih (x + 1) (.inr (by omega)) (by omega)) s_ s_ rfl rfl rfl
 · rw [hl] at h2
   refine w_ ?_
   refine x_ ?_
   refine w_ ?_
   refine k_ ?_
   have : w - d.length = x := by omega
   rw [this]; rfl
def fmtZ (s : Int) : List UInt8 :=
 padZ (splitY (s / 86400)).1 4 ++ padZ (moF (s / 86400)).1 2 ++ padZ ((moF (s / 86400)).2 + 1) 2 ++ [84] ++ padZ ((s - s / 86400 * 86400) / 3600) 2 ++ padZ ((s - s / 86400 * 86400) / 60 % 60) 2 ++ padZ ((s - s / 86400 * 86400) % 60) 2
theorem splitY_parts (d0 : Int) : ∃ q c f o d4 : Int, splitY d0 = (400 * q + 100 * c + 4 * f + o + 1, d4) ∧ d0 = 146097 * q + 36524 * c + 1461 * f + 365 * o + d4 ∧ 0 ≤ c ∧ c ≤ 3 ∧ 0 ≤ f ∧ f ≤ 24 ∧ 0 ≤ o ∧ o ≤ 3 ∧ 0 ≤ d4 ∧ d4 ≤ 365 ∧ (d4 = 365 → o = 3 ∧ (f = 24 → c = 3)) := by
 obtain ⟨q, hq⟩ : ∃ q, q = d0 / 146097 := ⟨_, rfl⟩
 obtain ⟨d1, hd1⟩ : ∃ d1, d1 = d0 - q * 146097 := ⟨_, rfl⟩
 have b1 : 0 ≤ d1 ∧ d1 < 146097 := by omega
 obtain ⟨c, hc⟩ : ∃ c, c = if d1 / 36524 = 4 then 3 else d1 / 36524 := ⟨_, rfl⟩
 have bc : 0 ≤ c ∧ c ≤ 3 ∧ 0 ≤ d1 - c * 36524 ∧ d1 - c * 36524 ≤ 36524 ∧ (d1 - c * 36524 = 36524 → c = 3) := by
  split at hc <;> omega
 obtain ⟨d2, hd2⟩ : ∃ d2, d2 = d1 - c * 36524 := ⟨_, rfl⟩
 rw [← hd2] at bc
 obtain ⟨f, hf⟩ : ∃ f, f = d2 / 1461 := ⟨_, rfl⟩
 obtain ⟨d3, hd3⟩ : ∃ d3, d3 = d2 - f * 1461 := ⟨_, rfl⟩
 have b3 : 0 ≤ d3 ∧ d3 ≤ 1460 ∧ 0 ≤ f ∧ f ≤ 24 := by omega
 obtain ⟨o, ho⟩ : ∃ o, o = if d3 / 365 = 4 then 3 else d3 / 365 := ⟨_, rfl⟩
 have bo : 0 ≤ o ∧ o ≤ 3 ∧ 0 ≤ d3 - o * 365 ∧ d3 - o * 365 ≤ 365 ∧ (d3 - o * 365 = 365 → o = 3) := by
  split at ho <;> omega
 refine ⟨q, c, f, o, d3 - o * 365, ?_, by omega, bc.1, bc.2.1, b3.2.2.1, b3.2.2.2, bo.1, bo.2.1, bo.2.2.1, bo.2.2.2.1, fun h => ⟨bo.2.2.2.2 h, fun h2 => bc.2.2.2.2 (by omega)⟩⟩
 simp only [splitY, ← hq, ← hd1, ← hc, ← hd2, ← hf, ← hd3, ← ho]
theorem splitY_rng {d0 : Int} (h : -366 ≤ d0 ∧ d0 ≤ 3652058) : 0 ≤ (splitY d0).1 ∧ (splitY d0).1 ≤ 9999 := by
 obtain ⟨q, c, f, o, d4, e, h0, h1, h2, h3, h4, h5, h6, h7, h8, h9⟩ := splitY_parts d0
 rw [e]
 show 0 ≤ 400 * q + 100 * c + 4 * f + o + 1 ∧ 400 * q + 100 * c + 4 * f + o + 1 ≤ 9999
 have hq1 : -1 ≤ q := by omega
 have hq2 : q ≤ 24 := by omega
 constructor
 · by_cases hq : q = -1
   · subst hq
     have : c = 3 := by omega
     have : f = 24 := by omega
     have : o = 3 := by omega
     omega
   · omega
 · by_cases hq : q = 24
   · subst hq
     by_cases hc : c = 3
     · subst hc
       by_cases hf : f = 24
       · omega
       · omega
     · omega
   · omega
theorem splitY_cal (d0 : Int) : daysToZ (splitY d0).1 + (splitY d0).2 = d0 := by
 obtain ⟨q, c, f, o, d4, e, h0, h1, h2, h3, h4, h5, h6, h7, h8, h9⟩ := splitY_parts d0
 rw [e]
 have e1 : (400 * q + 100 * c + 4 * f + o + 1 - 1) / 4 = 100 * q + 25 * c + f := by omega
 have e2 : (400 * q + 100 * c + 4 * f + o + 1 - 1) / 100 = 4 * q + c := by omega
 have e3 : (400 * q + 100 * c + 4 * f + o + 1 - 1) / 400 = q := by omega
 simp only [daysToZ, e1, e2, e3]
 omega
theorem splitY_leap {d0 : Int} (h : (splitY d0).2 = 365) : (splitY d0).1 % 4 = 0 ∧ ((splitY d0).1 % 100 ≠ 0 ∨ (splitY d0).1 % 400 = 0) := by
 obtain ⟨q, c, f, o, d4, e, h0, h1, h2, h3, h4, h5, h6, h7, h8, h9⟩ := splitY_parts d0
 rw [e] at h ⊢
 simp only at h ⊢
 obtain ⟨i1, i2⟩ := h9 h
 subst i1
 refine ⟨by omega, ?_⟩
 by_cases hf : f = 24
 · have := i2 hf
   subst this; subst hf
   right; omega
 · left; omega
def yearL (y : Int) : Int := if leapB y = true then 366 else 365
theorem mdSum_12 (y : Int) : mdSum y 12 = yearL y := by
 cases h : leapB y <;> simp only [mdSum, mdays, yearL, h] <;> decide
theorem mdSum_mono (y : Int) (a : Nat) : ∀ k : Nat, mdSum y a ≤ mdSum y (a + k)
 | 0 => Int.le_refl _
 | k + 1 => by have := mdSum_mono y a k; have h := mdays_le ((a + k : Nat) + 1) y; show mdSum y a ≤ mdSum y (a + k) + mdays ((a + k : Nat) + 1) y; omega
theorem mo_law (y : Int) : ∀ (k : Nat) (m : Nat) (d : Int), 1 ≤ m → 0 ≤ d → ∃ m' : Nat, m ≤ m' ∧ (mo y k m d).1 = m' ∧ 0 ≤ (mo y k m d).2 ∧ mdSum y (m' - 1) + (mo y k m d).2 = mdSum y (m - 1) + d ∧ ((mo y k m d).2 < mdays m' y ∨ m' = m + k)
 | 0, m, d, h1, h2 => ⟨m, Nat.le_refl _, rfl, h2, rfl, .inr rfl⟩
 | k + 1, m, d, h1, h2 => by
   by_cases h : mdays m y ≤ d
   · have e : mo y (k + 1) m d = mo y k (m + 1) (d - mdays m y) := by simp only [mo, if_pos h]
     rw [e]
     obtain ⟨m', a, b, c, f, g⟩ := mo_law y k (m + 1) (d - mdays m y) (by omega) (by omega)
     have b' : (mo y k ((m : Int) + 1) (d - mdays m y)).1 = m' := b
     refine ⟨m', by omega, b, c, ?_, ?_⟩
     · have f' : mdSum y (m' - 1) + (mo y k ((m : Int) + 1) (d - mdays m y)).2 = mdSum y (m + 1 - 1) + (d - mdays (↑m) y) := f
       rw [f']
       obtain ⟨n, rfl⟩ : ∃ n, m = n + 1 := ⟨m - 1, by omega⟩
       show mdSum y (n + 1) + _ = mdSum y n + d
       show mdSum y n + mdays ((n : Int) + 1) y + (d - mdays ((n + 1 : Nat) : Int) y) = mdSum y n + d
       have : ((n + 1 : Nat) : Int) = (n : Int) + 1 := by omega
       rw [this]; omega
     · rcases g with g | g
       · exact .inl g
       · exact .inr (by omega)
   · have e : mo y (k + 1) m d = ((m : Int), d) := by simp only [mo, if_neg h]
     rw [e]
     exact ⟨m, Nat.le_refl _, rfl, h2, rfl, .inl (by show d < _; omega)⟩
theorem splitY_lt (d0 : Int) : (splitY d0).2 < yearL (splitY d0).1 := by
 have h := splitY_le d0
 unfold yearL
 split
 · omega
 · rename_i hl
   by_cases h5 : (splitY d0).2 = 365
   · exfalso
     apply hl
     have := splitY_leap h5
     simp only [leapB]
     generalize (splitY d0).1 = y at *
     rcases this.2 with h6 | h6 <;> simp [this.1, h6]
   · omega
theorem moF_law (d0 : Int) : ∃ m : Nat, 1 ≤ m ∧ m ≤ 12 ∧ (moF d0).1 = m ∧ 0 ≤ (moF d0).2 ∧ (moF d0).2 < mdays m (splitY d0).1 ∧ daysToZ (splitY d0).1 + mdSum (splitY d0).1 (m - 1) + (moF d0).2 = d0 := by
 obtain ⟨m, a, b, c, e, g⟩ := mo_law (splitY d0).1 14 1 (splitY d0).2 (Nat.le_refl _) (splitY_le d0).1
 have hc := splitY_cal d0
 have hl := splitY_lt d0
 have hm : m ≤ 12 := by
  rcases Nat.lt_or_ge 12 m with h | h
  · exfalso
    have h1 := mdSum_mono (splitY d0).1 12 (m - 1 - 12)
    rw [show 12 + (m - 1 - 12) = m - 1 by omega, mdSum_12] at h1
    simp only [show (1 : Nat) - 1 = 0 from rfl, mdSum] at e
    omega
  · exact h
 refine ⟨m, a, hm, b, c, ?_, ?_⟩
 · rcases g with g | g
   · exact g
   · omega
 · have e' : mdSum (splitY d0).1 (m - 1) + (moF d0).2 = mdSum (splitY d0).1 0 + (splitY d0).2 := e
   simp only [mdSum] at e'
   omega
end Go.Eng
namespace Go.Eng
open Go.Proofs
attribute [local irreducible] W WL LP Then InBl Tri WS
def TX (B : Nat) : Rs := fun k hp r => k = 0 ∧ hp = [] ∧ ∃ t : List UInt8, t.length ≤ B ∧ r = .str t
theorem TX_lt {B : Nat} : ∀ r, (∃ t : List UInt8, t.length ≤ B ∧ r = AV.str t) → r.lt 0 := by rintro r ⟨t, _, rfl⟩; trivial
theorem pow_len {m k n : Nat} (hm : 0 < m) (h : m * 10 ^ k ≤ n) (hn : n < 10 ^ 20) : k < 20 := by
 have h1 : 10 ^ k ≤ m * 10 ^ k := Nat.le_mul_of_pos_left _ hm
 exact (Nat.pow_lt_pow_iff_right (by omega)).1 (Nat.lt_of_le_of_lt (Nat.le_trans h1 h) hn)
theorem pow_step {m k n : Nat} (h : m * 10 ^ k ≤ n) : m / 10 * 10 ^ (k + 1) ≤ n := by
 refine Nat.le_trans ?_ h
 rw [Nat.pow_succ, Nat.mul_comm (10 ^ k) 10, ← Nat.mul_assoc]
 exact Nat.mul_le_mul_right _ (Nat.div_mul_le_self m 10)
theorem tmod10 (m : Int) : -9 ≤ m.tmod 10 ∧ m.tmod 10 ≤ 9 := by
 rcases Int.le_total 0 m with h | h
 · rw [Int.tmod_eq_emod_of_nonneg h]; omega
 · have := Int.tmod_eq_emod_of_nonneg (a := -m) (b := 10) (by omega)
   rw [Int.neg_tmod] at this; omega
theorem tdiv10 (m : Int) : (0 ≤ m → 0 ≤ m.tdiv 10 ∧ m.tdiv 10 ≤ m) ∧ (m ≤ 0 → m ≤ m.tdiv 10 ∧ m.tdiv 10 ≤ 0) := by
 refine ⟨fun h => ?_, fun h => ?_⟩
 · rw [Int.tdiv_eq_ediv_of_nonneg h]; omega
 · have := Int.tdiv_eq_ediv_of_nonneg (a := -m) (b := 10) (by omega)
   rw [Int.neg_tdiv] at this; omega
set_option maxHeartbeats 2000000 in
theorem textDigits_tri (n least : Int) (hn : -9223372036854775808 ≤ n ∧ n ≤ 9223372036854775807) (hl : 0 ≤ least ∧ least ≤ 4) : Tri C0 84 0 [] [.int .i64 n, .int .i64 least] (TX 20) := by
 refine Tri.keep ?_ trivial TX_lt
 refine Tri.mk 25 [.tmp 4] Tryz.func84 rfl rfl rfl rfl cf84 ?_; intro w0 S T ρ0
 refine w_ ?_
 refine W_loop ?_; refine LP_ren [] (LP_ind 0 (fun s : Int × List UInt8 => ([(0, .int .i64 s.1), (1, .int .i64 least), (5, .str s.2)], [])) (fun s => s.1.natAbs + (least.toNat - s.2.length)) (fun s => (-9223372036854775808 ≤ s.1 ∧ s.1 ≤ 9223372036854775807) ∧ s.2.length ≤ 20 ∧ s.1.natAbs * 10 ^ s.2.length ≤ 9223372036854775808) (n, []) ?_ (⟨hn, Nat.zero_le _, by simp only [List.length_nil, Nat.pow_zero, Nat.mul_one]; omega⟩)) s_ s_ rfl rfl rfl
 rintro ⟨m, out⟩ ⟨g1, g2, g3⟩ ih
 simp only at g1 g2 g3
 refine LP_round ?_; try dsimp only
 refine w_ ?_
 refine WL_join 5 [(13, .bool (decide ((0 : Int) < m) || decide ((out.length : Int) < least))), (0, .int .i64 m), (1, .int .i64 least), (5, .str out)] ?_ ?_
 · refine WL_split (t := 8) rfl (fun h => ?_) (fun h => ?_)
   · refine w_ ?_
     refine ⟨rfl, rfl, rfl, ?_, rfl, rfl, rfl, trivial⟩
     rw [show decide ((0 : Int) < m) = true from h]; rfl
   · refine w_ ?_
     refine ⟨rfl, rfl, rfl, ?_, rfl, rfl, rfl, trivial⟩
     rw [show decide ((0 : Int) < m) = false from h]; rfl
 refine w_ ?_
 refine W_cond rfl (fun hb => ?_) (fun hb => ?_)
 · simp only [Bool.or_eq_true, decide_eq_true_eq] at hb
   have hm := tmod10 m
   have hd := tdiv10 m
   have hsid1 : (10 : Int) ≠ 0 ∧ rng .i64 (m.tdiv 10) := ⟨by omega, by simp only [rng]; omega⟩
   have hl2 : out.length < 20 := by
    rcases hb with hb | hb
    · exact pow_len (by omega) g3 (by omega)
    · omega
   refine w_ ?_
   refine WL_conv 0 (.ints 5 (some 1) .u8 [48 + m.tmod 10]) rfl rfl rfl rfl (.inr rfl) ⟨[], rfl⟩ ?_
   refine WL_string rfl rfl rfl rfl rfl rfl rfl rfl (by simp) rfl rfl ?_
   have hs : ∃ b, bytesOfN (([48 + m.tmod 10].drop 0).take 1) = [b] := ⟨UInt8.ofNat (48 + m.tmod 10).toNat, by simp [bytesOfN]⟩
   obtain ⟨b, hs⟩ := hs
   rw [hs]
   have hside : ([b] : List UInt8).length + out.length ≤ 9223372036854775807 := by show 1 + _ ≤ _; omega
   refine w_ ?_
   have hqa : (m.tdiv 10).natAbs = m.natAbs / 10 := Int.natAbs_tdiv m 10
   have h3 := pow_step g3
   refine LP_ren [] (ih (m.tdiv 10, b :: out) ⟨?_, by show out.length + 1 ≤ 20; omega, by show (m.tdiv 10).natAbs * 10 ^ (out.length + 1) ≤ _; rw [hqa]; exact h3⟩ ?_) s_ s_ rfl rfl rfl
   · show -9223372036854775808 ≤ m.tdiv 10 ∧ m.tdiv 10 ≤ 9223372036854775807; omega
   · show (m.tdiv 10).natAbs + (least.toNat - (out.length + 1)) < m.natAbs + (least.toNat - out.length)
     rw [hqa]
     rcases hb with hb | hb <;> omega
 · refine w_ ?_
   refine x_ ?_
   refine w_ ?_
   refine W_ret ?_; (repeat (first | refine then_ret ?_ | refine inbl_ret ?_))
   exact ⟨_, _, rfl, s_, s_, out, g2, rfl⟩
theorem catl {a b : List UInt8} {m n : Nat} (ha : a.length ≤ m) (hb : b.length ≤ n) : (a ++ b).length ≤ m + n := by rw [List.length_append]; omega
theorem tdivb {a b B : Int} (ha : -B ≤ a ∧ a ≤ B) (hb : 0 < b) : -B ≤ a.tdiv b ∧ a.tdiv b ≤ B := by
 have h1 : (a.tdiv b).natAbs = a.natAbs / b.natAbs := Int.natAbs_tdiv a b
 have h2 : a.natAbs / b.natAbs ≤ a.natAbs := Nat.div_le_self _ _
 omega
theorem tmodb (a : Int) {b : Int} (hb : 0 < b) : -b < a.tmod b ∧ a.tmod b < b := by
 rcases Int.le_total 0 a with h | h
 · rw [Int.tmod_eq_emod_of_nonneg h]
   have := Int.emod_nonneg a (show b ≠ 0 by omega)
   have := Int.emod_lt_of_pos a hb
   omega
 · have := Int.tmod_eq_emod_of_nonneg (a := -a) (b := b) (by omega)
   rw [Int.neg_tmod] at this
   have := Int.emod_nonneg (-a) (show b ≠ 0 by omega)
   have := Int.emod_lt_of_pos (-a) hb
   omega
theorem tdivq (a : Int) {b : Int} (hb : 0 < b) : (0 ≤ a → 0 ≤ a.tdiv b ∧ b * a.tdiv b ≤ a ∧ a < b * a.tdiv b + b) ∧ (a ≤ 0 → a.tdiv b ≤ 0 ∧ a ≤ b * a.tdiv b ∧ b * a.tdiv b - b < a) := by
 refine ⟨fun h => ?_, fun h => ?_⟩
 · rw [Int.tdiv_eq_ediv_of_nonneg h]
   have h1 := Int.mul_ediv_add_emod a b
   have h2 := Int.emod_nonneg a (show b ≠ 0 by omega)
   have h3 := Int.emod_lt_of_pos a hb
   exact ⟨Int.ediv_nonneg h (by omega), by omega, by omega⟩
 · have e := Int.tdiv_eq_ediv_of_nonneg (a := -a) (b := b) (by omega)
   rw [Int.neg_tdiv] at e
   have h1 := Int.mul_ediv_add_emod (-a) b
   have h2 := Int.emod_nonneg (-a) (show b ≠ 0 by omega)
   have h3 := Int.emod_lt_of_pos (-a) hb
   have h4 := Int.ediv_nonneg (show 0 ≤ -a by omega) (show 0 ≤ b by omega)
   rw [← e] at h1 h4
   rw [Int.mul_neg] at h1
   exact ⟨by omega, by omega, by omega⟩
theorem textDate_tri (n : Int) (hn : -1000000000000 ≤ n ∧ n ≤ 1000000000000) : Tri C0 83 0 [] [.int .i64 n] (fun k hp r => k = 0 ∧ hp = [] ∧ ∃ a b c : Int, (-1000000000000000 ≤ a ∧ a ≤ 1000000000000000) ∧ (-1000000000000000 ≤ b ∧ b ≤ 1000000000000000) ∧ (-1000000000000000 ≤ c ∧ c ≤ 1000000000000000) ∧ r = .tup [.int .i64 a, .int .i64 b, .int .i64 c]) := by
 refine Tri.keep ?_ trivial (by rintro r ⟨a, b, c, _, _, _, rfl⟩; exact ⟨trivial, trivial, trivial, trivial⟩)
 have td := fun (a b : Int) (hb : 0 < b) => tdivq a hb
 refine Tri.mk 73 [.tmp 2, .tmp 3, .tmp 4] Tryz.func83 rfl rfl rfl rfl cf83 ?_; intro w0 S T ρ0
 refine v_ ?_
 refine W_mid (α := Int) (fun q => (0, [(5, .int .i64 (n + 306)), (6, .int .i64 q)], [])) (fun q => -8000000 ≤ q ∧ q ≤ 8000000 ∧ -300000 ≤ n + 306 - q * 146097 ∧ n + 306 - q * 146097 ≤ 300000) ?_ ?_
 · refine i_ ?_ ?_ <;> intro h
   · have := td (n + 306 - 146096) 146097 (by omega)
     refine v_ ?_
     exact ⟨(n + 306 - 146096).tdiv 146097, by omega, Imp_renG [] s_ s_ rfl rfl rfl⟩
   · have := td (n + 306) 146097 (by omega)
     refine v_ ?_
     exact ⟨(n + 306).tdiv 146097, by omega, Imp_renG [] s_ s_ rfl rfl rfl⟩
 rintro q ⟨g1, g2, g3, g4⟩
 refine v_ ?_
 generalize n + 306 - q * 146097 = d at *
 have a1 := td d 1460 (by omega)
 have a2 := td d 36524 (by omega)
 have a3 := td d 146096 (by omega)
 refine v_ ?_
 generalize d.tdiv 1460 = d1 at *
 generalize d.tdiv 36524 = d2 at *
 generalize d.tdiv 146096 = d3 at *
 have a4 := td (d - d1 + d2 - d3) 365 (by omega)
 generalize (d - d1 + d2 - d3).tdiv 365 = o at *
 have a5 := td o 4 (by omega)
 have a6 := td o 100 (by omega)
 refine v_ ?_
 generalize o.tdiv 4 = o1 at *
 generalize o.tdiv 100 = o2 at *
 have b1 : -1000000 ≤ d - (365 * o + o1 - o2) ∧ d - (365 * o + o1 - o2) ≤ 1000000 := by omega
 generalize d - (365 * o + o1 - o2) = y at *
 have a7 := td (5 * y + 2) 153 (by omega)
 refine v_ ?_
 generalize (5 * y + 2).tdiv 153 = m at *
 have a8 := td (153 * m + 2) 5 (by omega)
 refine v_ ?_
 generalize (153 * m + 2).tdiv 5 = x at *
 refine v_ ?_
 refine W_mid (α := Int) (fun p => (0, [(3, .int .i64 p), (4, .int .i64 (y - x + 1)), (6, .int .i64 q), (8, .int .i64 o)], [])) (fun p => -1000000000 ≤ p ∧ p ≤ 1000000000) ?_ ?_
 · refine i_ ?_ ?_ <;> intro h
   · refine v_ ?_
     exact ⟨m + 3 - 12, by omega, Imp_renG [] s_ s_ rfl rfl rfl⟩
   · refine v_ ?_
     exact ⟨m + 3, by omega, Imp_renG [] s_ s_ rfl rfl rfl⟩
 rintro p hp
 refine v_ ?_
 refine W_mid (α := Int) (fun w => (0, [(2, .int .i64 w), (3, .int .i64 p), (4, .int .i64 (y - x + 1))], [])) (fun w => -1000000000000 ≤ w ∧ w ≤ 1000000000000) ?_ ?_
 · refine i_ ?_ ?_ <;> intro h
   · refine v_ ?_
     exact ⟨o + q * 400 + 1, by omega, Imp_renG [] s_ s_ rfl rfl rfl⟩
   · refine v_ ?_
     exact ⟨o + q * 400, by omega, Imp_renG [] s_ s_ rfl rfl rfl⟩
 rintro w hw
 refine v_ ?_
 refine W_ret ?_; (repeat (first | refine then_ret ?_ | refine inbl_ret ?_))
 exact ⟨_, _, rfl, s_, s_, w, p, y - x + 1, by omega, by omega, by omega, rfl⟩
theorem textTime_tri (n : Int) (hn : -31622400 ≤ n ∧ n ≤ 315537897599) : Tri C0 38 0 [] [.int .i64 n] (TX 122) := by
 refine Tri.keep ?_ trivial TX_lt
 refine Tri.mk 44 [.tmp 2] Tryz.func38 rfl rfl rfl rfl cf38 ?_; intro w0 S T ρ0
 refine v_ ?_
 refine WL_callR [] (textDate_tri ((n - -31622400).tdiv 86400 + -366) (by rw [Int.tdiv_eq_ediv_of_nonneg (by omega)]; omega)) rfl rfl rfl t_ t_ rfl rfl rfl rfl ?_; rintro _ ⟨a,b,c,ha,hb,hc,rfl⟩
 refine v_ ?_
 refine WL_callR [] (textDigits_tri a 4 (by omega) (by omega)) rfl rfl rfl t_ t_ rfl rfl rfl rfl ?_; rintro _ ⟨t1,h1,rfl⟩
 refine v_ ?_
 refine WL_callR [] (textDigits_tri b 2 (by omega) (by omega)) rfl rfl rfl t_ t_ rfl rfl rfl rfl ?_; rintro _ ⟨t2,h2,rfl⟩
 have hside : t1.length + t2.length ≤ 9223372036854775807 := by omega
 refine v_ ?_
 have k1 := catl h1 h2
 generalize t1 ++ t2 = u1 at *
 refine WL_callR [] (textDigits_tri c 2 (by omega) (by omega)) rfl rfl rfl t_ t_ rfl rfl rfl rfl ?_; rintro _ ⟨t3,h3,rfl⟩
 have hside : u1.length + t3.length ≤ 9223372036854775807 := by omega
 have k2 := catl k1 h3
 have hsid1 : (u1 ++ t3).length + ([84] : List UInt8).length ≤ 9223372036854775807 := by show _ + 1 ≤ _; omega
 refine v_ ?_
 have k3 := catl k2 (show ([84] : List UInt8).length ≤ 1 from Nat.le_refl _)
 generalize u1 ++ t3 ++ [84] = u2 at *
 have hx := tdivb (show -86400 ≤ (n - -31622400).tmod 86400 ∧ (n - -31622400).tmod 86400 ≤ 86400 by rw [Int.tmod_eq_emod_of_nonneg (by omega)]; omega) (show (0 : Int) < 3600 by omega)
 refine WL_callR [] (textDigits_tri ((n - -31622400).tmod 86400 |>.tdiv 3600) 2 (by omega) (by omega)) rfl rfl rfl t_ t_ rfl rfl rfl rfl ?_; rintro _ ⟨t4,h4,rfl⟩
 have hside : u2.length + t4.length ≤ 9223372036854775807 := by omega
 have hy := tdivb (show -86400 ≤ (n - -31622400).tmod 86400 ∧ (n - -31622400).tmod 86400 ≤ 86400 by rw [Int.tmod_eq_emod_of_nonneg (by omega)]; omega) (show (0 : Int) < 60 by omega)
 refine v_ ?_
 have k4 := catl k3 h4
 generalize u2 ++ t4 = u3 at *
 refine WL_callR [] (textDigits_tri (((n - -31622400).tmod 86400 |>.tdiv 60).tmod 60) 2 (by have := tmodb (((n - -31622400).tmod 86400).tdiv 60) (show (0 : Int) < 60 by omega); omega) (by omega)) rfl rfl rfl t_ t_ rfl rfl rfl rfl ?_; rintro _ ⟨t5,h5,rfl⟩
 have hside : u3.length + t5.length ≤ 9223372036854775807 := by omega
 refine v_ ?_
 have k5 := catl k4 h5
 generalize u3 ++ t5 = u4 at *
 refine WL_callR [] (textDigits_tri (((n - -31622400).tmod 86400).tmod 60) 2 (by have := tmodb ((n - -31622400).tmod 86400) (show (0 : Int) < 60 by omega); omega) (by omega)) rfl rfl rfl t_ t_ rfl rfl rfl rfl ?_; rintro _ ⟨t6,h6,rfl⟩
 have hside : u4.length + t6.length ≤ 9223372036854775807 := by omega
 have k6 := catl k5 h6
 have hsid1 : (u4 ++ t6).length + ([90] : List UInt8).length ≤ 9223372036854775807 := by show _ + 1 ≤ _; omega
 refine v_ ?_
 refine W_ret ?_; (repeat (first | refine then_ret ?_ | refine inbl_ret ?_))
 exact ⟨_, _, rfl, s_, s_, _, catl k6 (show ([90] : List UInt8).length ≤ 1 from Nat.le_refl _), rfl⟩
theorem wrap64 (n : Int) : ∃ u : Nat, IntKind.u64.wrap n = (u : Int) ∧ u ≤ 18446744073709551615 := by
 have e : IntKind.u64.wrap n = n % 18446744073709551616 := by
  unfold IntKind.wrap; simp [IntKind.signed, IntKind.bits]
 rw [e]
 exact ⟨(n % 18446744073709551616).toNat, by omega, by omega⟩
set_option maxHeartbeats 1000000 in
theorem textNumber_tri (n : Int) (hn : -9223372036854775808 ≤ n ∧ n ≤ 9223372036854775807) : Tri C0 148 0 [] [.int .i64 n] (TX 50) := by
 refine Tri.keep ?_ trivial TX_lt
 refine Tri.mk 26 [.tmp 2] Tryz.func148 rfl rfl rfl rfl cf148 ?_; intro w0 S T ρ0
 refine v_ ?_
 refine i_ ?_ ?_ <;> intro h
 · refine v_ ?_
   refine WL_callR [] (textDigits_tri n 1 hn (by omega)) rfl rfl rfl t_ t_ rfl rfl rfl rfl ?_; rintro _ ⟨t,ht,rfl⟩
   refine v_ ?_
   refine W_ret ?_; (repeat (first | refine then_ret ?_ | refine inbl_ret ?_))
   exact ⟨_, _, rfl, s_, s_, t, by omega, rfl⟩
 refine v_ ?_
 refine WL_negw rfl rfl rfl ?_
 refine WL_convw rfl rfl rfl rfl rfl rfl rfl ?_
 have hu : ∃ u : Nat, IntKind.u64.wrap (IntKind.i64.wrap (0 - n)) = (u : Int) ∧ u ≤ 18446744073709551615 := wrap64 _
 obtain ⟨u, e, hu⟩ := hu
 rw [e]
 refine v_ ?_
 refine W_loop ?_; refine LP_ren [] (LP_ind 0 (fun s : Nat × List UInt8 => ([(3, .int .u64 s.1), (4, .str s.2)], [])) (fun s => s.1) (fun s => s.2.length ≤ 20 ∧ s.1 * 10 ^ s.2.length ≤ 18446744073709551615) (u, []) ?_ (⟨Nat.zero_le _, by simp only [List.length_nil, Nat.pow_zero, Nat.mul_one]; omega⟩)) s_ s_ rfl rfl rfl
 rintro ⟨m, out⟩ ⟨g2, g3⟩ ih
 simp only at g2 g3
 refine LP_round ?_; try dsimp only
 refine v_ ?_
 refine i_ ?_ ?_ <;> intro h
 · have hm : 0 < m := by omega
   have hl2 : out.length < 20 := pow_len hm g3 (by omega)
   have e1 : (m : Int).tmod 10 = ((m % 10 : Nat) : Int) := by rw [Int.tmod_eq_emod_of_nonneg (by omega)]; rfl
   have e2 : (m : Int).tdiv 10 = ((m / 10 : Nat) : Int) := by rw [Int.tdiv_eq_ediv_of_nonneg (by omega)]; rfl
   have hmm : m ≤ 18446744073709551615 := Nat.le_trans (Nat.le_mul_of_pos_right m (Nat.pow_pos (by omega))) g3
   refine v_ ?_
   refine WL_conv 0 (.ints 5 (some 1) .u8 [48 + (m : Int).tmod 10]) rfl rfl rfl rfl (.inr rfl) ⟨[], rfl⟩ ?_
   refine WL_string rfl rfl rfl rfl rfl rfl rfl rfl (by simp) rfl rfl ?_
   have hs : ∃ b, bytesOfN (([48 + (m : Int).tmod 10].drop 0).take 1) = [b] := ⟨UInt8.ofNat (48 + (m : Int).tmod 10).toNat, by simp [bytesOfN]⟩
   obtain ⟨b, hs⟩ := hs
   rw [hs]
   have hside : ([b] : List UInt8).length + out.length ≤ 9223372036854775807 := by show 1 + _ ≤ _; omega
   have hsid1 : (10 : Int) ≠ 0 ∧ rng .u64 ((m : Int).tdiv 10) := ⟨by omega, by simp only [rng]; omega⟩
   refine v_ ?_
   rw [e2]
   exact LP_ren [] (ih (m / 10, b :: out) ⟨by show out.length + 1 ≤ 20; omega, pow_step g3⟩ (by show m / 10 < m; omega)) s_ s_ rfl rfl rfl
 · refine v_ ?_
   refine x_ ?_
   have hside : ([45] : List UInt8).length + out.length ≤ 9223372036854775807 := by show 1 + _ ≤ _; omega
   refine v_ ?_
   refine W_ret ?_; (repeat (first | refine then_ret ?_ | refine inbl_ret ?_))
   exact ⟨_, _, rfl, s_, s_, _, Nat.le_trans (catl (show ([45] : List UInt8).length ≤ 1 from Nat.le_refl _) g2) (by omega), rfl⟩
end Go.Eng
