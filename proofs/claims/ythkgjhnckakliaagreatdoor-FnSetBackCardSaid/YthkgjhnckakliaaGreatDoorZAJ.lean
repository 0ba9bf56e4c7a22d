/- A part of the proof that the rows statement FnSetBack holds; no conditions. -/
import Derived.Test.YthkgjhnckakliaaGreatDoorZAI
import Derived.Test.YthkgjhnckakliaaGreatDoorTie
import Derived.Test.YthkgjhnckakliaaGreatDoorCards
import Derived.ProofKit
import Derived.OpenShut
import Derived.LaidMore
import Derived.Lay
import Derived.SevenTiedAt
import Derived.Stop.Joined
import Derived.Deep.Strs
import Derived.Deep.DeepHandedRow
set_option linter.unusedVariables false
set_option linter.unusedSimpArgs false
set_option linter.unusedSectionVars false
namespace Go.Eng
open Go.Proofs Go.Proofs.YthkgjhnckakliaaGreatDoor
theorem laid_at {P : Program} {w : World} : ∀ {l : List (String × DataW Unit)} {ps : List MemPlace}, DataW.LaidVars P w l ps → ∀ {n : String} {d : DataW Unit}, (n, d) ∈ l →
 ∃ g t cs fuel p, P.globalNamed n = some g ∧ (P.globals[g]?).map (·.type) = some t ∧ w.var? P n = some cs ∧ DataW.trod (fun _ => ()) P w 0 (fun _ => true) false fuel t cs.toList = some (d, p)
 | [], _, _, _, _, h => by cases h
 | (n', d') :: l, ps, hl, n, d, h => by
   obtain ⟨g, t, cs, fuel, p, q, h1, h2, h3, h4, h5, _⟩ := hl
   rcases List.mem_cons.1 h with e | h
   · cases e; exact ⟨g, t, cs, fuel, p, h1, h2, h3, h4⟩
   · exact laid_at h5 h
theorem var_heap {P : Program} {w : World} {n : String} {g : Nat} {cs : Array Value} (hg : P.globalNamed n = some g) (h : w.var? P n = some cs) : ∃ e fz, w.heap[g]? = some (.cells cs e fz) := by
 unfold World.var? at h
 rw [hg] at h
 simp only [Option.bind_some] at h
 split at h
 · rename_i c e fz hh; cases h; exact ⟨e, fz, hh⟩
 · cases h
theorem laid_cells {P : Program} {w : World} {l : List (String × DataW Unit)} {n : String} {d : DataW Unit} {g : Nat} {t : TypeId} (h : laidMet P l w) (hm : (n, d) ∈ l) (hg : P.globalNamed n = some g) (ht : (P.globals[g]?).map (·.type) = some t) :
 ∃ cs fuel p e fz, w.heap[g]? = some (.cells cs e fz) ∧ DataW.trod (fun _ => ()) P w 0 (fun _ => true) false fuel t cs.toList = some (d, p) := by
 obtain ⟨ps, hl, _⟩ := h
 obtain ⟨g', t', cs, fuel, p, h1, h2, h3, h4⟩ := laid_at hl hm
 obtain rfl := Option.some.inj (hg.symm.trans h1)
 obtain rfl := Option.some.inj (ht.symm.trans h2)
 obtain ⟨e, fz, h5⟩ := var_heap hg h3
 exact ⟨cs, fuel, p, e, fz, h5, h4⟩
theorem cells_of_strs {P : Program} {w : World} {sp : Nat → Bool} {fuel : Nat} {t e : TypeId} {n : Nat} {cs : List Value} {ss : List (List UInt8)} {p : List MemPlace}
 (ht : P.underlying t = some (.array n e)) (he : P.underlying e = some .string) (hce : P.cellsOf e = 1) (hct : P.cellsOf t = n) (hn : ss.length = n)
 (h : DataW.trod (fun _ => ()) P w 0 sp false fuel t cs = some (.agg (ss.map fun s => .lit (.string s)), p)) : cs = ss.map fun s => Value.string ⟨s.toArray⟩ := by
 obtain ⟨xs, m, _, ex, hl, hxl, hel⟩ := DataW.trod_array ht h
 have hxs : xs.map (·.1) = ss.map fun s => (DataW.lit (.string s) : DataW Unit) := (DataW.agg.inj (Prod.mk.inj ex).1).symm
 rw [hct] at hl
 apply List.ext_getElem?
 intro i
 by_cases hi : i < n
 · have hE := hel i hi
   rw [hce, Nat.mul_one, List.getElem?_eq_getElem (by omega)] at hE
   obtain ⟨s, e1, e2, _⟩ := DataW.trod_string he hE
   have h1 : cs[i]? = some (.string s) := by
    have := congrArg (·[0]?) e1
    simpa [List.getElem?_take, List.getElem?_drop] using this
   have h2 : (xs.map (·.1))[i]? = some (DataW.lit (.string s.data.toList) : DataW Unit) := by
    rw [List.getElem?_map, List.getElem?_eq_getElem (by omega), e2]; rfl
   rw [hxs] at h2
   simp only [List.getElem?_map, Option.map_eq_some_iff, DataW.lit.injEq, Lit.string.injEq] at h2
   obtain ⟨s', h3, h4⟩ := h2
   rw [h1, List.getElem?_map, h3, h4]
   simp
 · rw [List.getElem?_eq_none (by omega), List.getElem?_eq_none (by simp; omega)]
theorem cells_of_day {P : Program} {w : World} {sp : Nat → Bool} {fuel : Nat} {t : TypeId} {f0 f1 : Field} {k : TypeId} {cs : List Value} {a b : Int} {p : List MemPlace}
 (ht : P.underlying t = some (.struct #[f0, f1])) (h0 : f0.type = k) (h1 : f1.type = k) (o0 : f0.offset = 0) (o1 : f1.offset = 1) (hk : P.underlying k = some (.int .i64)) (hce : P.cellsOf k = 1) (hct : P.cellsOf t = 2)
 (h : DataW.trod (fun _ => ()) P w 0 sp false fuel t cs = some (.agg [.lit (.int .i64 a), .lit (.int .i64 b)], p)) : cs = [.int .i64 a, .int .i64 b] := by
 obtain ⟨y0, y1, n, ex, hl, e0, e1⟩ := ChangeShapes.trod_struct2 ht h
 rw [h0, o0, hce] at e0
 rw [h1, o1, hce] at e1
 obtain ⟨a', c0, d0, _⟩ := DataW.trod_int hk e0
 obtain ⟨b', c1, d1, _⟩ := DataW.trod_int hk e1
 rw [hct] at hl
 have ex := (Prod.mk.inj ex).1
 rw [d0, d1] at ex
 simp only [DataW.agg.injEq, List.cons.injEq, DataW.lit.injEq, Lit.int.injEq, true_and, and_true] at ex
 match cs, hl with
 | [u, v], _ =>
   simp at c0 c1
   rw [c0, c1, ex.1, ex.2]
theorem cells_of_iface {P : Program} {w : World} {sp : Nat → Bool} {fuel : Nat} {t : TypeId} {ms : Array (String × TypeId)} {cs : List Value} {nm : String} {d : DataW Unit} {p : List MemPlace}
 (ht : P.underlying t = some (.interface ms)) (h : DataW.trod (fun _ => ()) P w 0 sp false fuel t cs = some (.iface nm d, p)) : ∃ u v, cs = [.iface u v] := by
 cases fuel with
 | zero => simp [DataW.trod] at h
 | succ n =>
   unfold DataW.trod at h
   rw [ht] at h
   split at h <;> simp_all
end Go.Eng
namespace Go.Eng
open Go.Proofs Go.Proofs.YthkgjhnckakliaaGreatDoor
section
variable {W : World} (h : laidMet Tryz.prog Rows.fnSetBackRow.laid W)
include h
theorem g_strs {n : String} {d : DataW Unit} {g : Nat} (ss : List (List UInt8)) (hm : (n, d) ∈ Rows.fnSetBackRow.laid) (hg : Tryz.prog.globalNamed n = some g) (ht : (Tryz.prog.globals[g]?).map (·.type) = some 215)
 (hd : d = .agg (ss.map fun s => .lit (.string s))) (hn : ss.length = 7) : ∃ rest e fz, W.heap[g]? = some (.cells (denL (fun i => (i, 0)) (ss.map AV.str) ++ rest).toArray e fz) := by
 obtain ⟨cs, fuel, p, e, fz, h1, h2⟩ := laid_cells h hm hg ht
 rw [hd] at h2
 have h3 := cells_of_strs (n := 7) (e := 9) (by kernel_rfl) (by kernel_rfl) (by kernel_rfl) (by kernel_rfl) hn h2
 refine ⟨[], e, fz, ?_⟩
 rw [h1, List.append_nil, denL_eq_map, List.map_map]
 congr 2
 rw [← Array.toArray_toList (xs := cs), h3]
 rfl
theorem g_day {n : String} {d : DataW Unit} {g : Nat} (a b : Int) (hm : (n, d) ∈ Rows.fnSetBackRow.laid) (hg : Tryz.prog.globalNamed n = some g) (ht : (Tryz.prog.globals[g]?).map (·.type) = some 142)
 (hd : d = .agg [.lit (.int .i64 a), .lit (.int .i64 b)]) : ∃ rest e fz, W.heap[g]? = some (.cells (denL (fun i => (i, 0)) [.int .i64 a, .int .i64 b] ++ rest).toArray e fz) := by
 obtain ⟨cs, fuel, p, e, fz, h1, h2⟩ := laid_cells h hm hg ht
 rw [hd] at h2
 have h3 := cells_of_day (f0 := ⟨ "weekday", 3, 0, false, "", "pub-ferial/pub/rrule", 0⟩) (f1 := ⟨ "n", 3, 1, false, "", "pub-ferial/pub/rrule", 8⟩) (k := 3) (by kernel_rfl) rfl rfl rfl rfl (by kernel_rfl) (by kernel_rfl) (by kernel_rfl) h2
 refine ⟨[], e, fz, ?_⟩
 rw [h1, ← Array.toArray_toList (xs := cs), h3]
 rfl
theorem g_tab {n : String} {d : DataW Unit} {g : Nat} {t e : TypeId} {m : Nat} {k : IntKind} (zs : List Int) (hm : (n, d) ∈ Rows.fnSetBackRow.laid) (hg : Tryz.prog.globalNamed n = some g) (ht : (Tryz.prog.globals[g]?).map (·.type) = some t)
 (ha : Tryz.prog.underlying t = some (.array m e)) (he : Tryz.prog.underlying e = some (.int k)) (hce : Tryz.prog.cellsOf e = 1) (hct : Tryz.prog.cellsOf t = m) (hd : d = Lib.tabData k zs) :
 ∃ e fz, W.heap[g]? = some (.cells (zs.map fun z => Value.int k z).toArray e fz) := by
 obtain ⟨cs, fuel, p, e, fz, h1, h2⟩ := laid_cells h hm hg ht
 rw [hd] at h2
 have h3 := Lib.cells_of_tab ha he hce hct h2
 refine ⟨e, fz, ?_⟩
 rw [h1, ← Array.toArray_toList (xs := cs), h3]
theorem g_err {n : String} {d d' : DataW Unit} {nm : String} {g : Nat} (hm : (n, d) ∈ Rows.fnSetBackRow.laid) (hg : Tryz.prog.globalNamed n = some g) (ht : (Tryz.prog.globals[g]?).map (·.type) = some 76)
 (hd : d = .iface nm d') : ∃ te pe e fz, W.heap[g]? = some (.cells #[.iface te pe] e fz) := by
 obtain ⟨cs, fuel, p, e, fz, h1, h2⟩ := laid_cells h hm hg ht
 rw [hd] at h2
 obtain ⟨u, v, h3⟩ := cells_of_iface Tryz.underlying76 h2
 refine ⟨u, v, e, fz, ?_⟩
 rw [h1, ← Array.toArray_toList (xs := cs), h3]
theorem gok (hs : 22 ≤ W.heap.size) : GOK C0.toCx W := by
 refine ⟨hs, ?_, ⟨?_, ?_, ?_, ?_⟩⟩
 · intro g cs hg
   have hmem : (g, cs) ∈ G0 := lk_mem hg
   simp only [G0, List.mem_cons, List.not_mem_nil, or_false] at hmem
   rcases hmem with e | e | e | e | e | e | e | e | e <;> cases e
   · exact g_strs h [[77, 79], [84, 85], [87, 69], [84, 72], [70, 82], [83, 65], [83, 85]] (List.mem_of_getElem? (i := 4) rfl) (by kernel_rfl) (by kernel_rfl) rfl rfl
   · exact g_strs h [[89, 69, 65, 82, 76, 89], [77, 79, 78, 84, 72, 76, 89], [87, 69, 69, 75, 76, 89], [68, 65, 73, 76, 89], [72, 79, 85, 82, 76, 89], [77, 73, 78, 85, 84, 69, 76, 89], [83, 69, 67, 79, 78, 68, 76, 89]] (List.mem_of_getElem? (i := 5) rfl) (by kernel_rfl) (by kernel_rfl) rfl rfl
   · exact g_day h 0 0 (List.mem_of_getElem? (i := 10) rfl) (by kernel_rfl) (by kernel_rfl) rfl
   · exact g_day h 1 0 (List.mem_of_getElem? (i := 11) rfl) (by kernel_rfl) (by kernel_rfl) rfl
   · exact g_day h 2 0 (List.mem_of_getElem? (i := 12) rfl) (by kernel_rfl) (by kernel_rfl) rfl
   · exact g_day h 3 0 (List.mem_of_getElem? (i := 13) rfl) (by kernel_rfl) (by kernel_rfl) rfl
   · exact g_day h 4 0 (List.mem_of_getElem? (i := 14) rfl) (by kernel_rfl) (by kernel_rfl) rfl
   · exact g_day h 5 0 (List.mem_of_getElem? (i := 15) rfl) (by kernel_rfl) (by kernel_rfl) rfl
   · exact g_day h 6 0 (List.mem_of_getElem? (i := 16) rfl) (by kernel_rfl) (by kernel_rfl) rfl
 · exact g_tab h (t := 242) (e := 5) (m := 256) Lib.asciiSpaceTab (List.mem_of_getElem? (i := 9) rfl) (by kernel_rfl) (by kernel_rfl) (by kernel_rfl) (by kernel_rfl) (by kernel_rfl) (by kernel_rfl) (by kernel_rfl)
 · exact g_tab h (t := 384) (e := 196) (m := 20) Lib.pow10Tab (List.mem_of_getElem? (i := 2) rfl) (by kernel_rfl) (by kernel_rfl) (by kernel_rfl) (by kernel_rfl) (by kernel_rfl) (by kernel_rfl) (by kernel_rfl)
 · exact g_err h (List.mem_of_getElem? (i := 7) rfl) (by kernel_rfl) (by kernel_rfl) rfl
 · exact g_err h (List.mem_of_getElem? (i := 6) rfl) (by kernel_rfl) (by kernel_rfl) rfl
end
end Go.Eng
namespace Go.Eng
section
variable {C : Cy} {E : En} {ops : Array Oper} {rest : List Oper} {nx : Nat} {tm : Tm} {hp : Hp} {Q : Po}
def tmSub (tm : Tm) : Tm → Prop
 | [] => True
 | (t, av) :: r => lk tm t = some av ∧ tmSub tm r
theorem tmSub_lk {tm : Tm} : ∀ {r : Tm}, tmSub tm r → ∀ t av, lk r t = some av → lk tm t = some av
 | [], _, t, av, h => by simp [lk] at h
 | (t', av') :: r, hs, t, av, h => by
   rw [lk_cons] at h
   split at h
   · rename_i e; subst e; cases h; exact hs.1
   · exact tmSub_lk hs.2 t av h
theorem wpList_mono1 {P : Program} {K K' : Exit → Act → World → Prop} (hk : ∀ e a w, K e a w → K' e a w) : ∀ {l : List Oper} {a : Act} {w : World}, wpList P ops K l a w → wpList P ops K' l a w
 | [], a, w, h => hk _ _ _ h
 | o :: l, a, w, h => by
   unfold wpList at h ⊢
   split
   · rename_i hw
     rw [if_pos hw] at h
     rcases h with h | ⟨hq, a', w', h⟩
     · exact .inl (Oper.wp_mono2 (fun a w h => wpList_mono1 hk h) (fun c a w h => hk _ _ _ h) (fun ⟨a, w, h⟩ => ⟨a, w, hk _ _ _ h⟩) h)
     · exact .inr ⟨hq, a', w', hk _ _ _ h⟩
   · rename_i hw
     rw [if_neg hw] at h
     exact wpList_mono1 hk h
theorem wpList_append {P : Program} {K : Exit → Act → World → Prop} : ∀ (l1 l2 : List Oper) (a : Act) (w : World),
 wpList P ops (fun e a w => e = .normal ∧ wpList P ops K l2 a w) l1 a w → (∀ c a w, ¬ (fun e (a : Act) (w : World) => e = Exit.normal ∧ wpList P ops K l2 a w) (.panic c) a w) → wpList P ops K (l1 ++ l2) a w
 | [], l2, a, w, h, _ => h.2
 | o :: l1, l2, a, w, h, hn => by
   rw [List.cons_append]
   unfold wpList at h ⊢
   split
   · rename_i hw
     rw [if_pos hw] at h
     rcases h with h | ⟨_, ⟨_, _, h, _⟩⟩
     · refine .inl (Oper.wp_mono2 (fun a w h => wpList_append l1 l2 a w h hn) ?_ ?_ h)
       · intro c a w h; cases h.1
       · rintro ⟨_, _, h, _⟩; cases h
     · cases h
   · rename_i hw
     rw [if_neg hw] at h
     exact wpList_append l1 l2 _ w h hn
theorem WL_join (k : Nat) (tm' : Tm) {l : List Oper}
 (h1 : WL C E ops (l.take k) nx tm hp (fun e nx' tm1 hp' => e = .normal ∧ nx' = nx ∧ hp' = hp ∧ tmSub tm1 tm'))
 (h2 : WL C E ops (l.drop k) nx tm' hp Q) : WL C E ops l nx tm hp Q := by
 intro ρ a w H
 rw [← List.take_append_drop k l]
 refine wpList_append _ _ _ _ (wpList_mono1 ?_ (h1 ρ a w H)) (fun c a w h => by cases h.1)
 rintro e a' w' ⟨ρ', nx', tm1, hp', H', he, rfl, rfl, hs⟩
 exact ⟨he, h2 ρ' a' w' (H'.tm_sub (tmSub_lk hs))⟩
end
end Go.Eng
namespace Go.Eng
inductive XV where
 | int (k : IntKind) (n : Int)
 | bool (b : Bool)
 | str (l : List UInt8)
 | v (x : Value)
 | ptr (id off : Nat)
 | sl (id n off len : Nat)
 | esl (id n off a : Nat)
 | agg (cs : List XV)
 | tup (vs : List XV)
 | fn (f : FuncId) (a b : List XV)
 | ifc (t : TypeId) (x : XV)
mutual
def XV.av (κ : Nat → Nat) : XV → AV
 | .int k n => .int k n
 | .bool b => .bool b
 | .str l => .str l
 | .v x => .v x
 | .ptr id off => .ptr id off
 | .sl id n off len => .sl false id n off len (κ id - off)
 | .esl id n off a => .sl false id n (if κ id - off = a then off else off + a) 0 (κ id - off - a)
 | .agg cs => .agg (avL κ cs)
 | .tup vs => .tup (avL κ vs)
 | .fn f a b => .fn (.func f) (avL κ a) (avL κ b)
 | .ifc t x => .ifc t (x.av κ)
def avL (κ : Nat → Nat) : List XV → List AV
 | [] => []
 | a :: l => a.av κ :: avL κ l
end
theorem avL_eq_map (κ : Nat → Nat) : ∀ l, avL κ l = l.map (XV.av κ)
 | [] => by simp only [avL, List.map_nil]
 | a :: l => by simp only [avL, List.map_cons, avL_eq_map κ l]
theorem avL_length (κ : Nat → Nat) (l : List XV) : (avL κ l).length = l.length := by simp [avL_eq_map]
theorem avL_append (κ : Nat → Nat) (l m : List XV) : avL κ (l ++ m) = avL κ l ++ avL κ m := by simp [avL_eq_map]
theorem avL_get (κ : Nat → Nat) (l : List XV) (i : Nat) : (avL κ l)[i]? = (l[i]?).map (XV.av κ) := by simp [avL_eq_map]
theorem avL_take (κ : Nat → Nat) (l : List XV) (i : Nat) : avL κ (l.take i) = (avL κ l).take i := by simp [avL_eq_map]
theorem avL_drop (κ : Nat → Nat) (l : List XV) (i : Nat) : avL κ (l.drop i) = (avL κ l).drop i := by simp [avL_eq_map]
mutual
theorem XV.av_congr {κ κ' : Nat → Nat} {n : Nat} (h : ∀ i, i < n → κ' i = κ i) : ∀ (x : XV), (x.av κ).lt n → x.av κ' = x.av κ
 | .int .., _ => rfl
 | .bool .., _ => rfl
 | .str .., _ => rfl
 | .v .., _ => rfl
 | .ptr .., _ => rfl
 | .sl id n off len, l => by simp only [XV.av, AV.lt] at l; simp only [XV.av, h id l]
 | .esl id n off len, l => by simp only [XV.av, AV.lt] at l; simp only [XV.av, h id l]
 | .agg cs, l => by simp only [XV.av, AV.lt] at l; simp only [XV.av, avL_congr h cs l]
 | .tup cs, l => by simp only [XV.av, AV.lt] at l; simp only [XV.av, avL_congr h cs l]
 | .fn f a b, l => by simp only [XV.av, AV.lt] at l; simp only [XV.av, avL_congr h a l.1, avL_congr h b l.2]
 | .ifc t x, l => by simp only [XV.av, AV.lt] at l; simp only [XV.av, XV.av_congr h x l]
theorem avL_congr {κ κ' : Nat → Nat} {n : Nat} (h : ∀ i, i < n → κ' i = κ i) : ∀ (l : List XV), ltL n (avL κ l) → avL κ' l = avL κ l
 | [], _ => rfl
 | a :: l, hl => by simp only [avL, ltL] at hl; simp only [avL, XV.av_congr h a hl.1, avL_congr h l hl.2]
end
structure XO where
 e : TypeId
 n : Nat
 c : Nat
 ex : Bool
 cs : List XV
def XO.ao (κ : Nat → Nat) (tt : Nat) (o : XO) : AO := .cells o.e (some tt) (avL κ o.cs)
def XO.ok (κ τ : Nat → Nat) (id : Nat) (o : XO) : Prop := (if o.ex = true then κ id = o.c else o.c ≤ κ id) ∧ κ id * o.n ≤ τ id
inductive TR (α : Type) where
 | nil
 | node (v : Option α) (l r : TR α)
def pth (n : Nat) : Nat → List Bool := Nat.rec (motive := fun _ => Nat → List Bool) (fun _ => []) (fun _ ih k => bif Nat.beq k 0 then [] else (Nat.beq (Nat.mod k 2) 1) :: ih (Nat.div (Nat.sub k 1) 2)) n
def path (k : Nat) : List Bool := pth k k
noncomputable def getP {α : Type} (p : List Bool) : TR α → Option α :=
 List.rec (motive := fun _ => TR α → Option α) (fun t => TR.casesOn (motive := fun _ => Option α) t none (fun v _ _ => v))
  (fun b _ ih t => TR.casesOn (motive := fun _ => Option α) t none (fun _ l r => Bool.casesOn (motive := fun _ => Option α) b (ih l) (ih r))) p
noncomputable def setP {α : Type} (v : α) (p : List Bool) : TR α → TR α :=
 List.rec (motive := fun _ => TR α → TR α) (fun t => TR.casesOn (motive := fun _ => TR α) t (.node (some v) .nil .nil) (fun _ l r => .node (some v) l r))
  (fun b _ ih t => TR.casesOn (motive := fun _ => TR α) t (Bool.casesOn (motive := fun _ => TR α) b (.node none (ih .nil) .nil) (.node none .nil (ih .nil)))
   (fun w l r => Bool.casesOn (motive := fun _ => TR α) b (.node w (ih l) r) (.node w l (ih r)))) p
noncomputable def delP {α : Type} (p : List Bool) : TR α → TR α :=
 List.rec (motive := fun _ => TR α → TR α) (fun t => TR.casesOn (motive := fun _ => TR α) t .nil (fun _ l r => .node none l r))
  (fun b _ ih t => TR.casesOn (motive := fun _ => TR α) t .nil (fun w l r => Bool.casesOn (motive := fun _ => TR α) b (.node w (ih l) r) (.node w l (ih r)))) p
noncomputable def TR.get {α : Type} (t : TR α) (k : Nat) : Option α := getP (path k) t
noncomputable def TR.set {α : Type} (t : TR α) (k : Nat) (v : α) : TR α := setP v (path k) t
noncomputable def TR.del {α : Type} (t : TR α) (k : Nat) : TR α := delP (path k) t
def valP : List Bool → Nat
 | [] => 0
 | b :: l => 2 * valP l + (if b then 1 else 2)
theorem valP_pth : ∀ n k, k ≤ n → valP (pth n k) = k
 | 0, k, h => by have : k = 0 := by omega
                 subst this; rfl
 | n + 1, k, h => by
   show valP (bif Nat.beq k 0 then [] else (Nat.beq (Nat.mod k 2) 1) :: pth n (Nat.div (Nat.sub k 1) 2)) = k
   cases hk : Nat.beq k 0
   · have hk0 : k ≠ 0 := fun e => by subst e; exact absurd hk (by decide)
     simp only [cond_false, valP]
     have e1 : Nat.sub k 1 = k - 1 := rfl
     have e2 : Nat.div (k - 1) 2 = (k - 1) / 2 := rfl
     have e3 : Nat.mod k 2 = k % 2 := rfl
     rw [e1, e2, e3, valP_pth n _ (by omega)]
     cases hb : Nat.beq (k % 2) 1
     · have : k % 2 ≠ 1 := fun e => by rw [e] at hb; exact absurd hb (by decide)
       simp only [Bool.false_eq_true, if_false]; omega
     · have := Nat.eq_of_beq_eq_true hb
       simp only [if_true]; omega
   · have := Nat.eq_of_beq_eq_true hk
     subst this; rfl
theorem path_inj {k j : Nat} (h : path k = path j) : k = j := by
 have h1 := valP_pth k k (Nat.le_refl _)
 have h2 := valP_pth j j (Nat.le_refl _)
 unfold path at h
 rw [← h1, ← h2, h]
theorem getP_nil {α : Type} (p : List Bool) : getP p (.nil : TR α) = none := by cases p <;> rfl
theorem getP_setP {α : Type} (v : α) : ∀ (p q : List Bool) (t : TR α), getP q (setP v p t) = if q = p then some v else getP q t
 | [], [], t => by cases t <;> rfl
 | [], b :: q, t => by cases t <;> cases b <;> first | rfl | exact getP_nil q
 | b :: p, [], t => by cases t <;> cases b <;> rfl
 | b :: p, c :: q, t => by
   cases t with
   | nil =>
     have := getP_setP v p q .nil
     rw [getP_nil] at this
     cases b <;> cases c
     · show getP q (setP v p .nil) = _; rw [this]; simp; split <;> first | rfl | exact (getP_nil _).symm
     · show getP q .nil = _; rw [getP_nil]; simp; rfl
     · show getP q .nil = _; rw [getP_nil]; simp; rfl
     · show getP q (setP v p .nil) = _; rw [this]; simp; split <;> first | rfl | exact (getP_nil _).symm
   | node w l r =>
     cases b <;> cases c
     · show getP q (setP v p l) = _; rw [getP_setP v p q l]; simp; rfl
     · show getP q r = _; simp; rfl
     · show getP q l = _; simp; rfl
     · show getP q (setP v p r) = _; rw [getP_setP v p q r]; simp; rfl
theorem getP_delP {α : Type} : ∀ (p q : List Bool) (t : TR α), getP q (delP p t) = if q = p then none else getP q t
 | [], [], t => by cases t <;> rfl
 | [], b :: q, t => by cases t <;> cases b <;> rfl
 | b :: p, [], t => by cases t <;> cases b <;> rfl
 | b :: p, c :: q, t => by
   cases t with
   | nil => show getP (c :: q) .nil = _; rw [getP_nil]; split <;> rfl
   | node w l r =>
     cases b <;> cases c
     · show getP q (delP p l) = _; rw [getP_delP p q l]; simp; rfl
     · show getP q r = _; simp; rfl
     · show getP q l = _; simp; rfl
     · show getP q (delP p r) = _; rw [getP_delP p q r]; simp; rfl
theorem TR.get_set {α : Type} (t : TR α) (k j : Nat) (v : α) : (t.set k v).get j = if j = k then some v else t.get j := by
 unfold TR.get TR.set
 rw [getP_setP]
 by_cases h : j = k
 · subst h; simp
 · rw [if_neg h, if_neg (fun e => h (path_inj e))]
theorem TR.get_del {α : Type} (t : TR α) (k j : Nat) : (t.del k).get j = if j = k then none else t.get j := by
 unfold TR.get TR.del
 rw [getP_delP]
 by_cases h : j = k
 · subst h; simp
 · rw [if_neg h, if_neg (fun e => h (path_inj e))]
theorem TR.get_nil {α : Type} (j : Nat) : (.nil : TR α).get j = none := getP_nil _
end Go.Eng
