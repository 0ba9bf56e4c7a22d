/- A part of the proof that the rows statement FnSetBack holds; no conditions. -/
import Derived.Calls
import Derived.Tactics
import Derived.Laws.Sem
import Derived.Laws.World
import Derived.Laws.Cells
import Derived.Laws.Rows
import Derived.Laws.Small
import Derived.Laws.Strings
set_option linter.unusedVariables false
set_option linter.unusedSimpArgs false
set_option linter.unusedSectionVars false
namespace Go.Eng
inductive AV where
 | int (k : IntKind) (n : Int)
 | bool (b : Bool)
 | str (l : List UInt8)
 | v (x : Value)
 | ptr (id off : Nat)
 | pix (id n i j : Nat)
 | sl (nl : Bool) (id n off len cap : Nat)
 | map (id : Nat)
 | agg (cs : List AV)
 | tup (vs : List AV)
 | fn (f : Fn) (first captured : List AV)
 | ifc (t : TypeId) (x : AV)
mutual
def AV.den (ρ : Nat → Nat × Nat) : AV → Value
 | .int k n => .int k n
 | .bool b => .bool b
 | .str l => .string ⟨l.toArray⟩
 | .v x => x
 | .ptr id off => .pointer (some ⟨(ρ id).1, (ρ id).2 + off, none⟩)
 | .pix id n i j => .pointer (some ⟨(ρ id).1, (ρ id).2 + (i * n + j), none⟩)
 | .sl nl id n off len cap => .slice (bif nl && Nat.beq cap 0 then none else some ⟨(ρ id).1, (ρ id).2 + off * n, none⟩) len cap
 | .map id => .map (some (ρ id).1)
 | .agg cs => .agg (denL ρ cs).toArray
 | .tup vs => .tuple (denL ρ vs).toArray
 | .fn f a b => .func f (denL ρ a).toArray (denL ρ b).toArray
 | .ifc t x => .iface t (x.den ρ)
def denL (ρ : Nat → Nat × Nat) : List AV → List Value
 | [] => []
 | a :: l => a.den ρ :: denL ρ l
end
mutual
def AV.lt (n : Nat) : AV → Prop
 | .ptr id _ => id < n
 | .pix id _ _ _ => id < n
 | .sl _ id _ _ _ _ => id < n
 | .map id => id < n
 | .agg cs => ltL n cs
 | .tup vs => ltL n vs
 | .fn _ a b => ltL n a ∧ ltL n b
 | .ifc _ x => x.lt n
 | _ => True
def ltL (n : Nat) : List AV → Prop
 | [] => True
 | a :: l => a.lt n ∧ ltL n l
end
mutual
def AV.ren (π : Nat → Nat) : AV → AV
 | .int k n => .int k n
 | .bool b => .bool b
 | .str l => .str l
 | .v x => .v x
 | .ptr id off => .ptr (π id) off
 | .pix id n i j => .pix (π id) n i j
 | .sl nl id n off len cap => .sl nl (π id) n off len cap
 | .map id => .map (π id)
 | .agg cs => .agg (renL π cs)
 | .tup vs => .tup (renL π vs)
 | .fn f a b => .fn f (renL π a) (renL π b)
 | .ifc t x => .ifc t (x.ren π)
def renL (π : Nat → Nat) : List AV → List AV
 | [] => []
 | a :: l => a.ren π :: renL π l
end
theorem denL_eq_map (ρ : Nat → Nat × Nat) : ∀ l, denL ρ l = l.map (AV.den ρ)
 | [] => by simp only [denL, List.map_nil]
 | a :: l => by simp only [denL, List.map_cons, denL_eq_map ρ l]
theorem ltL_iff (n : Nat) : ∀ l, ltL n l ↔ ∀ a ∈ l, a.lt n
 | [] => by simp [ltL]
 | a :: l => by simp [ltL, ltL_iff n l]
theorem renL_eq_map (π : Nat → Nat) : ∀ l, renL π l = l.map (AV.ren π)
 | [] => by simp only [renL, List.map_nil]
 | a :: l => by simp only [renL, List.map_cons, renL_eq_map π l]
theorem denL_length (ρ : Nat → Nat × Nat) (l : List AV) : (denL ρ l).length = l.length := by simp [denL_eq_map]
theorem denL_append (ρ : Nat → Nat × Nat) (l m : List AV) : denL ρ (l ++ m) = denL ρ l ++ denL ρ m := by simp [denL_eq_map]
theorem denL_get (ρ : Nat → Nat × Nat) (l : List AV) (i : Nat) : (denL ρ l)[i]? = (l[i]?).map (AV.den ρ) := by simp [denL_eq_map]
theorem ltL_append (n : Nat) (l m : List AV) : ltL n (l ++ m) ↔ ltL n l ∧ ltL n m := by
 simp only [ltL_iff, List.mem_append]
 constructor
 · intro h; exact ⟨fun a ha => h a (.inl ha), fun a ha => h a (.inr ha)⟩
 · rintro ⟨h1, h2⟩ a (ha | ha)
   · exact h1 a ha
   · exact h2 a ha
theorem ltL_get {n : Nat} {l : List AV} {i : Nat} {a : AV} (h : ltL n l) (hi : l[i]? = some a) : a.lt n :=
 (ltL_iff n l).1 h a (List.mem_of_getElem? hi)
mutual
theorem AV.den_congr {ρ ρ' : Nat → Nat × Nat} {n : Nat} (h : ∀ i, i < n → ρ' i = ρ i) : ∀ (a : AV), a.lt n → a.den ρ' = a.den ρ
 | .int .., _ => rfl
 | .bool .., _ => rfl
 | .str .., _ => rfl
 | .v .., _ => rfl
 | .ptr id off, l => by simp only [AV.lt] at l; simp only [AV.den, h id l]
 | .pix id n i j, l => by simp only [AV.lt] at l; simp only [AV.den, h id l]
 | .sl nl id n off len cap, l => by simp only [AV.lt] at l; simp only [AV.den, h id l]
 | .map id, l => by simp only [AV.lt] at l; simp only [AV.den, h id l]
 | .agg cs, l => by simp only [AV.lt] at l; simp only [AV.den, denL_congr h cs l]
 | .tup cs, l => by simp only [AV.lt] at l; simp only [AV.den, denL_congr h cs l]
 | .fn f a b, l => by simp only [AV.lt] at l; simp only [AV.den, denL_congr h a l.1, denL_congr h b l.2]
 | .ifc t x, l => by simp only [AV.lt] at l; simp only [AV.den, AV.den_congr h x l]
theorem denL_congr {ρ ρ' : Nat → Nat × Nat} {n : Nat} (h : ∀ i, i < n → ρ' i = ρ i) : ∀ (l : List AV), ltL n l → denL ρ' l = denL ρ l
 | [], _ => rfl
 | a :: l, hl => by simp only [ltL] at hl; simp only [denL, AV.den_congr h a hl.1, denL_congr h l hl.2]
end
mutual
theorem AV.den_ren (ρ : Nat → Nat × Nat) (π : Nat → Nat) : ∀ (a : AV), (a.ren π).den ρ = a.den (fun i => ρ (π i))
 | .int .. => rfl
 | .bool .. => rfl
 | .str .. => rfl
 | .v .. => rfl
 | .ptr .. => rfl
 | .pix .. => rfl
 | .sl .. => rfl
 | .map .. => rfl
 | .agg cs => by simp only [AV.den, AV.ren, denL_ren ρ π cs]
 | .tup cs => by simp only [AV.den, AV.ren, denL_ren ρ π cs]
 | .fn f a b => by simp only [AV.den, AV.ren, denL_ren ρ π a, denL_ren ρ π b]
 | .ifc t x => by simp only [AV.den, AV.ren, AV.den_ren ρ π x]
theorem denL_ren (ρ : Nat → Nat × Nat) (π : Nat → Nat) : ∀ (l : List AV), denL ρ (renL π l) = denL (fun i => ρ (π i)) l
 | [] => rfl
 | a :: l => by simp only [denL, renL, AV.den_ren ρ π a, denL_ren ρ π l]
end
mutual
theorem AV.lt_mono {n m : Nat} (h : n ≤ m) : ∀ (a : AV), a.lt n → a.lt m
 | .int .., _ => trivial
 | .bool .., _ => trivial
 | .str .., _ => trivial
 | .v .., _ => trivial
 | .ptr id _, l => by simp only [AV.lt] at *; omega
 | .pix id _ _ _, l => by simp only [AV.lt] at *; omega
 | .sl _ id _ _ _ _, l => by simp only [AV.lt] at *; omega
 | .map id, l => by simp only [AV.lt] at *; omega
 | .agg cs, l => by simp only [AV.lt] at *; exact ltL_mono h cs l
 | .tup cs, l => by simp only [AV.lt] at *; exact ltL_mono h cs l
 | .fn f a b, l => by simp only [AV.lt] at *; exact ⟨ltL_mono h a l.1, ltL_mono h b l.2⟩
 | .ifc t x, l => by simp only [AV.lt] at *; exact AV.lt_mono h x l
theorem ltL_mono {n m : Nat} (h : n ≤ m) : ∀ (l : List AV), ltL n l → ltL m l
 | [], _ => trivial
 | a :: l, hl => by simp only [ltL] at *; exact ⟨AV.lt_mono h a hl.1, ltL_mono h l hl.2⟩
end
mutual
theorem AV.lt_ren {n m : Nat} {π : Nat → Nat} (h : ∀ i, i < n → π i < m) : ∀ (a : AV), a.lt n → (a.ren π).lt m
 | .int .., _ => trivial
 | .bool .., _ => trivial
 | .str .., _ => trivial
 | .v .., _ => trivial
 | .ptr id _, l => h _ l
 | .pix id _ _ _, l => h _ l
 | .sl _ id _ _ _ _, l => h _ l
 | .map id, l => h _ l
 | .agg cs, l => ltL_ren h cs l
 | .tup cs, l => ltL_ren h cs l
 | .fn f a b, l => ⟨ltL_ren h a l.1, ltL_ren h b l.2⟩
 | .ifc t x, l => AV.lt_ren h x l
theorem ltL_ren {n m : Nat} {π : Nat → Nat} (h : ∀ i, i < n → π i < m) : ∀ (l : List AV), ltL n l → ltL m (renL π l)
 | [], _ => trivial
 | a :: l, hl => ⟨AV.lt_ren h a hl.1, ltL_ren h l hl.2⟩
end
inductive CK where
 | int (k : IntKind)
 | bool
def CK.av : CK → Int → AV
 | .int k, n => .int k n
 | .bool, n => .bool (n != 0)
def rowA : List CK → List Int → List AV
 | [], _ => []
 | k :: ks, r => k.av (r.headD 0) :: rowA ks r.tail
inductive AO where
 | cells (e : TypeId) (m : Option Nat) (cs : List AV)
 | ints (e : TypeId) (m : Option Nat) (k : IntKind) (xs : List Int)
 | strs (e : TypeId) (m : Option Nat) (xs : List (List UInt8))
 | recs (e : TypeId) (m : Option Nat) (ks : List CK) (xs : List (List Int))
 | iter (s : List UInt8) (pos : Nat)
 | smap (es : List (List UInt8 × Value))
 | dead
def AO.avs : AO → List AV
 | .cells _ _ cs => cs
 | .ints _ _ k xs => xs.map (.int k)
 | .strs _ _ xs => xs.map .str
 | .recs _ _ ks xs => xs.flatMap (rowA ks)
 | .iter _ _ => []
 | .smap _ => []
 | .dead => []
def AO.elem : AO → TypeId
 | .cells e _ _ | .ints e _ _ _ | .strs e _ _ | .recs e _ _ _ => e
 | .iter _ _ | .smap _ | .dead => 0
def AO.tot : AO → Option Nat
 | .cells _ m _ | .ints _ m _ _ | .strs _ m _ | .recs _ m _ _ => m
 | .iter _ _ => some 0
 | .smap _ => some 0
 | .dead => none
def AO.mut (o : AO) : Bool := o.tot.isSome
def AO.live : AO → Bool
 | .dead => false
 | _ => true
def AO.ren (π : Nat → Nat) : AO → AO
 | .cells e m cs => .cells e m (renL π cs)
 | o => o
def unfz (fz : Nat × Nat) (n : Nat) : Prop := ∀ i, i < n → ¬ (fz.1 ≤ i ∧ i < fz.2)
theorem unfz_zero (n : Nat) : unfz (0, 0) n := by intro i _ h; simp at h
def AO.is (ρ : Nat → Nat × Nat) (β : Nat) : AO → Option Obj → Prop
 | .iter s pos, o => β = 0 ∧ o = some (.stringIter ⟨s.toArray⟩ pos)
 | .smap es, o => ∃ arr clock, o = some (.map arr clock) ∧ arr.toList.map (fun e => (e.key, e.val)) = es.map (fun p => (Value.string ⟨p.1.toArray⟩, p.2))
 | .dead, _ => True
 | a, o => (a.tot = none ∧ a.avs = []) ∨ ∃ pre rest fz e, o = some (.cells (pre ++ (denL ρ a.avs ++ rest)).toArray e fz) ∧ pre.length = β ∧ (∀ k, a.tot = some k → β = 0 ∧ (denL ρ a.avs ++ rest).length = k ∧ unfz fz k ∧ e = a.elem)
theorem rowA_lt (n : Nat) : ∀ ks r, ltL n (rowA ks r)
 | [], _ => trivial
 | k :: ks, r => ⟨by cases k <;> trivial, rowA_lt n ks r.tail⟩
theorem rowA_length : ∀ ks r, (rowA ks r).length = ks.length
 | [], _ => rfl
 | k :: ks, r => by simp [rowA, rowA_length ks]
theorem rowA_ren (π : Nat → Nat) : ∀ ks r, renL π (rowA ks r) = rowA ks r
 | [], _ => rfl
 | k :: ks, r => by simp only [rowA, renL, rowA_ren π ks]; cases k <;> rfl
def AO.lt (n : Nat) (o : AO) : Prop := ltL n o.avs
theorem AO.avs_ren (π : Nat → Nat) : ∀ (o : AO), (o.ren π).avs = renL π o.avs
 | .cells .. => rfl
 | .ints e m k xs => by simp only [AO.ren, AO.avs, renL_eq_map, List.map_map]; rfl
 | .strs e m xs => by simp only [AO.ren, AO.avs, renL_eq_map, List.map_map]; rfl
 | .recs e m ks xs => by
  simp only [AO.ren, AO.avs, renL_eq_map, List.map_flatMap]
  congr; funext r; rw [← renL_eq_map, rowA_ren]
 | .iter .. => rfl
 | .smap .. => rfl
 | .dead => rfl
theorem AO.mut_ren (π : Nat → Nat) (o : AO) : (o.ren π).mut = o.mut := by cases o <;> rfl
theorem AO.live_ren (π : Nat → Nat) (o : AO) : (o.ren π).live = o.live := by cases o <;> rfl
theorem AO.lt_ren {n m : Nat} {π : Nat → Nat} (h : ∀ i, i < n → π i < m) (o : AO) (l : o.lt n) : (o.ren π).lt m := by
 unfold AO.lt at *; rw [AO.avs_ren]; exact ltL_ren h _ l
theorem AO.lt_mono {n m : Nat} (h : n ≤ m) (o : AO) (l : o.lt n) : o.lt m := ltL_mono h _ l
theorem ints_lt (n : Nat) (k : IntKind) (xs : List Int) : ltL n (xs.map (AV.int k)) := by rw [ltL_iff]; intro a h; obtain ⟨x, _, rfl⟩ := List.mem_map.1 h; trivial
theorem strs_lt (n : Nat) (xs : List (List UInt8)) : ltL n (xs.map AV.str) := by rw [ltL_iff]; intro a h; obtain ⟨x, _, rfl⟩ := List.mem_map.1 h; trivial
theorem recs_lt (n : Nat) (ks : List CK) (xs : List (List Int)) : ltL n (xs.flatMap (rowA ks)) := by
 rw [ltL_iff]; intro a h; obtain ⟨r, _, h⟩ := List.mem_flatMap.1 h; exact (ltL_iff n _).1 (rowA_lt n ks r) a h
theorem renL_nil (π : Nat → Nat) (l : List AV) : renL π l = [] ↔ l = [] := by cases l <;> simp [renL]
theorem AO.is_ren (ρ : Nat → Nat × Nat) (π : Nat → Nat) (β : Nat) (o : AO) (b : Option Obj) : (o.ren π).is ρ β b ↔ o.is (fun i => ρ (π i)) β b := by
 cases o <;> simp only [AO.ren, AO.is, AO.avs, AO.elem, AO.tot, denL_ren, renL_nil]
 case ints => rw [denL_congr (ρ := ρ) (ρ' := fun i => ρ (π i)) (n := 0) (fun i h => absurd h (Nat.not_lt_zero _)) _ (ints_lt 0 _ _)]
 case strs => rw [denL_congr (ρ := ρ) (ρ' := fun i => ρ (π i)) (n := 0) (fun i h => absurd h (Nat.not_lt_zero _)) _ (strs_lt 0 _)]
 case recs => rw [denL_congr (ρ := ρ) (ρ' := fun i => ρ (π i)) (n := 0) (fun i h => absurd h (Nat.not_lt_zero _)) _ (recs_lt 0 _ _)]
theorem AO.is_congr {ρ ρ' : Nat → Nat × Nat} {n : Nat} (h : ∀ i, i < n → ρ' i = ρ i) (o : AO) (l : o.lt n) (β : Nat) (b : Option Obj) : o.is ρ' β b ↔ o.is ρ β b := by
 unfold AO.lt at l
 cases o <;> simp only [AO.is, iff_self]
 all_goals rw [denL_congr h _ l]
theorem nlz {nl : Bool} {c : Nat} (h : 0 < c) : (nl && Nat.beq c 0) = false := by
 cases c with
 | zero => omega
 | succ c => cases nl <;> rfl
def lk {α : Type} : List (Nat × α) → Nat → Option α
 | [], _ => none
 | (j, x) :: l, i => bif Nat.beq j i then some x else lk l i
theorem lk_hit {α : Type} (l : List (Nat × α)) (i : Nat) (x : α) : lk ((i, x) :: l) i = some x := by simp [lk]
theorem lk_miss {α : Type} (l : List (Nat × α)) {i j : Nat} (x : α) (h : j ≠ i) : lk ((j, x) :: l) i = lk l i := by
 have : Nat.beq j i = false := by
  cases h' : Nat.beq j i
  · rfl
  · exact absurd (Nat.eq_of_beq_eq_true h') h
 simp [lk, this]
theorem lk_cons {α : Type} (l : List (Nat × α)) (i j : Nat) (x : α) : lk ((j, x) :: l) i = if j = i then some x else lk l i := by
 by_cases h : j = i
 · subst h; simp [lk_hit]
 · rw [lk_miss l x h, if_neg h]
abbrev Tm := List (Nat × AV)
abbrev Hp := List (Nat × AO)
structure TS where
 desc : TypeDesc
 size : Nat
 bytes : Nat
 zero : Option Value
def TOK (P : Program) (t : TypeId) (s : TS) : Prop :=
 P.underlying t = some s.desc ∧ ∃ i, P.info? t = some i ∧ i.size = s.size ∧ i.bytes = s.bytes ∧ i.zero = s.zero
structure Cx where
 P : Program
 ti : TypeId → Option TS
 tiok : ∀ t s, ti t = some s → TOK P t s
 G : List (Nat × List AV)
 glt : ∀ g cs, lk G g = some cs → ltL 0 cs
 ng : Nat
 gng : ∀ g cs, lk G g = some cs → g < ng
 gfix : (Nat → Option Obj) → Prop
 gfixok : ∀ h h' : Nat → Option Obj, (∀ g, g < ng → h' g = h g) → gfix h → gfix h'
def GOK (C : Cx) (w : World) : Prop :=
 C.ng ≤ w.heap.size ∧ (∀ g cs, lk C.G g = some cs → ∃ rest e fz, w.heap[g]? = some (.cells (denL (fun i => (i, 0)) cs ++ rest).toArray e fz)) ∧ C.gfix (fun g => w.heap[g]?)
theorem GOK.keep {C : Cx} {w w' : World} (h : GOK C w) (hs : w.heap.size ≤ w'.heap.size) (hk : ∀ g, g < C.ng → w'.heap[g]? = w.heap[g]?) : GOK C w' := by
 refine ⟨Nat.le_trans h.1 hs, fun g cs hg => ?_, C.gfixok _ _ (fun g hg => hk g hg) h.2.2⟩
 obtain ⟨rest, e, fz, hb⟩ := h.2.1 g cs hg
 exact ⟨rest, e, fz, by rw [hk g (C.gng g cs hg)]; exact hb⟩
structure En where
 w0 : World
 S : Nat → Prop
 T : Nat → Prop
 n0 : Nat
 ρ0 : Nat → Nat × Nat
 nt : Nat
structure HR (C : Cx) (ρ : Nat → Nat × Nat) (nx : Nat) (hp : Hp) (w : World) : Prop where
 objs : ∀ id o, lk hp id = some o → id < nx ∧ o.lt nx ∧ o.is ρ (ρ id).2 w.heap[(ρ id).1]?
 bound : ∀ id o, lk hp id = some o → o.live = true → (ρ id).1 < w.heap.size
 sep : ∀ id o id' o', lk hp id = some o → lk hp id' = some o' → o.mut = true → o'.live = true → id ≠ id' → (ρ id).1 ≠ (ρ id').1
 apart : ∀ id o, lk hp id = some o → o.mut = true → C.ng ≤ (ρ id).1
 glob : GOK C w
structure FR (S T : Nat → Prop) (hp : Hp) (ρ : Nat → Nat × Nat) (w0 w : World) : Prop where
 frame : ∀ b, b < w0.heap.size → ¬ S b → w.heap[b]? = w0.heap[b]?
 own : ∀ id o, lk hp id = some o → o.mut = true → S (ρ id).1 ∨ w0.heap.size ≤ (ρ id).1
 own2 : ∀ id o, lk hp id = some o → o.live = true → T (ρ id).1 ∨ w0.heap.size ≤ (ρ id).1
 hsize : w0.heap.size ≤ w.heap.size
 tape : w.tape = w0.tape
 os : w.os = w0.os
 output : w.output = w0.output
structure ST (C : Cx) (E : En) (ρ : Nat → Nat × Nat) (nx : Nat) (tm : Tm) (hp : Hp) (a : Act) (w : World) : Prop where
 defers : a.defers = []
 size : a.tmps.size = E.nt
 tmps : ∀ t av, lk tm t = some av → av.lt nx ∧ a.tmps[t]? = some (av.den ρ)
 heap : HR C ρ nx hp w
 fr : FR E.S (fun b => E.T b ∨ b < C.ng) hp ρ E.w0 w
 n0 : E.n0 ≤ nx
 agree : ∀ i, i < E.n0 → ρ i = E.ρ0 i
end Go.Eng
namespace Go.Eng
def upd (ρ : Nat → Nat × Nat) (n b : Nat) : Nat → Nat × Nat := fun i => if i = n then (b, 0) else ρ i
theorem upd_lt (ρ : Nat → Nat × Nat) (n b i : Nat) (h : i < n) : upd ρ n b i = ρ i := by unfold upd; rw [if_neg (by omega)]
theorem upd_same (ρ : Nat → Nat × Nat) (n b : Nat) : upd ρ n b n = (b, 0) := by unfold upd; rw [if_pos rfl]
theorem AO.is_cells {ρ : Nat → Nat × Nat} {β : Nat} {o : AO} {b : Option Obj} (h : o.is ρ β b) (hne : o.avs ≠ []) :
 ∃ pre rest fz e, b = some (.cells (pre ++ (denL ρ o.avs ++ rest)).toArray e fz) ∧ pre.length = β ∧ (∀ k, o.tot = some k → β = 0 ∧ (denL ρ o.avs ++ rest).length = k ∧ unfz fz k ∧ e = o.elem) := by
 cases o <;> simp only [AO.is, AO.avs, ne_eq, not_true_eq_false] at *
 all_goals exact h.resolve_left fun h' => hne h'.2
theorem cell?_cells {w : World} {b i : Nat} {c : Array Value} {e : TypeId} {fz : Nat × Nat} (h : w.heap[b]? = some (.cells c e fz)) : w.cell? ⟨b, i, none⟩ = c[i]? := by
 simp [World.cell?, h]
theorem HR.cell {C : Cx} {ρ : Nat → Nat × Nat} {nx : Nat} {hp : Hp} {w : World} (H : HR C ρ nx hp w) {id i : Nat} {o : AO} {av : AV}
 (ho : lk hp id = some o) (hi : o.avs[i]? = some av) : w.cell? ⟨(ρ id).1, (ρ id).2 + i, none⟩ = some (av.den ρ) ∧ av.lt nx := by
 obtain ⟨h1, h2, h3⟩ := H.objs id o ho
 obtain ⟨pre, rest, fz, e, hb, hpre, _⟩ := AO.is_cells h3 (by intro e; rw [e] at hi; cases hi)
 refine ⟨?_, ltL_get h2 hi⟩
 rw [cell?_cells hb]
 have : i < (denL ρ o.avs).length := by
  rw [denL_length]
  rcases Nat.lt_or_ge i o.avs.length with h | h
  · exact h
  · rw [List.getElem?_eq_none h] at hi; cases hi
 rw [List.getElem?_toArray, ← hpre, List.getElem?_append_right (by omega), Nat.add_sub_cancel_left]
 simp only [List.getElem?_append_left this, denL_get, hi, Option.map_some]
theorem HR.gcell {C : Cx} {ρ : Nat → Nat × Nat} {nx : Nat} {hp : Hp} {w : World} (H : HR C ρ nx hp w) {g i : Nat} {cs : List AV} {av : AV}
 (ho : lk C.G g = some cs) (hi : cs[i]? = some av) : w.cell? ⟨g, i, none⟩ = some (av.den ρ) ∧ av.lt nx := by
 obtain ⟨rest, e, fz, hb⟩ := H.glob.2.1 g cs ho
 have hl := C.glt g cs ho
 refine ⟨?_, AV.lt_mono (Nat.zero_le _) _ (ltL_get hl hi)⟩
 rw [cell?_cells hb]
 have : i < (denL (fun i => (i, 0)) cs).length := by
  rw [denL_length]
  rcases Nat.lt_or_ge i cs.length with h | h
  · exact h
  · rw [List.getElem?_eq_none h] at hi; cases hi
 simp only [List.getElem?_toArray, List.getElem?_append_left this, denL_get, hi, Option.map_some]
 exact congrArg some (AV.den_congr (n := 0) (fun i h => absurd h (Nat.not_lt_zero _)) _ (ltL_get hl hi))
theorem HR.drew {C : Cx} {ρ : Nat → Nat × Nat} {nx : Nat} {hp : Hp} {w : World} (H : HR C ρ nx hp w) : HR C ρ nx hp w.drew :=
 ⟨H.objs, H.bound, H.sep, H.apart, H.glob⟩
theorem FR.drew {S T : Nat → Prop} {hp : Hp} {ρ : Nat → Nat × Nat} {w0 w : World} (H : FR S T hp ρ w0 w) : FR S T hp ρ w0 w.drew :=
 ⟨H.frame, H.own, H.own2, H.hsize, H.tape, H.os, H.output⟩
theorem ST.drew {C : Cx} {E : En} {ρ : Nat → Nat × Nat} {nx : Nat} {tm : Tm} {hp : Hp} {a : Act} {w : World} (H : ST C E ρ nx tm hp a w) : ST C E ρ nx tm hp a w.drew :=
 ⟨H.defers, H.size, H.tmps, H.heap.drew, H.fr.drew, H.n0, H.agree⟩
theorem ST.put {C : Cx} {E : En} {ρ : Nat → Nat × Nat} {nx : Nat} {tm : Tm} {hp : Hp} {a : Act} {w : World} (H : ST C E ρ nx tm hp a w) {d : Nat} {av : AV}
 (hd : d < E.nt) (hl : av.lt nx) : ST C E ρ nx ((d, av) :: tm) hp (a.put (some d) (av.den ρ)) w := by
 refine ⟨H.defers, by simp [Act.put, H.size], ?_, H.heap, H.fr, H.n0, H.agree⟩
 intro t bv h
 rw [lk_cons] at h
 split at h
 · rename_i e; subst e; cases h
   refine ⟨hl, ?_⟩
   simp [Act.put, H.size, hd]
 · rename_i e
   obtain ⟨h1, h2⟩ := H.tmps t bv h
   refine ⟨h1, ?_⟩
   simp only [Act.put]
   rw [Array.getElem?_setIfInBounds_ne (by omega)]; exact h2
theorem ST.tm_sub {C : Cx} {E : En} {ρ : Nat → Nat × Nat} {nx : Nat} {tm tm' : Tm} {hp : Hp} {a : Act} {w : World} (H : ST C E ρ nx tm hp a w)
 (h : ∀ t av, lk tm' t = some av → lk tm t = some av) : ST C E ρ nx tm' hp a w :=
 ⟨H.defers, H.size, fun t av ht => H.tmps t av (h t av ht), H.heap, H.fr, H.n0, H.agree⟩
theorem HR.lt_size {C : Cx} {ρ : Nat → Nat × Nat} {nx : Nat} {hp : Hp} {w : World} (H : HR C ρ nx hp w) {id : Nat} {o : AO} (ho : lk hp id = some o) (hl : o.live = true) : (ρ id).1 < w.heap.size := H.bound id o ho hl
theorem HR.alloc {C : Cx} {ρ : Nat → Nat × Nat} {nx : Nat} {hp : Hp} {w : World} (H : HR C ρ nx hp w) {o : AO} {ob : Obj}
 (hl : o.lt nx) (hi : o.is ρ 0 (some ob)) : HR C (upd ρ nx w.heap.size) (nx + 1) ((nx, o) :: hp) (w.alloc ob) := by
 have hc : ∀ i, i < nx → upd ρ nx w.heap.size i = ρ i := fun i h => upd_lt ρ nx _ i h
 refine ⟨?_, ?_, ?_, ?_, ?_⟩
 · intro id o' h
   rw [lk_cons] at h
   split at h
   · rename_i e; subst e; cases h
     refine ⟨by omega, AO.lt_mono (by omega) _ hl, ?_⟩
     rw [upd_same, heap_alloc_new, AO.is_congr hc _ hl]; exact hi
   · obtain ⟨h1, h2, h3⟩ := H.objs id o' h
     refine ⟨by omega, AO.lt_mono (by omega) _ h2, ?_⟩
     rw [hc id h1, AO.is_congr hc _ h2]
     by_cases hlv : o'.live = true
     · rw [heap_alloc_old _ _ _ (H.bound id o' h hlv)]; exact h3
     · cases o' <;> simp only [AO.live, not_true_eq_false, reduceCtorEq] at hlv
       trivial
 · intro id o' h hlv
   rw [lk_cons] at h
   rw [World.size_alloc]
   split at h
   · rename_i e; subst e; rw [upd_same]; omega
   · rw [hc id (H.objs id o' h).1]; have := H.bound id o' h hlv; omega
 · intro id o1 id' o2 h1 h2 hm hv hne
   rw [lk_cons] at h1 h2
   split at h1 <;> split at h2
   · rename_i e e'; omega
   · rename_i e e'; subst e
     rw [upd_same, hc id' (H.objs id' o2 h2).1]
     have := H.bound id' o2 h2 hv; omega
   · rename_i e e'; subst e'
     rw [upd_same, hc id (H.objs id o1 h1).1]
     have := H.bound id o1 h1 (by cases o1 <;> first | rfl | (simp only [AO.mut, AO.tot] at hm; cases hm)); omega
   · rw [hc id (H.objs id o1 h1).1, hc id' (H.objs id' o2 h2).1]; exact H.sep id o1 id' o2 h1 h2 hm hv hne
 · intro id o' h hm
   rw [lk_cons] at h
   split at h
   · rename_i e; subst e; rw [upd_same]; exact H.glob.1
   · rw [hc id (H.objs id o' h).1]; exact H.apart id o' h hm
 · refine H.glob.keep (by rw [World.size_alloc]; omega) fun g hg => ?_
   rw [heap_alloc_old _ _ _ (by have := H.glob.1; omega)]
theorem FR.alloc {S T : Nat → Prop} {hp : Hp} {ρ : Nat → Nat × Nat} {w0 w : World} (H : FR S T hp ρ w0 w) {nx : Nat} (o : AO) (ob : Obj)
 (hn : ∀ id o, lk hp id = some o → id < nx) : FR S T ((nx, o) :: hp) (upd ρ nx w.heap.size) w0 (w.alloc ob) := by
 refine ⟨?_, ?_, ?_, by rw [World.size_alloc]; have := H.hsize; omega, H.tape, H.os, H.output⟩
 · intro b hb hs
   rw [heap_alloc_old _ _ _ (by have := H.hsize; omega)]; exact H.frame b hb hs
 · intro id o' h hm
   rw [lk_cons] at h
   split at h
   · rename_i e; subst e; rw [upd_same]; exact .inr H.hsize
   · rw [upd_lt _ _ _ _ (hn id o' h)]; exact H.own id o' h hm
 · intro id o' h hm
   rw [lk_cons] at h
   split at h
   · rename_i e; subst e; rw [upd_same]; exact .inr H.hsize
   · rw [upd_lt _ _ _ _ (hn id o' h)]; exact H.own2 id o' h hm
theorem ST.alloc {C : Cx} {E : En} {ρ : Nat → Nat × Nat} {nx : Nat} {tm : Tm} {hp : Hp} {a : Act} {w : World} (H : ST C E ρ nx tm hp a w) {o : AO} {ob : Obj}
 (hl : o.lt nx) (hi : o.is ρ 0 (some ob)) : ST C E (upd ρ nx w.heap.size) (nx + 1) tm ((nx, o) :: hp) a (w.alloc ob) := by
 have hc : ∀ i, i < nx → upd ρ nx w.heap.size i = ρ i := fun i h => upd_lt ρ nx _ i h
 refine ⟨H.defers, H.size, ?_, H.heap.alloc hl hi, H.fr.alloc _ _ (fun id o h => (H.heap.objs id o h).1), by have := H.n0; omega, ?_⟩
 · intro t av h
   obtain ⟨h1, h2⟩ := H.tmps t av h
   exact ⟨AV.lt_mono (by omega) _ h1, by rw [AV.den_congr hc _ h1]; exact h2⟩
 · intro i h; rw [hc i (by have := H.n0; omega)]; exact H.agree i h
theorem HR.set {C : Cx} {ρ : Nat → Nat × Nat} {nx : Nat} {hp : Hp} {w w' : World} (H : HR C ρ nx hp w) {id : Nat} {o o' : AO}
 (ho : lk hp id = some o) (hm : o.mut = true) (hl : o'.lt nx) (hi : o'.is ρ (ρ id).2 w'.heap[(ρ id).1]?)
 (hs : w'.heap.size = w.heap.size) (hk : ∀ b, b ≠ (ρ id).1 → w'.heap[b]? = w.heap[b]?) : HR C ρ nx ((id, o') :: hp) w' := by
 have hlive : o.live = true := by cases o <;> first | rfl | (simp only [AO.mut, AO.tot] at hm; cases hm)
 refine ⟨?_, ?_, ?_, ?_, ?_⟩
 · intro i p h
   rw [lk_cons] at h
   split at h
   · rename_i e; subst e; cases h
     exact ⟨(H.objs _ _ ho).1, hl, hi⟩
   · rename_i e
     obtain ⟨h1, h2, h3⟩ := H.objs i p h
     refine ⟨h1, h2, ?_⟩
     by_cases hv : p.live = true
     · rw [hk _ (H.sep id o i p ho h hm hv e).symm]; exact h3
     · cases p <;> simp only [AO.live, not_true_eq_false, reduceCtorEq] at hv
       trivial
 · intro i p h hv
   rw [hs]
   rw [lk_cons] at h
   split at h
   · rename_i e; subst e; exact H.bound _ _ ho hlive
   · exact H.bound i p h hv
 · intro i p j q h1 h2 hm' hv hne
   rw [lk_cons] at h1 h2
   split at h1 <;> split at h2
   · rename_i e e'; omega
   · rename_i e e'; subst e; exact H.sep id o j q ho h2 hm hv hne
   · rename_i e e'; subst e'; exact H.sep i p id o h1 ho hm' hlive hne
   · exact H.sep i p j q h1 h2 hm' hv hne
 · intro i p h hm'
   rw [lk_cons] at h
   split at h
   · rename_i e; subst e; exact H.apart _ _ ho hm
   · exact H.apart i p h hm'
 · refine H.glob.keep (by omega) fun g hg => ?_
   rw [hk _ (by have := H.apart id o ho hm; omega)]
theorem FR.set {S T : Nat → Prop} {hp : Hp} {ρ : Nat → Nat × Nat} {w0 w w' : World} (H : FR S T hp ρ w0 w) {id : Nat} {o o' : AO}
 (ho : lk hp id = some o) (hm : o.mut = true)
 (hs : w'.heap.size = w.heap.size) (hk : ∀ b, b ≠ (ρ id).1 → w'.heap[b]? = w.heap[b]?) (ht : w'.tape = w.tape) (hos : w'.os = w.os) (hout : w'.output = w.output) :
 FR S T ((id, o') :: hp) ρ w0 w' := by
 have hlive : o.live = true := by cases o <;> first | rfl | (simp only [AO.mut, AO.tot] at hm; cases hm)
 refine ⟨?_, ?_, ?_, by rw [hs]; exact H.hsize, ht.trans H.tape, hos.trans H.os, hout.trans H.output⟩
 · intro b hb hS
   have hne : b ≠ (ρ id).1 := by
    intro e; subst e
    rcases H.own id o ho hm with h | h
    · exact hS h
    · omega
   rw [hk b hne]
   exact H.frame b hb hS
 · intro i p h hm'
   rw [lk_cons] at h
   split at h
   · rename_i e; subst e; exact H.own _ _ ho hm
   · exact H.own i p h hm'
 · intro i p h hm'
   rw [lk_cons] at h
   split at h
   · rename_i e; subst e; exact H.own2 _ _ ho hlive
   · exact H.own2 i p h hm'
theorem ST.set {C : Cx} {E : En} {ρ : Nat → Nat × Nat} {nx : Nat} {tm : Tm} {hp : Hp} {a : Act} {w w' : World} (H : ST C E ρ nx tm hp a w) {id : Nat} {o o' : AO}
 (ho : lk hp id = some o) (hm : o.mut = true) (hl : o'.lt nx) (hi : o'.is ρ (ρ id).2 w'.heap[(ρ id).1]?)
 (hs : w'.heap.size = w.heap.size) (hk : ∀ b, b ≠ (ρ id).1 → w'.heap[b]? = w.heap[b]?) (ht : w'.tape = w.tape) (hos : w'.os = w.os) (hout : w'.output = w.output) :
 ST C E ρ nx tm ((id, o') :: hp) a w' :=
 ⟨H.defers, H.size, H.tmps, H.heap.set ho hm hl hi hs hk, H.fr.set ho hm hs hk ht hos hout, H.n0, H.agree⟩
theorem ST.drop {C : Cx} {E : En} {ρ : Nat → Nat × Nat} {nx : Nat} {tm : Tm} {hp hp' : Hp} {a : Act} {w : World} (H : ST C E ρ nx tm hp a w)
 (h : ∀ id o, lk hp' id = some o → o = .dead ∧ id < nx ∨ lk hp id = some o) : ST C E ρ nx tm hp' a w := by
 refine ⟨H.defers, H.size, H.tmps, ⟨?_, ?_, ?_, ?_, H.heap.glob⟩, ⟨H.fr.frame, ?_, ?_, H.fr.hsize, H.fr.tape, H.fr.os, H.fr.output⟩, H.n0, H.agree⟩
 · intro id o ho
   rcases h id o ho with ⟨rfl, hlt⟩ | h'
   · exact ⟨hlt, trivial, trivial⟩
   · exact H.heap.objs id o h'
 · intro id o ho hl
   rcases h id o ho with ⟨rfl, hlt⟩ | h'
   · cases hl
   · exact H.heap.bound id o h' hl
 · intro i o j p h1 h2 hm hv hne
   rcases h i o h1 with ⟨rfl, hlt⟩ | h1'
   · cases hm
   rcases h j p h2 with ⟨rfl, hlt⟩ | h2'
   · cases hv
   exact H.heap.sep i o j p h1' h2' hm hv hne
 · intro i o h1 hm
   rcases h i o h1 with ⟨rfl, hlt⟩ | h1'
   · cases hm
   exact H.heap.apart i o h1' hm
 · intro i o h1 hm
   rcases h i o h1 with ⟨rfl, hlt⟩ | h1'
   · cases hm
   exact H.fr.own i o h1' hm
 · intro i o h1 hm
   rcases h i o h1 with ⟨rfl, hlt⟩ | h1'
   · cases hm
   exact H.fr.own2 i o h1' hm
end Go.Eng
namespace Go.Eng
def abs1 : Value → AV
 | .int k n => .int k n
 | .bool b => .bool b
 | .string s => .str s.data.toList
 | x => .v x
def absV : Value → AV
 | .int k n => .int k n
 | .bool b => .bool b
 | .string s => .str s.data.toList
 | .agg cs => .agg (cs.toList.map abs1)
 | x => .v x
theorem den_abs1 (ρ : Nat → Nat × Nat) (x : Value) : (abs1 x).den ρ = x := by cases x <;> simp [abs1, AV.den]
theorem den_absV (ρ : Nat → Nat × Nat) (x : Value) : (absV x).den ρ = x := by
 cases x <;> simp only [absV, AV.den]
 case agg cs => simp [denL_eq_map, List.map_map, Function.comp_def, den_abs1]
theorem lt_abs1 (n : Nat) (x : Value) : (abs1 x).lt n := by cases x <;> trivial
theorem lt_absV (n : Nat) (x : Value) : (absV x).lt n := by
 cases x <;> try trivial
 case agg cs =>
  simp only [absV, AV.lt, ltL_iff]
  intro a h; obtain ⟨x, _, rfl⟩ := List.mem_map.1 h; exact lt_abs1 n x
def ev (tm : Tm) : Operand → Option AV
 | .tmp t => lk tm t
 | .const v => some (absV v)
 | .global g => some (.v (.pointer (some ⟨g, 0, none⟩)))
 | .func f => some (.fn (.func f) [] [])
theorem ST.ev {C : Cx} {E : En} {ρ : Nat → Nat × Nat} {nx : Nat} {tm : Tm} {hp : Hp} {a : Act} {w : World} (H : ST C E ρ nx tm hp a w) {x : Operand} {av : AV}
 (h : Eng.ev tm x = some av) : a.eval x = av.den ρ ∧ av.lt nx := by
 cases x with
 | tmp t =>
   obtain ⟨h1, h2⟩ := H.tmps t av h
   refine ⟨?_, h1⟩
   simp only [Act.eval, Array.getD_eq_getD_getElem?, h2, Option.getD_some]
 | const v => cases h; exact ⟨(den_absV ρ v).symm, lt_absV nx v⟩
 | global g => cases h; exact ⟨rfl, trivial⟩
 | func f => cases h; exact ⟨rfl, trivial, trivial⟩
def AV.plain1 : AV → Bool
 | .agg _ | .tup _ => false
 | .v x => match x with | .agg _ | .tuple _ => false | _ => true
 | _ => true
def AV.cellsL : AV → Option (List AV)
 | .agg cs => bif cs.all AV.plain1 then some cs else none
 | a => bif a.plain1 then some [a] else none
def bt (l : List UInt8) (i : Int) : Int := ((l.getD i.toNat 0).toNat : Int)
abbrev RV := Option (Prop × AV)
def rng : IntKind → Int → Prop
 | .i64, n => -9223372036854775808 ≤ n ∧ n ≤ 9223372036854775807
 | .i32, n => -2147483648 ≤ n ∧ n ≤ 2147483647
 | .i16, n => -32768 ≤ n ∧ n ≤ 32767
 | .i8, n => -128 ≤ n ∧ n ≤ 127
 | .u64, n => 0 ≤ n ∧ n ≤ 18446744073709551615
 | .u32, n => 0 ≤ n ∧ n ≤ 4294967295
 | .u16, n => 0 ≤ n ∧ n ≤ 65535
 | .u8, n => 0 ≤ n ∧ n ≤ 255
theorem rng_wrap {k : IntKind} {n : Int} (h : rng k n) : k.wrap n = n := by
 unfold IntKind.wrap
 cases k <;> simp only [rng] at h <;> simp [IntKind.signed, IntKind.bits] <;> omega
def ikeq : IntKind → IntKind → Bool
 | .i64, .i64 | .i32, .i32 | .i16, .i16 | .i8, .i8 | .u64, .u64 | .u32, .u32 | .u16, .u16 | .u8, .u8 => true
 | _, _ => false
theorem ikeq_eq {k k' : IntKind} (h : ikeq k k' = true) : k = k' := by cases k <;> cases k' <;> first | rfl | cases h
def binI (op : BinOp) (k : IntKind) (a b : Int) : RV :=
 match op with
 | .add => some (rng k (a + b), .int k (a + b))
 | .sub => some (rng k (a - b), .int k (a - b))
 | .mul => some (rng k (a * b), .int k (a * b))
 | .quo => some (b ≠ 0 ∧ rng k (a.tdiv b), .int k (a.tdiv b))
 | .rem => some (b ≠ 0, .int k (a.tmod b))
 | .eql => some (True, .bool (a == b))
 | .neq => some (True, .bool (a != b))
 | .lss => some (True, .bool (decide (a < b)))
 | .leq => some (True, .bool (decide (a ≤ b)))
 | .gtr => some (True, .bool (decide (a > b)))
 | .geq => some (True, .bool (decide (a ≥ b)))
 | _ => none
def binS (op : BinOp) (a b : List UInt8) : RV :=
 match op with
 | .add => some (a.length + b.length ≤ 9223372036854775807, .str (a ++ b))
 | .eql => some (True, .bool (a == b))
 | .neq => some (True, .bool (!(a == b)))
 | _ => none
def bin (op : BinOp) : AV → AV → RV
 | .int k a, .int k' b => bif ikeq k k' then binI op k a b else none
 | .str a, .str b => binS op a b
 | _, _ => none
theorem toList_mk (l : List UInt8) : (ByteArray.mk l.toArray).toList = l := by simp [ByteArray.toList_eq]
theorem size_mk (l : List UInt8) : (ByteArray.mk l.toArray).size = l.length := by simp [ByteArray.size]
theorem append_mk (a b : List UInt8) : ByteArray.mk a.toArray ++ ByteArray.mk b.toArray = ByteArray.mk (a ++ b).toArray := by
 apply ByteArray.ext; simp
section
variable {P : Program} {w : World} {ρ : Nat → Nat × Nat}
theorem binI_sound {op : BinOp} {k : IntKind} {a b : Int} {φ : Prop} {av : AV} (t : TypeId) (h : binI op k a b = some (φ, av)) (hφ : φ) :
 (binOp op t (.int k a) (.int k b)).run P w = .ok (av.den ρ) w ∧ ∀ n, av.lt n := by
 cases op <;> simp only [binI, Option.some.injEq, Prod.mk.injEq, reduceCtorEq] at h
 all_goals obtain ⟨rfl, rfl⟩ := h
 all_goals first
  | (refine ⟨?_, fun _ => trivial⟩
     first
      | (simp [binOp, Op.intArith, AV.den, rng_wrap hφ]; done)
      | (simp [binOp, Op.intDiv, AV.den, hφ.1, rng_wrap hφ.2]; done)
      | (simp [binOp, Op.intDiv, AV.den, hφ]; done)
      | (simp [binOp, Op.intCmp, AV.den]; done))
theorem binS_sound {op : BinOp} {a b : List UInt8} {φ : Prop} {av : AV} (t : TypeId) (h : binS op a b = some (φ, av)) (hφ : φ) :
 (binOp op t (.string ⟨a.toArray⟩) (.string ⟨b.toArray⟩)).run P w = .ok (av.den ρ) w ∧ ∀ n, av.lt n := by
 cases op <;> simp only [binS, Option.some.injEq, Prod.mk.injEq, reduceCtorEq] at h
 all_goals obtain ⟨rfl, rfl⟩ := h
 all_goals refine ⟨?_, fun _ => trivial⟩
 · have e : IntKind.i64.max = 9223372036854775807 := rfl
   have h2 : ¬ ((a.length : Int) + b.length > 9223372036854775807) := by omega
   simp only [binOp, Op.stringOp, size_mk, e, Int.natCast_add, h2, ite_false, Sem.run_pure, append_mk, AV.den]
 · simp only [binOp, Op.stringOp, toList_mk, Sem.run_pure, AV.den]
 · simp only [binOp, Op.stringOp, toList_mk, Sem.run_pure, AV.den]
theorem bin_sound {op : BinOp} {x y : AV} {φ : Prop} {av : AV} (t : TypeId) (ox oy : Operand) (h : bin op x y = some (φ, av)) (hφ : φ) :
 (do eqGuard op t ox oy (x.den ρ) (y.den ρ); binOp op t (x.den ρ) (y.den ρ)).run P w = .ok (av.den ρ) w ∧ ∀ n, av.lt n := by
 unfold bin at h
 split at h
 · rename_i k a k' b
   cases e : ikeq k k'
   · rw [e] at h; cases h
   · rw [e] at h
     have := ikeq_eq e; subst this
     obtain ⟨h1, h2⟩ := binI_sound (P := P) (w := w) (ρ := ρ) t h hφ
     refine ⟨?_, h2⟩
     simp only [AV.den, eqGuard]
     rw [← h1]
     cases op <;> rfl
 · rename_i a b
   obtain ⟨h1, h2⟩ := binS_sound (P := P) (w := w) (ρ := ρ) t h hφ
   refine ⟨?_, h2⟩
   simp only [AV.den, eqGuard]
   rw [← h1]
   cases op <;> rfl
 · cases h
end
end Go.Eng
