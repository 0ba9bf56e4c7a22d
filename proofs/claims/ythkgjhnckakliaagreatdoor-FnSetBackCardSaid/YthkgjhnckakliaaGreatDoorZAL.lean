/- A part of the proof that the rows statement FnSetBack holds; no conditions. -/
import Derived.Test.YthkgjhnckakliaaGreatDoorZAK
set_option linter.unusedVariables false
set_option linter.unusedSimpArgs false
set_option linter.unusedSectionVars false
namespace Go.Eng
variable {κ τ : Nat → Nat} {T : TR XV} {tm : Tm} {hp : Hp} {nx : Nat} {C : Cy}
theorem unX_ok {op : UnOp} {x v : XV} (h : unX op x = some v) : ∃ φ, unV op (x.av κ) = some (φ, v.av κ) ∧ φ := by
 unfold unX at h
 split at h
 · cases h; exact ⟨_, rfl, trivial⟩
 · obtain ⟨rfl, hr⟩ := okI_ok h; exact ⟨_, rfl, hr⟩
 · cases h
theorem convX_ok {s d : TypeId} {x v : XV} (h : convX C s d x = some v) : ∃ φ, convV C.toCx s d (x.av κ) = some (φ, v.av κ) ∧ φ := by
 unfold convX at h
 obtain ⟨ss, hs, h'⟩ := bind_some' h; clear h; have h := h'; clear h'
 obtain ⟨td, hd, h'⟩ := bind_some' h; clear h; have h := h'; clear h'
 unfold convV
 rw [hs, hd]
 simp only [Option.bind_some]
 split at h
 · rename_i k k' n e
   obtain ⟨rfl, hr⟩ := okI_ok h
   rw [e]
   exact ⟨_, rfl, hr⟩
 · cases h
theorem partX_ok {ts : TS} {off : Nat} {cs : List XV} {v : XV} (h : partX ts off cs = some v) : partL ts off (avL κ cs) = some (True, v.av κ) := by
 unfold partX at h
 unfold partL
 cases hc : isAggD ts.desc <;> rw [hc] at h
 · simp only [cond_false] at h ⊢
   rw [avL_get, h]; rfl
 · cases h
   simp only [cond_true, XV.av, avL_take, avL_drop]
theorem fieldX_ok {t : TypeId} {f : Nat} {x v : XV} (h : fieldX C t f x = some v) : ∃ φ, fieldV C.toCx t f (x.av κ) = some (φ, v.av κ) ∧ φ := by
 unfold fieldX at h
 split at h
 · obtain ⟨p, hp, h'⟩ := bind_some' h; clear h; have h := h'; clear h'
   refine ⟨True, ?_, trivial⟩
   simp only [XV.av, fieldV, hp, Option.bind_some]
   exact partX_ok h
 · cases h
theorem fieldAddrX_ok {t : TypeId} {f : Nat} {x v : XV} (h : fieldAddrX C t f x = some v) : ∃ φ, fieldAddrV C.toCx t f (x.av κ) = some (φ, v.av κ) ∧ φ := by
 unfold fieldAddrX at h
 obtain ⟨p, hp, h'⟩ := bind_some' h; clear h; have h := h'; clear h'
 unfold fieldAddrV
 rw [hp]
 simp only [Option.bind_some]
 cases hc : Nat.beq p.2.size 0 <;> rw [hc] at h
 · simp only [cond_false] at h ⊢
   split at h
   · cases h; exact ⟨_, rfl, trivial⟩
   · cases h; exact ⟨_, rfl, trivial⟩
   · cases h
 · cases h
theorem inB_ok {i : Int} {len m : Nat} (h : inB i len = some m) : i = m ∧ m < len := by
 unfold inB at h
 split at h
 · rename_i k
   cases hc : Nat.blt k len <;> rw [hc] at h
   · cases h
   · cases h; exact ⟨rfl, by simpa [Nat.blt_eq] using hc⟩
 · cases h
theorem leB_ok {i : Int} {len m : Nat} (h : leB i len = some m) : i = m ∧ m ≤ len := by
 unfold leB at h
 split at h
 · rename_i k
   cases hc : Nat.ble k len <;> rw [hc] at h
   · cases h
   · cases h; exact ⟨rfl, Nat.le_of_ble_eq_true hc⟩
 · cases h
theorem XO.ok.le {id : Nat} {o : XO} (h : o.ok κ τ id) : o.c ≤ κ id := by
 have := h.1
 split at this <;> omega
theorem room_ok {h : Nat → Option XO} (hK : ∀ id o, h id = some o → o.ok κ τ id) {id off r : Nat} (hr : room h id off = some r) : r ≤ κ id - off := by
 unfold room at hr
 obtain ⟨o, ho, rfl⟩ := map_some' hr
 have := (hK id o ho).le
 omega
theorem indexAddrX_ok {h : Nat → Option XO} (hK : ∀ id o, h id = some o → o.ok κ τ id) {t : TypeId} {x ix v : XV} (hv : indexAddrX C h t x ix = some v) :
 ∃ φ av, indexAddrV C.toCx t (x.av κ) (ix.av κ) = some (φ, av) ∧ φ ∧ (∀ ρ, av.den ρ = (v.av κ).den ρ) ∧ ∀ n, av.lt n → (v.av κ).lt n := by
 unfold indexAddrX at hv
 split at hv
 case h_2 => cases hv
 rename_i k i
 obtain ⟨s, hs, hv'⟩ := bind_some' hv; clear hv; have hv := hv'; clear hv'
 simp only [XV.av, indexAddrV, hs, Option.bind_some]
 split at hv
 · rename_i e id n off len hd
   obtain ⟨te, hte, hv'⟩ := bind_some' hv; clear hv; have hv := hv'; clear hv'
   obtain ⟨r, hr, hv'⟩ := bind_some' hv; clear hv; have hv := hv'; clear hv'
   cases hc : (Nat.beq te.size n && Nat.ble len r) <;> rw [hc] at hv
   · cases hv
   simp only [cond_true] at hv
   rw [Bool.and_eq_true] at hc
   obtain ⟨m, hm, rfl⟩ := map_some' hv
   obtain ⟨rfl, hml⟩ := inB_ok hm
   have h1 := room_ok hK hr
   have h2 := Nat.le_of_ble_eq_true hc.2
   simp only [hd, XV.av, hte, Option.bind_some, hc.1, cond_true]
   refine ⟨_, _, rfl, ⟨by omega, by omega, by omega⟩, fun ρ => ?_, fun n h => h⟩
   simp only [AV.den, Int.toNat_natCast, Nat.add_zero]
 · rename_i len e id off hd
   obtain ⟨te, hte, hv'⟩ := bind_some' hv; clear hv; have hv := hv'; clear hv'
   obtain ⟨m, hm, rfl⟩ := map_some' hv
   obtain ⟨rfl, hml⟩ := inB_ok hm
   simp only [hd, XV.av, hte, Option.bind_some]
   exact ⟨_, _, rfl, ⟨by omega, by omega⟩, fun ρ => by simp only [Int.toNat_natCast], fun n h => by simpa only [Int.toNat_natCast] using h⟩
 · rename_i len e g off hd
   obtain ⟨te, hte, hv'⟩ := bind_some' hv; clear hv; have hv := hv'; clear hv'
   obtain ⟨m, hm, rfl⟩ := map_some' hv
   obtain ⟨rfl, hml⟩ := inB_ok hm
   simp only [hd, XV.av, hte, Option.bind_some]
   exact ⟨_, _, rfl, ⟨by omega, by omega⟩, fun ρ => by simp only [Int.toNat_natCast], fun n h => by simpa only [Int.toNat_natCast] using h⟩
 · cases hv
theorem indexX_ok {t : TypeId} {x ix v : XV} (hv : indexX C t x ix = some v) : ∃ φ, indexV C.toCx t (x.av κ) (ix.av κ) = some (φ, v.av κ) ∧ φ := by
 unfold indexX at hv
 split at hv
 case h_2 => cases hv
 rename_i k i
 obtain ⟨s, hs, hv'⟩ := bind_some' hv; clear hv; have hv := hv'; clear hv'
 simp only [XV.av, indexV, hs, Option.bind_some]
 split at hv
 · rename_i l hd
   obtain ⟨m, hm, rfl⟩ := map_some' hv
   obtain ⟨rfl, hml⟩ := inB_ok hm
   simp only [hd, XV.av]
   exact ⟨_, rfl, by omega, by omega⟩
 · rename_i len e cs hd
   obtain ⟨te, hte, hv'⟩ := bind_some' hv; clear hv; have hv := hv'; clear hv'
   obtain ⟨m, hm, hv'⟩ := bind_some' hv; clear hv; have hv := hv'; clear hv'
   obtain ⟨rfl, hml⟩ := inB_ok hm
   simp only [hd, XV.av, hte, Option.bind_some, Int.toNat_natCast, partX_ok (κ := κ) hv, Option.map_some]
   exact ⟨_, rfl, by omega, by omega⟩
 · cases hv
theorem sliceX_ok {h : Nat → Option XO} (hK : ∀ id o, h id = some o → o.ok κ τ id) {t : TypeId} {x v : XV} {lo hi : Option Int} (hv : sliceX C h t x lo hi = some v) :
 (∃ φ, sliceV C.toCx t (x.av κ) lo hi = some (φ, v.av κ) ∧ φ) ∧ ∃ s, C.ti t = some s ∧ notArr s.desc = true := by
 unfold sliceX at hv
 obtain ⟨s, hs, hv'⟩ := bind_some' hv; clear hv; have hv := hv'; clear hv'
 split at hv
 case h_2 => cases hv
 rename_i e id n off len hd
 obtain ⟨te, hte, hv'⟩ := bind_some' hv; clear hv; have hv := hv'; clear hv'
 obtain ⟨r, hr, hv'⟩ := bind_some' hv; clear hv; have hv := hv'; clear hv'
 cases hc : Nat.beq te.size n <;> rw [hc] at hv
 · cases hv
 simp only [cond_true] at hv
 have h1 := room_ok hK hr
 refine ⟨?_, s, hs, by rw [hd]; rfl⟩
 simp only [XV.av, sliceV, hs, Option.bind_some, hd, hte, hc, cond_true]
 split at hv
 · cases h2 : Nat.ble len r <;> rw [h2] at hv
   · cases hv
   · cases hv
     have := Nat.le_of_ble_eq_true h2
     exact ⟨_, rfl, by omega⟩
 · rename_i a
   cases h2 : Nat.ble len r <;> rw [h2] at hv
   · cases hv
   simp only [cond_true] at hv
   obtain ⟨m, hm, hv'⟩ := bind_some' hv; clear hv; have hv := hv'; clear hv'
   obtain ⟨rfl, hml⟩ := inB_ok hm
   cases h3 : Nat.ble m len <;> rw [h3] at hv
   · cases hv
   cases hv
   have := Nat.le_of_ble_eq_true h2
   have := Nat.le_of_ble_eq_true h3
   refine ⟨0 ≤ (m : Int) ∧ (m : Int) ≤ len ∧ len ≤ κ id - off ∧ (m : Int) < ((κ id - off : Nat) : Int), ?_, by omega⟩
   simp only [XV.av, Int.toNat_natCast, Nat.sub_sub]
 · rename_i b
   obtain ⟨m, hm, rfl⟩ := map_some' hv
   obtain ⟨rfl, hml⟩ := leB_ok hm
   refine ⟨0 ≤ (m : Int) ∧ (m : Int) ≤ ((κ id - off : Nat) : Int), ?_, by omega⟩
   simp only [XV.av, Int.toNat_natCast]
 · rename_i a b
   obtain ⟨k, hk, hv'⟩ := bind_some' hv; clear hv; have hv := hv'; clear hv'
   obtain ⟨m, hm, hv'⟩ := bind_some' hv; clear hv; have hv := hv'; clear hv'
   obtain ⟨rfl, hkl⟩ := leB_ok hk
   obtain ⟨rfl, hml⟩ := inB_ok hm
   cases h3 : Nat.ble m k <;> rw [h3] at hv
   · cases hv
   cases hv
   have := Nat.le_of_ble_eq_true h3
   refine ⟨0 ≤ (m : Int) ∧ (m : Int) ≤ (k : Int) ∧ (k : Int) ≤ ((κ id - off : Nat) : Int) ∧ (m : Int) < ((κ id - off : Nat) : Int), ?_, by omega⟩
   simp only [XV.av, Int.toNat_natCast, Nat.sub_sub]
theorem extrX_ok {i : Nat} {x v : XV} (h : extrX i x = some v) : ∃ φ, extrV i (x.av κ) = some (φ, v.av κ) ∧ φ := by
 unfold extrX at h
 split at h
 · refine ⟨True, ?_, trivial⟩
   simp only [XV.av, extrV, avL_get, h, Option.map_some]
 · cases h
theorem mkifX_ok {t : TypeId} {x v : XV} (h : mkifX C t x = some v) : ∃ φ, mkifV C.toCx t (x.av κ) = some (φ, v.av κ) ∧ φ := by
 unfold mkifX at h
 obtain ⟨s, hs, h'⟩ := bind_some' h; clear h; have h := h'; clear h'
 unfold mkifV
 rw [hs]
 simp only [Option.bind_some]
 cases hc : isIface s.desc <;> rw [hc] at h
 · cases h; exact ⟨_, rfl, trivial⟩
 · cases h
theorem lenX_ok {d : TypeDesc} {x v : XV} (h : lenX d x = some v) : ∃ φ, (bif lenOK d (x.av κ) then lenV (x.av κ) else none) = some (φ, v.av κ) ∧ φ := by
 unfold lenX at h
 split at h <;> first | (cases h; exact ⟨_, rfl, trivial⟩) | cases h
theorem capX_ok {h : Nat → Option XO} (hK : ∀ id o, h id = some o → o.ok κ τ id) {d : TypeDesc} {x v : XV} (hv : capX h d x = some v) : ∃ φ, (bif isSlD d then capV (x.av κ) else none) = some (φ, v.av κ) ∧ φ := by
 unfold capX at hv
 split at hv
 · obtain ⟨o, ho, hv'⟩ := bind_some' hv; clear hv; have hv := hv'; clear hv'
   cases hc : o.ex <;> rw [hc] at hv
   · cases hv
   · cases hv
     have := (hK _ o ho).1
     rw [if_pos hc] at this
     refine ⟨True, ?_, trivial⟩
     simp only [isSlD, cond_true, XV.av, capV, this]
 · cases hv; exact ⟨_, rfl, trivial⟩
 · cases hv
theorem nilX_ok {x v : XV} (h : nilX x = some v) : ∃ φ, nilV (x.av κ) = some (φ, v.av κ) ∧ φ := by
 unfold nilX at h
 split at h <;> first | (cases h; exact ⟨_, rfl, trivial⟩) | cases h
theorem zeroX_ok {s : TS} {zs : List XV} (h : zeroX s = some zs) : ∃ z, s.zero = some z ∧ (absV z).cellsL = some (avL κ zs) := by
 unfold zeroX at h
 obtain ⟨z, hz, h'⟩ := bind_some' h; clear h; have h := h'; clear h'
 exact ⟨z, hz, by rw [← xofV_av κ]; exact cellsL_av h⟩
theorem buildX_ok (hT : TS0 κ T tm) {t : TypeId} {parts : Array (Nat × Operand)} {v : XV} (h : buildX C T t parts.toList = some v) : ∃ φ, pv C tm hp (.build t parts) = some (φ, v.av κ) ∧ φ := by
 unfold buildX at h
 obtain ⟨s, hs, h'⟩ := bind_some' h; clear h; have h := h'; clear h'
 obtain ⟨zs, hz, h'⟩ := bind_some' h; clear h; have h := h'; clear h'
 obtain ⟨vs, hvs, h'⟩ := bind_some' h; clear h; have h := h'; clear h'
 obtain ⟨z, hz1, hz2⟩ := zeroX_ok (κ := κ) hz
 simp only [pv, hs, Option.bind_some, hz1, hz2, evsX_evs hT hvs]
 split at h
 · rename_i fs hd
   obtain ⟨l, hl, h'⟩ := bind_some' h; clear h; have h := h'; clear h'
   have := fillLX_av (κ := κ) _ _ hl
   rw [zip_av] at this
   simp only [hd, this, Option.bind_some]
   cases hc : (fs.toList.all fun f => (C.ti f.type).isSome) <;> rw [hc] at h
   · cases h
   · cases h; exact ⟨_, rfl, trivial⟩
 · rename_i e hd
   obtain ⟨te, hte, h'⟩ := bind_some' h; clear h; have h := h'; clear h'
   obtain ⟨l, hl, rfl⟩ := map_some' h
   have := fillLX_av (κ := κ) _ _ hl
   rw [zip_av] at this
   simp only [hd, hte, Option.bind_some, this, Option.map_some]
   exact ⟨_, rfl, trivial⟩
 · cases h
theorem fitX_ok {l m : List XV} {n : Nat} (h : fitX l n = some m) : fit True (avL κ l) n = some (True, avL κ m) := by
 unfold fitX at h
 unfold fit
 rw [avL_length]
 cases hc : Nat.beq l.length n <;> rw [hc] at h
 · cases h
 · cases h; rfl
theorem atX_ok (X : XC) {h : Nat → Option XO} {size : Nat} {x : XV} {l : List XV}
 (hrd : ∀ id off ob, x = .ptr id off → h id = some ob → lk hp id = some (ob.ao κ (τ id))) (hv : atX X.gx h size x = some l) : cellsAt X.G hp size (x.av κ) = some (True, avL κ l) := by
 unfold atX at hv
 split at hv
 · rename_i id off
   obtain ⟨o, ho, hv'⟩ := bind_some' hv; clear hv; have hv := hv'; clear hv'
   simp only [XV.av, cellsAt, hrd id off o rfl ho, Option.bind_some, XO.ao, cellsIn, AO.avs]
   rw [← avL_drop, ← avL_take]
   exact fitX_ok hv
 · rename_i g off
   obtain ⟨cs, hcs, hv'⟩ := bind_some' hv; clear hv; have hv := hv'; clear hv'
   obtain ⟨h1, h2⟩ := X.gxok g cs hcs
   simp only [XV.av, cellsAt, h1, Option.bind_some]
   rw [← h2 κ, ← avL_drop, ← avL_take]
   exact fitX_ok hv
 · cases hv
theorem loadX_ok (X : XC) {h : Nat → Option XO} {t : TypeId} {x v : XV}
 (hrd : ∀ id off ob, x = .ptr id off → h id = some ob → lk hp id = some (ob.ao κ (τ id))) (hv : loadX X.toCy X.gx h t x = some v) : ∃ φ, loadV X.toCx hp t (x.av κ) = some (φ, v.av κ) ∧ φ := by
 unfold loadX at hv
 obtain ⟨s, hs, hv'⟩ := bind_some' hv; clear hv; have hv := hv'; clear hv'
 unfold loadV
 rw [hs]
 simp only [Option.bind_some]
 cases hc : isAggD s.desc <;> rw [hc] at hv
 · simp only [cond_false] at hv ⊢
   obtain ⟨l, hl, hv'⟩ := bind_some' hv; clear hv; have hv := hv'; clear hv'
   rw [atX_ok X hrd hl]
   cases l with
   | nil => cases hv
   | cons a l => cases hv; exact ⟨_, rfl, trivial⟩
 · simp only [cond_true] at hv ⊢
   obtain ⟨l, hl, rfl⟩ := map_some' hv
   rw [atX_ok X hrd hl]
   exact ⟨_, rfl, trivial⟩
theorem Gives.den {o : Oper} {av av' : AV} (h : Gives C o nx tm hp av) (hd : ∀ ρ, av.den ρ = av'.den ρ) (hl : ∀ n, av.lt n → av'.lt n) : Gives C o nx tm hp av' := by
 intro E ρ a w H
 obtain ⟨h1, h2⟩ := h E ρ a w H
 exact ⟨by rw [← hd]; exact h1, hl _ h2⟩
theorem givesOf {o : Oper} {av : AV} (h : ∃ φ, pv C tm hp o.op = some (φ, av) ∧ φ) : Gives C o nx tm hp av := by
 obtain ⟨φ, h1, h2⟩ := h
 exact Gives.pv h1 h2
theorem eslX_gives (hT : TS0 κ T tm) {h : Nat → Option XO} (hK : ∀ id o, h id = some o → o.ok κ τ id) {dst : Option Tmp} {ty : TypeId} {pos : String} {af : Array Edge} {g : Option (Nat × Bool)} {t : TypeId} {x : Operand} {lo hi : Option Operand} {a v : XV} {l k : Option Int}
 (hx : evX T x = some a) (hl : eviX T lo = some l) (hh : eviX T hi = some k) (hv : eslX C h t a l k = some v) : Gives C ⟨dst, .slice t x lo hi none, ty, pos, af, g⟩ nx tm hp (v.av κ) := by
 unfold eslX at hv
 obtain ⟨s, hs, hv'⟩ := bind_some' hv; clear hv; have hv := hv'; clear hv'
 split at hv
 case h_2 => cases hv
 rename_i e id n off len m hd
 obtain ⟨te, hte, hv'⟩ := bind_some' hv; clear hv; have hv := hv'; clear hv'
 obtain ⟨r, hr, hv'⟩ := bind_some' hv; clear hv; have hv := hv'; clear hv'
 cases hc : (Nat.beq te.size n && Nat.beq m len && Nat.ble len r) <;> rw [hc] at hv
 · cases hv
 cases hv
 simp only [Bool.and_eq_true] at hc
 obtain ⟨⟨hn, hm⟩, hlr⟩ := hc
 have hn := Nat.eq_of_beq_eq_true hn
 have hm := Nat.eq_of_beq_eq_true hm
 subst hm
 have hlr := Nat.le_of_ble_eq_true hlr
 have h1 := room_ok hK hr
 intro E ρ ac w H
 have hu := run_underlying (w := w) hs
 obtain ⟨h2, h3⟩ := H.ev (evX_ev hT hx)
 obtain ⟨kl, hkl⟩ := evi_sound H (eviX_evi hT hl)
 obtain ⟨kh, hkh⟩ := evi_sound H (eviX_evi hT hh)
 refine ⟨?_, h3⟩
 simp only [execOp, h2, hkl, hkh, Option.map_none]
 refine run_val ?_
 have e1 : (0 : Int) ≤ (Int.ofNat m) ∧ (Int.ofNat m) ≤ (m : Int) := ⟨Int.natCast_nonneg m, Int.le_refl _⟩
 simp only [Instr.sliceAt, Sem.run_bind, hu, Result.andThen_ok, hd]
 simp only [Instr.slice, Sem.run_bind, hu, Result.andThen_ok, hd, XV.av, AV.den, Bool.false_and, cond_false, Sem.run_pure, Instr.sliceBounds, BO, Instr.sliceBound, asIntOf, e1, and_self, if_true, run_sizeOf hte]
 have e2 : (Int.ofNat m).toNat = m := rfl
 rw [e2, Nat.sub_self]
 by_cases h4 : κ id - off = m
 · rw [if_pos h4, if_pos h4]
 · rw [if_neg h4, if_neg h4]
   simp only [Option.map_some, Addr.add, hn, Nat.add_mul]
   by_cases h5 : m * n = 0
   · rw [if_pos h5]; simp only [h5, Nat.add_zero]
   · rw [if_neg h5]; simp only [Nat.add_assoc]
theorem pvX_gives (X : XC) {h : Nat → Option XO} (hT : TS0 κ T tm) (hK : ∀ id o, h id = some o → o.ok κ τ id) {o : Oper}
 (hrd : ∀ id ob, rdX T o.op = some id → h id = some ob → lk hp id = some (ob.ao κ (τ id))) {v : XV} (hv : pvX X T h o.op = some v) : Gives X.toCy o nx tm hp (v.av κ) := by
 obtain ⟨dst, op, ty, pos, af, g⟩ := o
 simp only at hv hrd
 unfold pvX at hv
 split at hv
 · exact givesOf ⟨True, by simp only [pv, evX_ev hT hv, Option.map_some], trivial⟩
 · exact givesOf ⟨True, by simp only [pv, evX_ev hT hv, Option.map_some], trivial⟩
 · obtain ⟨r, hr, hv'⟩ := bind_some' hv; clear hv; have hv := hv'; clear hv'
   refine givesOf ⟨True, ?_, trivial⟩
   simp only [pv, evX_ev hT hr, Option.bind_some]
   split at hv
   · simp only [XV.av, evX_ev hT hv, Option.map_some]
   · simp only [XV.av, evX_ev hT hv, Option.map_some]
   · cases hv
 · obtain ⟨a, ha, hv'⟩ := bind_some' hv; clear hv; have hv := hv'; clear hv'
   obtain ⟨b, hb, hv'⟩ := bind_some' hv; clear hv; have hv := hv'; clear hv'
   refine givesOf ?_
   simp only [pv, evX_ev hT ha, evX_ev hT hb, Option.bind_some]
   exact binX_ok hv
 · obtain ⟨a, ha, hv'⟩ := bind_some' hv; clear hv; have hv := hv'; clear hv'
   refine givesOf ?_
   simp only [pv, evX_ev hT ha, Option.bind_some]
   exact unX_ok hv
 · obtain ⟨a, ha, hv'⟩ := bind_some' hv; clear hv; have hv := hv'; clear hv'
   refine givesOf ?_
   simp only [pv, evX_ev hT ha, Option.bind_some]
   exact convX_ok hv
 · obtain ⟨a, ha, hv'⟩ := bind_some' hv; clear hv; have hv := hv'; clear hv'
   refine givesOf ?_
   simp only [pv, evX_ev hT ha, Option.bind_some]
   refine loadX_ok X (fun id off ob e ho => hrd id ob ?_ ho) hv
   simp only [rdX, ha, e]
 · obtain ⟨a, ha, hv'⟩ := bind_some' hv; clear hv; have hv := hv'; clear hv'
   refine givesOf ?_
   simp only [pv, evX_ev hT ha, Option.bind_some]
   exact fieldX_ok hv
 · obtain ⟨a, ha, hv'⟩ := bind_some' hv; clear hv; have hv := hv'; clear hv'
   refine givesOf ?_
   simp only [pv, evX_ev hT ha, Option.bind_some]
   exact fieldAddrX_ok hv
 · obtain ⟨a, ha, hv'⟩ := bind_some' hv; clear hv; have hv := hv'; clear hv'
   obtain ⟨b, hb, hv'⟩ := bind_some' hv; clear hv; have hv := hv'; clear hv'
   obtain ⟨φ, av, h1, h2, h3, h4⟩ := indexAddrX_ok hK hv
   refine Gives.den (givesOf ⟨φ, ?_, h2⟩) h3 h4
   simp only [pv, evX_ev hT ha, evX_ev hT hb, Option.bind_some]
   exact h1
 · obtain ⟨a, ha, hv'⟩ := bind_some' hv; clear hv; have hv := hv'; clear hv'
   obtain ⟨b, hb, hv'⟩ := bind_some' hv; clear hv; have hv := hv'; clear hv'
   refine givesOf ?_
   simp only [pv, evX_ev hT ha, evX_ev hT hb, Option.bind_some]
   exact indexX_ok hv
 · obtain ⟨a, ha, hv'⟩ := bind_some' hv; clear hv; have hv := hv'; clear hv'
   obtain ⟨l, hl, hv'⟩ := bind_some' hv; clear hv; have hv := hv'; clear hv'
   obtain ⟨k, hk, hv'⟩ := bind_some' hv; clear hv; have hv := hv'; clear hv'
   split at hv
   · rename_i v' hs
     cases hv
     obtain ⟨⟨φ, h1, h2⟩, s, h3, h4⟩ := sliceX_ok hK hs
     refine givesOf ⟨φ, ?_, h2⟩
     simp only [pv, h3, h4, cond_true, evX_ev hT ha, eviX_evi hT hl, eviX_evi hT hk, Option.bind_some]
     exact h1
   · exact eslX_gives hT hK ha hl hk hv
 · obtain ⟨a, ha, hv'⟩ := bind_some' hv; clear hv; have hv := hv'; clear hv'
   refine givesOf ?_
   simp only [pv, evX_ev hT ha, Option.bind_some]
   exact extrX_ok hv
 · obtain ⟨a, ha, hv'⟩ := bind_some' hv; clear hv; have hv := hv'; clear hv'
   refine givesOf ?_
   simp only [pv, evX_ev hT ha, Option.bind_some]
   exact mkifX_ok hv
 · obtain ⟨l, hl, hv'⟩ := bind_some' hv; clear hv; have hv := hv'; clear hv'
   obtain ⟨r, hr, rfl⟩ := map_some' hv
   refine givesOf ⟨True, ?_, trivial⟩
   simp only [pv, evsX_evs hT hl, evsX_evs hT hr, Option.bind_some, Option.map_some, XV.av]
 · obtain ⟨a, ha, hv'⟩ := bind_some' hv; clear hv; have hv := hv'; clear hv'
   refine givesOf ?_
   simp only [pv, evX_ev hT ha, Option.bind_some]
   exact nilX_ok hv
 · exact givesOf (buildX_ok hT hv)
 · rename_i c
   split at hv
   · rename_i x t h1 h2 h3
     obtain ⟨s, hs, hv'⟩ := bind_some' hv; clear hv; have hv := hv'; clear hv'
     obtain ⟨a, ha, hv'⟩ := bind_some' hv; clear hv; have hv := hv'; clear hv'
     refine givesOf ?_
     simp only [pv, h1, h2, h3, hs, evX_ev hT ha, Option.bind_some]
     exact lenX_ok hv
   · rename_i x t h1 h2 h3
     obtain ⟨s, hs, hv'⟩ := bind_some' hv; clear hv; have hv := hv'; clear hv'
     obtain ⟨a, ha, hv'⟩ := bind_some' hv; clear hv; have hv := hv'; clear hv'
     refine givesOf ?_
     simp only [pv, h1, h2, h3, hs, evX_ev hT ha, Option.bind_some]
     exact capX_ok hK hv
   · cases hv
 · cases hv
end Go.Eng
namespace Go.Eng
structure LE (s s' : XS) : Prop where
 nx : s.nx ≤ s'.nx
 ck : s.ck ≤ s'.ck
 old : ∀ id p, s'.H.get id = some p → p.1 < s.ck → s.H.get id = some p
 lo : s'.lo ≤ s.lo
 low : ∀ id, id < s'.lo → id < s.nx → s'.H.get id = s.H.get id
theorem LE.refl (s : XS) : LE s s := ⟨Nat.le_refl _, Nat.le_refl _, fun _ _ h _ => h, Nat.le_refl _, fun _ _ _ => rfl⟩
theorem LE.trans {a b c : XS} (h : LE a b) (k : LE b c) : LE a c :=
 ⟨Nat.le_trans h.nx k.nx, Nat.le_trans h.ck k.ck, fun id p hp hlt => h.old id p (k.old id p hp (Nat.lt_of_lt_of_le hlt h.ck)) hlt, Nat.le_trans k.lo h.lo,
  fun id h1 h2 => (k.low id h1 (Nat.lt_of_lt_of_le h2 h.nx)).trans (h.low id (Nat.lt_of_lt_of_le h1 k.lo) h2)⟩
theorem LE.sameH {s s' : XS} (h1 : s'.nx = s.nx) (h2 : s'.ck = s.ck) (h3 : s'.lo = s.lo) (h4 : s'.H = s.H) : LE s s' :=
 ⟨by omega, by omega, fun _ _ h _ => by rw [h4] at h; exact h, by omega, fun _ _ _ => by rw [h4]⟩
theorem LE.T {s s' : XS} (h : LE s s') (T : TR XV) : LE s ⟨s'.nx, s'.ck, s'.lo, T, s'.H⟩ := h.trans (LE.sameH rfl rfl rfl rfl)
theorem LE.T0 {s s' : XS} {T : TR XV} (h : LE ⟨s.nx, s.ck, s.lo, T, s.H⟩ s') : LE s s' := (LE.sameH (s := s) (s' := ⟨s.nx, s.ck, s.lo, T, s.H⟩) rfl rfl rfl rfl).trans h
theorem LE.putO (s : XS) (id : Nat) (o : XO) : LE s (s.putO id o) := by
 refine ⟨Nat.le_refl _, by simp only [XS.putO]; omega, ?_, ?_, ?_⟩
 · intro j p hp hlt
   simp only [XS.putO, TR.get_set] at hp
   split at hp
   · cases hp; simp at hlt
   · exact hp
 · simp only [XS.putO]
   cases hb : Nat.blt id s.lo
   · exact Nat.le_refl _
   · have : id < s.lo := by simpa [Nat.blt_eq] using hb
     simp only [cond_true]; omega
 · intro j h1 h2
   simp only [XS.putO, TR.get_set] at h1 ⊢
   rw [if_neg]
   intro e; subst e
   cases hb : Nat.blt j s.lo <;> rw [hb] at h1
   · simp only [cond_false] at h1
     have : Nat.blt j s.lo = true := by rw [Nat.blt_eq]; exact h1
     rw [this] at hb; cases hb
   · exact absurd h1 (Nat.lt_irrefl _)
theorem LE.delO (s : XS) (id : Nat) : LE s (s.delO id) := by
 refine ⟨Nat.le_refl _, Nat.le_refl _, ?_, ?_, ?_⟩
 · intro j p hp hlt
   simp only [XS.delO, TR.get_del] at hp
   split at hp
   · cases hp
   · exact hp
 · simp only [XS.delO]
   cases hb : Nat.blt id s.lo
   · exact Nat.le_refl _
   · have : id < s.lo := by simpa [Nat.blt_eq] using hb
     simp only [cond_true]; omega
 · intro j h1 h2
   simp only [XS.delO, TR.get_del] at h1 ⊢
   rw [if_neg]
   intro e; subst e
   cases hb : Nat.blt j s.lo <;> rw [hb] at h1
   · simp only [cond_false] at h1
     have : Nat.blt j s.lo = true := by rw [Nat.blt_eq]; exact h1
     rw [this] at hb; cases hb
   · exact absurd h1 (Nat.lt_irrefl _)
theorem LE.newO (s : XS) (o : XO) : LE s (s.newO o) := by
 refine ⟨by simp only [XS.newO]; omega, by simp only [XS.newO]; omega, ?_, Nat.le_refl _, ?_⟩
 · intro j p hp hlt
   simp only [XS.newO, TR.get_set] at hp
   split at hp
   · cases hp; simp at hlt
   · exact hp
 · intro j h1 h2
   simp only [XS.newO, TR.get_set]
   rw [if_neg (by omega)]
def putG (d : Option Nat) (v : XV) (t : Nat) (g : Option XV) : Option XV := match d with | none => g | some d' => if t = d' then some v else g
theorem putG_ne {d : Option Nat} {v : XV} {t : Nat} {g : Option XV} (h : d ≠ some t) : putG d v t g = g := by
 cases d with
 | none => rfl
 | some d => exact if_neg (fun e => h (by rw [e]))
theorem putT_some {s s' : XS} {nt : Nat} {d : Option Nat} {v : XV} (h : s.putT nt d v = some s') :
 s'.nx = s.nx ∧ s'.ck = s.ck ∧ s'.lo = s.lo ∧ s'.H = s.H ∧ (∀ d', d = some d' → d' < nt) ∧ (∀ t, s'.T.get t = putG d v t (s.T.get t)) := by
 unfold XS.putT at h
 cases d with
 | none => cases h; exact ⟨rfl, rfl, rfl, rfl, fun _ e => (by cases e), fun _ => rfl⟩
 | some d =>
   simp only at h
   cases hb : Nat.blt d nt <;> rw [hb] at h
   · cases h
   · cases h
     refine ⟨rfl, rfl, rfl, rfl, dlt hb, fun t => ?_⟩
     simp only [TR.get_set, putG]
theorem LE.putT {s s' : XS} {nt : Nat} {d : Option Nat} {v : XV} (h : s.putT nt d v = some s') : LE s s' := by
 obtain ⟨h1, h2, h3, h4, _⟩ := putT_some h
 exact LE.sameH h1 h2 h3 h4
theorem LE.stX {C : Cy} {s s' : XS} {t : TypeId} {x v : Operand} (h : Eng.stX C s t x v = some s') : LE s s' := by
 unfold Eng.stX at h
 obtain ⟨ts, _, h⟩ := bind_some' h
 obtain ⟨a, _, h⟩ := bind_some' h
 obtain ⟨b, _, h⟩ := bind_some' h
 obtain ⟨l, _, h⟩ := bind_some' h
 cases hb : Nat.beq l.length ts.size <;> rw [hb] at h
 · cases h
 simp only [cond_true] at h
 split at h
 · cases hc : Nat.blt 0 l.length <;> rw [hc] at h
   · cases h; exact LE.refl _
   · simp only [cond_true] at h
     obtain ⟨o, _, h⟩ := bind_some' h
     revert h
     generalize Nat.ble _ _ = q
     cases q
     · intro h; cases h
     · intro h; cases h; exact LE.putO _ _ _
 · cases h
theorem LE.appX {C : Cy} {s : XS} {x y : Operand} {t : TypeId} {r : XV × XS} (h : appX C s x y t = some r) : LE s r.2 := by
 unfold Eng.appX at h
 obtain ⟨ts, _, h⟩ := bind_some' h
 split at h
 case h_2 => cases h
 obtain ⟨te, _, h⟩ := bind_some' h
 obtain ⟨z, _, h⟩ := bind_some' h
 revert h
 cases Nat.beq z.cells.size te.size
 · intro h; cases h
 intro h
 simp only [cond_true] at h
 obtain ⟨a, _, h⟩ := bind_some' h
 obtain ⟨b, _, h⟩ := bind_some' h
 obtain ⟨d, _, h⟩ := bind_some' h
 split at h
 case h_2 => cases h
 obtain ⟨so, _, h⟩ := bind_some' h
 revert h
 generalize (_ && _) = q
 cases q
 · intro h; cases h
 intro h
 simp only [cond_true] at h
 split at h
 · rename_i id o _
   revert h
   generalize (_ && _) = q
   cases q
   · intro h; cases h; exact (LE.delO s id).trans (LE.newO _ _)
   · intro h; cases h; exact (LE.delO s id).trans (LE.newO _ _)
 · cases h; exact LE.newO _ _
structure RLE (R : XR) : Prop where
 code : ∀ nt c s e s', R.code nt c s = some (e, s') → LE s s'
 call : ∀ f args s v s', R.call f args s = some (v, s') → LE s s' ∧ s'.T = s.T
 loop : ∀ nt c s e s', R.loop nt c s = some (e, s') → LE s s'
theorem LE.louX {X : XC} {R : XR} (hR : RLE R) {nt : Nat} {s s' : XS} {o : Oper} (h : louX X R nt s o = some s') : LE s s' ∧ ∀ t, o.dst ≠ some t → s'.T.get t = s.T.get t := by
 have put : ∀ {s1 s2 : XS} {v : XV}, s1.putT nt o.dst v = some s2 → LE s s1 → (∀ t, s1.T.get t = s.T.get t) → LE s s2 ∧ ∀ t, o.dst ≠ some t → s2.T.get t = s.T.get t := by
  intro s1 s2 v hp hl hT
  refine ⟨hl.trans (LE.putT hp), fun t ht => ?_⟩
  obtain ⟨_, _, _, _, _, h6⟩ := putT_some hp
  rw [h6, putG_ne ht, hT t]
 unfold Eng.louX at h
 split at h
 · split at h
   · refine ⟨LE.stX h, fun t _ => ?_⟩
     unfold Eng.stX at h
     obtain ⟨ts, _, h⟩ := bind_some' h
     obtain ⟨a, _, h⟩ := bind_some' h
     obtain ⟨b, _, h⟩ := bind_some' h
     obtain ⟨l, _, h⟩ := bind_some' h
     revert h
     cases Nat.beq l.length ts.size
     · intro h; cases h
     intro h
     simp only [cond_true] at h
     split at h
     · revert h
       cases Nat.blt 0 l.length
       · intro h; cases h; rfl
       · intro h
         simp only [cond_true] at h
         obtain ⟨o, _, h⟩ := bind_some' h
         revert h
         generalize Nat.ble _ _ = q
         cases q
         · intro h; cases h
         · intro h; cases h; rfl
     · cases h
   · cases h
 · split at h
   · revert h
     generalize (_ && _) = q
     cases q
     · intro h; cases h
     intro h
     simp only [cond_true] at h
     obtain ⟨r, hr, h⟩ := bind_some' h
     refine put h (LE.appX hr) fun t => ?_
     unfold Eng.appX at hr
     obtain ⟨ts, _, hr⟩ := bind_some' hr
     split at hr
     case h_2 => cases hr
     obtain ⟨te, _, hr⟩ := bind_some' hr
     obtain ⟨z, _, hr⟩ := bind_some' hr
     revert hr
     cases Nat.beq z.cells.size te.size
     · intro h; cases h
     intro hr
     simp only [cond_true] at hr
     obtain ⟨a, _, hr⟩ := bind_some' hr
     obtain ⟨b, _, hr⟩ := bind_some' hr
     obtain ⟨d, _, hr⟩ := bind_some' hr
     split at hr
     case h_2 => cases hr
     obtain ⟨so, _, hr⟩ := bind_some' hr
     revert hr
     generalize (_ && _) = q
     cases q
     · intro h; cases h
     intro hr
     simp only [cond_true] at hr
     split at hr
     · revert hr
       generalize (_ && _) = q
       cases q <;> (intro h; cases h; rfl)
     · cases hr; rfl
   · obtain ⟨p, _, h⟩ := bind_some' h
     obtain ⟨r, hr, h⟩ := bind_some' h
     obtain ⟨h1, h2⟩ := hR.call _ _ _ _ _ hr
     exact put h h1 fun t => by rw [h2]
 · revert h
   cases o.dst.isSome
   · intro h; cases h
   intro h
   simp only [cond_true] at h
   obtain ⟨p, _, h⟩ := bind_some' h
   exact put h (LE.newO _ _) fun t => rfl
theorem LE.xop {X : XC} {R : XR} (hR : RLE R) {nt : Nat} {ops : Array Oper} {s s' : XS} {o : Oper} (h : xop X R nt ops s o = some s') : LE s s' ∧ ∀ t, o.dst ≠ some t → s'.T.get t = s.T.get t := by
 have put : ∀ {v : XV}, s.putT nt o.dst v = some s' → LE s s' ∧ ∀ t, o.dst ≠ some t → s'.T.get t = s.T.get t := by
  intro v hp
  refine ⟨LE.putT hp, fun t ht => ?_⟩
  obtain ⟨_, _, _, _, _, h6⟩ := putT_some hp
  rw [h6, putG_ne ht]
 unfold Eng.xop at h
 split at h
 · split at h
   · exact put h
   · exact LE.louX hR h
 · exact put h
 · cases h
end Go.Eng
namespace Go.Eng
structure SubH (κ τ : Nat → Nat) (s : XS) (hp : Hp) : Prop where
 H : ∀ id p, s.H.get id = some p → lk hp id = some (p.2.ao κ (τ id))
 K : ∀ id p, s.H.get id = some p → p.2.ok κ τ id
structure Sub (κ τ : Nat → Nat) (s : XS) (tm : Tm) (hp : Hp) : Prop extends SubH κ τ s hp where
 T : TS0 κ s.T tm
def Agr (n : Nat) (κ τ κ' τ' : Nat → Nat) : Prop := ∀ i, i < n → κ' i = κ i ∧ τ' i = τ i
theorem Agr.refl (n : Nat) (κ τ : Nat → Nat) : Agr n κ τ κ τ := fun _ _ => ⟨rfl, rfl⟩
theorem Agr.trans {n m : Nat} {κ τ κ' τ' κ'' τ'' : Nat → Nat} (h : Agr n κ τ κ' τ') (k : Agr m κ' τ' κ'' τ'') (hnm : n ≤ m) : Agr n κ τ κ'' τ'' :=
 fun i hi => ⟨(k i (by omega)).1.trans (h i hi).1, (k i (by omega)).2.trans (h i hi).2⟩
variable {κ τ κ' τ' : Nat → Nat} {s s' : XS} {tm : Tm} {hp : Hp} {nx : Nat} {C : Cy} {E : En} {ops : Array Oper} {rest : List Oper} {Q : Po}
theorem SubH.obj (h : SubH κ τ s hp) {id : Nat} {o : XO} (ho : s.obj id = some o) : lk hp id = some (o.ao κ (τ id)) ∧ o.ok κ τ id := by
 unfold XS.obj at ho
 obtain ⟨p, hp, rfl⟩ := map_some' ho
 exact ⟨h.H id p hp, h.K id p hp⟩
theorem SubH.objK (h : SubH κ τ s hp) : ∀ id o, s.obj id = some o → o.ok κ τ id := fun id o ho => (h.obj ho).2
theorem SubH.objH (h : SubH κ τ s hp) : ∀ id o, s.obj id = some o → lk hp id = some (o.ao κ (τ id)) := fun id o ho => (h.obj ho).1
theorem SubH.agree {ρ : Nat → Nat × Nat} {w : World} (H : HR C.toCx ρ nx hp w) (h : SubH κ τ s hp) (hg : Agr nx κ τ κ' τ') : SubH κ' τ' s hp := by
 refine ⟨fun id p hq => ?_, fun id p hq => ?_⟩
 · have h1 := h.H id p hq
   obtain ⟨h2, h3, _⟩ := H.objs id _ h1
   rw [h1, (hg id h2).2]
   simp only [XO.ao]
   rw [avL_congr (fun i hi => (hg i hi).1) p.2.cs h3]
 · have h1 := h.H id p hq
   obtain ⟨h2, _, _⟩ := H.objs id _ h1
   have := h.K id p hq
   unfold XO.ok at this ⊢
   rw [(hg id h2).1, (hg id h2).2]
   exact this
theorem TS0.agree {T : TR XV} {ρ : Nat → Nat × Nat} {a : Act} {w : World} (H : ST C.toCx E ρ nx tm hp a w) (h : TS0 κ T tm) (hg : ∀ i, i < nx → κ' i = κ i) : TS0 κ' T tm := by
 intro t xv ht
 have h1 := h t xv ht
 rw [h1, XV.av_congr hg xv (H.tmps t _ h1).1]
theorem Sub.agree {ρ : Nat → Nat × Nat} {a : Act} {w : World} (H : ST C.toCx E ρ nx tm hp a w) (h : Sub κ τ s tm hp) (hg : Agr nx κ τ κ' τ') : Sub κ' τ' s tm hp :=
 ⟨h.toSubH.agree H.heap hg, h.T.agree H (fun i hi => (hg i hi).1)⟩
theorem TS0.put {T T' : TR XV} {d : Option Nat} {v : XV} (h : TS0 κ T tm) (hT : ∀ t, T'.get t = putG d v t (T.get t)) : TS0 κ T' (putTm d (v.av κ) tm) := by
 intro t xv ht
 rw [hT] at ht
 cases d with
 | none => exact h t xv ht
 | some d =>
   simp only [putG] at ht
   simp only [putTm, lk_cons]
   split at ht
   · rename_i e; cases ht; rw [if_pos e.symm]
   · rename_i e; rw [if_neg (fun e' => e e'.symm)]; exact h t xv ht
theorem SubH.same (h : SubH κ τ s hp) (hH : s'.H = s.H) : SubH κ τ s' hp := ⟨fun id p hq => h.H id p (by rw [← hH]; exact hq), fun id p hq => h.K id p (by rw [← hH]; exact hq)⟩
theorem Sub.put {nt : Nat} {d : Option Nat} {v : XV} (h : Sub κ τ s tm hp) (hp' : s.putT nt d v = some s') : Sub κ τ s' (putTm d (v.av κ) tm) hp := by
 obtain ⟨_, _, _, h4, _, h6⟩ := putT_some hp'
 exact ⟨h.toSubH.same h4, h.T.put h6⟩
theorem wantedX_ok (h : TS0 κ s.T tm) {g : Option (Nat × Bool)} {b : Bool} (hw : wantedX ops s.T g = some b) : wanted ops tm g = some b := by
 cases g with
 | none => exact hw
 | some p =>
   obtain ⟨j, want⟩ := p
   simp only [wantedX] at hw
   simp only [wanted]
   cases hd : (ops[j]?).bind (·.dst) with
   | none => rw [hd] at hw; cases hw
   | some t =>
     rw [hd] at hw
     simp only [Option.bind_some] at hw ⊢
     cases hl : s.T.get t with
     | none => rw [hl] at hw; cases hw
     | some xv =>
       rw [hl] at hw
       rw [h t xv hl]
       split at hw
       · rename_i e; cases e; exact hw
       · rename_i e; cases e; exact hw
       · rename_i e; cases e; exact hw
       · cases hw
theorem WL_gives {o : Oper} {av : AV} (hv : Gives C o nx tm hp av) (hg : wanted ops tm o.guard = some true) (hd : ∀ d', o.dst = some d' → d' < E.nt)
 (h : WL C E ops rest nx (putTm o.dst av tm) hp Q) : WL C E ops (o :: rest) nx tm hp Q := by
 intro ρ a w H
 obtain ⟨h1, h2⟩ := hv E ρ a w H
 exact wpList_of_run (wanted_sound H hg) h1 (h _ _ _ (H.putD hd h2))
theorem WL_skipD {o : Oper} (hg : wanted ops tm o.guard = some false) (hd : ∀ d', o.dst = some d' → d' < E.nt) (h : WL C E ops rest nx (putTm o.dst (.v undef) tm) hp Q) : WL C E ops (o :: rest) nx tm hp Q := by
 obtain ⟨d, op, ty, pos, af, g⟩ := o
 cases d with
 | none => exact WL_skip0 hg h
 | some d => exact WL_skip hg (by rw [Nat.blt_eq]; exact hd d rfl) h
def Stp (C : Cy) (E : En) (κ τ : Nat → Nat) (s s' : XS) (ops : Array Oper) (rest : List Oper) (Q : Po) : Prop :=
 ∀ κ' τ' tm' hp', Agr s.nx κ τ κ' τ' → Sub κ' τ' s' tm' hp' → WL C E ops rest s'.nx tm' hp' Q
theorem WL_store0 {t : TypeId} {x v : Operand} {ty : TypeId} {pos : String} {af : Array Edge} {g : Option (Nat × Bool)} {ts : TS} {id off : Nat} {va : AV}
 (hs : C.ti t = some ts) (hx : ev tm x = some (.ptr id off)) (hv : ev tm v = some va) (hl : va.cellsL = some []) (hz : ts.size = 0) (hg : wanted ops tm g = some true) (h : WL C E ops rest nx tm hp Q) :
 WL C E ops (⟨none, .store t x v, ty, pos, af, g⟩ :: rest) nx tm hp Q := by
 intro ρ a w H
 obtain ⟨h1, h2⟩ := H.ev hx
 obtain ⟨h3, h4⟩ := H.ev hv
 obtain ⟨h5, h6⟩ := cellsL_den (ρ := ρ) hl
 refine wpList_of_skip (w' := w) (wanted_sound H (o := ⟨none, .store t x v, ty, pos, af, g⟩) hg) ?_ (h ρ a w H)
 simp only [execOp, Instr.storeAt, Instr.sureAddr, h1, h3, AV.den, Sem.run_bind, Sem.run_pure, Result.andThen_ok, storeVar, h5, denL, run_sizeOf hs, hz, ne_eq, not_true_eq_false, if_false, Sem.run_ite, storeCells, List.size_toArray, List.length_nil]
theorem stX_sound {t : TypeId} {x v : Operand} {ty : TypeId} {pos : String} {af : Array Edge} {g : Option (Nat × Bool)} (h : stX C s t x v = some s') (hS : Sub κ τ s tm hp) (hg : wanted ops tm g = some true)
 (hq : Stp C E κ τ s s' ops rest Q) : WL C E ops (⟨none, .store t x v, ty, pos, af, g⟩ :: rest) s.nx tm hp Q := by
 unfold stX at h
 obtain ⟨ts, hts, h'⟩ := bind_some' h; clear h; have h := h'; clear h'
 obtain ⟨a, ha, h'⟩ := bind_some' h; clear h; have h := h'; clear h'
 obtain ⟨b, hb, h'⟩ := bind_some' h; clear h; have h := h'; clear h'
 obtain ⟨l, hl, h'⟩ := bind_some' h; clear h; have h := h'; clear h'
 cases hsz : Nat.beq l.length ts.size <;> rw [hsz] at h
 · cases h
 simp only [cond_true] at h
 split at h
 case h_2 => cases h
 rename_i id off
 cases hpos : Nat.blt 0 l.length <;> rw [hpos] at h
 · cases h
   have h0 : l = [] := by
    cases l with
    | nil => rfl
    | cons a l => simp [Nat.blt] at hpos; cases hpos
   subst h0
   exact WL_store0 hts (evX_ev hS.T ha) (evX_ev hS.T hb) (cellsL_av hl) (Nat.eq_of_beq_eq_true hsz).symm hg (hq κ τ tm hp (Agr.refl _ _ _) hS)
 · simp only [cond_true] at h
   obtain ⟨o, ho, h'⟩ := bind_some' h; clear h; have h := h'; clear h'
   cases hfit : Nat.ble (off + l.length) o.cs.length <;> rw [hfit] at h
   · cases h
   cases h
   obtain ⟨h1, h2⟩ := hS.toSubH.obj ho
   refine WL_store (φ := True) (id := id) (o' := ({ o with cs := setLX o.cs off l } : XO).ao κ (τ id)) ?_ hg trivial (hq κ τ tm _ (Agr.refl _ _ _) ⟨⟨?_, ?_⟩, hS.T⟩)
   · simp only [stV, hts, Option.bind_some, evX_ev hS.T ha, evX_ev hS.T hb, cellsL_av hl, avL_length, hsz, hpos, Bool.and_self, cond_true, XV.av, stAt, h1, XO.ao, stRow, Nat.zero_mul, Nat.zero_add, hfit, Option.map_some, setLX_av]
   · intro j p hj
     simp only [XS.putO, TR.get_set] at hj
     rw [lk_cons]
     split at hj
     · rename_i e; cases hj; rw [if_pos e.symm, e]
     · rename_i e; rw [if_neg (fun e' => e e'.symm)]; exact hS.H j p hj
   · intro j p hj
     simp only [XS.putO, TR.get_set] at hj
     split at hj
     · rename_i e; cases hj; subst e; exact h2
     · exact hS.K j p hj
theorem Sub.newO {ρ : Nat → Nat × Nat} {a : Act} {w : World} (H : ST C.toCx E ρ s.nx tm hp a w) (hS : Sub κ τ s tm hp) {ob : XO} {c tt : Nat} (hok : (if ob.ex = true then c = ob.c else ob.c ≤ c) ∧ c * ob.n ≤ tt)
 (hl : ltL s.nx (avL κ ob.cs)) {o' : AO} (ho' : o' = .cells ob.e (some tt) (avL κ ob.cs)) :
 Agr s.nx κ τ (fun i => if i = s.nx then c else κ i) (fun i => if i = s.nx then tt else τ i) ∧ Sub (fun i => if i = s.nx then c else κ i) (fun i => if i = s.nx then tt else τ i) (s.newO ob) tm ((s.nx, o') :: hp) ∧
  (∀ x : XV, (x.av κ).lt s.nx → x.av (fun i => if i = s.nx then c else κ i) = x.av κ) := by
 have hg : Agr s.nx κ τ (fun i => if i = s.nx then c else κ i) (fun i => if i = s.nx then tt else τ i) := fun i hi => ⟨if_neg (by omega), if_neg (by omega)⟩
 have hS' := hS.agree H hg
 refine ⟨hg, ⟨⟨?_, ?_⟩, hS'.T⟩, fun x hx => XV.av_congr (fun i hi => (hg i hi).1) x hx⟩
 · intro j p hj
   simp only [XS.newO, TR.get_set] at hj
   rw [lk_cons]
   split at hj
   · rename_i e; cases hj; subst e
     rw [if_pos rfl, ho']
     simp only [XO.ao, if_true]
     rw [avL_congr (fun i hi => (hg i hi).1) ob.cs hl]
   · rename_i e; rw [if_neg (fun e' => e e'.symm)]; exact hS'.H j p hj
 · intro j p hj
   simp only [XS.newO, TR.get_set] at hj
   split at hj
   · rename_i e; cases hj; subst e
     unfold XO.ok
     simp only [if_true]
     exact hok
   · exact hS'.K j p hj
end Go.Eng
