/- A part of the proof that the rows statement FnSetBack holds; no conditions. -/
import Derived.Test.YthkgjhnckakliaaGreatDoorProg
import Derived.Test.YthkgjhnckakliaaGreatDoorZAH
import Derived.Lib.Space
import Derived.Lib.ItoaNum
import Derived.Lib.LaidTab
import Derived.KernelRfl
set_option linter.unusedVariables false
set_option linter.unusedSimpArgs false
set_option linter.unusedSectionVars false
namespace Go.Eng
open Go.Proofs
inductive Tr where
 | nil
 | node (k : Nat) (v : TS) (l r : Tr)
def Tr.get : Tr → Nat → Option TS
 | .nil, _ => none
 | .node k v l r, i => bif Nat.beq i k then some v else bif Nat.blt i k then l.get i else r.get i
def Tr.All (p : Nat → TS → Prop) : Tr → Prop
 | .nil => True
 | .node k v l r => p k v ∧ l.All p ∧ r.All p
theorem Tr.get_all {p : Nat → TS → Prop} : ∀ {t : Tr}, t.All p → ∀ {i s}, t.get i = some s → p i s
 | .nil, _, _, _, h => by cases h
 | .node k v l r, ha, i, s, h => by
   simp only [Tr.get] at h
   cases e : Nat.beq i k <;> rw [e] at h
   · cases e2 : Nat.blt i k <;> rw [e2] at h
     · exact Tr.get_all ha.2.2 h
     · exact Tr.get_all ha.2.1 h
   · cases h; have := Nat.eq_of_beq_eq_true e; subst this; exact ha.1
abbrev tz (a b : TypeInfo) : TS := ⟨a.desc, b.size, b.bytes, b.zero⟩
theorem tz_ {n : TypeId} {a b : TypeInfo} (h1 : Tryz.prog.underlying n = some a.desc) (h2 : Tryz.prog.info? n = some b) : TOK Tryz.prog n (tz a b) := ⟨h1, b, h2, rfl, rfl, rfl⟩
noncomputable def tyTree : Tr := (.node 215 (tz Tryz.t215 Tryz.t215) (.node 130 (tz Tryz.t130 Tryz.t130) (.node 38 (tz Tryz.t37 Tryz.t38) (.node 24 (tz Tryz.t24 Tryz.t24) (.node 9 (tz Tryz.t9 Tryz.t9) (.node 4 (tz Tryz.t4 Tryz.t4) (.node 3 (tz Tryz.t3 Tryz.t3) (.node 2 (tz Tryz.t2 Tryz.t2) .nil .nil) .nil) (.node 5 (tz Tryz.t5 Tryz.t5) .nil .nil)) (.node 22 (tz Tryz.t22 Tryz.t22) (.node 21 (tz Tryz.t21 Tryz.t21) .nil .nil) (.node 23 (tz Tryz.t23 Tryz.t23) .nil .nil))) (.node 28 (tz Tryz.t27 Tryz.t28) (.node 26 (tz Tryz.t26 Tryz.t26) (.node 25 (tz Tryz.t24 Tryz.t25) .nil .nil) (.node 27 (tz Tryz.t27 Tryz.t27) .nil .nil)) (.node 36 (tz Tryz.t36 Tryz.t36) (.node 31 (tz Tryz.t31 Tryz.t31) .nil .nil) (.node 37 (tz Tryz.t37 Tryz.t37) .nil .nil)))) (.node 85 (tz Tryz.t85 Tryz.t85) (.node 67 (tz Tryz.t67 Tryz.t67) (.node 40 (tz Tryz.t39 Tryz.t40) (.node 39 (tz Tryz.t39 Tryz.t39) .nil .nil) (.node 55 (tz Tryz.t55 Tryz.t55) .nil .nil)) (.node 75 (tz Tryz.t75 Tryz.t75) (.node 70 (tz Tryz.t70 Tryz.t70) .nil .nil) (.node 76 (tz Tryz.t75 Tryz.t76) .nil .nil))) (.node 95 (tz Tryz.t94 Tryz.t95) (.node 88 (tz Tryz.t87 Tryz.t88) (.node 87 (tz Tryz.t87 Tryz.t87) .nil .nil) (.node 94 (tz Tryz.t94 Tryz.t94) .nil .nil)) (.node 114 (tz Tryz.t114 Tryz.t114) (.node 110 (tz Tryz.t94 Tryz.t110) .nil .nil) (.node 127 (tz Tryz.t127 Tryz.t127) .nil .nil))))) (.node 167 (tz Tryz.t167 Tryz.t167) (.node 143 (tz Tryz.t143 Tryz.t143) (.node 135 (tz Tryz.t134 Tryz.t135) (.node 133 (tz Tryz.t133 Tryz.t133) (.node 132 (tz Tryz.t132 Tryz.t132) .nil .nil) (.node 134 (tz Tryz.t134 Tryz.t134) .nil .nil)) (.node 141 (tz Tryz.t141 Tryz.t141) (.node 140 (tz Tryz.t3 Tryz.t140) .nil .nil) (.node 142 (tz Tryz.t141 Tryz.t142) .nil .nil))) (.node 152 (tz Tryz.t151 Tryz.t152) (.node 145 (tz Tryz.t144 Tryz.t145) (.node 144 (tz Tryz.t144 Tryz.t144) .nil .nil) (.node 151 (tz Tryz.t151 Tryz.t151) .nil .nil)) (.node 156 (tz Tryz.t155 Tryz.t156) (.node 155 (tz Tryz.t155 Tryz.t155) .nil .nil) (.node 163 (tz Tryz.t163 Tryz.t163) .nil .nil)))) (.node 194 (tz Tryz.t194 Tryz.t194) (.node 175 (tz Tryz.t167 Tryz.t175) (.node 171 (tz Tryz.t171 Tryz.t171) (.node 169 (tz Tryz.t133 Tryz.t169) .nil .nil) (.node 173 (tz Tryz.t85 Tryz.t173) .nil .nil)) (.node 177 (tz Tryz.t176 Tryz.t177) (.node 176 (tz Tryz.t176 Tryz.t176) .nil .nil) (.node 186 (tz Tryz.t3 Tryz.t186) .nil .nil))) (.node 207 (tz Tryz.t207 Tryz.t207) (.node 205 (tz Tryz.t205 Tryz.t205) (.node 196 (tz Tryz.t196 Tryz.t196) .nil .nil) (.node 206 (tz Tryz.t206 Tryz.t206) .nil .nil)) (.node 211 (tz Tryz.t211 Tryz.t211) (.node 210 (tz Tryz.t210 Tryz.t210) .nil .nil) (.node 212 (tz Tryz.t211 Tryz.t212) .nil .nil)))))) (.node 332 (tz Tryz.t332 Tryz.t332) (.node 255 (tz Tryz.t255 Tryz.t255) (.node 245 (tz Tryz.t244 Tryz.t245) (.node 241 (tz Tryz.t241 Tryz.t241) (.node 226 (tz Tryz.t226 Tryz.t226) (.node 225 (tz Tryz.t225 Tryz.t225) (.node 220 (tz Tryz.t2 Tryz.t220) .nil .nil) .nil) (.node 227 (tz Tryz.t226 Tryz.t227) .nil .nil)) (.node 243 (tz Tryz.t243 Tryz.t243) (.node 242 (tz Tryz.t242 Tryz.t242) .nil .nil) (.node 244 (tz Tryz.t244 Tryz.t244) .nil .nil))) (.node 251 (tz Tryz.t251 Tryz.t251) (.node 248 (tz Tryz.t247 Tryz.t248) (.node 247 (tz Tryz.t247 Tryz.t247) .nil .nil) (.node 250 (tz Tryz.t3 Tryz.t250) .nil .nil)) (.node 253 (tz Tryz.t253 Tryz.t253) (.node 252 (tz Tryz.t251 Tryz.t252) .nil .nil) (.node 254 (tz Tryz.t253 Tryz.t254) .nil .nil)))) (.node 276 (tz Tryz.t276 Tryz.t276) (.node 266 (tz Tryz.t266 Tryz.t266) (.node 257 (tz Tryz.t256 Tryz.t257) (.node 256 (tz Tryz.t256 Tryz.t256) .nil .nil) (.node 262 (tz Tryz.t3 Tryz.t262) .nil .nil)) (.node 272 (tz Tryz.t272 Tryz.t272) (.node 268 (tz Tryz.t196 Tryz.t268) .nil .nil) (.node 275 (tz Tryz.t275 Tryz.t275) .nil .nil))) (.node 316 (tz Tryz.t316 Tryz.t316) (.node 294 (tz Tryz.t294 Tryz.t294) (.node 280 (tz Tryz.t280 Tryz.t280) .nil .nil) (.node 299 (tz Tryz.t3 Tryz.t299) .nil .nil)) (.node 326 (tz Tryz.t326 Tryz.t326) (.node 321 (tz Tryz.t321 Tryz.t321) .nil .nil) (.node 329 (tz Tryz.t329 Tryz.t329) .nil .nil))))) (.node 373 (tz Tryz.t373 Tryz.t373) (.node 342 (tz Tryz.t342 Tryz.t342) (.node 337 (tz Tryz.t336 Tryz.t337) (.node 335 (tz Tryz.t335 Tryz.t335) (.node 334 (tz Tryz.t334 Tryz.t334) .nil .nil) (.node 336 (tz Tryz.t336 Tryz.t336) .nil .nil)) (.node 339 (tz Tryz.t339 Tryz.t339) (.node 338 (tz Tryz.t338 Tryz.t338) .nil .nil) (.node 340 (tz Tryz.t339 Tryz.t340) .nil .nil))) (.node 354 (tz Tryz.t354 Tryz.t354) (.node 346 (tz Tryz.t196 Tryz.t346) (.node 343 (tz Tryz.t342 Tryz.t343) .nil .nil) (.node 351 (tz Tryz.t351 Tryz.t351) .nil .nil)) (.node 361 (tz Tryz.t361 Tryz.t361) (.node 355 (tz Tryz.t354 Tryz.t355) .nil .nil) (.node 370 (tz Tryz.t3 Tryz.t370) .nil .nil)))) (.node 393 (tz Tryz.t392 Tryz.t393) (.node 384 (tz Tryz.t384 Tryz.t384) (.node 379 (tz Tryz.t378 Tryz.t379) (.node 378 (tz Tryz.t378 Tryz.t378) .nil .nil) (.node 380 (tz Tryz.t380 Tryz.t380) .nil .nil)) (.node 389 (tz Tryz.t389 Tryz.t389) (.node 385 (tz Tryz.t385 Tryz.t385) .nil .nil) (.node 392 (tz Tryz.t392 Tryz.t392) .nil .nil))) (.node 405 (tz Tryz.t405 Tryz.t405) (.node 403 (tz Tryz.t403 Tryz.t403) (.node 398 (tz Tryz.t398 Tryz.t398) .nil .nil) (.node 404 (tz Tryz.t404 Tryz.t404) .nil .nil)) (.node 407 (tz Tryz.t407 Tryz.t407) (.node 406 (tz Tryz.t405 Tryz.t406) .nil .nil) (.node 408 (tz Tryz.t407 Tryz.t408) .nil .nil)))))))
theorem tok2 : TOK Tryz.prog 2 (tz Tryz.t2 Tryz.t2) := tz_ (by kernel_rfl) (by kernel_rfl)
theorem tok3 : TOK Tryz.prog 3 (tz Tryz.t3 Tryz.t3) := tz_ (by kernel_rfl) (by kernel_rfl)
theorem tok4 : TOK Tryz.prog 4 (tz Tryz.t4 Tryz.t4) := tz_ (by kernel_rfl) (by kernel_rfl)
theorem tok5 : TOK Tryz.prog 5 (tz Tryz.t5 Tryz.t5) := tz_ (by kernel_rfl) (by kernel_rfl)
theorem tok9 : TOK Tryz.prog 9 (tz Tryz.t9 Tryz.t9) := tz_ (by kernel_rfl) (by kernel_rfl)
theorem tok21 : TOK Tryz.prog 21 (tz Tryz.t21 Tryz.t21) := tz_ (by kernel_rfl) (by kernel_rfl)
theorem tok22 : TOK Tryz.prog 22 (tz Tryz.t22 Tryz.t22) := tz_ (by kernel_rfl) (by kernel_rfl)
theorem tok23 : TOK Tryz.prog 23 (tz Tryz.t23 Tryz.t23) := tz_ (by kernel_rfl) (by kernel_rfl)
theorem tok24 : TOK Tryz.prog 24 (tz Tryz.t24 Tryz.t24) := tz_ (by kernel_rfl) (by kernel_rfl)
theorem tok25 : TOK Tryz.prog 25 (tz Tryz.t24 Tryz.t25) := tz_ (by kernel_rfl) (by kernel_rfl)
theorem tok26 : TOK Tryz.prog 26 (tz Tryz.t26 Tryz.t26) := tz_ (by kernel_rfl) (by kernel_rfl)
theorem tok27 : TOK Tryz.prog 27 (tz Tryz.t27 Tryz.t27) := tz_ (by kernel_rfl) (by kernel_rfl)
theorem tok28 : TOK Tryz.prog 28 (tz Tryz.t27 Tryz.t28) := tz_ (by kernel_rfl) (by kernel_rfl)
theorem tok31 : TOK Tryz.prog 31 (tz Tryz.t31 Tryz.t31) := tz_ (by kernel_rfl) (by kernel_rfl)
theorem tok36 : TOK Tryz.prog 36 (tz Tryz.t36 Tryz.t36) := tz_ (by kernel_rfl) (by kernel_rfl)
theorem tok37 : TOK Tryz.prog 37 (tz Tryz.t37 Tryz.t37) := tz_ (by kernel_rfl) (by kernel_rfl)
theorem tok38 : TOK Tryz.prog 38 (tz Tryz.t37 Tryz.t38) := tz_ (by kernel_rfl) (by kernel_rfl)
theorem tok39 : TOK Tryz.prog 39 (tz Tryz.t39 Tryz.t39) := tz_ (by kernel_rfl) (by kernel_rfl)
theorem tok40 : TOK Tryz.prog 40 (tz Tryz.t39 Tryz.t40) := tz_ (by kernel_rfl) (by kernel_rfl)
theorem tok55 : TOK Tryz.prog 55 (tz Tryz.t55 Tryz.t55) := tz_ (by kernel_rfl) (by kernel_rfl)
theorem tok67 : TOK Tryz.prog 67 (tz Tryz.t67 Tryz.t67) := tz_ (by kernel_rfl) (by kernel_rfl)
theorem tok70 : TOK Tryz.prog 70 (tz Tryz.t70 Tryz.t70) := tz_ (by kernel_rfl) (by kernel_rfl)
theorem tok75 : TOK Tryz.prog 75 (tz Tryz.t75 Tryz.t75) := tz_ (by kernel_rfl) (by kernel_rfl)
theorem tok76 : TOK Tryz.prog 76 (tz Tryz.t75 Tryz.t76) := tz_ (by kernel_rfl) (by kernel_rfl)
theorem tok85 : TOK Tryz.prog 85 (tz Tryz.t85 Tryz.t85) := tz_ (by kernel_rfl) (by kernel_rfl)
theorem tok87 : TOK Tryz.prog 87 (tz Tryz.t87 Tryz.t87) := tz_ (by kernel_rfl) (by kernel_rfl)
theorem tok88 : TOK Tryz.prog 88 (tz Tryz.t87 Tryz.t88) := tz_ (by kernel_rfl) (by kernel_rfl)
theorem tok94 : TOK Tryz.prog 94 (tz Tryz.t94 Tryz.t94) := tz_ (by kernel_rfl) (by kernel_rfl)
theorem tok95 : TOK Tryz.prog 95 (tz Tryz.t94 Tryz.t95) := tz_ (by kernel_rfl) (by kernel_rfl)
theorem tok110 : TOK Tryz.prog 110 (tz Tryz.t94 Tryz.t110) := tz_ (by kernel_rfl) (by kernel_rfl)
theorem tok114 : TOK Tryz.prog 114 (tz Tryz.t114 Tryz.t114) := tz_ (by kernel_rfl) (by kernel_rfl)
theorem tok127 : TOK Tryz.prog 127 (tz Tryz.t127 Tryz.t127) := tz_ (by kernel_rfl) (by kernel_rfl)
theorem tok130 : TOK Tryz.prog 130 (tz Tryz.t130 Tryz.t130) := tz_ (by kernel_rfl) (by kernel_rfl)
theorem tok132 : TOK Tryz.prog 132 (tz Tryz.t132 Tryz.t132) := tz_ (by kernel_rfl) (by kernel_rfl)
theorem tok133 : TOK Tryz.prog 133 (tz Tryz.t133 Tryz.t133) := tz_ (by kernel_rfl) (by kernel_rfl)
theorem tok134 : TOK Tryz.prog 134 (tz Tryz.t134 Tryz.t134) := tz_ (by kernel_rfl) (by kernel_rfl)
theorem tok135 : TOK Tryz.prog 135 (tz Tryz.t134 Tryz.t135) := tz_ (by kernel_rfl) (by kernel_rfl)
theorem tok140 : TOK Tryz.prog 140 (tz Tryz.t3 Tryz.t140) := tz_ (by kernel_rfl) (by kernel_rfl)
theorem tok141 : TOK Tryz.prog 141 (tz Tryz.t141 Tryz.t141) := tz_ (by kernel_rfl) (by kernel_rfl)
theorem tok142 : TOK Tryz.prog 142 (tz Tryz.t141 Tryz.t142) := tz_ (by kernel_rfl) (by kernel_rfl)
theorem tok143 : TOK Tryz.prog 143 (tz Tryz.t143 Tryz.t143) := tz_ (by kernel_rfl) (by kernel_rfl)
theorem tok144 : TOK Tryz.prog 144 (tz Tryz.t144 Tryz.t144) := tz_ (by kernel_rfl) (by kernel_rfl)
theorem tok145 : TOK Tryz.prog 145 (tz Tryz.t144 Tryz.t145) := tz_ (by kernel_rfl) (by kernel_rfl)
theorem tok151 : TOK Tryz.prog 151 (tz Tryz.t151 Tryz.t151) := tz_ (by kernel_rfl) (by kernel_rfl)
theorem tok152 : TOK Tryz.prog 152 (tz Tryz.t151 Tryz.t152) := tz_ (by kernel_rfl) (by kernel_rfl)
theorem tok155 : TOK Tryz.prog 155 (tz Tryz.t155 Tryz.t155) := tz_ (by kernel_rfl) (by kernel_rfl)
theorem tok156 : TOK Tryz.prog 156 (tz Tryz.t155 Tryz.t156) := tz_ (by kernel_rfl) (by kernel_rfl)
theorem tok163 : TOK Tryz.prog 163 (tz Tryz.t163 Tryz.t163) := tz_ (by kernel_rfl) (by kernel_rfl)
theorem tok167 : TOK Tryz.prog 167 (tz Tryz.t167 Tryz.t167) := tz_ (by kernel_rfl) (by kernel_rfl)
theorem tok169 : TOK Tryz.prog 169 (tz Tryz.t133 Tryz.t169) := tz_ (by kernel_rfl) (by kernel_rfl)
theorem tok171 : TOK Tryz.prog 171 (tz Tryz.t171 Tryz.t171) := tz_ (by kernel_rfl) (by kernel_rfl)
theorem tok173 : TOK Tryz.prog 173 (tz Tryz.t85 Tryz.t173) := tz_ (by kernel_rfl) (by kernel_rfl)
theorem tok175 : TOK Tryz.prog 175 (tz Tryz.t167 Tryz.t175) := tz_ (by kernel_rfl) (by kernel_rfl)
theorem tok176 : TOK Tryz.prog 176 (tz Tryz.t176 Tryz.t176) := tz_ (by kernel_rfl) (by kernel_rfl)
theorem tok177 : TOK Tryz.prog 177 (tz Tryz.t176 Tryz.t177) := tz_ (by kernel_rfl) (by kernel_rfl)
theorem tok186 : TOK Tryz.prog 186 (tz Tryz.t3 Tryz.t186) := tz_ (by kernel_rfl) (by kernel_rfl)
theorem tok194 : TOK Tryz.prog 194 (tz Tryz.t194 Tryz.t194) := tz_ (by kernel_rfl) (by kernel_rfl)
theorem tok196 : TOK Tryz.prog 196 (tz Tryz.t196 Tryz.t196) := tz_ (by kernel_rfl) (by kernel_rfl)
theorem tok205 : TOK Tryz.prog 205 (tz Tryz.t205 Tryz.t205) := tz_ (by kernel_rfl) (by kernel_rfl)
theorem tok206 : TOK Tryz.prog 206 (tz Tryz.t206 Tryz.t206) := tz_ (by kernel_rfl) (by kernel_rfl)
theorem tok207 : TOK Tryz.prog 207 (tz Tryz.t207 Tryz.t207) := tz_ (by kernel_rfl) (by kernel_rfl)
theorem tok210 : TOK Tryz.prog 210 (tz Tryz.t210 Tryz.t210) := tz_ (by kernel_rfl) (by kernel_rfl)
theorem tok211 : TOK Tryz.prog 211 (tz Tryz.t211 Tryz.t211) := tz_ (by kernel_rfl) (by kernel_rfl)
theorem tok212 : TOK Tryz.prog 212 (tz Tryz.t211 Tryz.t212) := tz_ (by kernel_rfl) (by kernel_rfl)
theorem tok215 : TOK Tryz.prog 215 (tz Tryz.t215 Tryz.t215) := tz_ (by kernel_rfl) (by kernel_rfl)
theorem tok220 : TOK Tryz.prog 220 (tz Tryz.t2 Tryz.t220) := tz_ (by kernel_rfl) (by kernel_rfl)
theorem tok225 : TOK Tryz.prog 225 (tz Tryz.t225 Tryz.t225) := tz_ (by kernel_rfl) (by kernel_rfl)
theorem tok226 : TOK Tryz.prog 226 (tz Tryz.t226 Tryz.t226) := tz_ (by kernel_rfl) (by kernel_rfl)
theorem tok227 : TOK Tryz.prog 227 (tz Tryz.t226 Tryz.t227) := tz_ (by kernel_rfl) (by kernel_rfl)
theorem tok241 : TOK Tryz.prog 241 (tz Tryz.t241 Tryz.t241) := tz_ (by kernel_rfl) (by kernel_rfl)
theorem tok242 : TOK Tryz.prog 242 (tz Tryz.t242 Tryz.t242) := tz_ (by kernel_rfl) (by kernel_rfl)
theorem tok243 : TOK Tryz.prog 243 (tz Tryz.t243 Tryz.t243) := tz_ (by kernel_rfl) (by kernel_rfl)
theorem tok244 : TOK Tryz.prog 244 (tz Tryz.t244 Tryz.t244) := tz_ (by kernel_rfl) (by kernel_rfl)
theorem tok245 : TOK Tryz.prog 245 (tz Tryz.t244 Tryz.t245) := tz_ (by kernel_rfl) (by kernel_rfl)
theorem tok247 : TOK Tryz.prog 247 (tz Tryz.t247 Tryz.t247) := tz_ (by kernel_rfl) (by kernel_rfl)
theorem tok248 : TOK Tryz.prog 248 (tz Tryz.t247 Tryz.t248) := tz_ (by kernel_rfl) (by kernel_rfl)
theorem tok250 : TOK Tryz.prog 250 (tz Tryz.t3 Tryz.t250) := tz_ (by kernel_rfl) (by kernel_rfl)
theorem tok251 : TOK Tryz.prog 251 (tz Tryz.t251 Tryz.t251) := tz_ (by kernel_rfl) (by kernel_rfl)
theorem tok252 : TOK Tryz.prog 252 (tz Tryz.t251 Tryz.t252) := tz_ (by kernel_rfl) (by kernel_rfl)
theorem tok253 : TOK Tryz.prog 253 (tz Tryz.t253 Tryz.t253) := tz_ (by kernel_rfl) (by kernel_rfl)
theorem tok254 : TOK Tryz.prog 254 (tz Tryz.t253 Tryz.t254) := tz_ (by kernel_rfl) (by kernel_rfl)
theorem tok255 : TOK Tryz.prog 255 (tz Tryz.t255 Tryz.t255) := tz_ (by kernel_rfl) (by kernel_rfl)
theorem tok256 : TOK Tryz.prog 256 (tz Tryz.t256 Tryz.t256) := tz_ (by kernel_rfl) (by kernel_rfl)
theorem tok257 : TOK Tryz.prog 257 (tz Tryz.t256 Tryz.t257) := tz_ (by kernel_rfl) (by kernel_rfl)
theorem tok262 : TOK Tryz.prog 262 (tz Tryz.t3 Tryz.t262) := tz_ (by kernel_rfl) (by kernel_rfl)
theorem tok266 : TOK Tryz.prog 266 (tz Tryz.t266 Tryz.t266) := tz_ (by kernel_rfl) (by kernel_rfl)
theorem tok268 : TOK Tryz.prog 268 (tz Tryz.t196 Tryz.t268) := tz_ (by kernel_rfl) (by kernel_rfl)
theorem tok272 : TOK Tryz.prog 272 (tz Tryz.t272 Tryz.t272) := tz_ (by kernel_rfl) (by kernel_rfl)
theorem tok275 : TOK Tryz.prog 275 (tz Tryz.t275 Tryz.t275) := tz_ (by kernel_rfl) (by kernel_rfl)
theorem tok276 : TOK Tryz.prog 276 (tz Tryz.t276 Tryz.t276) := tz_ (by kernel_rfl) (by kernel_rfl)
theorem tok280 : TOK Tryz.prog 280 (tz Tryz.t280 Tryz.t280) := tz_ (by kernel_rfl) (by kernel_rfl)
theorem tok294 : TOK Tryz.prog 294 (tz Tryz.t294 Tryz.t294) := tz_ (by kernel_rfl) (by kernel_rfl)
theorem tok299 : TOK Tryz.prog 299 (tz Tryz.t3 Tryz.t299) := tz_ (by kernel_rfl) (by kernel_rfl)
theorem tok316 : TOK Tryz.prog 316 (tz Tryz.t316 Tryz.t316) := tz_ (by kernel_rfl) (by kernel_rfl)
theorem tok321 : TOK Tryz.prog 321 (tz Tryz.t321 Tryz.t321) := tz_ (by kernel_rfl) (by kernel_rfl)
theorem tok326 : TOK Tryz.prog 326 (tz Tryz.t326 Tryz.t326) := tz_ (by kernel_rfl) (by kernel_rfl)
theorem tok329 : TOK Tryz.prog 329 (tz Tryz.t329 Tryz.t329) := tz_ (by kernel_rfl) (by kernel_rfl)
theorem tok332 : TOK Tryz.prog 332 (tz Tryz.t332 Tryz.t332) := tz_ (by kernel_rfl) (by kernel_rfl)
theorem tok334 : TOK Tryz.prog 334 (tz Tryz.t334 Tryz.t334) := tz_ (by kernel_rfl) (by kernel_rfl)
theorem tok335 : TOK Tryz.prog 335 (tz Tryz.t335 Tryz.t335) := tz_ (by kernel_rfl) (by kernel_rfl)
theorem tok336 : TOK Tryz.prog 336 (tz Tryz.t336 Tryz.t336) := tz_ (by kernel_rfl) (by kernel_rfl)
theorem tok337 : TOK Tryz.prog 337 (tz Tryz.t336 Tryz.t337) := tz_ (by kernel_rfl) (by kernel_rfl)
theorem tok338 : TOK Tryz.prog 338 (tz Tryz.t338 Tryz.t338) := tz_ (by kernel_rfl) (by kernel_rfl)
theorem tok339 : TOK Tryz.prog 339 (tz Tryz.t339 Tryz.t339) := tz_ (by kernel_rfl) (by kernel_rfl)
theorem tok340 : TOK Tryz.prog 340 (tz Tryz.t339 Tryz.t340) := tz_ (by kernel_rfl) (by kernel_rfl)
theorem tok342 : TOK Tryz.prog 342 (tz Tryz.t342 Tryz.t342) := tz_ (by kernel_rfl) (by kernel_rfl)
theorem tok343 : TOK Tryz.prog 343 (tz Tryz.t342 Tryz.t343) := tz_ (by kernel_rfl) (by kernel_rfl)
theorem tok346 : TOK Tryz.prog 346 (tz Tryz.t196 Tryz.t346) := tz_ (by kernel_rfl) (by kernel_rfl)
theorem tok351 : TOK Tryz.prog 351 (tz Tryz.t351 Tryz.t351) := tz_ (by kernel_rfl) (by kernel_rfl)
theorem tok354 : TOK Tryz.prog 354 (tz Tryz.t354 Tryz.t354) := tz_ (by kernel_rfl) (by kernel_rfl)
theorem tok355 : TOK Tryz.prog 355 (tz Tryz.t354 Tryz.t355) := tz_ (by kernel_rfl) (by kernel_rfl)
theorem tok361 : TOK Tryz.prog 361 (tz Tryz.t361 Tryz.t361) := tz_ (by kernel_rfl) (by kernel_rfl)
theorem tok370 : TOK Tryz.prog 370 (tz Tryz.t3 Tryz.t370) := tz_ (by kernel_rfl) (by kernel_rfl)
theorem tok373 : TOK Tryz.prog 373 (tz Tryz.t373 Tryz.t373) := tz_ (by kernel_rfl) (by kernel_rfl)
theorem tok378 : TOK Tryz.prog 378 (tz Tryz.t378 Tryz.t378) := tz_ (by kernel_rfl) (by kernel_rfl)
theorem tok379 : TOK Tryz.prog 379 (tz Tryz.t378 Tryz.t379) := tz_ (by kernel_rfl) (by kernel_rfl)
theorem tok380 : TOK Tryz.prog 380 (tz Tryz.t380 Tryz.t380) := tz_ (by kernel_rfl) (by kernel_rfl)
theorem tok384 : TOK Tryz.prog 384 (tz Tryz.t384 Tryz.t384) := tz_ (by kernel_rfl) (by kernel_rfl)
theorem tok385 : TOK Tryz.prog 385 (tz Tryz.t385 Tryz.t385) := tz_ (by kernel_rfl) (by kernel_rfl)
theorem tok389 : TOK Tryz.prog 389 (tz Tryz.t389 Tryz.t389) := tz_ (by kernel_rfl) (by kernel_rfl)
theorem tok392 : TOK Tryz.prog 392 (tz Tryz.t392 Tryz.t392) := tz_ (by kernel_rfl) (by kernel_rfl)
theorem tok393 : TOK Tryz.prog 393 (tz Tryz.t392 Tryz.t393) := tz_ (by kernel_rfl) (by kernel_rfl)
theorem tok398 : TOK Tryz.prog 398 (tz Tryz.t398 Tryz.t398) := tz_ (by kernel_rfl) (by kernel_rfl)
theorem tok403 : TOK Tryz.prog 403 (tz Tryz.t403 Tryz.t403) := tz_ (by kernel_rfl) (by kernel_rfl)
theorem tok404 : TOK Tryz.prog 404 (tz Tryz.t404 Tryz.t404) := tz_ (by kernel_rfl) (by kernel_rfl)
theorem tok405 : TOK Tryz.prog 405 (tz Tryz.t405 Tryz.t405) := tz_ (by kernel_rfl) (by kernel_rfl)
theorem tok406 : TOK Tryz.prog 406 (tz Tryz.t405 Tryz.t406) := tz_ (by kernel_rfl) (by kernel_rfl)
theorem tok407 : TOK Tryz.prog 407 (tz Tryz.t407 Tryz.t407) := tz_ (by kernel_rfl) (by kernel_rfl)
theorem tok408 : TOK Tryz.prog 408 (tz Tryz.t407 Tryz.t408) := tz_ (by kernel_rfl) (by kernel_rfl)
theorem tyAll : tyTree.All (TOK Tryz.prog) := ⟨tok215, ⟨tok130, ⟨tok38, ⟨tok24, ⟨tok9, ⟨tok4, ⟨tok3, ⟨tok2, trivial, trivial⟩, trivial⟩, ⟨tok5, trivial, trivial⟩⟩, ⟨tok22, ⟨tok21, trivial, trivial⟩, ⟨tok23, trivial, trivial⟩⟩⟩, ⟨tok28, ⟨tok26, ⟨tok25, trivial, trivial⟩, ⟨tok27, trivial, trivial⟩⟩, ⟨tok36, ⟨tok31, trivial, trivial⟩, ⟨tok37, trivial, trivial⟩⟩⟩⟩, ⟨tok85, ⟨tok67, ⟨tok40, ⟨tok39, trivial, trivial⟩, ⟨tok55, trivial, trivial⟩⟩, ⟨tok75, ⟨tok70, trivial, trivial⟩, ⟨tok76, trivial, trivial⟩⟩⟩, ⟨tok95, ⟨tok88, ⟨tok87, trivial, trivial⟩, ⟨tok94, trivial, trivial⟩⟩, ⟨tok114, ⟨tok110, trivial, trivial⟩, ⟨tok127, trivial, trivial⟩⟩⟩⟩⟩, ⟨tok167, ⟨tok143, ⟨tok135, ⟨tok133, ⟨tok132, trivial, trivial⟩, ⟨tok134, trivial, trivial⟩⟩, ⟨tok141, ⟨tok140, trivial, trivial⟩, ⟨tok142, trivial, trivial⟩⟩⟩, ⟨tok152, ⟨tok145, ⟨tok144, trivial, trivial⟩, ⟨tok151, trivial, trivial⟩⟩, ⟨tok156, ⟨tok155, trivial, trivial⟩, ⟨tok163, trivial, trivial⟩⟩⟩⟩, ⟨tok194, ⟨tok175, ⟨tok171, ⟨tok169, trivial, trivial⟩, ⟨tok173, trivial, trivial⟩⟩, ⟨tok177, ⟨tok176, trivial, trivial⟩, ⟨tok186, trivial, trivial⟩⟩⟩, ⟨tok207, ⟨tok205, ⟨tok196, trivial, trivial⟩, ⟨tok206, trivial, trivial⟩⟩, ⟨tok211, ⟨tok210, trivial, trivial⟩, ⟨tok212, trivial, trivial⟩⟩⟩⟩⟩⟩, ⟨tok332, ⟨tok255, ⟨tok245, ⟨tok241, ⟨tok226, ⟨tok225, ⟨tok220, trivial, trivial⟩, trivial⟩, ⟨tok227, trivial, trivial⟩⟩, ⟨tok243, ⟨tok242, trivial, trivial⟩, ⟨tok244, trivial, trivial⟩⟩⟩, ⟨tok251, ⟨tok248, ⟨tok247, trivial, trivial⟩, ⟨tok250, trivial, trivial⟩⟩, ⟨tok253, ⟨tok252, trivial, trivial⟩, ⟨tok254, trivial, trivial⟩⟩⟩⟩, ⟨tok276, ⟨tok266, ⟨tok257, ⟨tok256, trivial, trivial⟩, ⟨tok262, trivial, trivial⟩⟩, ⟨tok272, ⟨tok268, trivial, trivial⟩, ⟨tok275, trivial, trivial⟩⟩⟩, ⟨tok316, ⟨tok294, ⟨tok280, trivial, trivial⟩, ⟨tok299, trivial, trivial⟩⟩, ⟨tok326, ⟨tok321, trivial, trivial⟩, ⟨tok329, trivial, trivial⟩⟩⟩⟩⟩, ⟨tok373, ⟨tok342, ⟨tok337, ⟨tok335, ⟨tok334, trivial, trivial⟩, ⟨tok336, trivial, trivial⟩⟩, ⟨tok339, ⟨tok338, trivial, trivial⟩, ⟨tok340, trivial, trivial⟩⟩⟩, ⟨tok354, ⟨tok346, ⟨tok343, trivial, trivial⟩, ⟨tok351, trivial, trivial⟩⟩, ⟨tok361, ⟨tok355, trivial, trivial⟩, ⟨tok370, trivial, trivial⟩⟩⟩⟩, ⟨tok393, ⟨tok384, ⟨tok379, ⟨tok378, trivial, trivial⟩, ⟨tok380, trivial, trivial⟩⟩, ⟨tok389, ⟨tok385, trivial, trivial⟩, ⟨tok392, trivial, trivial⟩⟩⟩, ⟨tok405, ⟨tok403, ⟨tok398, trivial, trivial⟩, ⟨tok404, trivial, trivial⟩⟩, ⟨tok407, ⟨tok406, trivial, trivial⟩, ⟨tok408, trivial, trivial⟩⟩⟩⟩⟩⟩⟩
end Go.Eng
namespace Go.Eng
open Go.Proofs
def G0 : List (Nat × List AV) := [(0, [.str [77, 79], .str [84, 85], .str [87, 69], .str [84, 72], .str [70, 82], .str [83, 65], .str [83, 85]]), (3, [.str [89, 69, 65, 82, 76, 89], .str [77, 79, 78, 84, 72, 76, 89], .str [87, 69, 69, 75, 76, 89], .str [68, 65, 73, 76, 89], .str [72, 79, 85, 82, 76, 89], .str [77, 73, 78, 85, 84, 69, 76, 89], .str [83, 69, 67, 79, 78, 68, 76, 89]]), (1, [.int .i64 0, .int .i64 0]), (5, [.int .i64 1, .int .i64 0]), (6, [.int .i64 2, .int .i64 0]), (7, [.int .i64 3, .int .i64 0]), (8, [.int .i64 4, .int .i64 0]), (9, [.int .i64 5, .int .i64 0]), (10, [.int .i64 6, .int .i64 0])]
theorem G0_ok : ∀ p ∈ G0, ltL 0 p.2 ∧ p.1 < 22 := by
 intro p hp
 simp only [G0, List.mem_cons, List.not_mem_nil, or_false] at hp
 rcases hp with rfl | rfl | rfl | rfl | rfl | rfl | rfl | rfl | rfl <;> simp [ltL, AV.lt]
theorem eq2_of (t k : TypeId) (f0 f1 : Field) (hf : (Tryz.prog.fieldsOf t).toList = [f0, f1]) (hu : Tryz.prog.underlying t = some (.struct (Tryz.prog.fieldsOf t))) (hs : Tryz.prog.stoodInHeld t = false)
 (h0 : f0.name ≠ "_") (h1 : f1.name ≠ "_") (o0 : f0.offset = 0) (o1 : f1.offset = 1) (k0 : f0.type = k) (k1 : f1.type = k) (hk : Tryz.prog.underlying k = some (.int .i64)) (a b c d' : Int) (w : World) :
 (Op.equal t (.agg #[.int .i64 a, .int .i64 b]) (.agg #[.int .i64 c, .int .i64 d'])).run Tryz.prog w = .ok (a == c && b == d') w := by
 have hi : ∀ (d : Nat) (x y : Int) (w : World), (Op.equalIn (d + 1) k (.int .i64 x) (.int .i64 y)).run Tryz.prog w = .ok (x == y) w := by
  intro d x y w
  simp only [Op.equalIn, Sem.run_bind, Go.run_underlying hk, Result.andThen_ok, if_true, Sem.run_pure]
 have hp : ∀ (x y : Int) (i : Nat) (w : World), i < 2 → (part k #[.int .i64 x, .int .i64 y] i).run Tryz.prog w = .ok (if i = 0 then .int .i64 x else .int .i64 y) w := by
  intro x y i w hi
  have : i = 0 ∨ i = 1 := by omega
  rcases this with rfl | rfl <;> simp [part, isAgg, Go.run_underlying hk]
 have key : ∀ d, (Op.equalIn (d + 1 + 1) t (.agg #[.int .i64 a, .int .i64 b]) (.agg #[.int .i64 c, .int .i64 d'])).run Tryz.prog w = .ok (a == c && b == d') w := by
  intro d
  rw [run_equalIn_struct w (d + 1) t _ _ hu hs, hf]
  simp only [Op.eqFields, h0, h1, ne_eq, not_false_eq_true, if_true, Sem.run_bind, k0, k1, o0, o1, hp _ _ 0 _ (by omega), hp _ _ 1 _ (by omega), Result.andThen_ok, hi, Sem.run_ite, Sem.run_pure, Nat.one_ne_zero, if_false]
  cases (a == c) <;> cases (b == d') <;> rfl
 exact key 9998
theorem eq2_all : ∀ t, [88, 95, 142].any (Nat.beq t) = true → (Tryz.prog.eqGuardType Tryz.prog.depth t = false) ∧
 ∀ a b c d w, (Op.equal t (.agg #[.int .i64 a, .int .i64 b]) (.agg #[.int .i64 c, .int .i64 d])).run Tryz.prog w = .ok (a == c && b == d) w := by
 intro t ht
 simp only [List.any_cons, List.any_nil, Bool.or_false, Bool.or_eq_true] at ht
 rcases ht with ht | ht | ht <;> (have := Nat.eq_of_beq_eq_true ht; subst this)
 · exact ⟨by kernel_rfl, eq2_of 88 2 ⟨ "seconds", 2, 0, false, "", "pub-ferial/pub/rrule/zztime", 0⟩ ⟨ "nanos", 2, 1, false, "", "pub-ferial/pub/rrule/zztime", 8⟩ (by kernel_rfl) (by kernel_rfl) (by kernel_rfl) (by decide) (by decide) rfl rfl rfl rfl (by kernel_rfl)⟩
 · exact ⟨by kernel_rfl, eq2_of 95 3 ⟨ "Weekday", 3, 0, false, "", "", 0⟩ ⟨ "N", 3, 1, false, "", "", 8⟩ (by kernel_rfl) (by kernel_rfl) (by kernel_rfl) (by decide) (by decide) rfl rfl rfl rfl (by kernel_rfl)⟩
 · exact ⟨by kernel_rfl, eq2_of 142 3 ⟨ "weekday", 3, 0, false, "", "pub-ferial/pub/rrule", 0⟩ ⟨ "n", 3, 1, false, "", "pub-ferial/pub/rrule", 8⟩ (by kernel_rfl) (by kernel_rfl) (by kernel_rfl) (by decide) (by decide) rfl rfl rfl rfl (by kernel_rfl)⟩
structure GF0 (h : Nat → Option Obj) : Prop where
 sp : ∃ e fz, h 2 = some (.cells (Lib.asciiSpaceTab.map fun z => Value.int .u8 z).toArray e fz)
 pw : ∃ e fz, h 15 = some (.cells (Lib.pow10Tab.map fun z => Value.int .u64 z).toArray e fz)
 es : ∃ te pe e fz, h 17 = some (.cells #[.iface te pe] e fz)
 er : ∃ te pe e fz, h 18 = some (.cells #[.iface te pe] e fz)
theorem GF0_ok : ∀ h h' : Nat → Option Obj, (∀ g, g < 22 → h' g = h g) → GF0 h → GF0 h' := by
 rintro h h' hk ⟨a, b, c, d⟩
 exact ⟨by rw [hk 2 (by omega)]; exact a, by rw [hk 15 (by omega)]; exact b, by rw [hk 17 (by omega)]; exact c, by rw [hk 18 (by omega)]; exact d⟩
noncomputable def C0 : Cy := { P := Tryz.prog, ti := tyTree.get, tiok := fun _ _ h => Tr.get_all tyAll h, G := G0, glt := fun g cs h => (G0_ok _ (lk_mem h)).1, gfix := GF0, gfixok := GF0_ok, ng := 22, gng := fun g cs h => (G0_ok _ (lk_mem h)).2, eqts := [88, 95, 142], eq2 := eq2_all }
end Go.Eng
