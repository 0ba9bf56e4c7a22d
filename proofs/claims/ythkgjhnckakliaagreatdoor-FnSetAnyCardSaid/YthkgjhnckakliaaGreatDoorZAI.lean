/- A part of the proof that the rows statement FnSetAny holds: the engine of abstract states, the walks through the program, the bridge; no conditions. -/
import Derived.Test.YthkgjhnckakliaaGreatDoorProg
import Derived.Test.YthkgjhnckakliaaGreatDoorZAH
import Derived.Lib.Space
import Derived.Lib.ItoaNum
import Derived.Lib.LaidTab
import Derived.KernelRfl
set_option linter.unusedVariables false
set_option linter.unusedSimpArgs false
set_option linter.unusedSectionVars false
namespace Go.Eng
open Go.Proofs
inductive Tr where
  | nil
  | node (k : Nat) (v : TS) (l r : Tr)
def Tr.get : Tr → Nat → Option TS
  | .nil, _ => none
  | .node k v l r, i => bif Nat.beq i k then some v else bif Nat.blt i k then l.get i else r.get i
def Tr.All (p : Nat → TS → Prop) : Tr → Prop
  | .nil => True
  | .node k v l r => p k v ∧ l.All p ∧ r.All p
theorem Tr.get_all {p : Nat → TS → Prop} : ∀ {t : Tr}, t.All p → ∀ {i s}, t.get i = some s → p i s
  | .nil, _, _, _, h => by cases h
  | .node k v l r, ha, i, s, h => by
    simp only [Tr.get] at h
    cases e : Nat.beq i k <;> rw [e] at h
    · cases e2 : Nat.blt i k <;> rw [e2] at h
      · exact Tr.get_all ha.2.2 h
      · exact Tr.get_all ha.2.1 h
    · cases h; have := Nat.eq_of_beq_eq_true e; subst this; exact ha.1
noncomputable def tyTree : Tr := (.node 215 ⟨Tryz.t215.desc, Tryz.t215.size, Tryz.t215.bytes, Tryz.t215.zero⟩ (.node 130 ⟨Tryz.t130.desc, Tryz.t130.size, Tryz.t130.bytes, Tryz.t130.zero⟩ (.node 38 ⟨Tryz.t37.desc, Tryz.t38.size, Tryz.t38.bytes, Tryz.t38.zero⟩ (.node 24 ⟨Tryz.t24.desc, Tryz.t24.size, Tryz.t24.bytes, Tryz.t24.zero⟩ (.node 9 ⟨Tryz.t9.desc, Tryz.t9.size, Tryz.t9.bytes, Tryz.t9.zero⟩ (.node 4 ⟨Tryz.t4.desc, Tryz.t4.size, Tryz.t4.bytes, Tryz.t4.zero⟩ (.node 3 ⟨Tryz.t3.desc, Tryz.t3.size, Tryz.t3.bytes, Tryz.t3.zero⟩ (.node 2 ⟨Tryz.t2.desc, Tryz.t2.size, Tryz.t2.bytes, Tryz.t2.zero⟩ .nil .nil) .nil) (.node 5 ⟨Tryz.t5.desc, Tryz.t5.size, Tryz.t5.bytes, Tryz.t5.zero⟩ .nil .nil)) (.node 22 ⟨Tryz.t22.desc, Tryz.t22.size, Tryz.t22.bytes, Tryz.t22.zero⟩ (.node 21 ⟨Tryz.t21.desc, Tryz.t21.size, Tryz.t21.bytes, Tryz.t21.zero⟩ .nil .nil) (.node 23 ⟨Tryz.t23.desc, Tryz.t23.size, Tryz.t23.bytes, Tryz.t23.zero⟩ .nil .nil))) (.node 28 ⟨Tryz.t27.desc, Tryz.t28.size, Tryz.t28.bytes, Tryz.t28.zero⟩ (.node 26 ⟨Tryz.t26.desc, Tryz.t26.size, Tryz.t26.bytes, Tryz.t26.zero⟩ (.node 25 ⟨Tryz.t24.desc, Tryz.t25.size, Tryz.t25.bytes, Tryz.t25.zero⟩ .nil .nil) (.node 27 ⟨Tryz.t27.desc, Tryz.t27.size, Tryz.t27.bytes, Tryz.t27.zero⟩ .nil .nil)) (.node 36 ⟨Tryz.t36.desc, Tryz.t36.size, Tryz.t36.bytes, Tryz.t36.zero⟩ (.node 31 ⟨Tryz.t31.desc, Tryz.t31.size, Tryz.t31.bytes, Tryz.t31.zero⟩ .nil .nil) (.node 37 ⟨Tryz.t37.desc, Tryz.t37.size, Tryz.t37.bytes, Tryz.t37.zero⟩ .nil .nil)))) (.node 85 ⟨Tryz.t85.desc, Tryz.t85.size, Tryz.t85.bytes, Tryz.t85.zero⟩ (.node 67 ⟨Tryz.t67.desc, Tryz.t67.size, Tryz.t67.bytes, Tryz.t67.zero⟩ (.node 40 ⟨Tryz.t39.desc, Tryz.t40.size, Tryz.t40.bytes, Tryz.t40.zero⟩ (.node 39 ⟨Tryz.t39.desc, Tryz.t39.size, Tryz.t39.bytes, Tryz.t39.zero⟩ .nil .nil) (.node 55 ⟨Tryz.t55.desc, Tryz.t55.size, Tryz.t55.bytes, Tryz.t55.zero⟩ .nil .nil)) (.node 75 ⟨Tryz.t75.desc, Tryz.t75.size, Tryz.t75.bytes, Tryz.t75.zero⟩ (.node 70 ⟨Tryz.t70.desc, Tryz.t70.size, Tryz.t70.bytes, Tryz.t70.zero⟩ .nil .nil) (.node 76 ⟨Tryz.t75.desc, Tryz.t76.size, Tryz.t76.bytes, Tryz.t76.zero⟩ .nil .nil))) (.node 95 ⟨Tryz.t94.desc, Tryz.t95.size, Tryz.t95.bytes, Tryz.t95.zero⟩ (.node 88 ⟨Tryz.t87.desc, Tryz.t88.size, Tryz.t88.bytes, Tryz.t88.zero⟩ (.node 87 ⟨Tryz.t87.desc, Tryz.t87.size, Tryz.t87.bytes, Tryz.t87.zero⟩ .nil .nil) (.node 94 ⟨Tryz.t94.desc, Tryz.t94.size, Tryz.t94.bytes, Tryz.t94.zero⟩ .nil .nil)) (.node 114 ⟨Tryz.t114.desc, Tryz.t114.size, Tryz.t114.bytes, Tryz.t114.zero⟩ (.node 110 ⟨Tryz.t94.desc, Tryz.t110.size, Tryz.t110.bytes, Tryz.t110.zero⟩ .nil .nil) (.node 127 ⟨Tryz.t127.desc, Tryz.t127.size, Tryz.t127.bytes, Tryz.t127.zero⟩ .nil .nil))))) (.node 167 ⟨Tryz.t167.desc, Tryz.t167.size, Tryz.t167.bytes, Tryz.t167.zero⟩ (.node 143 ⟨Tryz.t143.desc, Tryz.t143.size, Tryz.t143.bytes, Tryz.t143.zero⟩ (.node 135 ⟨Tryz.t134.desc, Tryz.t135.size, Tryz.t135.bytes, Tryz.t135.zero⟩ (.node 133 ⟨Tryz.t133.desc, Tryz.t133.size, Tryz.t133.bytes, Tryz.t133.zero⟩ (.node 132 ⟨Tryz.t132.desc, Tryz.t132.size, Tryz.t132.bytes, Tryz.t132.zero⟩ .nil .nil) (.node 134 ⟨Tryz.t134.desc, Tryz.t134.size, Tryz.t134.bytes, Tryz.t134.zero⟩ .nil .nil)) (.node 141 ⟨Tryz.t141.desc, Tryz.t141.size, Tryz.t141.bytes, Tryz.t141.zero⟩ (.node 140 ⟨Tryz.t3.desc, Tryz.t140.size, Tryz.t140.bytes, Tryz.t140.zero⟩ .nil .nil) (.node 142 ⟨Tryz.t141.desc, Tryz.t142.size, Tryz.t142.bytes, Tryz.t142.zero⟩ .nil .nil))) (.node 152 ⟨Tryz.t151.desc, Tryz.t152.size, Tryz.t152.bytes, Tryz.t152.zero⟩ (.node 145 ⟨Tryz.t144.desc, Tryz.t145.size, Tryz.t145.bytes, Tryz.t145.zero⟩ (.node 144 ⟨Tryz.t144.desc, Tryz.t144.size, Tryz.t144.bytes, Tryz.t144.zero⟩ .nil .nil) (.node 151 ⟨Tryz.t151.desc, Tryz.t151.size, Tryz.t151.bytes, Tryz.t151.zero⟩ .nil .nil)) (.node 156 ⟨Tryz.t155.desc, Tryz.t156.size, Tryz.t156.bytes, Tryz.t156.zero⟩ (.node 155 ⟨Tryz.t155.desc, Tryz.t155.size, Tryz.t155.bytes, Tryz.t155.zero⟩ .nil .nil) (.node 163 ⟨Tryz.t163.desc, Tryz.t163.size, Tryz.t163.bytes, Tryz.t163.zero⟩ .nil .nil)))) (.node 194 ⟨Tryz.t194.desc, Tryz.t194.size, Tryz.t194.bytes, Tryz.t194.zero⟩ (.node 175 ⟨Tryz.t167.desc, Tryz.t175.size, Tryz.t175.bytes, Tryz.t175.zero⟩ (.node 171 ⟨Tryz.t171.desc, Tryz.t171.size, Tryz.t171.bytes, Tryz.t171.zero⟩ (.node 169 ⟨Tryz.t133.desc, Tryz.t169.size, Tryz.t169.bytes, Tryz.t169.zero⟩ .nil .nil) (.node 173 ⟨Tryz.t85.desc, Tryz.t173.size, Tryz.t173.bytes, Tryz.t173.zero⟩ .nil .nil)) (.node 177 ⟨Tryz.t176.desc, Tryz.t177.size, Tryz.t177.bytes, Tryz.t177.zero⟩ (.node 176 ⟨Tryz.t176.desc, Tryz.t176.size, Tryz.t176.bytes, Tryz.t176.zero⟩ .nil .nil) (.node 186 ⟨Tryz.t3.desc, Tryz.t186.size, Tryz.t186.bytes, Tryz.t186.zero⟩ .nil .nil))) (.node 207 ⟨Tryz.t207.desc, Tryz.t207.size, Tryz.t207.bytes, Tryz.t207.zero⟩ (.node 205 ⟨Tryz.t205.desc, Tryz.t205.size, Tryz.t205.bytes, Tryz.t205.zero⟩ (.node 196 ⟨Tryz.t196.desc, Tryz.t196.size, Tryz.t196.bytes, Tryz.t196.zero⟩ .nil .nil) (.node 206 ⟨Tryz.t206.desc, Tryz.t206.size, Tryz.t206.bytes, Tryz.t206.zero⟩ .nil .nil)) (.node 211 ⟨Tryz.t211.desc, Tryz.t211.size, Tryz.t211.bytes, Tryz.t211.zero⟩ (.node 210 ⟨Tryz.t210.desc, Tryz.t210.size, Tryz.t210.bytes, Tryz.t210.zero⟩ .nil .nil) (.node 212 ⟨Tryz.t211.desc, Tryz.t212.size, Tryz.t212.bytes, Tryz.t212.zero⟩ .nil .nil)))))) (.node 332 ⟨Tryz.t332.desc, Tryz.t332.size, Tryz.t332.bytes, Tryz.t332.zero⟩ (.node 255 ⟨Tryz.t255.desc, Tryz.t255.size, Tryz.t255.bytes, Tryz.t255.zero⟩ (.node 245 ⟨Tryz.t244.desc, Tryz.t245.size, Tryz.t245.bytes, Tryz.t245.zero⟩ (.node 241 ⟨Tryz.t241.desc, Tryz.t241.size, Tryz.t241.bytes, Tryz.t241.zero⟩ (.node 226 ⟨Tryz.t226.desc, Tryz.t226.size, Tryz.t226.bytes, Tryz.t226.zero⟩ (.node 225 ⟨Tryz.t225.desc, Tryz.t225.size, Tryz.t225.bytes, Tryz.t225.zero⟩ (.node 220 ⟨Tryz.t2.desc, Tryz.t220.size, Tryz.t220.bytes, Tryz.t220.zero⟩ .nil .nil) .nil) (.node 227 ⟨Tryz.t226.desc, Tryz.t227.size, Tryz.t227.bytes, Tryz.t227.zero⟩ .nil .nil)) (.node 243 ⟨Tryz.t243.desc, Tryz.t243.size, Tryz.t243.bytes, Tryz.t243.zero⟩ (.node 242 ⟨Tryz.t242.desc, Tryz.t242.size, Tryz.t242.bytes, Tryz.t242.zero⟩ .nil .nil) (.node 244 ⟨Tryz.t244.desc, Tryz.t244.size, Tryz.t244.bytes, Tryz.t244.zero⟩ .nil .nil))) (.node 251 ⟨Tryz.t251.desc, Tryz.t251.size, Tryz.t251.bytes, Tryz.t251.zero⟩ (.node 248 ⟨Tryz.t247.desc, Tryz.t248.size, Tryz.t248.bytes, Tryz.t248.zero⟩ (.node 247 ⟨Tryz.t247.desc, Tryz.t247.size, Tryz.t247.bytes, Tryz.t247.zero⟩ .nil .nil) (.node 250 ⟨Tryz.t3.desc, Tryz.t250.size, Tryz.t250.bytes, Tryz.t250.zero⟩ .nil .nil)) (.node 253 ⟨Tryz.t253.desc, Tryz.t253.size, Tryz.t253.bytes, Tryz.t253.zero⟩ (.node 252 ⟨Tryz.t251.desc, Tryz.t252.size, Tryz.t252.bytes, Tryz.t252.zero⟩ .nil .nil) (.node 254 ⟨Tryz.t253.desc, Tryz.t254.size, Tryz.t254.bytes, Tryz.t254.zero⟩ .nil .nil)))) (.node 276 ⟨Tryz.t276.desc, Tryz.t276.size, Tryz.t276.bytes, Tryz.t276.zero⟩ (.node 266 ⟨Tryz.t266.desc, Tryz.t266.size, Tryz.t266.bytes, Tryz.t266.zero⟩ (.node 257 ⟨Tryz.t256.desc, Tryz.t257.size, Tryz.t257.bytes, Tryz.t257.zero⟩ (.node 256 ⟨Tryz.t256.desc, Tryz.t256.size, Tryz.t256.bytes, Tryz.t256.zero⟩ .nil .nil) (.node 262 ⟨Tryz.t3.desc, Tryz.t262.size, Tryz.t262.bytes, Tryz.t262.zero⟩ .nil .nil)) (.node 272 ⟨Tryz.t272.desc, Tryz.t272.size, Tryz.t272.bytes, Tryz.t272.zero⟩ (.node 268 ⟨Tryz.t196.desc, Tryz.t268.size, Tryz.t268.bytes, Tryz.t268.zero⟩ .nil .nil) (.node 275 ⟨Tryz.t275.desc, Tryz.t275.size, Tryz.t275.bytes, Tryz.t275.zero⟩ .nil .nil))) (.node 316 ⟨Tryz.t316.desc, Tryz.t316.size, Tryz.t316.bytes, Tryz.t316.zero⟩ (.node 294 ⟨Tryz.t294.desc, Tryz.t294.size, Tryz.t294.bytes, Tryz.t294.zero⟩ (.node 280 ⟨Tryz.t280.desc, Tryz.t280.size, Tryz.t280.bytes, Tryz.t280.zero⟩ .nil .nil) (.node 299 ⟨Tryz.t3.desc, Tryz.t299.size, Tryz.t299.bytes, Tryz.t299.zero⟩ .nil .nil)) (.node 326 ⟨Tryz.t326.desc, Tryz.t326.size, Tryz.t326.bytes, Tryz.t326.zero⟩ (.node 321 ⟨Tryz.t321.desc, Tryz.t321.size, Tryz.t321.bytes, Tryz.t321.zero⟩ .nil .nil) (.node 329 ⟨Tryz.t329.desc, Tryz.t329.size, Tryz.t329.bytes, Tryz.t329.zero⟩ .nil .nil))))) (.node 373 ⟨Tryz.t373.desc, Tryz.t373.size, Tryz.t373.bytes, Tryz.t373.zero⟩ (.node 342 ⟨Tryz.t342.desc, Tryz.t342.size, Tryz.t342.bytes, Tryz.t342.zero⟩ (.node 337 ⟨Tryz.t336.desc, Tryz.t337.size, Tryz.t337.bytes, Tryz.t337.zero⟩ (.node 335 ⟨Tryz.t335.desc, Tryz.t335.size, Tryz.t335.bytes, Tryz.t335.zero⟩ (.node 334 ⟨Tryz.t334.desc, Tryz.t334.size, Tryz.t334.bytes, Tryz.t334.zero⟩ .nil .nil) (.node 336 ⟨Tryz.t336.desc, Tryz.t336.size, Tryz.t336.bytes, Tryz.t336.zero⟩ .nil .nil)) (.node 339 ⟨Tryz.t339.desc, Tryz.t339.size, Tryz.t339.bytes, Tryz.t339.zero⟩ (.node 338 ⟨Tryz.t338.desc, Tryz.t338.size, Tryz.t338.bytes, Tryz.t338.zero⟩ .nil .nil) (.node 340 ⟨Tryz.t339.desc, Tryz.t340.size, Tryz.t340.bytes, Tryz.t340.zero⟩ .nil .nil))) (.node 354 ⟨Tryz.t354.desc, Tryz.t354.size, Tryz.t354.bytes, Tryz.t354.zero⟩ (.node 346 ⟨Tryz.t196.desc, Tryz.t346.size, Tryz.t346.bytes, Tryz.t346.zero⟩ (.node 343 ⟨Tryz.t342.desc, Tryz.t343.size, Tryz.t343.bytes, Tryz.t343.zero⟩ .nil .nil) (.node 351 ⟨Tryz.t351.desc, Tryz.t351.size, Tryz.t351.bytes, Tryz.t351.zero⟩ .nil .nil)) (.node 361 ⟨Tryz.t361.desc, Tryz.t361.size, Tryz.t361.bytes, Tryz.t361.zero⟩ (.node 355 ⟨Tryz.t354.desc, Tryz.t355.size, Tryz.t355.bytes, Tryz.t355.zero⟩ .nil .nil) (.node 370 ⟨Tryz.t3.desc, Tryz.t370.size, Tryz.t370.bytes, Tryz.t370.zero⟩ .nil .nil)))) (.node 393 ⟨Tryz.t392.desc, Tryz.t393.size, Tryz.t393.bytes, Tryz.t393.zero⟩ (.node 384 ⟨Tryz.t384.desc, Tryz.t384.size, Tryz.t384.bytes, Tryz.t384.zero⟩ (.node 379 ⟨Tryz.t378.desc, Tryz.t379.size, Tryz.t379.bytes, Tryz.t379.zero⟩ (.node 378 ⟨Tryz.t378.desc, Tryz.t378.size, Tryz.t378.bytes, Tryz.t378.zero⟩ .nil .nil) (.node 380 ⟨Tryz.t380.desc, Tryz.t380.size, Tryz.t380.bytes, Tryz.t380.zero⟩ .nil .nil)) (.node 389 ⟨Tryz.t389.desc, Tryz.t389.size, Tryz.t389.bytes, Tryz.t389.zero⟩ (.node 385 ⟨Tryz.t385.desc, Tryz.t385.size, Tryz.t385.bytes, Tryz.t385.zero⟩ .nil .nil) (.node 392 ⟨Tryz.t392.desc, Tryz.t392.size, Tryz.t392.bytes, Tryz.t392.zero⟩ .nil .nil))) (.node 405 ⟨Tryz.t405.desc, Tryz.t405.size, Tryz.t405.bytes, Tryz.t405.zero⟩ (.node 403 ⟨Tryz.t403.desc, Tryz.t403.size, Tryz.t403.bytes, Tryz.t403.zero⟩ (.node 398 ⟨Tryz.t398.desc, Tryz.t398.size, Tryz.t398.bytes, Tryz.t398.zero⟩ .nil .nil) (.node 404 ⟨Tryz.t404.desc, Tryz.t404.size, Tryz.t404.bytes, Tryz.t404.zero⟩ .nil .nil)) (.node 407 ⟨Tryz.t407.desc, Tryz.t407.size, Tryz.t407.bytes, Tryz.t407.zero⟩ (.node 406 ⟨Tryz.t405.desc, Tryz.t406.size, Tryz.t406.bytes, Tryz.t406.zero⟩ .nil .nil) (.node 408 ⟨Tryz.t407.desc, Tryz.t408.size, Tryz.t408.bytes, Tryz.t408.zero⟩ .nil .nil)))))))
theorem tok2 : TOK Tryz.prog 2 ⟨Tryz.t2.desc, Tryz.t2.size, Tryz.t2.bytes, Tryz.t2.zero⟩ := ⟨by kernel_rfl, Tryz.t2, by kernel_rfl, rfl, rfl, rfl⟩
theorem tok3 : TOK Tryz.prog 3 ⟨Tryz.t3.desc, Tryz.t3.size, Tryz.t3.bytes, Tryz.t3.zero⟩ := ⟨by kernel_rfl, Tryz.t3, by kernel_rfl, rfl, rfl, rfl⟩
theorem tok4 : TOK Tryz.prog 4 ⟨Tryz.t4.desc, Tryz.t4.size, Tryz.t4.bytes, Tryz.t4.zero⟩ := ⟨by kernel_rfl, Tryz.t4, by kernel_rfl, rfl, rfl, rfl⟩
theorem tok5 : TOK Tryz.prog 5 ⟨Tryz.t5.desc, Tryz.t5.size, Tryz.t5.bytes, Tryz.t5.zero⟩ := ⟨by kernel_rfl, Tryz.t5, by kernel_rfl, rfl, rfl, rfl⟩
theorem tok9 : TOK Tryz.prog 9 ⟨Tryz.t9.desc, Tryz.t9.size, Tryz.t9.bytes, Tryz.t9.zero⟩ := ⟨by kernel_rfl, Tryz.t9, by kernel_rfl, rfl, rfl, rfl⟩
theorem tok21 : TOK Tryz.prog 21 ⟨Tryz.t21.desc, Tryz.t21.size, Tryz.t21.bytes, Tryz.t21.zero⟩ := ⟨by kernel_rfl, Tryz.t21, by kernel_rfl, rfl, rfl, rfl⟩
theorem tok22 : TOK Tryz.prog 22 ⟨Tryz.t22.desc, Tryz.t22.size, Tryz.t22.bytes, Tryz.t22.zero⟩ := ⟨by kernel_rfl, Tryz.t22, by kernel_rfl, rfl, rfl, rfl⟩
theorem tok23 : TOK Tryz.prog 23 ⟨Tryz.t23.desc, Tryz.t23.size, Tryz.t23.bytes, Tryz.t23.zero⟩ := ⟨by kernel_rfl, Tryz.t23, by kernel_rfl, rfl, rfl, rfl⟩
theorem tok24 : TOK Tryz.prog 24 ⟨Tryz.t24.desc, Tryz.t24.size, Tryz.t24.bytes, Tryz.t24.zero⟩ := ⟨by kernel_rfl, Tryz.t24, by kernel_rfl, rfl, rfl, rfl⟩
theorem tok25 : TOK Tryz.prog 25 ⟨Tryz.t24.desc, Tryz.t25.size, Tryz.t25.bytes, Tryz.t25.zero⟩ := ⟨by kernel_rfl, Tryz.t25, by kernel_rfl, rfl, rfl, rfl⟩
theorem tok26 : TOK Tryz.prog 26 ⟨Tryz.t26.desc, Tryz.t26.size, Tryz.t26.bytes, Tryz.t26.zero⟩ := ⟨by kernel_rfl, Tryz.t26, by kernel_rfl, rfl, rfl, rfl⟩
theorem tok27 : TOK Tryz.prog 27 ⟨Tryz.t27.desc, Tryz.t27.size, Tryz.t27.bytes, Tryz.t27.zero⟩ := ⟨by kernel_rfl, Tryz.t27, by kernel_rfl, rfl, rfl, rfl⟩
theorem tok28 : TOK Tryz.prog 28 ⟨Tryz.t27.desc, Tryz.t28.size, Tryz.t28.bytes, Tryz.t28.zero⟩ := ⟨by kernel_rfl, Tryz.t28, by kernel_rfl, rfl, rfl, rfl⟩
theorem tok31 : TOK Tryz.prog 31 ⟨Tryz.t31.desc, Tryz.t31.size, Tryz.t31.bytes, Tryz.t31.zero⟩ := ⟨by kernel_rfl, Tryz.t31, by kernel_rfl, rfl, rfl, rfl⟩
theorem tok36 : TOK Tryz.prog 36 ⟨Tryz.t36.desc, Tryz.t36.size, Tryz.t36.bytes, Tryz.t36.zero⟩ := ⟨by kernel_rfl, Tryz.t36, by kernel_rfl, rfl, rfl, rfl⟩
theorem tok37 : TOK Tryz.prog 37 ⟨Tryz.t37.desc, Tryz.t37.size, Tryz.t37.bytes, Tryz.t37.zero⟩ := ⟨by kernel_rfl, Tryz.t37, by kernel_rfl, rfl, rfl, rfl⟩
theorem tok38 : TOK Tryz.prog 38 ⟨Tryz.t37.desc, Tryz.t38.size, Tryz.t38.bytes, Tryz.t38.zero⟩ := ⟨by kernel_rfl, Tryz.t38, by kernel_rfl, rfl, rfl, rfl⟩
theorem tok39 : TOK Tryz.prog 39 ⟨Tryz.t39.desc, Tryz.t39.size, Tryz.t39.bytes, Tryz.t39.zero⟩ := ⟨by kernel_rfl, Tryz.t39, by kernel_rfl, rfl, rfl, rfl⟩
theorem tok40 : TOK Tryz.prog 40 ⟨Tryz.t39.desc, Tryz.t40.size, Tryz.t40.bytes, Tryz.t40.zero⟩ := ⟨by kernel_rfl, Tryz.t40, by kernel_rfl, rfl, rfl, rfl⟩
theorem tok55 : TOK Tryz.prog 55 ⟨Tryz.t55.desc, Tryz.t55.size, Tryz.t55.bytes, Tryz.t55.zero⟩ := ⟨by kernel_rfl, Tryz.t55, by kernel_rfl, rfl, rfl, rfl⟩
theorem tok67 : TOK Tryz.prog 67 ⟨Tryz.t67.desc, Tryz.t67.size, Tryz.t67.bytes, Tryz.t67.zero⟩ := ⟨by kernel_rfl, Tryz.t67, by kernel_rfl, rfl, rfl, rfl⟩
theorem tok70 : TOK Tryz.prog 70 ⟨Tryz.t70.desc, Tryz.t70.size, Tryz.t70.bytes, Tryz.t70.zero⟩ := ⟨by kernel_rfl, Tryz.t70, by kernel_rfl, rfl, rfl, rfl⟩
theorem tok75 : TOK Tryz.prog 75 ⟨Tryz.t75.desc, Tryz.t75.size, Tryz.t75.bytes, Tryz.t75.zero⟩ := ⟨by kernel_rfl, Tryz.t75, by kernel_rfl, rfl, rfl, rfl⟩
theorem tok76 : TOK Tryz.prog 76 ⟨Tryz.t75.desc, Tryz.t76.size, Tryz.t76.bytes, Tryz.t76.zero⟩ := ⟨by kernel_rfl, Tryz.t76, by kernel_rfl, rfl, rfl, rfl⟩
theorem tok85 : TOK Tryz.prog 85 ⟨Tryz.t85.desc, Tryz.t85.size, Tryz.t85.bytes, Tryz.t85.zero⟩ := ⟨by kernel_rfl, Tryz.t85, by kernel_rfl, rfl, rfl, rfl⟩
theorem tok87 : TOK Tryz.prog 87 ⟨Tryz.t87.desc, Tryz.t87.size, Tryz.t87.bytes, Tryz.t87.zero⟩ := ⟨by kernel_rfl, Tryz.t87, by kernel_rfl, rfl, rfl, rfl⟩
theorem tok88 : TOK Tryz.prog 88 ⟨Tryz.t87.desc, Tryz.t88.size, Tryz.t88.bytes, Tryz.t88.zero⟩ := ⟨by kernel_rfl, Tryz.t88, by kernel_rfl, rfl, rfl, rfl⟩
theorem tok94 : TOK Tryz.prog 94 ⟨Tryz.t94.desc, Tryz.t94.size, Tryz.t94.bytes, Tryz.t94.zero⟩ := ⟨by kernel_rfl, Tryz.t94, by kernel_rfl, rfl, rfl, rfl⟩
theorem tok95 : TOK Tryz.prog 95 ⟨Tryz.t94.desc, Tryz.t95.size, Tryz.t95.bytes, Tryz.t95.zero⟩ := ⟨by kernel_rfl, Tryz.t95, by kernel_rfl, rfl, rfl, rfl⟩
theorem tok110 : TOK Tryz.prog 110 ⟨Tryz.t94.desc, Tryz.t110.size, Tryz.t110.bytes, Tryz.t110.zero⟩ := ⟨by kernel_rfl, Tryz.t110, by kernel_rfl, rfl, rfl, rfl⟩
theorem tok114 : TOK Tryz.prog 114 ⟨Tryz.t114.desc, Tryz.t114.size, Tryz.t114.bytes, Tryz.t114.zero⟩ := ⟨by kernel_rfl, Tryz.t114, by kernel_rfl, rfl, rfl, rfl⟩
theorem tok127 : TOK Tryz.prog 127 ⟨Tryz.t127.desc, Tryz.t127.size, Tryz.t127.bytes, Tryz.t127.zero⟩ := ⟨by kernel_rfl, Tryz.t127, by kernel_rfl, rfl, rfl, rfl⟩
theorem tok130 : TOK Tryz.prog 130 ⟨Tryz.t130.desc, Tryz.t130.size, Tryz.t130.bytes, Tryz.t130.zero⟩ := ⟨by kernel_rfl, Tryz.t130, by kernel_rfl, rfl, rfl, rfl⟩
theorem tok132 : TOK Tryz.prog 132 ⟨Tryz.t132.desc, Tryz.t132.size, Tryz.t132.bytes, Tryz.t132.zero⟩ := ⟨by kernel_rfl, Tryz.t132, by kernel_rfl, rfl, rfl, rfl⟩
theorem tok133 : TOK Tryz.prog 133 ⟨Tryz.t133.desc, Tryz.t133.size, Tryz.t133.bytes, Tryz.t133.zero⟩ := ⟨by kernel_rfl, Tryz.t133, by kernel_rfl, rfl, rfl, rfl⟩
theorem tok134 : TOK Tryz.prog 134 ⟨Tryz.t134.desc, Tryz.t134.size, Tryz.t134.bytes, Tryz.t134.zero⟩ := ⟨by kernel_rfl, Tryz.t134, by kernel_rfl, rfl, rfl, rfl⟩
theorem tok135 : TOK Tryz.prog 135 ⟨Tryz.t134.desc, Tryz.t135.size, Tryz.t135.bytes, Tryz.t135.zero⟩ := ⟨by kernel_rfl, Tryz.t135, by kernel_rfl, rfl, rfl, rfl⟩
theorem tok140 : TOK Tryz.prog 140 ⟨Tryz.t3.desc, Tryz.t140.size, Tryz.t140.bytes, Tryz.t140.zero⟩ := ⟨by kernel_rfl, Tryz.t140, by kernel_rfl, rfl, rfl, rfl⟩
theorem tok141 : TOK Tryz.prog 141 ⟨Tryz.t141.desc, Tryz.t141.size, Tryz.t141.bytes, Tryz.t141.zero⟩ := ⟨by kernel_rfl, Tryz.t141, by kernel_rfl, rfl, rfl, rfl⟩
theorem tok142 : TOK Tryz.prog 142 ⟨Tryz.t141.desc, Tryz.t142.size, Tryz.t142.bytes, Tryz.t142.zero⟩ := ⟨by kernel_rfl, Tryz.t142, by kernel_rfl, rfl, rfl, rfl⟩
theorem tok143 : TOK Tryz.prog 143 ⟨Tryz.t143.desc, Tryz.t143.size, Tryz.t143.bytes, Tryz.t143.zero⟩ := ⟨by kernel_rfl, Tryz.t143, by kernel_rfl, rfl, rfl, rfl⟩
theorem tok144 : TOK Tryz.prog 144 ⟨Tryz.t144.desc, Tryz.t144.size, Tryz.t144.bytes, Tryz.t144.zero⟩ := ⟨by kernel_rfl, Tryz.t144, by kernel_rfl, rfl, rfl, rfl⟩
theorem tok145 : TOK Tryz.prog 145 ⟨Tryz.t144.desc, Tryz.t145.size, Tryz.t145.bytes, Tryz.t145.zero⟩ := ⟨by kernel_rfl, Tryz.t145, by kernel_rfl, rfl, rfl, rfl⟩
theorem tok151 : TOK Tryz.prog 151 ⟨Tryz.t151.desc, Tryz.t151.size, Tryz.t151.bytes, Tryz.t151.zero⟩ := ⟨by kernel_rfl, Tryz.t151, by kernel_rfl, rfl, rfl, rfl⟩
theorem tok152 : TOK Tryz.prog 152 ⟨Tryz.t151.desc, Tryz.t152.size, Tryz.t152.bytes, Tryz.t152.zero⟩ := ⟨by kernel_rfl, Tryz.t152, by kernel_rfl, rfl, rfl, rfl⟩
theorem tok155 : TOK Tryz.prog 155 ⟨Tryz.t155.desc, Tryz.t155.size, Tryz.t155.bytes, Tryz.t155.zero⟩ := ⟨by kernel_rfl, Tryz.t155, by kernel_rfl, rfl, rfl, rfl⟩
theorem tok156 : TOK Tryz.prog 156 ⟨Tryz.t155.desc, Tryz.t156.size, Tryz.t156.bytes, Tryz.t156.zero⟩ := ⟨by kernel_rfl, Tryz.t156, by kernel_rfl, rfl, rfl, rfl⟩
theorem tok163 : TOK Tryz.prog 163 ⟨Tryz.t163.desc, Tryz.t163.size, Tryz.t163.bytes, Tryz.t163.zero⟩ := ⟨by kernel_rfl, Tryz.t163, by kernel_rfl, rfl, rfl, rfl⟩
theorem tok167 : TOK Tryz.prog 167 ⟨Tryz.t167.desc, Tryz.t167.size, Tryz.t167.bytes, Tryz.t167.zero⟩ := ⟨by kernel_rfl, Tryz.t167, by kernel_rfl, rfl, rfl, rfl⟩
theorem tok169 : TOK Tryz.prog 169 ⟨Tryz.t133.desc, Tryz.t169.size, Tryz.t169.bytes, Tryz.t169.zero⟩ := ⟨by kernel_rfl, Tryz.t169, by kernel_rfl, rfl, rfl, rfl⟩
theorem tok171 : TOK Tryz.prog 171 ⟨Tryz.t171.desc, Tryz.t171.size, Tryz.t171.bytes, Tryz.t171.zero⟩ := ⟨by kernel_rfl, Tryz.t171, by kernel_rfl, rfl, rfl, rfl⟩
theorem tok173 : TOK Tryz.prog 173 ⟨Tryz.t85.desc, Tryz.t173.size, Tryz.t173.bytes, Tryz.t173.zero⟩ := ⟨by kernel_rfl, Tryz.t173, by kernel_rfl, rfl, rfl, rfl⟩
theorem tok175 : TOK Tryz.prog 175 ⟨Tryz.t167.desc, Tryz.t175.size, Tryz.t175.bytes, Tryz.t175.zero⟩ := ⟨by kernel_rfl, Tryz.t175, by kernel_rfl, rfl, rfl, rfl⟩
theorem tok176 : TOK Tryz.prog 176 ⟨Tryz.t176.desc, Tryz.t176.size, Tryz.t176.bytes, Tryz.t176.zero⟩ := ⟨by kernel_rfl, Tryz.t176, by kernel_rfl, rfl, rfl, rfl⟩
theorem tok177 : TOK Tryz.prog 177 ⟨Tryz.t176.desc, Tryz.t177.size, Tryz.t177.bytes, Tryz.t177.zero⟩ := ⟨by kernel_rfl, Tryz.t177, by kernel_rfl, rfl, rfl, rfl⟩
theorem tok186 : TOK Tryz.prog 186 ⟨Tryz.t3.desc, Tryz.t186.size, Tryz.t186.bytes, Tryz.t186.zero⟩ := ⟨by kernel_rfl, Tryz.t186, by kernel_rfl, rfl, rfl, rfl⟩
theorem tok194 : TOK Tryz.prog 194 ⟨Tryz.t194.desc, Tryz.t194.size, Tryz.t194.bytes, Tryz.t194.zero⟩ := ⟨by kernel_rfl, Tryz.t194, by kernel_rfl, rfl, rfl, rfl⟩
theorem tok196 : TOK Tryz.prog 196 ⟨Tryz.t196.desc, Tryz.t196.size, Tryz.t196.bytes, Tryz.t196.zero⟩ := ⟨by kernel_rfl, Tryz.t196, by kernel_rfl, rfl, rfl, rfl⟩
theorem tok205 : TOK Tryz.prog 205 ⟨Tryz.t205.desc, Tryz.t205.size, Tryz.t205.bytes, Tryz.t205.zero⟩ := ⟨by kernel_rfl, Tryz.t205, by kernel_rfl, rfl, rfl, rfl⟩
theorem tok206 : TOK Tryz.prog 206 ⟨Tryz.t206.desc, Tryz.t206.size, Tryz.t206.bytes, Tryz.t206.zero⟩ := ⟨by kernel_rfl, Tryz.t206, by kernel_rfl, rfl, rfl, rfl⟩
theorem tok207 : TOK Tryz.prog 207 ⟨Tryz.t207.desc, Tryz.t207.size, Tryz.t207.bytes, Tryz.t207.zero⟩ := ⟨by kernel_rfl, Tryz.t207, by kernel_rfl, rfl, rfl, rfl⟩
theorem tok210 : TOK Tryz.prog 210 ⟨Tryz.t210.desc, Tryz.t210.size, Tryz.t210.bytes, Tryz.t210.zero⟩ := ⟨by kernel_rfl, Tryz.t210, by kernel_rfl, rfl, rfl, rfl⟩
theorem tok211 : TOK Tryz.prog 211 ⟨Tryz.t211.desc, Tryz.t211.size, Tryz.t211.bytes, Tryz.t211.zero⟩ := ⟨by kernel_rfl, Tryz.t211, by kernel_rfl, rfl, rfl, rfl⟩
theorem tok212 : TOK Tryz.prog 212 ⟨Tryz.t211.desc, Tryz.t212.size, Tryz.t212.bytes, Tryz.t212.zero⟩ := ⟨by kernel_rfl, Tryz.t212, by kernel_rfl, rfl, rfl, rfl⟩
theorem tok215 : TOK Tryz.prog 215 ⟨Tryz.t215.desc, Tryz.t215.size, Tryz.t215.bytes, Tryz.t215.zero⟩ := ⟨by kernel_rfl, Tryz.t215, by kernel_rfl, rfl, rfl, rfl⟩
theorem tok220 : TOK Tryz.prog 220 ⟨Tryz.t2.desc, Tryz.t220.size, Tryz.t220.bytes, Tryz.t220.zero⟩ := ⟨by kernel_rfl, Tryz.t220, by kernel_rfl, rfl, rfl, rfl⟩
theorem tok225 : TOK Tryz.prog 225 ⟨Tryz.t225.desc, Tryz.t225.size, Tryz.t225.bytes, Tryz.t225.zero⟩ := ⟨by kernel_rfl, Tryz.t225, by kernel_rfl, rfl, rfl, rfl⟩
theorem tok226 : TOK Tryz.prog 226 ⟨Tryz.t226.desc, Tryz.t226.size, Tryz.t226.bytes, Tryz.t226.zero⟩ := ⟨by kernel_rfl, Tryz.t226, by kernel_rfl, rfl, rfl, rfl⟩
theorem tok227 : TOK Tryz.prog 227 ⟨Tryz.t226.desc, Tryz.t227.size, Tryz.t227.bytes, Tryz.t227.zero⟩ := ⟨by kernel_rfl, Tryz.t227, by kernel_rfl, rfl, rfl, rfl⟩
theorem tok241 : TOK Tryz.prog 241 ⟨Tryz.t241.desc, Tryz.t241.size, Tryz.t241.bytes, Tryz.t241.zero⟩ := ⟨by kernel_rfl, Tryz.t241, by kernel_rfl, rfl, rfl, rfl⟩
theorem tok242 : TOK Tryz.prog 242 ⟨Tryz.t242.desc, Tryz.t242.size, Tryz.t242.bytes, Tryz.t242.zero⟩ := ⟨by kernel_rfl, Tryz.t242, by kernel_rfl, rfl, rfl, rfl⟩
theorem tok243 : TOK Tryz.prog 243 ⟨Tryz.t243.desc, Tryz.t243.size, Tryz.t243.bytes, Tryz.t243.zero⟩ := ⟨by kernel_rfl, Tryz.t243, by kernel_rfl, rfl, rfl, rfl⟩
theorem tok244 : TOK Tryz.prog 244 ⟨Tryz.t244.desc, Tryz.t244.size, Tryz.t244.bytes, Tryz.t244.zero⟩ := ⟨by kernel_rfl, Tryz.t244, by kernel_rfl, rfl, rfl, rfl⟩
theorem tok245 : TOK Tryz.prog 245 ⟨Tryz.t244.desc, Tryz.t245.size, Tryz.t245.bytes, Tryz.t245.zero⟩ := ⟨by kernel_rfl, Tryz.t245, by kernel_rfl, rfl, rfl, rfl⟩
theorem tok247 : TOK Tryz.prog 247 ⟨Tryz.t247.desc, Tryz.t247.size, Tryz.t247.bytes, Tryz.t247.zero⟩ := ⟨by kernel_rfl, Tryz.t247, by kernel_rfl, rfl, rfl, rfl⟩
theorem tok248 : TOK Tryz.prog 248 ⟨Tryz.t247.desc, Tryz.t248.size, Tryz.t248.bytes, Tryz.t248.zero⟩ := ⟨by kernel_rfl, Tryz.t248, by kernel_rfl, rfl, rfl, rfl⟩
theorem tok250 : TOK Tryz.prog 250 ⟨Tryz.t3.desc, Tryz.t250.size, Tryz.t250.bytes, Tryz.t250.zero⟩ := ⟨by kernel_rfl, Tryz.t250, by kernel_rfl, rfl, rfl, rfl⟩
theorem tok251 : TOK Tryz.prog 251 ⟨Tryz.t251.desc, Tryz.t251.size, Tryz.t251.bytes, Tryz.t251.zero⟩ := ⟨by kernel_rfl, Tryz.t251, by kernel_rfl, rfl, rfl, rfl⟩
theorem tok252 : TOK Tryz.prog 252 ⟨Tryz.t251.desc, Tryz.t252.size, Tryz.t252.bytes, Tryz.t252.zero⟩ := ⟨by kernel_rfl, Tryz.t252, by kernel_rfl, rfl, rfl, rfl⟩
theorem tok253 : TOK Tryz.prog 253 ⟨Tryz.t253.desc, Tryz.t253.size, Tryz.t253.bytes, Tryz.t253.zero⟩ := ⟨by kernel_rfl, Tryz.t253, by kernel_rfl, rfl, rfl, rfl⟩
theorem tok254 : TOK Tryz.prog 254 ⟨Tryz.t253.desc, Tryz.t254.size, Tryz.t254.bytes, Tryz.t254.zero⟩ := ⟨by kernel_rfl, Tryz.t254, by kernel_rfl, rfl, rfl, rfl⟩
theorem tok255 : TOK Tryz.prog 255 ⟨Tryz.t255.desc, Tryz.t255.size, Tryz.t255.bytes, Tryz.t255.zero⟩ := ⟨by kernel_rfl, Tryz.t255, by kernel_rfl, rfl, rfl, rfl⟩
theorem tok256 : TOK Tryz.prog 256 ⟨Tryz.t256.desc, Tryz.t256.size, Tryz.t256.bytes, Tryz.t256.zero⟩ := ⟨by kernel_rfl, Tryz.t256, by kernel_rfl, rfl, rfl, rfl⟩
theorem tok257 : TOK Tryz.prog 257 ⟨Tryz.t256.desc, Tryz.t257.size, Tryz.t257.bytes, Tryz.t257.zero⟩ := ⟨by kernel_rfl, Tryz.t257, by kernel_rfl, rfl, rfl, rfl⟩
theorem tok262 : TOK Tryz.prog 262 ⟨Tryz.t3.desc, Tryz.t262.size, Tryz.t262.bytes, Tryz.t262.zero⟩ := ⟨by kernel_rfl, Tryz.t262, by kernel_rfl, rfl, rfl, rfl⟩
theorem tok266 : TOK Tryz.prog 266 ⟨Tryz.t266.desc, Tryz.t266.size, Tryz.t266.bytes, Tryz.t266.zero⟩ := ⟨by kernel_rfl, Tryz.t266, by kernel_rfl, rfl, rfl, rfl⟩
theorem tok268 : TOK Tryz.prog 268 ⟨Tryz.t196.desc, Tryz.t268.size, Tryz.t268.bytes, Tryz.t268.zero⟩ := ⟨by kernel_rfl, Tryz.t268, by kernel_rfl, rfl, rfl, rfl⟩
theorem tok272 : TOK Tryz.prog 272 ⟨Tryz.t272.desc, Tryz.t272.size, Tryz.t272.bytes, Tryz.t272.zero⟩ := ⟨by kernel_rfl, Tryz.t272, by kernel_rfl, rfl, rfl, rfl⟩
theorem tok275 : TOK Tryz.prog 275 ⟨Tryz.t275.desc, Tryz.t275.size, Tryz.t275.bytes, Tryz.t275.zero⟩ := ⟨by kernel_rfl, Tryz.t275, by kernel_rfl, rfl, rfl, rfl⟩
theorem tok276 : TOK Tryz.prog 276 ⟨Tryz.t276.desc, Tryz.t276.size, Tryz.t276.bytes, Tryz.t276.zero⟩ := ⟨by kernel_rfl, Tryz.t276, by kernel_rfl, rfl, rfl, rfl⟩
theorem tok280 : TOK Tryz.prog 280 ⟨Tryz.t280.desc, Tryz.t280.size, Tryz.t280.bytes, Tryz.t280.zero⟩ := ⟨by kernel_rfl, Tryz.t280, by kernel_rfl, rfl, rfl, rfl⟩
theorem tok294 : TOK Tryz.prog 294 ⟨Tryz.t294.desc, Tryz.t294.size, Tryz.t294.bytes, Tryz.t294.zero⟩ := ⟨by kernel_rfl, Tryz.t294, by kernel_rfl, rfl, rfl, rfl⟩
theorem tok299 : TOK Tryz.prog 299 ⟨Tryz.t3.desc, Tryz.t299.size, Tryz.t299.bytes, Tryz.t299.zero⟩ := ⟨by kernel_rfl, Tryz.t299, by kernel_rfl, rfl, rfl, rfl⟩
theorem tok316 : TOK Tryz.prog 316 ⟨Tryz.t316.desc, Tryz.t316.size, Tryz.t316.bytes, Tryz.t316.zero⟩ := ⟨by kernel_rfl, Tryz.t316, by kernel_rfl, rfl, rfl, rfl⟩
theorem tok321 : TOK Tryz.prog 321 ⟨Tryz.t321.desc, Tryz.t321.size, Tryz.t321.bytes, Tryz.t321.zero⟩ := ⟨by kernel_rfl, Tryz.t321, by kernel_rfl, rfl, rfl, rfl⟩
theorem tok326 : TOK Tryz.prog 326 ⟨Tryz.t326.desc, Tryz.t326.size, Tryz.t326.bytes, Tryz.t326.zero⟩ := ⟨by kernel_rfl, Tryz.t326, by kernel_rfl, rfl, rfl, rfl⟩
theorem tok329 : TOK Tryz.prog 329 ⟨Tryz.t329.desc, Tryz.t329.size, Tryz.t329.bytes, Tryz.t329.zero⟩ := ⟨by kernel_rfl, Tryz.t329, by kernel_rfl, rfl, rfl, rfl⟩
theorem tok332 : TOK Tryz.prog 332 ⟨Tryz.t332.desc, Tryz.t332.size, Tryz.t332.bytes, Tryz.t332.zero⟩ := ⟨by kernel_rfl, Tryz.t332, by kernel_rfl, rfl, rfl, rfl⟩
theorem tok334 : TOK Tryz.prog 334 ⟨Tryz.t334.desc, Tryz.t334.size, Tryz.t334.bytes, Tryz.t334.zero⟩ := ⟨by kernel_rfl, Tryz.t334, by kernel_rfl, rfl, rfl, rfl⟩
theorem tok335 : TOK Tryz.prog 335 ⟨Tryz.t335.desc, Tryz.t335.size, Tryz.t335.bytes, Tryz.t335.zero⟩ := ⟨by kernel_rfl, Tryz.t335, by kernel_rfl, rfl, rfl, rfl⟩
theorem tok336 : TOK Tryz.prog 336 ⟨Tryz.t336.desc, Tryz.t336.size, Tryz.t336.bytes, Tryz.t336.zero⟩ := ⟨by kernel_rfl, Tryz.t336, by kernel_rfl, rfl, rfl, rfl⟩
theorem tok337 : TOK Tryz.prog 337 ⟨Tryz.t336.desc, Tryz.t337.size, Tryz.t337.bytes, Tryz.t337.zero⟩ := ⟨by kernel_rfl, Tryz.t337, by kernel_rfl, rfl, rfl, rfl⟩
theorem tok338 : TOK Tryz.prog 338 ⟨Tryz.t338.desc, Tryz.t338.size, Tryz.t338.bytes, Tryz.t338.zero⟩ := ⟨by kernel_rfl, Tryz.t338, by kernel_rfl, rfl, rfl, rfl⟩
theorem tok339 : TOK Tryz.prog 339 ⟨Tryz.t339.desc, Tryz.t339.size, Tryz.t339.bytes, Tryz.t339.zero⟩ := ⟨by kernel_rfl, Tryz.t339, by kernel_rfl, rfl, rfl, rfl⟩
theorem tok340 : TOK Tryz.prog 340 ⟨Tryz.t339.desc, Tryz.t340.size, Tryz.t340.bytes, Tryz.t340.zero⟩ := ⟨by kernel_rfl, Tryz.t340, by kernel_rfl, rfl, rfl, rfl⟩
theorem tok342 : TOK Tryz.prog 342 ⟨Tryz.t342.desc, Tryz.t342.size, Tryz.t342.bytes, Tryz.t342.zero⟩ := ⟨by kernel_rfl, Tryz.t342, by kernel_rfl, rfl, rfl, rfl⟩
theorem tok343 : TOK Tryz.prog 343 ⟨Tryz.t342.desc, Tryz.t343.size, Tryz.t343.bytes, Tryz.t343.zero⟩ := ⟨by kernel_rfl, Tryz.t343, by kernel_rfl, rfl, rfl, rfl⟩
theorem tok346 : TOK Tryz.prog 346 ⟨Tryz.t196.desc, Tryz.t346.size, Tryz.t346.bytes, Tryz.t346.zero⟩ := ⟨by kernel_rfl, Tryz.t346, by kernel_rfl, rfl, rfl, rfl⟩
theorem tok351 : TOK Tryz.prog 351 ⟨Tryz.t351.desc, Tryz.t351.size, Tryz.t351.bytes, Tryz.t351.zero⟩ := ⟨by kernel_rfl, Tryz.t351, by kernel_rfl, rfl, rfl, rfl⟩
theorem tok354 : TOK Tryz.prog 354 ⟨Tryz.t354.desc, Tryz.t354.size, Tryz.t354.bytes, Tryz.t354.zero⟩ := ⟨by kernel_rfl, Tryz.t354, by kernel_rfl, rfl, rfl, rfl⟩
theorem tok355 : TOK Tryz.prog 355 ⟨Tryz.t354.desc, Tryz.t355.size, Tryz.t355.bytes, Tryz.t355.zero⟩ := ⟨by kernel_rfl, Tryz.t355, by kernel_rfl, rfl, rfl, rfl⟩
theorem tok361 : TOK Tryz.prog 361 ⟨Tryz.t361.desc, Tryz.t361.size, Tryz.t361.bytes, Tryz.t361.zero⟩ := ⟨by kernel_rfl, Tryz.t361, by kernel_rfl, rfl, rfl, rfl⟩
theorem tok370 : TOK Tryz.prog 370 ⟨Tryz.t3.desc, Tryz.t370.size, Tryz.t370.bytes, Tryz.t370.zero⟩ := ⟨by kernel_rfl, Tryz.t370, by kernel_rfl, rfl, rfl, rfl⟩
theorem tok373 : TOK Tryz.prog 373 ⟨Tryz.t373.desc, Tryz.t373.size, Tryz.t373.bytes, Tryz.t373.zero⟩ := ⟨by kernel_rfl, Tryz.t373, by kernel_rfl, rfl, rfl, rfl⟩
theorem tok378 : TOK Tryz.prog 378 ⟨Tryz.t378.desc, Tryz.t378.size, Tryz.t378.bytes, Tryz.t378.zero⟩ := ⟨by kernel_rfl, Tryz.t378, by kernel_rfl, rfl, rfl, rfl⟩
theorem tok379 : TOK Tryz.prog 379 ⟨Tryz.t378.desc, Tryz.t379.size, Tryz.t379.bytes, Tryz.t379.zero⟩ := ⟨by kernel_rfl, Tryz.t379, by kernel_rfl, rfl, rfl, rfl⟩
theorem tok380 : TOK Tryz.prog 380 ⟨Tryz.t380.desc, Tryz.t380.size, Tryz.t380.bytes, Tryz.t380.zero⟩ := ⟨by kernel_rfl, Tryz.t380, by kernel_rfl, rfl, rfl, rfl⟩
theorem tok384 : TOK Tryz.prog 384 ⟨Tryz.t384.desc, Tryz.t384.size, Tryz.t384.bytes, Tryz.t384.zero⟩ := ⟨by kernel_rfl, Tryz.t384, by kernel_rfl, rfl, rfl, rfl⟩
theorem tok385 : TOK Tryz.prog 385 ⟨Tryz.t385.desc, Tryz.t385.size, Tryz.t385.bytes, Tryz.t385.zero⟩ := ⟨by kernel_rfl, Tryz.t385, by kernel_rfl, rfl, rfl, rfl⟩
theorem tok389 : TOK Tryz.prog 389 ⟨Tryz.t389.desc, Tryz.t389.size, Tryz.t389.bytes, Tryz.t389.zero⟩ := ⟨by kernel_rfl, Tryz.t389, by kernel_rfl, rfl, rfl, rfl⟩
theorem tok392 : TOK Tryz.prog 392 ⟨Tryz.t392.desc, Tryz.t392.size, Tryz.t392.bytes, Tryz.t392.zero⟩ := ⟨by kernel_rfl, Tryz.t392, by kernel_rfl, rfl, rfl, rfl⟩
theorem tok393 : TOK Tryz.prog 393 ⟨Tryz.t392.desc, Tryz.t393.size, Tryz.t393.bytes, Tryz.t393.zero⟩ := ⟨by kernel_rfl, Tryz.t393, by kernel_rfl, rfl, rfl, rfl⟩
theorem tok398 : TOK Tryz.prog 398 ⟨Tryz.t398.desc, Tryz.t398.size, Tryz.t398.bytes, Tryz.t398.zero⟩ := ⟨by kernel_rfl, Tryz.t398, by kernel_rfl, rfl, rfl, rfl⟩
theorem tok403 : TOK Tryz.prog 403 ⟨Tryz.t403.desc, Tryz.t403.size, Tryz.t403.bytes, Tryz.t403.zero⟩ := ⟨by kernel_rfl, Tryz.t403, by kernel_rfl, rfl, rfl, rfl⟩
theorem tok404 : TOK Tryz.prog 404 ⟨Tryz.t404.desc, Tryz.t404.size, Tryz.t404.bytes, Tryz.t404.zero⟩ := ⟨by kernel_rfl, Tryz.t404, by kernel_rfl, rfl, rfl, rfl⟩
theorem tok405 : TOK Tryz.prog 405 ⟨Tryz.t405.desc, Tryz.t405.size, Tryz.t405.bytes, Tryz.t405.zero⟩ := ⟨by kernel_rfl, Tryz.t405, by kernel_rfl, rfl, rfl, rfl⟩
theorem tok406 : TOK Tryz.prog 406 ⟨Tryz.t405.desc, Tryz.t406.size, Tryz.t406.bytes, Tryz.t406.zero⟩ := ⟨by kernel_rfl, Tryz.t406, by kernel_rfl, rfl, rfl, rfl⟩
theorem tok407 : TOK Tryz.prog 407 ⟨Tryz.t407.desc, Tryz.t407.size, Tryz.t407.bytes, Tryz.t407.zero⟩ := ⟨by kernel_rfl, Tryz.t407, by kernel_rfl, rfl, rfl, rfl⟩
theorem tok408 : TOK Tryz.prog 408 ⟨Tryz.t407.desc, Tryz.t408.size, Tryz.t408.bytes, Tryz.t408.zero⟩ := ⟨by kernel_rfl, Tryz.t408, by kernel_rfl, rfl, rfl, rfl⟩
theorem tyAll : tyTree.All (TOK Tryz.prog) := ⟨tok215, ⟨tok130, ⟨tok38, ⟨tok24, ⟨tok9, ⟨tok4, ⟨tok3, ⟨tok2, trivial, trivial⟩, trivial⟩, ⟨tok5, trivial, trivial⟩⟩, ⟨tok22, ⟨tok21, trivial, trivial⟩, ⟨tok23, trivial, trivial⟩⟩⟩, ⟨tok28, ⟨tok26, ⟨tok25, trivial, trivial⟩, ⟨tok27, trivial, trivial⟩⟩, ⟨tok36, ⟨tok31, trivial, trivial⟩, ⟨tok37, trivial, trivial⟩⟩⟩⟩, ⟨tok85, ⟨tok67, ⟨tok40, ⟨tok39, trivial, trivial⟩, ⟨tok55, trivial, trivial⟩⟩, ⟨tok75, ⟨tok70, trivial, trivial⟩, ⟨tok76, trivial, trivial⟩⟩⟩, ⟨tok95, ⟨tok88, ⟨tok87, trivial, trivial⟩, ⟨tok94, trivial, trivial⟩⟩, ⟨tok114, ⟨tok110, trivial, trivial⟩, ⟨tok127, trivial, trivial⟩⟩⟩⟩⟩, ⟨tok167, ⟨tok143, ⟨tok135, ⟨tok133, ⟨tok132, trivial, trivial⟩, ⟨tok134, trivial, trivial⟩⟩, ⟨tok141, ⟨tok140, trivial, trivial⟩, ⟨tok142, trivial, trivial⟩⟩⟩, ⟨tok152, ⟨tok145, ⟨tok144, trivial, trivial⟩, ⟨tok151, trivial, trivial⟩⟩, ⟨tok156, ⟨tok155, trivial, trivial⟩, ⟨tok163, trivial, trivial⟩⟩⟩⟩, ⟨tok194, ⟨tok175, ⟨tok171, ⟨tok169, trivial, trivial⟩, ⟨tok173, trivial, trivial⟩⟩, ⟨tok177, ⟨tok176, trivial, trivial⟩, ⟨tok186, trivial, trivial⟩⟩⟩, ⟨tok207, ⟨tok205, ⟨tok196, trivial, trivial⟩, ⟨tok206, trivial, trivial⟩⟩, ⟨tok211, ⟨tok210, trivial, trivial⟩, ⟨tok212, trivial, trivial⟩⟩⟩⟩⟩⟩, ⟨tok332, ⟨tok255, ⟨tok245, ⟨tok241, ⟨tok226, ⟨tok225, ⟨tok220, trivial, trivial⟩, trivial⟩, ⟨tok227, trivial, trivial⟩⟩, ⟨tok243, ⟨tok242, trivial, trivial⟩, ⟨tok244, trivial, trivial⟩⟩⟩, ⟨tok251, ⟨tok248, ⟨tok247, trivial, trivial⟩, ⟨tok250, trivial, trivial⟩⟩, ⟨tok253, ⟨tok252, trivial, trivial⟩, ⟨tok254, trivial, trivial⟩⟩⟩⟩, ⟨tok276, ⟨tok266, ⟨tok257, ⟨tok256, trivial, trivial⟩, ⟨tok262, trivial, trivial⟩⟩, ⟨tok272, ⟨tok268, trivial, trivial⟩, ⟨tok275, trivial, trivial⟩⟩⟩, ⟨tok316, ⟨tok294, ⟨tok280, trivial, trivial⟩, ⟨tok299, trivial, trivial⟩⟩, ⟨tok326, ⟨tok321, trivial, trivial⟩, ⟨tok329, trivial, trivial⟩⟩⟩⟩⟩, ⟨tok373, ⟨tok342, ⟨tok337, ⟨tok335, ⟨tok334, trivial, trivial⟩, ⟨tok336, trivial, trivial⟩⟩, ⟨tok339, ⟨tok338, trivial, trivial⟩, ⟨tok340, trivial, trivial⟩⟩⟩, ⟨tok354, ⟨tok346, ⟨tok343, trivial, trivial⟩, ⟨tok351, trivial, trivial⟩⟩, ⟨tok361, ⟨tok355, trivial, trivial⟩, ⟨tok370, trivial, trivial⟩⟩⟩⟩, ⟨tok393, ⟨tok384, ⟨tok379, ⟨tok378, trivial, trivial⟩, ⟨tok380, trivial, trivial⟩⟩, ⟨tok389, ⟨tok385, trivial, trivial⟩, ⟨tok392, trivial, trivial⟩⟩⟩, ⟨tok405, ⟨tok403, ⟨tok398, trivial, trivial⟩, ⟨tok404, trivial, trivial⟩⟩, ⟨tok407, ⟨tok406, trivial, trivial⟩, ⟨tok408, trivial, trivial⟩⟩⟩⟩⟩⟩⟩
end Go.Eng
namespace Go.Eng
open Go.Proofs
def G0 : List (Nat × List AV) := [(0, [.str [77, 79], .str [84, 85], .str [87, 69], .str [84, 72], .str [70, 82], .str [83, 65], .str [83, 85]]), (3, [.str [89, 69, 65, 82, 76, 89], .str [77, 79, 78, 84, 72, 76, 89], .str [87, 69, 69, 75, 76, 89], .str [68, 65, 73, 76, 89], .str [72, 79, 85, 82, 76, 89], .str [77, 73, 78, 85, 84, 69, 76, 89], .str [83, 69, 67, 79, 78, 68, 76, 89]]), (1, [.int .i64 0, .int .i64 0]), (5, [.int .i64 1, .int .i64 0]), (6, [.int .i64 2, .int .i64 0]), (7, [.int .i64 3, .int .i64 0]), (8, [.int .i64 4, .int .i64 0]), (9, [.int .i64 5, .int .i64 0]), (10, [.int .i64 6, .int .i64 0])]
theorem G0_ok : ∀ p ∈ G0, ltL 0 p.2 ∧ p.1 < 22 := by
  intro p hp
  simp only [G0, List.mem_cons, List.not_mem_nil, or_false] at hp
  rcases hp with rfl | rfl | rfl | rfl | rfl | rfl | rfl | rfl | rfl <;> simp [ltL, AV.lt]
theorem eq2_of (t k : TypeId) (f0 f1 : Field) (hf : (Tryz.prog.fieldsOf t).toList = [f0, f1]) (hu : Tryz.prog.underlying t = some (.struct (Tryz.prog.fieldsOf t))) (hs : Tryz.prog.stoodInHeld t = false)
    (h0 : f0.name ≠ "_") (h1 : f1.name ≠ "_") (o0 : f0.offset = 0) (o1 : f1.offset = 1) (k0 : f0.type = k) (k1 : f1.type = k) (hk : Tryz.prog.underlying k = some (.int .i64)) (a b c d' : Int) (w : World) :
    (Op.equal t (.agg #[.int .i64 a, .int .i64 b]) (.agg #[.int .i64 c, .int .i64 d'])).run Tryz.prog w = .ok (a == c && b == d') w := by
  have hi : ∀ (d : Nat) (x y : Int) (w : World), (Op.equalIn (d + 1) k (.int .i64 x) (.int .i64 y)).run Tryz.prog w = .ok (x == y) w := by
    intro d x y w
    simp only [Op.equalIn, Sem.run_bind, Go.run_underlying hk, Result.andThen_ok, if_true, Sem.run_pure]
  have hp : ∀ (x y : Int) (i : Nat) (w : World), i < 2 → (part k #[.int .i64 x, .int .i64 y] i).run Tryz.prog w = .ok (if i = 0 then .int .i64 x else .int .i64 y) w := by
    intro x y i w hi
    have : i = 0 ∨ i = 1 := by omega
    rcases this with rfl | rfl <;> simp [part, isAgg, Go.run_underlying hk]
  have key : ∀ d, (Op.equalIn (d + 1 + 1) t (.agg #[.int .i64 a, .int .i64 b]) (.agg #[.int .i64 c, .int .i64 d'])).run Tryz.prog w = .ok (a == c && b == d') w := by
    intro d
    rw [run_equalIn_struct w (d + 1) t _ _ hu hs, hf]
    simp only [Op.eqFields, h0, h1, ne_eq, not_false_eq_true, if_true, Sem.run_bind, k0, k1, o0, o1, hp _ _ 0 _ (by omega), hp _ _ 1 _ (by omega), Result.andThen_ok, hi, Sem.run_ite, Sem.run_pure, Nat.one_ne_zero, if_false]
    cases (a == c) <;> cases (b == d') <;> rfl
  exact key 9998
theorem eq2_all : ∀ t, [88, 95, 142].any (Nat.beq t) = true → (Tryz.prog.eqGuardType Tryz.prog.depth t = false) ∧
    ∀ a b c d w, (Op.equal t (.agg #[.int .i64 a, .int .i64 b]) (.agg #[.int .i64 c, .int .i64 d])).run Tryz.prog w = .ok (a == c && b == d) w := by
  intro t ht
  simp only [List.any_cons, List.any_nil, Bool.or_false, Bool.or_eq_true] at ht
  rcases ht with ht | ht | ht <;> (have := Nat.eq_of_beq_eq_true ht; subst this)
  · exact ⟨by kernel_rfl, eq2_of 88 2 ⟨ "seconds", 2, 0, false, "", "pub-ferial/pub/rrule/zztime", 0⟩ ⟨ "nanos", 2, 1, false, "", "pub-ferial/pub/rrule/zztime", 8⟩ (by kernel_rfl) (by kernel_rfl) (by kernel_rfl) (by decide) (by decide) rfl rfl rfl rfl (by kernel_rfl)⟩
  · exact ⟨by kernel_rfl, eq2_of 95 3 ⟨ "Weekday", 3, 0, false, "", "", 0⟩ ⟨ "N", 3, 1, false, "", "", 8⟩ (by kernel_rfl) (by kernel_rfl) (by kernel_rfl) (by decide) (by decide) rfl rfl rfl rfl (by kernel_rfl)⟩
  · exact ⟨by kernel_rfl, eq2_of 142 3 ⟨ "weekday", 3, 0, false, "", "pub-ferial/pub/rrule", 0⟩ ⟨ "n", 3, 1, false, "", "pub-ferial/pub/rrule", 8⟩ (by kernel_rfl) (by kernel_rfl) (by kernel_rfl) (by decide) (by decide) rfl rfl rfl rfl (by kernel_rfl)⟩
structure GF0 (h : Nat → Option Obj) : Prop where
  sp : ∃ e fz, h 2 = some (.cells (Lib.asciiSpaceTab.map fun z => Value.int .u8 z).toArray e fz)
  pw : ∃ e fz, h 15 = some (.cells (Lib.pow10Tab.map fun z => Value.int .u64 z).toArray e fz)
  es : ∃ te pe e fz, h 17 = some (.cells #[.iface te pe] e fz)
  er : ∃ te pe e fz, h 18 = some (.cells #[.iface te pe] e fz)
theorem GF0_ok : ∀ h h' : Nat → Option Obj, (∀ g, g < 22 → h' g = h g) → GF0 h → GF0 h' := by
  rintro h h' hk ⟨a, b, c, d⟩
  exact ⟨by rw [hk 2 (by omega)]; exact a, by rw [hk 15 (by omega)]; exact b, by rw [hk 17 (by omega)]; exact c, by rw [hk 18 (by omega)]; exact d⟩
noncomputable def C0 : Cy := { P := Tryz.prog, ti := tyTree.get, tiok := fun _ _ h => Tr.get_all tyAll h, G := G0, glt := fun g cs h => (G0_ok _ (lk_mem h)).1, gfix := GF0, gfixok := GF0_ok, ng := 22, gng := fun g cs h => (G0_ok _ (lk_mem h)).2, eqts := [88, 95, 142], eq2 := eq2_all }
end Go.Eng
