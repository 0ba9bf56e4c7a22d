/- A part of the proof that the rows statement FnSetBack holds; no conditions. -/
import Derived.Test.YthkgjhnckakliaaGreatDoorZAN
set_option linter.unusedVariables false
set_option linter.unusedSimpArgs false
set_option linter.unusedSectionVars false
namespace Go.Eng
variable {C : Cy} {E : En} {ops : Array Oper} {rest : List Oper} {nx : Nat} {tm : Tm} {hp : Hp} {Q : Po}
theorem W_if_dec {c : Operand} {x y : Code} {p : Prop} {inst : Decidable p} (hc : ev tm c = some (.bool (@decide p inst))) (h1 : p → W C E x nx tm hp Q) (h2 : ¬ p → W C E y nx tm hp Q) : W C E (.cond c x y) nx tm hp Q :=
 W_cond hc (fun h => h1 (of_decide_eq_true h)) (fun h => h2 (of_decide_eq_false h))
theorem W_if_eq {c : Operand} {x y : Code} {a b : Int} (hc : ev tm c = some (.bool (a == b))) (h1 : a = b → W C E x nx tm hp Q) (h2 : ¬ a = b → W C E y nx tm hp Q) : W C E (.cond c x y) nx tm hp Q :=
 W_cond hc (fun h => h1 (by simpa using h)) (fun h => h2 (by simpa using h))
theorem W_if_eqS {c : Operand} {x y : Code} {a b : List UInt8} (hc : ev tm c = some (.bool (a == b))) (h1 : a = b → W C E x nx tm hp Q) (h2 : ¬ a = b → W C E y nx tm hp Q) : W C E (.cond c x y) nx tm hp Q :=
 W_cond hc (fun h => h1 (by simpa using h)) (fun h => h2 (by simpa using h))
theorem W_if_ne {c : Operand} {x y : Code} {a b : Int} (hc : ev tm c = some (.bool (a != b))) (h1 : ¬ a = b → W C E x nx tm hp Q) (h2 : a = b → W C E y nx tm hp Q) : W C E (.cond c x y) nx tm hp Q :=
 W_cond hc (fun h => h1 (by simpa using h)) (fun h => h2 (by simpa using h))
theorem W_if_nseq {c : Operand} {x y : Code} {a b : List UInt8} (hc : ev tm c = some (.bool (!(a == b)))) (h1 : ¬ a = b → W C E x nx tm hp Q) (h2 : a = b → W C E y nx tm hp Q) : W C E (.cond c x y) nx tm hp Q :=
 W_cond hc (fun h => h1 (by simpa using h)) (fun h => h2 (by simpa using h))
theorem WL_if_dec {t : Nat} {p : Prop} {inst : Decidable p} (hl : lk tm t = some (.bool (@decide p inst))) (h1 : p → WL C E ops rest nx ((t, .bool true) :: tm) hp Q)
 (h2 : ¬ p → WL C E ops rest nx ((t, .bool false) :: tm) hp Q) : WL C E ops rest nx tm hp Q :=
 WL_split hl (fun h => h1 (of_decide_eq_true h)) (fun h => h2 (of_decide_eq_false h))
theorem WL_if_eq {t : Nat} {a b : Int} (hl : lk tm t = some (.bool (a == b))) (h1 : a = b → WL C E ops rest nx ((t, .bool true) :: tm) hp Q)
 (h2 : ¬ a = b → WL C E ops rest nx ((t, .bool false) :: tm) hp Q) : WL C E ops rest nx tm hp Q :=
 WL_split hl (fun h => h1 (by simpa using h)) (fun h => h2 (by simpa using h))
theorem WL_if_eqS {t : Nat} {a b : List UInt8} (hl : lk tm t = some (.bool (a == b))) (h1 : a = b → WL C E ops rest nx ((t, .bool true) :: tm) hp Q)
 (h2 : ¬ a = b → WL C E ops rest nx ((t, .bool false) :: tm) hp Q) : WL C E ops rest nx tm hp Q :=
 WL_split hl (fun h => h1 (by simpa using h)) (fun h => h2 (by simpa using h))
theorem WL_if_ne {t : Nat} {a b : Int} (hl : lk tm t = some (.bool (a != b))) (h1 : ¬ a = b → WL C E ops rest nx ((t, .bool true) :: tm) hp Q)
 (h2 : a = b → WL C E ops rest nx ((t, .bool false) :: tm) hp Q) : WL C E ops rest nx tm hp Q :=
 WL_split hl (fun h => h1 (by simpa using h)) (fun h => h2 (by simpa using h))
theorem WL_if_nseq {t : Nat} {a b : List UInt8} (hl : lk tm t = some (.bool (!(a == b)))) (h1 : ¬ a = b → WL C E ops rest nx ((t, .bool true) :: tm) hp Q)
 (h2 : a = b → WL C E ops rest nx ((t, .bool false) :: tm) hp Q) : WL C E ops rest nx tm hp Q :=
 WL_split hl (fun h => h1 (by simpa using h)) (fun h => h2 (by simpa using h))
theorem W_if {c : Operand} {x y : Code} {b : Bool} (hc : ev tm c = some (.bool b)) (h1 : b = true → W C E x nx tm hp Q) (h2 : b = false → W C E y nx tm hp Q) : W C E (.cond c x y) nx tm hp Q := W_cond hc h1 h2
end Go.Eng
namespace Go.Eng
open Go.Proofs
theorem cf3 : ∀ args w, (callFunc 3 args).run C0.P w = .ok (.enter 3 args) w := fun _ _ => by kernel_rfl
theorem cf7 : ∀ args w, (callFunc 7 args).run C0.P w = .ok (.enter 7 args) w := fun _ _ => by kernel_rfl
theorem cf8 : ∀ args w, (callFunc 8 args).run C0.P w = .ok (.enter 8 args) w := fun _ _ => by kernel_rfl
theorem cf9 : ∀ args w, (callFunc 9 args).run C0.P w = .ok (.enter 9 args) w := fun _ _ => by kernel_rfl
theorem cf10 : ∀ args w, (callFunc 10 args).run C0.P w = .ok (.enter 10 args) w := fun _ _ => by kernel_rfl
theorem cf12 : ∀ args w, (callFunc 12 args).run C0.P w = .ok (.enter 12 args) w := fun _ _ => by kernel_rfl
theorem cf13 : ∀ args w, (callFunc 13 args).run C0.P w = .ok (.enter 13 args) w := fun _ _ => by kernel_rfl
theorem cf14 : ∀ args w, (callFunc 14 args).run C0.P w = .ok (.enter 14 args) w := fun _ _ => by kernel_rfl
theorem cf15 : ∀ args w, (callFunc 15 args).run C0.P w = .ok (.enter 15 args) w := fun _ _ => by kernel_rfl
theorem cf16 : ∀ args w, (callFunc 16 args).run C0.P w = .ok (.enter 16 args) w := fun _ _ => by kernel_rfl
theorem cf17 : ∀ args w, (callFunc 17 args).run C0.P w = .ok (.enter 17 args) w := fun _ _ => by kernel_rfl
theorem cf18 : ∀ args w, (callFunc 18 args).run C0.P w = .ok (.enter 18 args) w := fun _ _ => by kernel_rfl
theorem cf19 : ∀ args w, (callFunc 19 args).run C0.P w = .ok (.enter 19 args) w := fun _ _ => by kernel_rfl
theorem cf24 : ∀ args w, (callFunc 24 args).run C0.P w = .ok (.enter 24 args) w := fun _ _ => by kernel_rfl
theorem cf28 : ∀ args w, (callFunc 28 args).run C0.P w = .ok (.enter 28 args) w := fun _ _ => by kernel_rfl
theorem cf35 : ∀ args w, (callFunc 35 args).run C0.P w = .ok (.enter 35 args) w := fun _ _ => by kernel_rfl
theorem cf36 : ∀ args w, (callFunc 36 args).run C0.P w = .ok (.enter 36 args) w := fun _ _ => by kernel_rfl
theorem cf37 : ∀ args w, (callFunc 37 args).run C0.P w = .ok (.enter 37 args) w := fun _ _ => by kernel_rfl
theorem cf38 : ∀ args w, (callFunc 38 args).run C0.P w = .ok (.enter 38 args) w := fun _ _ => by kernel_rfl
theorem cf39 : ∀ args w, (callFunc 39 args).run C0.P w = .ok (.enter 39 args) w := fun _ _ => by kernel_rfl
theorem cf40 : ∀ args w, (callFunc 40 args).run C0.P w = .ok (.enter 40 args) w := fun _ _ => by kernel_rfl
theorem cf41 : ∀ args w, (callFunc 41 args).run C0.P w = .ok (.enter 41 args) w := fun _ _ => by kernel_rfl
theorem cf42 : ∀ args w, (callFunc 42 args).run C0.P w = .ok (.enter 42 args) w := fun _ _ => by kernel_rfl
theorem cf43 : ∀ args w, (callFunc 43 args).run C0.P w = .ok (.enter 43 args) w := fun _ _ => by kernel_rfl
theorem cf44 : ∀ args w, (callFunc 44 args).run C0.P w = .ok (.enter 44 args) w := fun _ _ => by kernel_rfl
theorem cf45 : ∀ args w, (callFunc 45 args).run C0.P w = .ok (.enter 45 args) w := fun _ _ => by kernel_rfl
theorem cf46 : ∀ args w, (callFunc 46 args).run C0.P w = .ok (.enter 46 args) w := fun _ _ => by kernel_rfl
theorem cf47 : ∀ args w, (callFunc 47 args).run C0.P w = .ok (.enter 47 args) w := fun _ _ => by kernel_rfl
theorem cf51 : ∀ args w, (callFunc 51 args).run C0.P w = .ok (.enter 51 args) w := fun _ _ => by kernel_rfl
theorem cf71 : ∀ args w, (callFunc 71 args).run C0.P w = .ok (.enter 71 args) w := fun _ _ => by kernel_rfl
theorem cf80 : ∀ args w, (callFunc 80 args).run C0.P w = .ok (.enter 80 args) w := fun _ _ => by kernel_rfl
theorem cf81 : ∀ args w, (callFunc 81 args).run C0.P w = .ok (.enter 81 args) w := fun _ _ => by kernel_rfl
theorem cf82 : ∀ args w, (callFunc 82 args).run C0.P w = .ok (.enter 82 args) w := fun _ _ => by kernel_rfl
theorem cf83 : ∀ args w, (callFunc 83 args).run C0.P w = .ok (.enter 83 args) w := fun _ _ => by kernel_rfl
theorem cf84 : ∀ args w, (callFunc 84 args).run C0.P w = .ok (.enter 84 args) w := fun _ _ => by kernel_rfl
theorem cf85 : ∀ args w, (callFunc 85 args).run C0.P w = .ok (.enter 85 args) w := fun _ _ => by kernel_rfl
theorem cf86 : ∀ args w, (callFunc 86 args).run C0.P w = .ok (.enter 86 args) w := fun _ _ => by kernel_rfl
theorem cf87 : ∀ args w, (callFunc 87 args).run C0.P w = .ok (.enter 87 args) w := fun _ _ => by kernel_rfl
theorem cf88 : ∀ args w, (callFunc 88 args).run C0.P w = .ok (.enter 88 args) w := fun _ _ => by kernel_rfl
theorem cf89 : ∀ args w, (callFunc 89 args).run C0.P w = .ok (.enter 89 args) w := fun _ _ => by kernel_rfl
theorem cf90 : ∀ args w, (callFunc 90 args).run C0.P w = .ok (.enter 90 args) w := fun _ _ => by kernel_rfl
theorem cf91 : ∀ args w, (callFunc 91 args).run C0.P w = .ok (.enter 91 args) w := fun _ _ => by kernel_rfl
theorem cf92 : ∀ args w, (callFunc 92 args).run C0.P w = .ok (.enter 92 args) w := fun _ _ => by kernel_rfl
theorem cf93 : ∀ args w, (callFunc 93 args).run C0.P w = .ok (.enter 93 args) w := fun _ _ => by kernel_rfl
theorem cf94 : ∀ args w, (callFunc 94 args).run C0.P w = .ok (.enter 94 args) w := fun _ _ => by kernel_rfl
theorem cf95 : ∀ args w, (callFunc 95 args).run C0.P w = .ok (.enter 95 args) w := fun _ _ => by kernel_rfl
theorem cf96 : ∀ args w, (callFunc 96 args).run C0.P w = .ok (.enter 96 args) w := fun _ _ => by kernel_rfl
theorem cf97 : ∀ args w, (callFunc 97 args).run C0.P w = .ok (.enter 97 args) w := fun _ _ => by kernel_rfl
theorem cf99 : ∀ args w, (callFunc 99 args).run C0.P w = .ok (.enter 99 args) w := fun _ _ => by kernel_rfl
theorem cf100 : ∀ args w, (callFunc 100 args).run C0.P w = .ok (.enter 100 args) w := fun _ _ => by kernel_rfl
theorem cf101 : ∀ args w, (callFunc 101 args).run C0.P w = .ok (.enter 101 args) w := fun _ _ => by kernel_rfl
theorem cf102 : ∀ args w, (callFunc 102 args).run C0.P w = .ok (.enter 102 args) w := fun _ _ => by kernel_rfl
theorem cf103 : ∀ args w, (callFunc 103 args).run C0.P w = .ok (.enter 103 args) w := fun _ _ => by kernel_rfl
theorem cf104 : ∀ args w, (callFunc 104 args).run C0.P w = .ok (.enter 104 args) w := fun _ _ => by kernel_rfl
theorem cf105 : ∀ args w, (callFunc 105 args).run C0.P w = .ok (.enter 105 args) w := fun _ _ => by kernel_rfl
theorem cf106 : ∀ args w, (callFunc 106 args).run C0.P w = .ok (.enter 106 args) w := fun _ _ => by kernel_rfl
theorem cf108 : ∀ args w, (callFunc 108 args).run C0.P w = .ok (.enter 108 args) w := fun _ _ => by kernel_rfl
theorem cf109 : ∀ args w, (callFunc 109 args).run C0.P w = .ok (.enter 109 args) w := fun _ _ => by kernel_rfl
theorem cf112 : ∀ args w, (callFunc 112 args).run C0.P w = .ok (.enter 112 args) w := fun _ _ => by kernel_rfl
theorem cf118 : ∀ args w, (callFunc 118 args).run C0.P w = .ok (.enter 118 args) w := fun _ _ => by kernel_rfl
theorem cf138 : ∀ args w, (callFunc 138 args).run C0.P w = .ok (.enter 138 args) w := fun _ _ => by kernel_rfl
theorem cf147 : ∀ args w, (callFunc 147 args).run C0.P w = .ok (.enter 147 args) w := fun _ _ => by kernel_rfl
theorem cf148 : ∀ args w, (callFunc 148 args).run C0.P w = .ok (.enter 148 args) w := fun _ _ => by kernel_rfl
theorem cf149 : ∀ args w, (callFunc 149 args).run C0.P w = .ok (.enter 149 args) w := fun _ _ => by kernel_rfl
theorem cf150 : ∀ args w, (callFunc 150 args).run C0.P w = .ok (.enter 150 args) w := fun _ _ => by kernel_rfl
theorem cf151 : ∀ args w, (callFunc 151 args).run C0.P w = .ok (.enter 151 args) w := fun _ _ => by kernel_rfl
theorem cf152 : ∀ args w, (callFunc 152 args).run C0.P w = .ok (.enter 152 args) w := fun _ _ => by kernel_rfl
theorem cf153 : ∀ args w, (callFunc 153 args).run C0.P w = .ok (.enter 153 args) w := fun _ _ => by kernel_rfl
theorem cf154 : ∀ args w, (callFunc 154 args).run C0.P w = .ok (.enter 154 args) w := fun _ _ => by kernel_rfl
theorem cf155 : ∀ args w, (callFunc 155 args).run C0.P w = .ok (.enter 155 args) w := fun _ _ => by kernel_rfl
theorem cf156 : ∀ args w, (callFunc 156 args).run C0.P w = .ok (.enter 156 args) w := fun _ _ => by kernel_rfl
theorem cf157 : ∀ args w, (callFunc 157 args).run C0.P w = .ok (.enter 157 args) w := fun _ _ => by kernel_rfl
theorem cf158 : ∀ args w, (callFunc 158 args).run C0.P w = .ok (.enter 158 args) w := fun _ _ => by kernel_rfl
theorem cf159 : ∀ args w, (callFunc 159 args).run C0.P w = .ok (.enter 159 args) w := fun _ _ => by kernel_rfl
theorem cf160 : ∀ args w, (callFunc 160 args).run C0.P w = .ok (.enter 160 args) w := fun _ _ => by kernel_rfl
theorem cf162 : ∀ args w, (callFunc 162 args).run C0.P w = .ok (.enter 162 args) w := fun _ _ => by kernel_rfl
theorem cf163 : ∀ args w, (callFunc 163 args).run C0.P w = .ok (.enter 163 args) w := fun _ _ => by kernel_rfl
theorem cf164 : ∀ args w, (callFunc 164 args).run C0.P w = .ok (.enter 164 args) w := fun _ _ => by kernel_rfl
theorem cf168 : ∀ args w, (callFunc 168 args).run C0.P w = .ok (.enter 168 args) w := fun _ _ => by kernel_rfl
theorem cf169 : ∀ args w, (callFunc 169 args).run C0.P w = .ok (.enter 169 args) w := fun _ _ => by kernel_rfl
theorem cf170 : ∀ args w, (callFunc 170 args).run C0.P w = .ok (.enter 170 args) w := fun _ _ => by kernel_rfl
theorem cf171 : ∀ args w, (callFunc 171 args).run C0.P w = .ok (.enter 171 args) w := fun _ _ => by kernel_rfl
theorem cf172 : ∀ args w, (callFunc 172 args).run C0.P w = .ok (.enter 172 args) w := fun _ _ => by kernel_rfl
theorem cf173 : ∀ args w, (callFunc 173 args).run C0.P w = .ok (.enter 173 args) w := fun _ _ => by kernel_rfl
theorem cf174 : ∀ args w, (callFunc 174 args).run C0.P w = .ok (.enter 174 args) w := fun _ _ => by kernel_rfl
theorem cf175 : ∀ args w, (callFunc 175 args).run C0.P w = .ok (.enter 175 args) w := fun _ _ => by kernel_rfl
theorem cf179 : ∀ args w, (callFunc 179 args).run C0.P w = .ok (.enter 179 args) w := fun _ _ => by kernel_rfl
theorem cf180 : ∀ args w, (callFunc 180 args).run C0.P w = .ok (.enter 180 args) w := fun _ _ => by kernel_rfl
theorem cf182 : ∀ args w, (callFunc 182 args).run C0.P w = .ok (.enter 182 args) w := fun _ _ => by kernel_rfl
theorem cf183 : ∀ args w, (callFunc 183 args).run C0.P w = .ok (.enter 183 args) w := fun _ _ => by kernel_rfl
theorem cf184 : ∀ args w, (callFunc 184 args).run C0.P w = .ok (.enter 184 args) w := fun _ _ => by kernel_rfl
theorem cf185 : ∀ args w, (callFunc 185 args).run C0.P w = .ok (.enter 185 args) w := fun _ _ => by kernel_rfl
theorem cf199 : ∀ args w, (callFunc 199 args).run C0.P w = .ok (.enter 199 args) w := fun _ _ => by kernel_rfl
theorem cf200 : ∀ args w, (callFunc 200 args).run C0.P w = .ok (.enter 200 args) w := fun _ _ => by kernel_rfl
theorem cf201 : ∀ args w, (callFunc 201 args).run C0.P w = .ok (.enter 201 args) w := fun _ _ => by kernel_rfl
theorem cf202 : ∀ args w, (callFunc 202 args).run C0.P w = .ok (.enter 202 args) w := fun _ _ => by kernel_rfl
theorem cf203 : ∀ args w, (callFunc 203 args).run C0.P w = .ok (.enter 203 args) w := fun _ _ => by kernel_rfl
theorem cf204 : ∀ args w, (callFunc 204 args).run C0.P w = .ok (.enter 204 args) w := fun _ _ => by kernel_rfl
theorem cf205 : ∀ args w, (callFunc 205 args).run C0.P w = .ok (.enter 205 args) w := fun _ _ => by kernel_rfl
theorem cf206 : ∀ args w, (callFunc 206 args).run C0.P w = .ok (.enter 206 args) w := fun _ _ => by kernel_rfl
theorem cf207 : ∀ args w, (callFunc 207 args).run C0.P w = .ok (.enter 207 args) w := fun _ _ => by kernel_rfl
theorem cf208 : ∀ args w, (callFunc 208 args).run C0.P w = .ok (.enter 208 args) w := fun _ _ => by kernel_rfl
theorem cf210 : ∀ args w, (callFunc 210 args).run C0.P w = .ok (.enter 210 args) w := fun _ _ => by kernel_rfl
theorem cf211 : ∀ args w, (callFunc 211 args).run C0.P w = .ok (.enter 211 args) w := fun _ _ => by kernel_rfl
theorem cf215 : ∀ args w, (callFunc 215 args).run C0.P w = .ok (.enter 215 args) w := fun _ _ => by kernel_rfl
theorem cf216 : ∀ args w, (callFunc 216 args).run C0.P w = .ok (.enter 216 args) w := fun _ _ => by kernel_rfl
theorem cf217 : ∀ args w, (callFunc 217 args).run C0.P w = .ok (.enter 217 args) w := fun _ _ => by kernel_rfl
theorem cf219 : ∀ args w, (callFunc 219 args).run C0.P w = .ok (.enter 219 args) w := fun _ _ => by kernel_rfl
theorem cf221 : ∀ args w, (callFunc 221 args).run C0.P w = .ok (.enter 221 args) w := fun _ _ => by kernel_rfl
theorem cf222 : ∀ args w, (callFunc 222 args).run C0.P w = .ok (.enter 222 args) w := fun _ _ => by kernel_rfl
theorem cf223 : ∀ args w, (callFunc 223 args).run C0.P w = .ok (.enter 223 args) w := fun _ _ => by kernel_rfl
theorem cf229 : ∀ args w, (callFunc 229 args).run C0.P w = .ok (.enter 229 args) w := fun _ _ => by kernel_rfl
theorem cf230 : ∀ args w, (callFunc 230 args).run C0.P w = .ok (.enter 230 args) w := fun _ _ => by kernel_rfl
theorem cf231 : ∀ args w, (callFunc 231 args).run C0.P w = .ok (.enter 231 args) w := fun _ _ => by kernel_rfl
theorem cf232 : ∀ args w, (callFunc 232 args).run C0.P w = .ok (.enter 232 args) w := fun _ _ => by kernel_rfl
theorem cf233 : ∀ args w, (callFunc 233 args).run C0.P w = .ok (.enter 233 args) w := fun _ _ => by kernel_rfl
theorem cf234 : ∀ args w, (callFunc 234 args).run C0.P w = .ok (.enter 234 args) w := fun _ _ => by kernel_rfl
theorem cf235 : ∀ args w, (callFunc 235 args).run C0.P w = .ok (.enter 235 args) w := fun _ _ => by kernel_rfl
theorem cf236 : ∀ args w, (callFunc 236 args).run C0.P w = .ok (.enter 236 args) w := fun _ _ => by kernel_rfl
theorem cf237 : ∀ args w, (callFunc 237 args).run C0.P w = .ok (.enter 237 args) w := fun _ _ => by kernel_rfl
theorem cf238 : ∀ args w, (callFunc 238 args).run C0.P w = .ok (.enter 238 args) w := fun _ _ => by kernel_rfl
theorem cf239 : ∀ args w, (callFunc 239 args).run C0.P w = .ok (.enter 239 args) w := fun _ _ => by kernel_rfl
theorem cf258 : ∀ args w, (callFunc 258 args).run C0.P w = .ok (.enter 258 args) w := fun _ _ => by kernel_rfl
theorem cf265 : ∀ args w, (callFunc 265 args).run C0.P w = .ok (.enter 265 args) w := fun _ _ => by kernel_rfl
theorem cf266 : ∀ args w, (callFunc 266 args).run C0.P w = .ok (.enter 266 args) w := fun _ _ => by kernel_rfl
theorem cf267 : ∀ args w, (callFunc 267 args).run C0.P w = .ok (.enter 267 args) w := fun _ _ => by kernel_rfl
theorem cf277 : ∀ args w, (callFunc 277 args).run C0.P w = .ok (.enter 277 args) w := fun _ _ => by kernel_rfl
theorem cf278 : ∀ args w, (callFunc 278 args).run C0.P w = .ok (.enter 278 args) w := fun _ _ => by kernel_rfl
theorem cf279 : ∀ args w, (callFunc 279 args).run C0.P w = .ok (.enter 279 args) w := fun _ _ => by kernel_rfl
theorem cf280 : ∀ args w, (callFunc 280 args).run C0.P w = .ok (.enter 280 args) w := fun _ _ => by kernel_rfl
theorem cf281 : ∀ args w, (callFunc 281 args).run C0.P w = .ok (.enter 281 args) w := fun _ _ => by kernel_rfl
theorem cf282 : ∀ args w, (callFunc 282 args).run C0.P w = .ok (.enter 282 args) w := fun _ _ => by kernel_rfl
theorem cf305 : ∀ args w, (callFunc 305 args).run C0.P w = .ok (.enter 305 args) w := fun _ _ => by kernel_rfl
theorem cf312 : ∀ args w, (callFunc 312 args).run C0.P w = .ok (.enter 312 args) w := fun _ _ => by kernel_rfl
theorem cf358 : ∀ args w, (callFunc 358 args).run C0.P w = .ok (.enter 358 args) w := fun _ _ => by kernel_rfl
theorem cf359 : ∀ args w, (callFunc 359 args).run C0.P w = .ok (.enter 359 args) w := fun _ _ => by kernel_rfl
theorem cf360 : ∀ args w, (callFunc 360 args).run C0.P w = .ok (.enter 360 args) w := fun _ _ => by kernel_rfl
end Go.Eng
namespace Go.Eng
variable {C : Cy} {E : En} {ops : Array Oper} {rest : List Oper} {nx : Nat} {tm : Tm} {hp : Hp} {Q : Po}
theorem ST.blur {E : En} {ρ : Nat → Nat × Nat} {a : Act} {w : World} (H : ST C.toCx E ρ nx tm hp a w) {t : Nat} {av av' : AV} (hl : lk tm t = some av) (hd : av'.den ρ = av.den ρ) (hn : av'.lt nx) :
 ST C.toCx E ρ nx ((t, av') :: tm) hp a w := by
 refine ⟨H.defers, H.size, ?_, H.heap, H.fr, H.n0, H.agree⟩
 intro i x hx
 rw [lk_cons] at hx
 split at hx
 · rename_i e; subst e; cases hx
   exact ⟨hn, by rw [hd]; exact (H.tmps _ _ hl).2⟩
 · exact H.tmps _ _ hx
theorem W_blur {c : Code} (t : Nat) {av : AV} (B : AV → Prop) (hl : lk tm t = some av) (hB : ∀ ρ, ∃ av', B av' ∧ av'.den ρ = av.den ρ ∧ ∀ n, av'.lt n)
 (h : ∀ av', B av' → W C E c nx ((t, av') :: tm) hp Q) : W C E c nx tm hp Q := fun ρ a w H => by
 obtain ⟨av', h1, h2, h3⟩ := hB ρ
 exact h av' h1 ρ a w (H.blur hl h2 (h3 nx))
def isE (r : AV) : Prop := ∃ t p, r = .ifc t (.v p)
theorem isE_lt {r : AV} (h : isE r) (n : Nat) : r.lt n := by obtain ⟨t, p, rfl⟩ := h; trivial
theorem blur_err (t : TypeId) (x : AV) (ρ : Nat → Nat × Nat) : ∃ av', isE av' ∧ av'.den ρ = (AV.ifc t x).den ρ ∧ ∀ n, av'.lt n := ⟨.ifc t (.v (x.den ρ)), ⟨_, _, rfl⟩, rfl, fun _ => trivial⟩
theorem nq_walk {K : Nat → Tm → Hp → Prop} (h : K nx tm hp) : NQ K .normal nx tm hp := ⟨rfl, h⟩
end Go.Eng
namespace Go.Eng
def Tg (_ : Nat) : Prop := True
variable {C : Cy} {E : En} {ops : Array Oper} {rest : List Oper} {nx : Nat} {tm : Tm} {hp : Hp} {Q : Po}
theorem WL_if_decT {t : Nat} {p : Prop} {inst : Decidable p} (_ : Tg t) (hl : lk tm t = some (.bool (@decide p inst))) (h1 : p → WL C E ops rest nx ((t, .bool true) :: tm) hp Q)
 (h2 : ¬ p → WL C E ops rest nx ((t, .bool false) :: tm) hp Q) : WL C E ops rest nx tm hp Q :=
 WL_if_dec hl h1 h2
theorem WL_if_eqT {t : Nat} {a b : Int} (_ : Tg t) (hl : lk tm t = some (.bool (a == b))) (h1 : a = b → WL C E ops rest nx ((t, .bool true) :: tm) hp Q)
 (h2 : ¬ a = b → WL C E ops rest nx ((t, .bool false) :: tm) hp Q) : WL C E ops rest nx tm hp Q :=
 WL_if_eq hl h1 h2
theorem WL_if_eqST {t : Nat} {a b : List UInt8} (_ : Tg t) (hl : lk tm t = some (.bool (a == b))) (h1 : a = b → WL C E ops rest nx ((t, .bool true) :: tm) hp Q)
 (h2 : ¬ a = b → WL C E ops rest nx ((t, .bool false) :: tm) hp Q) : WL C E ops rest nx tm hp Q :=
 WL_if_eqS hl h1 h2
theorem WL_if_neT {t : Nat} {a b : Int} (_ : Tg t) (hl : lk tm t = some (.bool (a != b))) (h1 : ¬ a = b → WL C E ops rest nx ((t, .bool true) :: tm) hp Q)
 (h2 : a = b → WL C E ops rest nx ((t, .bool false) :: tm) hp Q) : WL C E ops rest nx tm hp Q :=
 WL_if_ne hl h1 h2
theorem WL_if_nseqT {t : Nat} {a b : List UInt8} (_ : Tg t) (hl : lk tm t = some (.bool (!(a == b)))) (h1 : ¬ a = b → WL C E ops rest nx ((t, .bool true) :: tm) hp Q)
 (h2 : a = b → WL C E ops rest nx ((t, .bool false) :: tm) hp Q) : WL C E ops rest nx tm hp Q :=
 WL_if_nseq hl h1 h2
theorem WL_splitT {t : Nat} {b : Bool} (_ : Tg t) (hl : lk tm t = some (.bool b)) (h1 : b = true → WL C E ops rest nx ((t, .bool true) :: tm) hp Q)
 (h2 : b = false → WL C E ops rest nx ((t, .bool false) :: tm) hp Q) : WL C E ops rest nx tm hp Q := WL_split hl h1 h2
theorem t_ {p : Prop} (h : p := by ((repeat (first | exact trivial | exact rfl | exact Nat.le_of_ble_eq_true rfl | refine ⟨?_, ?_⟩)); first | done | fail)) : p := h
theorem s_ {p : Prop} (h : p := by (repeat (first | exact trivial | exact rfl | exact Nat.le_of_ble_eq_true rfl | omega | refine ⟨?_, ?_⟩)); first | done | fail) : p := h
theorem q_ {p : Prop} (h : p := by first | (subst h; exact t_; done) | (subst h; split <;> exact t_; done)) : p := h
structure Hd (P : Prop) : Prop where
 h : P
theorem w_ {g P : Prop} (k : P) (h : Hd P → g := by
 intro k
 repeat (first | refine W_seq ?_ | refine W_region ?_ | refine WL_nil ?_ | refine W_skip ?_ | refine then_normal ?_ | refine inbl_normal ?_ | refine W_block ?_ | (apply WL_val; exact rfl; exact rfl; exact rfl; first | exact trivial | omega | exact hside | exact hsid1 | exact hsid2 | (simp only [rng]; omega) | (simp only [rng, List.length_nil, List.length_cons]; omega) | decide) | (apply WL_skip; exact rfl; exact rfl) | (refine WL_skip0 rfl ?_) | (refine WL_new rfl rfl rfl ?_) | (refine WL_store rfl rfl trivial ?_) | (refine WL_store rfl rfl (by first | exact trivial | omega | exact hside | exact hsid1 | exact hsid2 | (simp only [rng]; omega) | (simp only [rng, List.length_nil, List.length_cons]; omega) | decide) ?_) | (refine WL_store0 rfl rfl rfl rfl rfl rfl ?_))
 exact k.h) : g := h ⟨k⟩
theorem d_ {g P : Prop} (k : P) (h : Hd P → g := by
 intro k
 repeat (first | refine WS_nil ?_ | refine nq_walk ?_ | refine W_seq ?_ | refine W_region ?_ | refine WL_nil ?_ | refine W_skip ?_ | refine then_normal ?_ | refine inbl_normal ?_ | refine W_block ?_ | (apply WL_val; exact rfl; exact rfl; exact rfl; first | exact trivial | omega | exact hside | exact hsid1 | exact hsid2 | (simp only [rng]; omega) | (simp only [rng, List.length_nil, List.length_cons]; omega) | decide) | (apply WL_skip; exact rfl; exact rfl) | (refine WL_skip0 rfl ?_) | (refine WL_new rfl rfl rfl ?_) | (refine WL_store rfl rfl trivial ?_) | (refine WL_store rfl rfl (by first | exact trivial | omega | exact hside | exact hsid1 | exact hsid2 | (simp only [rng]; omega) | (simp only [rng, List.length_nil, List.length_cons]; omega) | decide) ?_) | (refine WL_store0 rfl rfl rfl rfl rfl rfl ?_) | (apply WS_val; exact rfl; exact rfl; exact rfl; exact rfl; exact rfl; first | exact trivial | omega | exact hside | exact hsid1 | exact hsid2 | (simp only [rng]; omega) | (simp only [rng, List.length_nil, List.length_cons]; omega) | decide) | (apply WS_skip; exact rfl; (intro h; cases h); exact rfl))
 exact k.h) : g := h ⟨k⟩
theorem r_ {g A B : Prop} (a : A) (b : B) (h : A → B → g := by
 intro a b
 refine W_ret ?_
 repeat (first | refine then_ret ?_ | refine inbl_ret ?_)
 exact ⟨_, _, rfl, a, b⟩) : g := h a b
theorem k_ {g A : Prop} (a : A) (h : A → g := by
 intro a
 refine W_ret ?_
 repeat (first | refine then_ret ?_ | refine inbl_ret ?_)
 exact ⟨_, _, rfl, t_, t_, a⟩) : g := h a
theorem x_ {g A : Prop} (a : A) (h : A → g := by
 intro a
 refine W_exit ?_
 repeat (first | refine inbl_exit ?_ | refine then_exit ?_ | refine inbl_exit_ne rfl ?_)
 exact a) : g := h a
theorem i_ {g A B : Prop} (a : A) (b : B) (h : A → B → g := by
 intro a b
 first | exact W_if_dec rfl a b | exact W_if_eq rfl a b | exact W_if_eqS rfl a b | exact W_if_ne rfl a b | exact W_if_nseq rfl a b | exact W_if rfl a b) : g := h a b
theorem j_ (n : Nat) {g A B : Prop} (a : A) (b : B) (h : Tg n → A → B → g := by
 intro tg a b
 first | exact WL_if_decT tg rfl a b | exact WL_if_eqT tg rfl a b | exact WL_if_eqST tg rfl a b | exact WL_if_neT tg rfl a b | exact WL_if_nseqT tg rfl a b | exact WL_splitT tg rfl a b) : g := h trivial a b
end Go.Eng
namespace Go.Eng
open Go.Proofs
attribute [local irreducible] W WL LP Then InBl Tri
theorem tdiv_floor {a b : Int} (hb : 0 < b) : (if a.tmod b < 0 then a.tdiv b - 1 else a.tdiv b) = a / b := by
 have h1 := Int.tdiv_eq_ediv (a := a) (b := b)
 have h2 := Int.tmod_eq_emod (a := a) (b := b)
 have h3 := Int.emod_nonneg a (show b ≠ 0 by omega)
 have h4 := Int.emod_lt_of_pos a hb
 have hs : b.sign = 1 := Int.sign_eq_one_of_pos hb
 have hn : (b.natAbs : Int) = b := by omega
 by_cases h : 0 ≤ a ∨ b ∣ a
 · rw [if_pos h] at h1 h2
   rw [if_neg (by omega)]; omega
 · rw [if_neg h] at h1 h2
   rw [if_pos (by omega)]; omega
theorem floor_tri (a b : Int) (hb : 0 < b) (ha : -9223372036854775808 < a ∧ a ≤ 9223372036854775807) (hb2 : b ≤ 9223372036854775807) : Tri C0 239 0 [] [.int .i64 a, .int .i64 b] (fun n hp r => n = 0 ∧ hp = [] ∧ r = .int .i64 (a / b)) := by
 have hf := tdiv_floor (a := a) hb
 have h1 : -9223372036854775808 < a.tdiv b ∧ a.tdiv b ≤ 9223372036854775807 := by
  have := Int.natAbs_tdiv_le_natAbs a b
  omega
 refine Tri.keep (Tri.mk 16 [.tmp 4] Tryz.func239 rfl rfl rfl rfl cf239 ?_) t_ (fun r h => q_); intro w0 S T ρ0
 refine w_ ?_
 refine W_cond rfl (fun hb => ?_) (fun hb => ?_)
 · simp only [decide_eq_true_eq] at hb
   refine w_ ?_
   refine k_ ?_
   rw [if_pos hb] at hf; rw [← hf]
 · simp only [decide_eq_false_iff_not] at hb
   refine w_ ?_
   refine k_ ?_
   rw [if_neg hb] at hf; rw [← hf]
theorem seconds_tri (s n : Int) : Tri C0 51 0 [] [.agg [.int .i64 s, .int .i64 n]] (fun k hp r => k = 0 ∧ hp = [] ∧ r = .int .i64 s) := by
 refine Tri.keep (Tri.mk 5 [.tmp 2] Tryz.func51 rfl rfl rfl rfl cf51 ?_) t_ (fun r h => q_); intro w0 S T ρ0
 refine w_ ?_
 refine k_ ?_
 rfl
theorem of_tri (s : Int) : Tri C0 88 0 [] [.int .i64 s] (fun k hp r => k = 0 ∧ hp = [] ∧ r = .agg [.int .i64 s, .int .i64 0]) := by
 refine Tri.keep (Tri.mk 5 [.cell 2 88] Tryz.func88 rfl rfl rfl rfl cf88 ?_) t_ (fun r h => q_); intro w0 S T ρ0
 refine w_ ?_
 refine k_ ?_
 rfl
theorem truncate_tri (s n d : Int) : Tri C0 152 0 [] [.agg [.int .i64 s, .int .i64 n], .int .i64 d] (fun k hp r => k = 0 ∧ hp = [] ∧ r = .agg [.int .i64 s, .int .i64 0]) := by
 refine Tri.keep (Tri.mk 8 [.cell 4 88] Tryz.func152 rfl rfl rfl rfl cf152 ?_) t_ (fun r h => q_); intro w0 S T ρ0
 refine w_ ?_
 refine k_ ?_
 rfl
theorem location_tri (s n : Int) : Tri C0 157 0 [] [.agg [.int .i64 s, .int .i64 n]] (fun k hp r => k = 0 ∧ hp = [] ∧ r = .agg []) := by
 refine Tri.keep (Tri.mk 4 [.cell 2 156] Tryz.func157 rfl rfl rfl rfl cf157 ?_) t_ (fun r h => q_); intro w0 S T ρ0
 refine w_ ?_
 refine k_ ?_
 rfl
theorem utc_tri : Tri C0 100 0 [] [] (fun k hp r => k = 0 ∧ hp = [] ∧ r = .agg []) := by
 refine Tri.keep (Tri.mk 2 [.cell 0 156] Tryz.func100 rfl rfl rfl rfl cf100 ?_) t_ (fun r h => q_); intro w0 S T ρ0
 refine w_ ?_
 refine k_ ?_
 rfl
theorem at_tri (s : Int) (h : -9000000000000000000 ≤ s ∧ s ≤ 9000000000000000000) : Tri C0 200 0 [] [.int .i64 s] (fun k hp r => k = 0 ∧ hp = [] ∧ r = .agg [.int .i64 (s + 62135596800), .int .i64 0]) := by
 refine Tri.keep (Tri.mk 6 [.cell 2 88] Tryz.func200 rfl rfl rfl rfl cf200 ?_) t_ (fun r h => q_); intro w0 S T ρ0
 refine w_ ?_
 refine k_ ?_
 rfl
theorem isZero_tri (s : Int) : Tri C0 95 0 [] [.agg [.int .i64 s, .int .i64 0]] (fun k hp r => k = 0 ∧ hp = [] ∧ r = .bool (decide (s = 0))) := by
 refine Tri.keep (Tri.mk 11 [.tmp 2] Tryz.func95 rfl rfl rfl rfl cf95 ?_) t_ (fun r h => q_); intro w0 S T ρ0
 refine w_ ?_
 refine WL_split (t := 6) rfl (fun h => ?_) (fun h => ?_)
 · refine w_ ?_
   refine k_ ?_
   have : s = 0 := by simpa using h
   subst this; rfl
 · refine w_ ?_
   refine k_ ?_
   have : s ≠ 0 := by simpa using h
   simp [this]; rfl
def leapB (y : Int) : Bool := decide (y % 4 = 0) && (!decide (y % 100 = 0) || decide (y % 400 = 0))
end Go.Eng
namespace Go.Eng
open Go.Proofs
attribute [local irreducible] W WL LP Then InBl Tri
theorem tmod0 (y k : Int) : (y.tmod k = 0) ↔ (y % k = 0) := by rw [← Int.dvd_iff_tmod_eq_zero, ← Int.dvd_iff_emod_eq_zero]
theorem leap_tri (y : Int) : Tri C0 282 0 [] [.int .i64 y] (fun k hp r => k = 0 ∧ hp = [] ∧ r = .bool (leapB y)) := by
 have h4 := tmod0 y 4
 have h100 := tmod0 y 100
 have h400 := tmod0 y 400
 refine Tri.keep (Tri.mk 16 [.tmp 2] Tryz.func282 rfl rfl rfl rfl cf282 ?_) t_ (fun r h => q_); intro w0 S T ρ0
 refine w_ ?_
 refine WL_split (t := 6) rfl (fun h => ?_) (fun h => ?_)
 · have h := (h4.1 (by simpa using h))
   refine w_ ?_
   refine WL_split (t := 10) rfl (fun h2 => ?_) (fun h2 => ?_)
   · have h2 : ¬ y % 100 = 0 := fun e => by simp [h100.2 e] at h2
     refine w_ ?_
     refine k_ ?_
     simp only [leapB, h, h2, decide_true, decide_false, Bool.not_false, Bool.true_or, Bool.and_self]
     rfl
   · have h2 : y % 100 = 0 := h100.1 (by simpa using h2)
     refine w_ ?_
     refine k_ ?_
     simp only [leapB, h, h2, decide_true, Bool.not_true, Bool.false_or, Bool.true_and]
     by_cases h3 : y % 400 = 0
     · simp only [h400.2 h3, h3, decide_true]; rfl
     · have : ¬ y.tmod 400 = 0 := fun e => h3 (h400.1 e)
       simp [this, h3]
 · have h : ¬ y % 4 = 0 := fun e => by simp [h4.2 e] at h
   refine w_ ?_
   refine k_ ?_
   simp only [leapB, h, decide_false, Bool.false_and]
   rfl
def mdays (m y : Int) : Int := if m = 2 then (if leapB y = true then 29 else 28) else if m = 4 ∨ m = 6 ∨ m = 9 ∨ m = 11 then 30 else 31
theorem mdays_le (m y : Int) : 28 ≤ mdays m y ∧ mdays m y ≤ 31 := by
 unfold mdays; split
 · split <;> omega
 · split <;> omega
theorem monthDays_tri (m y : Int) : Tri C0 238 0 [] [.int .i64 m, .int .i64 y] (fun k hp r => k = 0 ∧ hp = [] ∧ r = .int .i64 (mdays m y)) := by
 refine Tri.keep (Tri.mk 15 [.tmp 4] Tryz.func238 rfl rfl rfl rfl cf238 ?_) t_ (fun r h => q_); intro w0 S T ρ0
 refine w_ ?_
 refine W_cond rfl (fun h => ?_) (fun h => ?_)
 · have h : m = 2 := by simpa using h
   subst h
   refine w_ ?_
   refine WL_call [] (leap_tri y) rfl rfl rfl t_ t_ rfl rfl rfl rfl ?_; rintro _ _ _ ⟨rfl, rfl, rfl⟩
   refine w_ ?_
   refine W_cond rfl (fun h => ?_) (fun h => ?_)
   · refine w_ ?_
     refine k_ ?_
     simp [mdays, h]; rfl
   · refine w_ ?_
     refine k_ ?_
     simp [mdays, h]; rfl
 · have h2 : ¬ m = 2 := by simpa using h
   refine w_ ?_
   refine W_cond rfl (fun h => ?_) (fun h => ?_)
   · have h : m = 4 := by simpa using h
     subst h
     refine w_ ?_
     refine W_cond_true rfl ?_
     refine w_ ?_
     refine k_ ?_
     rfl
   have h4 : ¬ m = 4 := by simpa using h
   refine w_ ?_
   refine W_cond rfl (fun h => ?_) (fun h => ?_)
   · have h : m = 6 := by simpa using h
     subst h
     refine w_ ?_
     refine W_cond_true rfl ?_
     refine w_ ?_
     refine k_ ?_
     rfl
   have h6 : ¬ m = 6 := by simpa using h
   refine w_ ?_
   refine W_cond rfl (fun h => ?_) (fun h => ?_)
   · have h : m = 9 := by simpa using h
     subst h
     refine w_ ?_
     refine W_cond_true rfl ?_
     refine w_ ?_
     refine k_ ?_
     rfl
   have h9 : ¬ m = 9 := by simpa using h
   refine w_ ?_
   refine W_cond rfl (fun h => ?_) (fun h => ?_)
   · have h : m = 11 := by simpa using h
     subst h
     refine w_ ?_
     refine k_ ?_
     rfl
   have h11 : ¬ m = 11 := by simpa using h
   refine w_ ?_
   refine k_ ?_
   simp [mdays, h2, h4, h6, h9, h11]; rfl
def daysToZ (y : Int) : Int := 365 * (y - 1) + (y - 1) / 4 - (y - 1) / 100 + (y - 1) / 400
theorem daysTo_tri (y : Int) (h : -10000000000000000 ≤ y ∧ y ≤ 10000000000000000) : Tri C0 258 0 [] [.int .i64 y] (fun k hp r => k = 0 ∧ hp = [] ∧ r = .int .i64 (daysToZ y)) := by
 refine Tri.keep (Tri.mk 17 [.tmp 2] Tryz.func258 rfl rfl rfl rfl cf258 ?_) t_ (fun r h => q_); intro w0 S T ρ0
 refine w_ ?_
 refine WL_call [] (floor_tri (y - 1) 4 (by omega) (by omega) (by omega)) rfl rfl rfl t_ t_ rfl rfl rfl rfl ?_; rintro _ _ _ ⟨rfl, rfl, rfl⟩
 refine w_ ?_
 refine WL_call [] (floor_tri (y - 1) 100 (by omega) (by omega) (by omega)) rfl rfl rfl t_ t_ rfl rfl rfl rfl ?_; rintro _ _ _ ⟨rfl, rfl, rfl⟩
 refine w_ ?_
 refine WL_call [] (floor_tri (y - 1) 400 (by omega) (by omega) (by omega)) rfl rfl rfl t_ t_ rfl rfl rfl rfl ?_; rintro _ _ _ ⟨rfl, rfl, rfl⟩
 refine w_ ?_
 refine k_ ?_
 rfl
def splitY (d0 : Int) : Int × Int :=
 let q := d0 / 146097
 let d1 := d0 - q * 146097
 let c := if d1 / 36524 = 4 then 3 else d1 / 36524
 let d2 := d1 - c * 36524
 let f := d2 / 1461
 let d3 := d2 - f * 1461
 let o := if d3 / 365 = 4 then 3 else d3 / 365
 (400 * q + 100 * c + 4 * f + o + 1, d3 - o * 365)
theorem split_tri (s n : Int) (hs : -4000000000000000000 ≤ s ∧ s ≤ 4000000000000000000) : Tri C0 237 0 [] [.agg [.int .i64 s, .int .i64 n]]
 (fun k hp r => k = 0 ∧ hp = [] ∧ r = .tup [.int .i64 (splitY (s / 86400)).1, .int .i64 (splitY (s / 86400)).2, .int .i64 (s - s / 86400 * 86400)]) := by
 have hd0 : ∃ d0, d0 = s / 86400 := ⟨_, rfl⟩
 obtain ⟨d0, hd0⟩ := hd0
 have b0 : -46296296296297 ≤ d0 ∧ d0 ≤ 46296296296297 := by omega
 obtain ⟨q, hq⟩ : ∃ q, q = d0 / 146097 := ⟨_, rfl⟩
 obtain ⟨d1, hd1⟩ : ∃ d1, d1 = d0 - q * 146097 := ⟨_, rfl⟩
 have b1 : 0 ≤ d1 ∧ d1 < 146097 := by omega
 have t1 : d1.tdiv 36524 = d1 / 36524 := Int.tdiv_eq_ediv_of_nonneg b1.1
 obtain ⟨c, hc⟩ : ∃ c, c = if d1 / 36524 = 4 then 3 else d1 / 36524 := ⟨_, rfl⟩
 obtain ⟨d2, hd2⟩ : ∃ d2, d2 = d1 - c * 36524 := ⟨_, rfl⟩
 have b2 : 0 ≤ d2 ∧ d2 ≤ 36524 ∧ 0 ≤ c ∧ c ≤ 3 := by split at hc <;> omega
 have t2 : d2.tdiv 1461 = d2 / 1461 := Int.tdiv_eq_ediv_of_nonneg b2.1
 obtain ⟨f, hf⟩ : ∃ f, f = d2 / 1461 := ⟨_, rfl⟩
 obtain ⟨d3, hd3⟩ : ∃ d3, d3 = d2 - f * 1461 := ⟨_, rfl⟩
 have b3 : 0 ≤ d3 ∧ d3 < 1461 := by omega
 have t3 : d3.tdiv 365 = d3 / 365 := Int.tdiv_eq_ediv_of_nonneg b3.1
 have hsp : splitY (s / 86400) = (400 * q + 100 * c + 4 * f + (if d3 / 365 = 4 then 3 else d3 / 365) + 1, d3 - (if d3 / 365 = 4 then 3 else d3 / 365) * 365) := by
  rw [← hd0]; simp only [splitY, ← hq, ← hd1, ← hc, ← hd2, ← hf, ← hd3]
 rw [hsp, ← hd0]
 refine Tri.keep (Tri.mk 59 [.tmp 2, .tmp 3, .tmp 4] Tryz.func237 rfl rfl rfl rfl cf237 ?_) t_ (fun r h => q_); intro w0 S T ρ0
 refine w_ ?_
 refine WL_call [] (floor_tri s 86400 (by omega) (by omega) (by omega)) rfl rfl rfl t_ t_ rfl rfl rfl rfl ?_; rintro _ _ _ ⟨rfl, rfl, rfl⟩
 rw [← hd0]
 refine w_ ?_
 refine WL_call [] (floor_tri d0 146097 (by omega) (by omega) (by omega)) rfl rfl rfl t_ t_ rfl rfl rfl rfl ?_; rintro _ _ _ ⟨rfl, rfl, rfl⟩
 rw [← hq]
 refine w_ ?_
 rw [← hd1]
 refine w_ ?_
 rw [t1]
 refine W_cond rfl (fun h => ?_) (fun h => ?_)
 · have h : d1 / 36524 = 4 := by simpa using h
   rw [if_pos h] at hc
   subst hc
   refine w_ ?_
   rw [← hd2]
   refine w_ ?_
   rw [t2, ← hf]
   refine w_ ?_
   rw [← hd3]
   refine w_ ?_
   rw [t3]
   refine W_cond rfl (fun h2 => ?_) (fun h2 => ?_)
   · have h2 : d3 / 365 = 4 := by simpa using h2
     refine w_ ?_
     refine k_ ?_
     rw [if_pos h2]
   · have h2 : ¬ d3 / 365 = 4 := by simpa using h2
     refine w_ ?_
     refine k_ ?_
     rw [if_neg h2]
 · have h : ¬ d1 / 36524 = 4 := by simpa using h
   rw [if_neg h] at hc
   refine w_ ?_
   rw [← hc]
   rw [← hd2]
   refine w_ ?_
   rw [t2, ← hf]
   refine w_ ?_
   rw [← hd3]
   refine w_ ?_
   rw [t3]
   refine W_cond rfl (fun h2 => ?_) (fun h2 => ?_)
   · have h2 : d3 / 365 = 4 := by simpa using h2
     refine w_ ?_
     refine k_ ?_
     rw [if_pos h2]
   · have h2 : ¬ d3 / 365 = 4 := by simpa using h2
     refine w_ ?_
     refine k_ ?_
     rw [if_neg h2]
end Go.Eng
