/- A part of the proof that the rows statement FnSetBack holds; no conditions. -/
import Derived.Shelf.Strings.Builder1
import Derived.Shelf.Strings.Builder2
import Derived.Shelf.Strings.OnBuilder
import Derived.Shelf.Strings.TrimSpace
import Derived.Shelf.Small.Utf8
import Derived.Shelf.Small.Bits
import Derived.Shelf.Strings.BuilderF
import Derived.Shelf.Strings.BuilderK
import Derived.Shelf.Strings.BuilderRune
import Derived.Shelf.Strconv.Atoi
import Derived.Shelf.Strconv.Itoa0
import Derived.Shelf.Strconv.Itoa1
import Derived.Shelf.LaysM
import Derived.Shelf.Strconv.Itoa2
import Derived.Shelf.Strconv.Itoa3
import Derived.Shelf.Strconv.AtoiErrFast
import Derived.Shelf.Strconv.ParseIntEmpty
import Derived.Shelf.Strconv.AtoiFail
import Derived.Shelf.Strconv.Clone
import Derived.Shelf.Strconv.SyntaxError
import Derived.Shelf.LaysC
import Derived.Shelf.Strconv.ToError
import Derived.Shelf.Strconv.Lower
import Derived.Shelf.Strconv.ParseUint10
import Derived.Shelf.Strconv.ParseUint10Empty
import Derived.Shelf.Strconv.ParseUint10Any
import Derived.Shelf.Strconv.ParseInt10
import Derived.Shelf.Strconv.AtoiLong
import Derived.Shelf.Strconv.AtoiInnerAll
import Derived.Shelf.Strconv.RangeError
import Derived.Shelf.Strconv.ToErrorRange
import Derived.Shelf.Strconv.AtoiAll
import Derived.Ground.GgtProg
import Derived.Shelf.GgSortMore.Iface
import Derived.Shelf.GgSortMore.IfaceD
import Derived.Shelf.GgSortMore.IfacePart
import Derived.Shelf.GgClosure.StringsIndexFunc
import Derived.Shelf.Strings.Prefix
import Derived.Shelf.Unicode.Latin
import Derived.Shelf.Unicode.Decode
import Derived.Shelf.Unicode.DecodeSlow
import Derived.Shelf.Unicode.DecodeAny
import Derived.Shelf.Unicode.Is16White
import Derived.Shelf.Unicode.IsSpaceAny
import Derived.Shelf.Unicode.DecodeLast
import Derived.Shelf.Unicode.CaseLookup
import Derived.Shelf.Unicode.CaseConvert
import Derived.Shelf.Unicode.CaseTo
import Derived.Shelf.Unicode.CaseLaid
import Derived.Shelf.Strings.MapAny
import Derived.Shelf.Strings.CaseAny
import Derived.Shelf.Unicode.Is16Any
import Derived.Shelf.Unicode.Is32Any
import Derived.Shelf.Unicode.ExclAny
import Derived.Ground.GgsProg
import Derived.Shelf.SlSortFunc.Xorshift
import Derived.Shelf.SlSortIface.SiftDown
import Derived.Shelf.SlSortIface.HeapSort
import Derived.Shelf.SlSortIface.PartialInsertion
import Derived.Test.YthkgjhnckakliaaGreatDoorProg
import Derived.Test.YthkgjhnckakliaaGreatDoorZAM
set_option linter.unusedVariables false
set_option linter.unusedSimpArgs false
set_option linter.unusedSectionVars false
namespace Go.Proofs
open Go.Shelf
def Tryz.lays158_ren : Go.Shelf.Ren := ⟨fun | 158 => 214 | 165 => 165 | 166 => 166 | 167 => 262 | 169 => 167 | 230 => 263 | 203 => 264 | 240 => 212 | 241 => 213 | 197 => 228 | 118 => 301 | 168 => 302 | 270 => 303 | 262 => 304 | 276 => 260 | 277 => 261 | 260 => 276 | 242 => 319 | 313 => 320 | 278 => 328 | 274 => 329 | 275 => 330 | n => n, fun | 9 => 9 | 4 => 4 | 3 => 3 | 5 => 5 | 72 => 227 | 0 => 0 | 76 => 229 | 75 => 76 | 107 => 326 | 70 => 225 | 20 => 20 | 37 => 210 | 127 => 280 | 21 => 21 | 105 => 296 | 164 => 321 | 162 => 389 | 203 => 387 | 119 => 242 | 46 => 114 | 139 => 380 | 138 => 379 | 51 => 194 | 160 => 398 | 208 => 408 | 206 => 406 | 80 => 74 | n => n, fun | 13 => 16 | 3 => 12 | 4 => 13 | n => n⟩
theorem Tryz.lays158 : Go.Proofs.Lays.n158 Tryz.prog Tryz.lays158_ren := {
 mixed := by kernel_rfl
 f118 := Tryz.func301.trans (congrArg some (by kernel_rfl))
 f158 := Tryz.func214.trans (congrArg some (by kernel_rfl))
 f165 := Tryz.func165.trans (congrArg some (by kernel_rfl))
 f166 := Tryz.func166.trans (congrArg some (by kernel_rfl))
 f167 := Tryz.func262.trans (congrArg some (by kernel_rfl))
 f168 := Tryz.func302.trans (congrArg some (by kernel_rfl))
 f169 := Tryz.func167.trans (congrArg some (by kernel_rfl))
 f197 := Tryz.func228.trans (congrArg some (by kernel_rfl))
 f203 := Tryz.func264.trans (congrArg some (by kernel_rfl))
 f230 := Tryz.func263.trans (congrArg some (by kernel_rfl))
 f240 := Tryz.func212.trans (congrArg some (by kernel_rfl))
 f241 := Tryz.func213.trans (congrArg some (by kernel_rfl))
 f242 := Tryz.func319.trans (congrArg some (by kernel_rfl))
 f260 := Tryz.func276.trans (congrArg some (by kernel_rfl))
 f262 := Tryz.func304.trans (congrArg some (by kernel_rfl))
 f270 := Tryz.func303.trans (congrArg some (by kernel_rfl))
 f274 := Tryz.func329.trans (congrArg some (by kernel_rfl))
 f275 := Tryz.func330.trans (congrArg some (by kernel_rfl))
 f276 := Tryz.func260.trans (congrArg some (by kernel_rfl))
 f277 := Tryz.func261.trans (congrArg some (by kernel_rfl))
 f278 := Tryz.func328.trans (congrArg some (by kernel_rfl))
 f313 := Tryz.func320.trans (congrArg some (by kernel_rfl))
 t0 := Tryz.underlying0
 a0 := Tryz.isAgg0
 z0 := Tryz.sizeOf0
 v0 := Tryz.zeroValue0
 t3 := Tryz.underlying3
 a3 := Tryz.isAgg3
 z3 := Tryz.sizeOf3
 v3 := Tryz.zeroValue3
 t4 := Tryz.underlying4
 a4 := Tryz.isAgg4
 z4 := Tryz.sizeOf4
 v4 := Tryz.zeroValue4
 t5 := Tryz.underlying5
 a5 := Tryz.isAgg5
 z5 := Tryz.sizeOf5
 v5 := Tryz.zeroValue5
 t9 := Tryz.underlying9
 a9 := Tryz.isAgg9
 z9 := Tryz.sizeOf9
 v9 := Tryz.zeroValue9
 t20 := Tryz.underlying20
 a20 := Tryz.isAgg20
 z20 := Tryz.sizeOf20
 v20 := Tryz.zeroValue20
 t21 := Tryz.underlying21
 a21 := Tryz.isAgg21
 z21 := Tryz.sizeOf21
 v21 := Tryz.zeroValue21
 t37 := Tryz.underlying210
 a37 := Tryz.isAgg210
 z37 := Tryz.sizeOf210
 v37 := Tryz.zeroValue210
 t46 := Tryz.underlying114
 a46 := Tryz.isAgg114
 z46 := Tryz.sizeOf114
 v46 := Tryz.zeroValue114
 t51 := Tryz.underlying194
 a51 := Tryz.isAgg194
 z51 := Tryz.sizeOf194
 v51 := Tryz.zeroValue194
 t70 := Tryz.underlying225
 a70 := Tryz.isAgg225
 z70 := Tryz.sizeOf225
 v70 := Tryz.zeroValue225
 t72 := Tryz.underlying227
 a72 := Tryz.isAgg227
 z72 := Tryz.sizeOf227
 v72 := Tryz.zeroValue227
 t75 := Tryz.underlying76
 a75 := Tryz.isAgg76
 z75 := Tryz.sizeOf76
 v75 := Tryz.zeroValue76
 t76 := Tryz.underlying229
 a76 := Tryz.isAgg229
 z76 := Tryz.sizeOf229
 v76 := Tryz.zeroValue229
 t105 := Tryz.underlying296
 a105 := Tryz.isAgg296
 z105 := Tryz.sizeOf296
 v105 := Tryz.zeroValue296
 t107 := Tryz.underlying326
 a107 := Tryz.isAgg326
 z107 := Tryz.sizeOf326
 v107 := Tryz.zeroValue326
 t119 := Tryz.underlying242
 a119 := Tryz.isAgg242
 z119 := Tryz.sizeOf242
 t127 := Tryz.underlying280
 a127 := Tryz.isAgg280
 z127 := Tryz.sizeOf280
 v127 := Tryz.zeroValue280
 t138 := Tryz.underlying379
 a138 := Tryz.isAgg379
 z138 := Tryz.sizeOf379
 v138 := Tryz.zeroValue379
 t139 := Tryz.underlying380
 a139 := Tryz.isAgg380
 z139 := Tryz.sizeOf380
 v139 := Tryz.zeroValue380
 t160 := Tryz.underlying398
 a160 := Tryz.isAgg398
 z160 := Tryz.sizeOf398
 v160 := Tryz.zeroValue398
 t162 := Tryz.underlying389
 a162 := Tryz.isAgg389
 z162 := Tryz.sizeOf389
 v162 := Tryz.zeroValue389
 t164 := Tryz.underlying321
 a164 := Tryz.isAgg321
 z164 := Tryz.sizeOf321
 v164 := Tryz.zeroValue321
 t203 := Tryz.underlying387
 a203 := Tryz.isAgg387
 z203 := Tryz.sizeOf387
 v203 := Tryz.zeroValue387
 t206 := Tryz.underlying406
 a206 := Tryz.isAgg406
 z206 := Tryz.sizeOf406
 v206 := Tryz.zeroValue406
 t208 := Tryz.underlying408
 a208 := Tryz.isAgg408
 z208 := Tryz.sizeOf408
 v208 := Tryz.zeroValue408
 g3 := by kernel_rfl
 g4 := by kernel_rfl
 g13 := by kernel_rfl }
theorem Tryz.Builder_Extra_158 : Builder.Extra Tryz.prog Tryz.lays158_ren := {
 sizeBuilder := by kernel_rfl
 liesBuilder := by kernel_rfl
 t5 := Tryz.underlying5
 a5 := Tryz.isAgg5
 z5 := Tryz.sizeOf5
 v5 := Tryz.zeroValue5
 infoByte := by kernel_rfl
 cellsByte := by kernel_rfl
 sizeByte := by kernel_rfl
 neB5 := by decide }
open Go.RowKit in
theorem Tryz.strings_ToUpper_ascii (s : ByteArray) (w : World) (hs : s.size ≤ 140737488355328) (hascii : ∀ (j : Nat) (b : UInt8), s.data.toList[j]? = some b → b.toNat < 128) :
 Calls Tryz.prog 214 #[.string s] w fun e w' => e = .returned (.string ⟨(Lib.toUpperA s.data.toList).toArray⟩) ∧ Below w.heap.size w w' := Any.strings_ToUpper_ascii Tryz.lays158 Tryz.Builder_Extra_158 s w hs hascii
def Tryz.lays163_ren : Go.Shelf.Ren := ⟨fun | 163 => 107 | 237 => 176 | 199 => 177 | 238 => 178 | 272 => 225 | 261 => 226 | 273 => 227 | 197 => 228 | 315 => 272 | 311 => 273 | 312 => 274 | 271 => 275 | 260 => 276 | 120 => 311 | n => n, fun | 9 => 9 | 37 => 210 | 3 => 3 | 0 => 0 | 5 => 5 | 4 => 4 | 40 => 241 | 119 => 242 | 21 => 21 | 51 => 194 | 141 => 294 | 105 => 296 | 196 => 337 | 193 => 334 | 198 => 340 | 49 => 338 | 194 => 335 | 201 => 343 | 226 => 376 | 46 => 114 | 227 => 377 | 139 => 380 | 138 => 379 | n => n, fun | 0 => 2 | 6 => 4 | 3 => 12 | 4 => 13 | n => n⟩
theorem Tryz.lays163 : Go.Proofs.Lays.n163 Tryz.prog Tryz.lays163_ren := {
 mixed := by kernel_rfl
 f120 := Tryz.func311.trans (congrArg some (by kernel_rfl))
 f163 := Tryz.func107.trans (congrArg some (by kernel_rfl))
 f197 := Tryz.func228.trans (congrArg some (by kernel_rfl))
 f199 := Tryz.func177.trans (congrArg some (by kernel_rfl))
 f237 := Tryz.func176.trans (congrArg some (by kernel_rfl))
 f238 := Tryz.func178.trans (congrArg some (by kernel_rfl))
 f260 := Tryz.func276.trans (congrArg some (by kernel_rfl))
 f261 := Tryz.func226.trans (congrArg some (by kernel_rfl))
 f271 := Tryz.func275.trans (congrArg some (by kernel_rfl))
 f272 := Tryz.func225.trans (congrArg some (by kernel_rfl))
 f273 := Tryz.func227.trans (congrArg some (by kernel_rfl))
 f311 := Tryz.func273.trans (congrArg some (by kernel_rfl))
 f312 := Tryz.func274.trans (congrArg some (by kernel_rfl))
 f315 := Tryz.func272.trans (congrArg some (by kernel_rfl))
 t0 := Tryz.underlying0
 a0 := Tryz.isAgg0
 z0 := Tryz.sizeOf0
 v0 := Tryz.zeroValue0
 t3 := Tryz.underlying3
 a3 := Tryz.isAgg3
 z3 := Tryz.sizeOf3
 v3 := Tryz.zeroValue3
 t4 := Tryz.underlying4
 a4 := Tryz.isAgg4
 z4 := Tryz.sizeOf4
 v4 := Tryz.zeroValue4
 t5 := Tryz.underlying5
 a5 := Tryz.isAgg5
 z5 := Tryz.sizeOf5
 v5 := Tryz.zeroValue5
 t9 := Tryz.underlying9
 a9 := Tryz.isAgg9
 z9 := Tryz.sizeOf9
 v9 := Tryz.zeroValue9
 t21 := Tryz.underlying21
 a21 := Tryz.isAgg21
 z21 := Tryz.sizeOf21
 v21 := Tryz.zeroValue21
 t37 := Tryz.underlying210
 a37 := Tryz.isAgg210
 z37 := Tryz.sizeOf210
 v37 := Tryz.zeroValue210
 t40 := Tryz.underlying241
 a40 := Tryz.isAgg241
 z40 := Tryz.sizeOf241
 v40 := Tryz.zeroValue241
 t46 := Tryz.underlying114
 a46 := Tryz.isAgg114
 z46 := Tryz.sizeOf114
 v46 := Tryz.zeroValue114
 t49 := Tryz.underlying338
 a49 := Tryz.isAgg338
 z49 := Tryz.sizeOf338
 v49 := Tryz.zeroValue338
 t51 := Tryz.underlying194
 a51 := Tryz.isAgg194
 z51 := Tryz.sizeOf194
 v51 := Tryz.zeroValue194
 t105 := Tryz.underlying296
 a105 := Tryz.isAgg296
 z105 := Tryz.sizeOf296
 v105 := Tryz.zeroValue296
 t119 := Tryz.underlying242
 a119 := Tryz.isAgg242
 z119 := Tryz.sizeOf242
 t138 := Tryz.underlying379
 a138 := Tryz.isAgg379
 z138 := Tryz.sizeOf379
 v138 := Tryz.zeroValue379
 t139 := Tryz.underlying380
 a139 := Tryz.isAgg380
 z139 := Tryz.sizeOf380
 v139 := Tryz.zeroValue380
 t141 := Tryz.underlying294
 a141 := Tryz.isAgg294
 z141 := Tryz.sizeOf294
 v141 := Tryz.zeroValue294
 t193 := Tryz.underlying334
 a193 := Tryz.isAgg334
 z193 := Tryz.sizeOf334
 v193 := Tryz.zeroValue334
 t194 := Tryz.underlying335
 a194 := Tryz.isAgg335
 z194 := Tryz.sizeOf335
 v194 := Tryz.zeroValue335
 t196 := Tryz.underlying337
 a196 := Tryz.isAgg337
 z196 := Tryz.sizeOf337
 v196 := Tryz.zeroValue337
 t198 := Tryz.underlying340
 a198 := Tryz.isAgg340
 z198 := Tryz.sizeOf340
 v198 := Tryz.zeroValue340
 t201 := Tryz.underlying343
 a201 := Tryz.isAgg343
 z201 := Tryz.sizeOf343
 v201 := Tryz.zeroValue343
 t226 := Tryz.underlying376
 a226 := Tryz.isAgg376
 z226 := Tryz.sizeOf376
 v226 := Tryz.zeroValue376
 t227 := Tryz.underlying377
 a227 := Tryz.isAgg377
 z227 := Tryz.sizeOf377
 v227 := Tryz.zeroValue377
 g0 := by kernel_rfl
 g3 := by kernel_rfl
 g4 := by kernel_rfl
 g6 := by kernel_rfl }
theorem Tryz.Space_Extra_163 : Space.Extra Tryz.prog Tryz.lays163_ren := {
 gNamed := by kernel_rfl }
open Go.RowKit in
theorem Tryz.strings_TrimSpace (s : ByteArray) (w : World) (hs : s.size ≤ 9223372036854775807) (hascii : ∀ (j : Nat) b, s.data.toList[j]? = some b → b.toNat < 128) (htab : Lib.TabIs Tryz.prog w "strings.asciiSpace" .u8 Lib.asciiSpaceTab) :
 Calls Tryz.prog 107 #[.string s] w fun e w' => e = .returned (.string ⟨(Lib.trimSpace s.data.toList).toArray⟩) ∧ w' = Lib.bytesWorld w 5 s := Any.strings_TrimSpace Tryz.lays163 Tryz.Space_Extra_163 s w hs hascii htab
def Tryz.lays172_ren : Go.Shelf.Ren := ⟨fun | 172 => 220 | 244 => 269 | 245 => 270 | 247 => 306 | 279 => 307 | 280 => 308 | 281 => 309 | 282 => 310 | 287 => 321 | 316 => 322 | 171 => 161 | 205 => 108 | 321 => 331 | 322 => 332 | 243 => 209 | 246 => 259 | 283 => 297 | 284 => 298 | 285 => 299 | 286 => 300 | 129 => 138 | 317 => 315 | 318 => 316 | 319 => 317 | 320 => 318 | 337 => 326 | 338 => 327 | n => n, fun | 9 => 9 | 3 => 3 | 75 => 76 | 76 => 229 | 4 => 4 | 5 => 5 | 167 => 370 | 37 => 210 | 0 => 0 | 85 => 371 | 2 => 2 | 168 => 373 | 53 => 196 | 175 => 390 | 46 => 114 | 210 => 393 | 127 => 280 | 145 => 245 | 143 => 243 | 21 => 21 | 171 => 361 | 173 => 363 | 212 => 384 | 51 => 194 | 20 => 20 | 213 => 385 | 232 => 403 | 233 => 404 | 80 => 74 | n => n, fun | 15 => 17 | 16 => 18 | 17 => 15 | 18 => 19 | 19 => 20 | n => n⟩
def Tryz.laysC172_ren : Go.Shelf.Ren := ⟨fun | 172 => 220 | 244 => 269 | 245 => 270 | 247 => 306 | 279 => 307 | 280 => 308 | 281 => 309 | 282 => 310 | 287 => 321 | 316 => 322 | 171 => 161 | 205 => 108 | 321 => 331 | 322 => 332 | 243 => 209 | 246 => 259 | 283 => 297 | 284 => 298 | 285 => 299 | 286 => 300 | 129 => 138 | 317 => 315 | 318 => 316 | 319 => 317 | 320 => 318 | 337 => 326 | 338 => 327 | n => n, fun | 9 => 9 | 3 => 3 | 75 => 76 | 76 => 229 | 4 => 4 | 5 => 5 | 167 => 370 | 37 => 210 | 0 => 0 | 85 => 371 | 2 => 2 | 168 => 373 | 53 => 196 | 175 => 390 | 46 => 114 | 210 => 393 | 127 => 280 | 145 => 245 | 143 => 243 | 21 => 21 | 171 => 361 | 173 => 363 | 212 => 384 | 51 => 194 | 20 => 20 | 213 => 385 | 232 => 403 | 233 => 404 | 80 => 74 | n => n, fun | 15 => 17 | 16 => 18 | 17 => 15 | 18 => 19 | 19 => 20 | n => n⟩
theorem Tryz.laysC172 : Go.Proofs.LaysC.n172 Tryz.prog Tryz.laysC172_ren := {
 mixed := by kernel_rfl
 f129 := Tryz.func138.trans (congrArg some (by kernel_rfl))
 f171 := Tryz.func161.trans (congrArg some (by kernel_rfl))
 f172 := Tryz.func220.trans (congrArg some (by kernel_rfl))
 f205 := Tryz.func108.trans (congrArg some (by kernel_rfl))
 f243 := Tryz.func209.trans (congrArg some (by kernel_rfl))
 f244 := Tryz.func269.trans (congrArg some (by kernel_rfl))
 f245 := Tryz.func270.trans (congrArg some (by kernel_rfl))
 f246 := Tryz.func259.trans (congrArg some (by kernel_rfl))
 f247 := Tryz.func306.trans (congrArg some (by kernel_rfl))
 f279 := Tryz.func307.trans (congrArg some (by kernel_rfl))
 f280 := Tryz.func308.trans (congrArg some (by kernel_rfl))
 f281 := Tryz.func309.trans (congrArg some (by kernel_rfl))
 f282 := Tryz.func310.trans (congrArg some (by kernel_rfl))
 f283 := Tryz.func297.trans (congrArg some (by kernel_rfl))
 f284 := Tryz.func298.trans (congrArg some (by kernel_rfl))
 f285 := Tryz.func299.trans (congrArg some (by kernel_rfl))
 f286 := Tryz.func300.trans (congrArg some (by kernel_rfl))
 f287 := Tryz.func321.trans (congrArg some (by kernel_rfl))
 f316 := Tryz.func322.trans (congrArg some (by kernel_rfl))
 f317 := Tryz.func315.trans (congrArg some (by kernel_rfl))
 f318 := Tryz.func316.trans (congrArg some (by kernel_rfl))
 f319 := Tryz.func317.trans (congrArg some (by kernel_rfl))
 f320 := Tryz.func318.trans (congrArg some (by kernel_rfl))
 f321 := Tryz.func331.trans (congrArg some (by kernel_rfl))
 f322 := Tryz.func332.trans (congrArg some (by kernel_rfl))
 f337 := Tryz.func326.trans (congrArg some (by kernel_rfl))
 f338 := Tryz.func327.trans (congrArg some (by kernel_rfl))
 t0 := Tryz.underlying0
 a0 := Tryz.isAgg0
 z0 := Tryz.sizeOf0
 v0 := Tryz.zeroValue0
 t2 := Tryz.underlying2
 a2 := Tryz.isAgg2
 z2 := Tryz.sizeOf2
 v2 := Tryz.zeroValue2
 t3 := Tryz.underlying3
 a3 := Tryz.isAgg3
 z3 := Tryz.sizeOf3
 v3 := Tryz.zeroValue3
 t4 := Tryz.underlying4
 a4 := Tryz.isAgg4
 z4 := Tryz.sizeOf4
 v4 := Tryz.zeroValue4
 t5 := Tryz.underlying5
 a5 := Tryz.isAgg5
 z5 := Tryz.sizeOf5
 v5 := Tryz.zeroValue5
 t9 := Tryz.underlying9
 a9 := Tryz.isAgg9
 z9 := Tryz.sizeOf9
 v9 := Tryz.zeroValue9
 t20 := Tryz.underlying20
 a20 := Tryz.isAgg20
 z20 := Tryz.sizeOf20
 v20 := Tryz.zeroValue20
 t21 := Tryz.underlying21
 a21 := Tryz.isAgg21
 z21 := Tryz.sizeOf21
 v21 := Tryz.zeroValue21
 t37 := Tryz.underlying210
 a37 := Tryz.isAgg210
 z37 := Tryz.sizeOf210
 v37 := Tryz.zeroValue210
 t46 := Tryz.underlying114
 a46 := Tryz.isAgg114
 z46 := Tryz.sizeOf114
 v46 := Tryz.zeroValue114
 t51 := Tryz.underlying194
 a51 := Tryz.isAgg194
 z51 := Tryz.sizeOf194
 v51 := Tryz.zeroValue194
 t53 := Tryz.underlying196
 a53 := Tryz.isAgg196
 z53 := Tryz.sizeOf196
 v53 := Tryz.zeroValue196
 t75 := Tryz.underlying76
 a75 := Tryz.isAgg76
 z75 := Tryz.sizeOf76
 v75 := Tryz.zeroValue76
 t76 := Tryz.underlying229
 a76 := Tryz.isAgg229
 z76 := Tryz.sizeOf229
 v76 := Tryz.zeroValue229
 t85 := Tryz.underlying371
 a85 := Tryz.isAgg371
 z85 := Tryz.sizeOf371
 v85 := Tryz.zeroValue371
 t127 := Tryz.underlying280
 a127 := Tryz.isAgg280
 z127 := Tryz.sizeOf280
 v127 := Tryz.zeroValue280
 t143 := Tryz.underlying243
 a143 := Tryz.isAgg243
 z143 := Tryz.sizeOf243
 v143 := Tryz.zeroValue243
 t145 := Tryz.underlying245
 a145 := Tryz.isAgg245
 z145 := Tryz.sizeOf245
 v145 := Tryz.zeroValue245
 t167 := Tryz.underlying370
 a167 := Tryz.isAgg370
 z167 := Tryz.sizeOf370
 v167 := Tryz.zeroValue370
 t168 := Tryz.underlying373
 a168 := Tryz.isAgg373
 z168 := Tryz.sizeOf373
 v168 := Tryz.zeroValue373
 t171 := Tryz.underlying361
 a171 := Tryz.isAgg361
 z171 := Tryz.sizeOf361
 v171 := Tryz.zeroValue361
 t173 := Tryz.underlying363
 a173 := Tryz.isAgg363
 z173 := Tryz.sizeOf363
 v173 := Tryz.zeroValue363
 t175 := Tryz.underlying390
 a175 := Tryz.isAgg390
 z175 := Tryz.sizeOf390
 v175 := Tryz.zeroValue390
 t210 := Tryz.underlying393
 a210 := Tryz.isAgg393
 z210 := Tryz.sizeOf393
 v210 := Tryz.zeroValue393
 t212 := Tryz.underlying384
 a212 := Tryz.isAgg384
 z212 := Tryz.sizeOf384
 v212 := Tryz.zeroValue384
 t213 := Tryz.underlying385
 a213 := Tryz.isAgg385
 z213 := Tryz.sizeOf385
 t232 := Tryz.underlying403
 a232 := Tryz.isAgg403
 z232 := Tryz.sizeOf403
 v232 := Tryz.zeroValue403
 t233 := Tryz.underlying404
 a233 := Tryz.isAgg404
 z233 := Tryz.sizeOf404
 v233 := Tryz.zeroValue404
 g15 := by kernel_rfl
 g16 := by kernel_rfl
 g17 := by kernel_rfl
 g18 := by kernel_rfl
 g19 := by kernel_rfl
 t80 := Tryz.underlying74
 a80 := Tryz.isAgg74
 z80 := Tryz.sizeOf74
 v80 := Tryz.zeroValue74
 i0 := by kernel_rfl
 i2 := by kernel_rfl
 i3 := by kernel_rfl
 i4 := by kernel_rfl
 i5 := by kernel_rfl
 i9 := by kernel_rfl
 i20 := by kernel_rfl
 i21 := by kernel_rfl
 i37 := by kernel_rfl
 i46 := by kernel_rfl
 i51 := by kernel_rfl
 i53 := by kernel_rfl
 i75 := by kernel_rfl
 i76 := by kernel_rfl
 i80 := by kernel_rfl
 i85 := by kernel_rfl
 i127 := by kernel_rfl
 i143 := by kernel_rfl
 i145 := by kernel_rfl
 i167 := by kernel_rfl
 i168 := by kernel_rfl
 i171 := by kernel_rfl
 i173 := by kernel_rfl
 i175 := by kernel_rfl
 i210 := by kernel_rfl
 i212 := by kernel_rfl
 i232 := by kernel_rfl
 i233 := by kernel_rfl
 m15 := by kernel_rfl
 m16 := by kernel_rfl
 m17 := by kernel_rfl
 m18 := by kernel_rfl
 m19 := by kernel_rfl
 c0 := by kernel_rfl
 c2 := by kernel_rfl
 c3 := by kernel_rfl
 c4 := by kernel_rfl
 c5 := by kernel_rfl
 c9 := by kernel_rfl
 c20 := by kernel_rfl
 c21 := by kernel_rfl
 c37 := by kernel_rfl
 c46 := by kernel_rfl
 c51 := by kernel_rfl
 c53 := by kernel_rfl
 c75 := by kernel_rfl
 c76 := by kernel_rfl
 c80 := by kernel_rfl
 c85 := by kernel_rfl
 c127 := by kernel_rfl
 c143 := by kernel_rfl
 c145 := by kernel_rfl
 c167 := by kernel_rfl
 c168 := by kernel_rfl
 c171 := by kernel_rfl
 c173 := by kernel_rfl
 c175 := by kernel_rfl
 c210 := by kernel_rfl
 c212 := by kernel_rfl
 c213 := by kernel_rfl
 c232 := by kernel_rfl
 c233 := by kernel_rfl }
open Go.RowKit in
theorem Tryz.strconv_Atoi_ok (s : ByteArray) (hmax : s.size ≤ 9223372036854775806) (v : Int) (h : Lib.atoiAll s.data.toList = .ok v) (w : World) :
 Calls Tryz.prog 220 #[.string s] w fun e w' => e = .returned (.tuple #[.int .i64 v, .nilIface]) ∧ (w' = w ∨ ∃ t, w' = Lib.bytesWorld w 5 t) := Any.strconv_Atoi_ok Tryz.laysC172 s hmax v h w
open Go.RowKit in
theorem Tryz.strconv_Atoi_syntax (s : ByteArray) (hlim : s.size ≤ 281474976710656) (h : (∀ v, Lib.atoiAll s.data.toList ≠ .ok v) ∧ Lib.atoiAll s.data.toList ≠ .range) (ev : Value) (w : World) (hv : w.cell? ⟨17, 0, none⟩ = some ev) (hev : ev = .nilIface ∨ ∃ te pe, ev = .iface te pe) :
 Calls Tryz.prog 220 #[.string s] w fun e w' => ∃ N, e = .returned (.tuple #[.int .i64 (0), .iface 373 (.pointer (some ⟨N, 0, none⟩))]) ∧ w.heap.size ≤ N ∧ w'.heap[N]? = some (.cells #[.string ⟨#[65, 116, 111, 105]⟩, .string s, ev] 393 (0, 0)) ∧ Below w.heap.size w w' := Any.strconv_Atoi_syntax Tryz.laysC172 s hlim (by revert h; cases Lib.atoiAll s.data.toList <;> intro h <;> first | rfl | exact absurd rfl (h.1 _) | exact absurd rfl h.2) ev w hv hev
open Go.RowKit in
theorem Tryz.strconv_Atoi_range (s : ByteArray) (hlim : s.size ≤ 281474976710656) (h : Lib.atoiAll s.data.toList = .range) (ev : Value) (w : World) (hv : w.cell? ⟨18, 0, none⟩ = some ev) (hev : ev = .nilIface ∨ ∃ te pe, ev = .iface te pe) :
 Calls Tryz.prog 220 #[.string s] w fun e w' => ∃ N, e = .returned (.tuple #[.int .i64 (Lib.atoiSat s.data.toList), .iface 373 (.pointer (some ⟨N, 0, none⟩))]) ∧ w.heap.size ≤ N ∧ w'.heap[N]? = some (.cells #[.string ⟨#[65, 116, 111, 105]⟩, .string s, ev] 393 (0, 0)) ∧ Below w.heap.size w w' := Any.strconv_Atoi_range Tryz.laysC172 s hlim h ev w hv hev
def Tryz.lays206_ren : Go.Shelf.Ren := ⟨fun | 206 => 271 | n => n, fun | 9 => 9 | 4 => 4 | 3 => 3 | n => n, fun | n => n⟩
def Tryz.lays99_ren : Go.Shelf.Ren := ⟨fun | 99 => 224 | 206 => 271 | n => n, fun | 9 => 9 | 4 => 4 | 3 => 3 | n => n, fun | n => n⟩
theorem Tryz.lays99 : Go.Proofs.Lays.n99 Tryz.prog Tryz.lays99_ren := {
 mixed := by kernel_rfl
 f99 := Tryz.func224.trans (congrArg some (by kernel_rfl))
 f206 := Tryz.func271.trans (congrArg some (by kernel_rfl))
 t3 := Tryz.underlying3
 a3 := Tryz.isAgg3
 z3 := Tryz.sizeOf3
 v3 := Tryz.zeroValue3
 t4 := Tryz.underlying4
 a4 := Tryz.isAgg4
 z4 := Tryz.sizeOf4
 v4 := Tryz.zeroValue4
 t9 := Tryz.underlying9
 a9 := Tryz.isAgg9
 z9 := Tryz.sizeOf9
 v9 := Tryz.zeroValue9 }
open Go.RowKit Go.Lib in
theorem Tryz.strings_HasPrefix (s p : ByteArray) (w : World) :
 Calls Tryz.prog 224 #[.string s, .string p] w fun e w' => e = .returned (.bool (Lib.hasPrefix s.data.toList p.data.toList)) ∧ w' = w := Any.strings_HasPrefix Tryz.lays99 s p w
def Tryz.lays101_ren : Go.Shelf.Ren := ⟨fun | 101 => 218 | 208 => 268 | 206 => 271 | n => n, fun | 9 => 9 | 4 => 4 | 3 => 3 | n => n, fun | n => n⟩
theorem Tryz.lays101 : Go.Proofs.Lays.n101 Tryz.prog Tryz.lays101_ren := {
 mixed := by kernel_rfl
 f101 := Tryz.func218.trans (congrArg some (by kernel_rfl))
 f206 := Tryz.func271.trans (congrArg some (by kernel_rfl))
 f208 := Tryz.func268.trans (congrArg some (by kernel_rfl))
 t3 := Tryz.underlying3
 a3 := Tryz.isAgg3
 z3 := Tryz.sizeOf3
 v3 := Tryz.zeroValue3
 t4 := Tryz.underlying4
 a4 := Tryz.isAgg4
 z4 := Tryz.sizeOf4
 v4 := Tryz.zeroValue4
 t9 := Tryz.underlying9
 a9 := Tryz.isAgg9
 z9 := Tryz.sizeOf9
 v9 := Tryz.zeroValue9 }
open Go.RowKit Go.Lib in
theorem Tryz.strings_TrimPrefix (s p : ByteArray) (w : World) :
 Calls Tryz.prog 218 #[.string s, .string p] w fun e w' => e = .returned (.string ⟨(Lib.trimPrefix s.data.toList p.data.toList).toArray⟩) ∧ w' = w := Any.strings_TrimPrefix Tryz.lays101 s p w
def Tryz.lays156_ren : Go.Shelf.Ren := ⟨fun | 156 => 98 | 165 => 165 | 166 => 166 | 169 => 167 | 240 => 212 | 241 => 213 | 276 => 260 | 277 => 261 | n => n, fun | 31 => 31 | 9 => 9 | 3 => 3 | 4 => 4 | 0 => 0 | 20 => 20 | 72 => 227 | 76 => 229 | 70 => 225 | 37 => 210 | 75 => 76 | 127 => 280 | 164 => 321 | 5 => 5 | 80 => 74 | n => n, fun | n => n⟩
theorem Tryz.lays156 : Go.Proofs.Lays.n156 Tryz.prog Tryz.lays156_ren := {
 mixed := by kernel_rfl
 f156 := Tryz.func98.trans (congrArg some (by kernel_rfl))
 f165 := Tryz.func165.trans (congrArg some (by kernel_rfl))
 f166 := Tryz.func166.trans (congrArg some (by kernel_rfl))
 f169 := Tryz.func167.trans (congrArg some (by kernel_rfl))
 f240 := Tryz.func212.trans (congrArg some (by kernel_rfl))
 f241 := Tryz.func213.trans (congrArg some (by kernel_rfl))
 f276 := Tryz.func260.trans (congrArg some (by kernel_rfl))
 f277 := Tryz.func261.trans (congrArg some (by kernel_rfl))
 t0 := Tryz.underlying0
 a0 := Tryz.isAgg0
 z0 := Tryz.sizeOf0
 v0 := Tryz.zeroValue0
 t3 := Tryz.underlying3
 a3 := Tryz.isAgg3
 z3 := Tryz.sizeOf3
 v3 := Tryz.zeroValue3
 t4 := Tryz.underlying4
 a4 := Tryz.isAgg4
 z4 := Tryz.sizeOf4
 v4 := Tryz.zeroValue4
 t9 := Tryz.underlying9
 a9 := Tryz.isAgg9
 z9 := Tryz.sizeOf9
 v9 := Tryz.zeroValue9
 t20 := Tryz.underlying20
 a20 := Tryz.isAgg20
 z20 := Tryz.sizeOf20
 v20 := Tryz.zeroValue20
 t31 := Tryz.underlying31
 a31 := Tryz.isAgg31
 z31 := Tryz.sizeOf31
 v31 := Tryz.zeroValue31
 t37 := Tryz.underlying210
 a37 := Tryz.isAgg210
 z37 := Tryz.sizeOf210
 v37 := Tryz.zeroValue210
 t70 := Tryz.underlying225
 a70 := Tryz.isAgg225
 z70 := Tryz.sizeOf225
 v70 := Tryz.zeroValue225
 t72 := Tryz.underlying227
 a72 := Tryz.isAgg227
 z72 := Tryz.sizeOf227
 v72 := Tryz.zeroValue227
 t75 := Tryz.underlying76
 a75 := Tryz.isAgg76
 z75 := Tryz.sizeOf76
 v75 := Tryz.zeroValue76
 t76 := Tryz.underlying229
 a76 := Tryz.isAgg229
 z76 := Tryz.sizeOf229
 v76 := Tryz.zeroValue229
 t127 := Tryz.underlying280
 a127 := Tryz.isAgg280
 z127 := Tryz.sizeOf280
 v127 := Tryz.zeroValue280
 t164 := Tryz.underlying321
 a164 := Tryz.isAgg321
 z164 := Tryz.sizeOf321
 v164 := Tryz.zeroValue321 }
theorem Tryz.Builder_Extra_156 : Builder.Extra Tryz.prog Tryz.lays156_ren := {
 sizeBuilder := by kernel_rfl
 liesBuilder := by kernel_rfl
 t5 := Tryz.underlying5
 a5 := Tryz.isAgg5
 z5 := Tryz.sizeOf5
 v5 := Tryz.zeroValue5
 infoByte := by kernel_rfl
 cellsByte := by kernel_rfl
 sizeByte := by kernel_rfl
 neB5 := by decide }
open Go.RowKit in
theorem Tryz.strings_Join_none (a : Option Addr) (c : Nat) (sep : ByteArray) (w : World) :
 Calls Tryz.prog 98 #[.slice a 0 c, .string sep] w fun e w' => e = .returned (.string ⟨#[]⟩) ∧ w' = w := Any.strings_Join_none Tryz.lays156 Tryz.Builder_Extra_156 a c sep w
open Go.RowKit in
theorem Tryz.strings_Join (bk o c : Nat) (xs : List ByteArray) (sep : ByteArray) (w : World) (hcells : ∀ (j : Nat) x, xs[j]? = some x → w.cell? ⟨bk, o + j, none⟩ = some (.string x)) (hbk : bk < w.heap.size) (hN : xs.length ≤ 140737488355328) (hcap : xs.length ≤ c) (hlen : (Lib.join (xs.map (·.data.toList)) sep.data.toList).length ≤ 140737488355328) :
 Calls Tryz.prog 98 #[.slice (some ⟨bk, o, none⟩) xs.length c, .string sep] w fun e w' => e = .returned (.string ⟨(Lib.join (xs.map (·.data.toList)) sep.data.toList).toArray⟩) ∧ Below w.heap.size w w' := Any.strings_Join Tryz.lays156 Tryz.Builder_Extra_156 bk o c xs sep w hcells hbk hN hcap hlen
def Tryz.laysM171_ren : Go.Shelf.Ren := ⟨fun | 171 => 161 | 243 => 209 | 246 => 259 | 283 => 297 | 284 => 298 | 285 => 299 | 286 => 300 | 129 => 138 | 317 => 315 | 318 => 316 | 319 => 317 | 320 => 318 | 337 => 326 | 338 => 327 | n => n, fun | 3 => 3 | 9 => 9 | 2 => 2 | 4 => 4 | 171 => 361 | 0 => 0 | 53 => 196 | 37 => 210 | 5 => 5 | 173 => 363 | 212 => 384 | 51 => 194 | 20 => 20 | 213 => 385 | 46 => 114 | 232 => 403 | 233 => 404 | n => n, fun | 17 => 15 | 18 => 19 | 19 => 20 | n => n⟩
theorem Tryz.laysM171 : Go.Proofs.LaysM.n171 Tryz.prog Tryz.laysM171_ren := {
 mixed := by kernel_rfl
 f129 := Tryz.func138.trans (congrArg some (by kernel_rfl))
 f171 := Tryz.func161.trans (congrArg some (by kernel_rfl))
 f243 := Tryz.func209.trans (congrArg some (by kernel_rfl))
 f246 := Tryz.func259.trans (congrArg some (by kernel_rfl))
 f283 := Tryz.func297.trans (congrArg some (by kernel_rfl))
 f284 := Tryz.func298.trans (congrArg some (by kernel_rfl))
 f285 := Tryz.func299.trans (congrArg some (by kernel_rfl))
 f286 := Tryz.func300.trans (congrArg some (by kernel_rfl))
 f317 := Tryz.func315.trans (congrArg some (by kernel_rfl))
 f318 := Tryz.func316.trans (congrArg some (by kernel_rfl))
 f319 := Tryz.func317.trans (congrArg some (by kernel_rfl))
 f320 := Tryz.func318.trans (congrArg some (by kernel_rfl))
 f337 := Tryz.func326.trans (congrArg some (by kernel_rfl))
 f338 := Tryz.func327.trans (congrArg some (by kernel_rfl))
 t0 := Tryz.underlying0
 a0 := Tryz.isAgg0
 z0 := Tryz.sizeOf0
 v0 := Tryz.zeroValue0
 t2 := Tryz.underlying2
 a2 := Tryz.isAgg2
 z2 := Tryz.sizeOf2
 v2 := Tryz.zeroValue2
 t3 := Tryz.underlying3
 a3 := Tryz.isAgg3
 z3 := Tryz.sizeOf3
 v3 := Tryz.zeroValue3
 t4 := Tryz.underlying4
 a4 := Tryz.isAgg4
 z4 := Tryz.sizeOf4
 v4 := Tryz.zeroValue4
 t5 := Tryz.underlying5
 a5 := Tryz.isAgg5
 z5 := Tryz.sizeOf5
 v5 := Tryz.zeroValue5
 t9 := Tryz.underlying9
 a9 := Tryz.isAgg9
 z9 := Tryz.sizeOf9
 v9 := Tryz.zeroValue9
 t20 := Tryz.underlying20
 a20 := Tryz.isAgg20
 z20 := Tryz.sizeOf20
 v20 := Tryz.zeroValue20
 t37 := Tryz.underlying210
 a37 := Tryz.isAgg210
 z37 := Tryz.sizeOf210
 v37 := Tryz.zeroValue210
 t46 := Tryz.underlying114
 a46 := Tryz.isAgg114
 z46 := Tryz.sizeOf114
 v46 := Tryz.zeroValue114
 t51 := Tryz.underlying194
 a51 := Tryz.isAgg194
 z51 := Tryz.sizeOf194
 v51 := Tryz.zeroValue194
 t53 := Tryz.underlying196
 a53 := Tryz.isAgg196
 z53 := Tryz.sizeOf196
 v53 := Tryz.zeroValue196
 t171 := Tryz.underlying361
 a171 := Tryz.isAgg361
 z171 := Tryz.sizeOf361
 v171 := Tryz.zeroValue361
 t173 := Tryz.underlying363
 a173 := Tryz.isAgg363
 z173 := Tryz.sizeOf363
 v173 := Tryz.zeroValue363
 t212 := Tryz.underlying384
 a212 := Tryz.isAgg384
 z212 := Tryz.sizeOf384
 v212 := Tryz.zeroValue384
 t213 := Tryz.underlying385
 a213 := Tryz.isAgg385
 z213 := Tryz.sizeOf385
 t232 := Tryz.underlying403
 a232 := Tryz.isAgg403
 z232 := Tryz.sizeOf403
 v232 := Tryz.zeroValue403
 t233 := Tryz.underlying404
 a233 := Tryz.isAgg404
 z233 := Tryz.sizeOf404
 v233 := Tryz.zeroValue404
 g17 := by kernel_rfl
 g18 := by kernel_rfl
 g19 := by kernel_rfl
 i0 := by kernel_rfl
 i2 := by kernel_rfl
 i3 := by kernel_rfl
 i4 := by kernel_rfl
 i5 := by kernel_rfl
 i9 := by kernel_rfl
 i20 := by kernel_rfl
 i37 := by kernel_rfl
 i46 := by kernel_rfl
 i51 := by kernel_rfl
 i53 := by kernel_rfl
 i171 := by kernel_rfl
 i173 := by kernel_rfl
 i212 := by kernel_rfl
 i232 := by kernel_rfl
 i233 := by kernel_rfl
 m17 := by kernel_rfl
 m18 := by kernel_rfl
 m19 := by kernel_rfl }
open Go.RowKit Go.Sort Go.Lib in
theorem Tryz.strconv_Itoa (n : Int) (h0 : -9223372036854775808 ≤ n) (h1 : n ≤ 9223372036854775807) (w : World) (htab : Lib.TabIs Tryz.prog w "internal/strconv.uint64pow10" .u64 Lib.pow10Tab) :
 Calls Tryz.prog 161 #[.int .i64 n] w fun e w' => e = .returned (.string ⟨(Lib.itoa n).toArray⟩) ∧ ∃ k os, w' = grow (w.drewN k) os := Any.strconv_Itoa Tryz.laysM171 n h0 h1 w htab
end Go.Proofs
namespace Go.Eng
open Go.Proofs
theorem After.below {C : Cy} {ρ : Nat → Nat × Nat} {n : Nat} {hp : Hp} {w w' : World} (H : HR C.toCx ρ n hp w) (B : RowKit.Below w.heap.size w w') {r : AV} (hr : r.lt n) {R : Rs} (hR : R n hp r) :
 After C n hp ρ w R (.returned (r.den ρ)) w' := by
 refine ⟨ρ, n, hp, r, hR, rfl, hr, Nat.le_refl _, fun _ _ => rfl, ⟨?_, ?_, H.sep, H.apart, H.glob.keep B.size fun g hg => B.block g (by have := H.glob.1; omega)⟩,
  ⟨fun b hb _ => B.block b hb, fun id o ho hm => .inl ⟨id, o, ho, hm, rfl⟩, fun id o ho hm => .inl (.inl ⟨id, o, ho, hm, rfl⟩), B.size, B.tape, B.os, B.output⟩⟩
 · intro id o ho
   obtain ⟨h1, h2, h3⟩ := H.objs id o ho
   refine ⟨h1, h2, ?_⟩
   by_cases hl : o.live = true
   · rw [B.block _ (H.bound id o ho hl)]; exact h3
   · cases o <;> first | trivial | (exact absurd rfl hl)
 · intro id o ho hl
   exact Nat.lt_of_lt_of_le (H.bound id o ho hl) B.size
theorem Tri.lib {C : Cy} {f : FuncId} {n0 : Nat} {hp0 : Hp} {args : List AV} {R : Rs} (hcf : ∀ args w, (callFunc f args).run C.P w = .ok (.enter f args) w)
 (h : ∀ ρ w, HR C.toCx ρ n0 hp0 w → Calls C.P f (denL ρ args).toArray w fun e w' => ∃ r, R n0 hp0 r ∧ r.lt n0 ∧ e = .returned (r.den ρ) ∧ RowKit.Below w.heap.size w w') : Tri C f n0 hp0 args R := by
 refine ⟨hcf, fun ρ w H hl => (h ρ w H).mono ?_⟩
 rintro e w' ⟨r, h1, h2, rfl, B⟩
 exact After.below H B h2 h1
theorem below_refl (w : World) : RowKit.Below w.heap.size w w := ⟨rfl, rfl, rfl, Nat.le_refl _, fun _ _ => rfl⟩
def asc (l : List UInt8) : Prop := ∀ b ∈ l, b.toNat < 128
theorem asc_get {l : List UInt8} (h : asc l) : ∀ (j : Nat) (b : UInt8), l[j]? = some b → b.toNat < 128 := fun j b hb => h b (List.mem_of_getElem? hb)
theorem cf214 : ∀ args w, (callFunc 214 args).run C0.P w = .ok (.enter 214 args) w := fun _ _ => by kernel_rfl
theorem cf107 : ∀ args w, (callFunc 107 args).run C0.P w = .ok (.enter 107 args) w := fun _ _ => by kernel_rfl
theorem cf220 : ∀ args w, (callFunc 220 args).run C0.P w = .ok (.enter 220 args) w := fun _ _ => by kernel_rfl
theorem cf161 : ∀ args w, (callFunc 161 args).run C0.P w = .ok (.enter 161 args) w := fun _ _ => by kernel_rfl
theorem cf98 : ∀ args w, (callFunc 98 args).run C0.P w = .ok (.enter 98 args) w := fun _ _ => by kernel_rfl
theorem cf218 : ∀ args w, (callFunc 218 args).run C0.P w = .ok (.enter 218 args) w := fun _ _ => by kernel_rfl
theorem cf224 : ∀ args w, (callFunc 224 args).run C0.P w = .ok (.enter 224 args) w := fun _ _ => by kernel_rfl
theorem bs_data (l : List UInt8) : (⟨l.toArray⟩ : ByteArray).data.toList = l := by simp
theorem bs_size (l : List UInt8) : (⟨l.toArray⟩ : ByteArray).size = l.length := by simp [ByteArray.size]
theorem toUpper_tri (s : List UInt8) (hs : s.length ≤ 140737488355328) (ha : asc s) : Tri C0 214 0 [] [.str s] (fun n hp r => n = 0 ∧ hp = [] ∧ r = .str (Lib.toUpperA s)) := by
 refine Tri.lib cf214 fun ρ w H => (Tryz.strings_ToUpper_ascii ⟨s.toArray⟩ w (by rw [bs_size]; exact hs) (by rw [bs_data]; exact asc_get ha)).mono ?_
 rintro e w' ⟨rfl, B⟩
 exact ⟨.str (Lib.toUpperA s), ⟨rfl, rfl, rfl⟩, trivial, by rw [bs_data]; rfl, B⟩
theorem sp_tab {ρ : Nat → Nat × Nat} {n : Nat} {hp : Hp} {w : World} (H : HR C0.toCx ρ n hp w) : Lib.TabIs Tryz.prog w "strings.asciiSpace" .u8 Lib.asciiSpaceTab := by
 obtain ⟨e, fz, h⟩ := H.glob.2.2.sp
 have hg : Tryz.prog.globalNamed "strings.asciiSpace" = some 2 := by kernel_rfl
 show World.var? Tryz.prog w "strings.asciiSpace" = _
 simp only [World.var?, hg, Option.bind_some]
 rw [h]
theorem pw_tab {ρ : Nat → Nat × Nat} {n : Nat} {hp : Hp} {w : World} (H : HR C0.toCx ρ n hp w) : Lib.TabIs Tryz.prog w "internal/strconv.uint64pow10" .u64 Lib.pow10Tab := by
 obtain ⟨e, fz, h⟩ := H.glob.2.2.pw
 have hg : Tryz.prog.globalNamed "internal/strconv.uint64pow10" = some 15 := by kernel_rfl
 show World.var? Tryz.prog w "internal/strconv.uint64pow10" = _
 simp only [World.var?, hg, Option.bind_some]
 rw [h]
theorem trimSpace_tri (s : List UInt8) (hs : s.length ≤ 9223372036854775807) (ha : asc s) : Tri C0 107 0 [] [.str s] (fun n hp r => n = 0 ∧ hp = [] ∧ r = .str (Lib.trimSpace s)) := by
 refine Tri.lib cf107 fun ρ w H => (Tryz.strings_TrimSpace ⟨s.toArray⟩ w (by rw [bs_size]; exact hs) (by rw [bs_data]; exact asc_get ha) (sp_tab H)).mono ?_
 rintro e w' ⟨rfl, rfl⟩
 exact ⟨.str (Lib.trimSpace s), ⟨rfl, rfl, rfl⟩, trivial, by rw [bs_data]; rfl, Lib.bytesWorld_below _ _ _⟩
theorem Lib.below_regrown' (w : World) (k : Nat) (os : Array Obj) : RowKit.Below w.heap.size w (Sort.grow (w.drewN k) os) := by
 have hh : (w.drewN k).heap = w.heap ∧ (w.drewN k).tape = w.tape ∧ (w.drewN k).os = w.os ∧ (w.drewN k).output = w.output := by
  induction k with
  | zero => exact ⟨rfl, rfl, rfl, rfl⟩
  | succ k ih => exact ih
 obtain ⟨h1, h2, h3, h4⟩ := hh
 refine ⟨h3, h2, h4, ?_, fun b hb => ?_⟩
 · show w.heap.size ≤ ((w.drewN k).heap ++ os).size
   rw [h1]; simp
 · show ((w.drewN k).heap ++ os)[b]? = _
   rw [h1, Array.getElem?_append_left hb]
theorem itoa_tri (n : Int) (h0 : -9223372036854775808 ≤ n) (h1 : n ≤ 9223372036854775807) : Tri C0 161 0 [] [.int .i64 n] (fun m hp r => m = 0 ∧ hp = [] ∧ r = .str (Lib.itoa n)) := by
 refine Tri.lib cf161 fun ρ w H => (Tryz.strconv_Itoa n h0 h1 w (pw_tab H)).mono ?_
 rintro e w' ⟨rfl, k, os, rfl⟩
 exact ⟨.str (Lib.itoa n), ⟨rfl, rfl, rfl⟩, trivial, rfl, Lib.below_regrown' w k os⟩
theorem trimPrefix_tri (s p : List UInt8) : Tri C0 218 0 [] [.str s, .str p] (fun n hp r => n = 0 ∧ hp = [] ∧ r = .str (Lib.trimPrefix s p)) := by
 refine Tri.lib cf218 fun ρ w H => (Tryz.strings_TrimPrefix ⟨s.toArray⟩ ⟨p.toArray⟩ w).mono ?_
 rintro e w' ⟨rfl, rfl⟩
 exact ⟨.str (Lib.trimPrefix s p), ⟨rfl, rfl, rfl⟩, trivial, by rw [bs_data, bs_data]; rfl, below_refl _⟩
theorem hasPrefix_tri (s p : List UInt8) : Tri C0 224 0 [] [.str s, .str p] (fun n hp r => n = 0 ∧ hp = [] ∧ r = .bool (Lib.hasPrefix s p)) := by
 refine Tri.lib cf224 fun ρ w H => (Tryz.strings_HasPrefix ⟨s.toArray⟩ ⟨p.toArray⟩ w).mono ?_
 rintro e w' ⟨rfl, rfl⟩
 exact ⟨.bool (Lib.hasPrefix s p), ⟨rfl, rfl, rfl⟩, trivial, by rw [bs_data, bs_data]; rfl, below_refl _⟩
theorem atoi_ok_tri (s : List UInt8) (hs : s.length ≤ 281474976710656) (v : Int) (h : Lib.atoiAll s = .ok v) : Tri C0 220 0 [] [.str s] (fun n hp r => n = 0 ∧ hp = [] ∧ r = .tup [.int .i64 v, .v .nilIface]) := by
 refine Tri.lib cf220 fun ρ w H => (Tryz.strconv_Atoi_ok ⟨s.toArray⟩ (by rw [bs_size]; omega) v (by rw [bs_data]; exact h) w).mono ?_
 rintro e w' ⟨rfl, hw⟩
 refine ⟨.tup [.int .i64 v, .v .nilIface], ⟨rfl, rfl, rfl⟩, ⟨trivial, trivial, trivial⟩, rfl, ?_⟩
 rcases hw with rfl | ⟨t, rfl⟩
 · exact below_refl _
 · exact Lib.bytesWorld_below _ _ _
theorem atoi_err_tri (s : List UInt8) (hs : s.length ≤ 281474976710656) (h : ∀ v, Lib.atoiAll s ≠ .ok v) : Tri C0 220 0 [] [.str s] (fun n hp r => n = 0 ∧ hp = [] ∧ ∃ v e, r = .tup [.int .i64 v, e] ∧ isErr e) := by
 refine Tri.lib cf220 fun ρ w H => ?_
 have cell : ∀ g, (∃ te pe e fz, w.heap[g]? = some (.cells #[.iface te pe] e fz)) → ∃ ev, w.cell? ⟨g, 0, none⟩ = some ev ∧ (ev = .nilIface ∨ ∃ te pe, ev = .iface te pe) := by
  rintro g ⟨te, pe, e, fz, h⟩
  exact ⟨.iface te pe, by rw [cell?_cells h]; rfl, .inr ⟨te, pe, rfl⟩⟩
 cases hc : Lib.atoiAll s with
 | ok v => exact absurd hc (h v)
 | range =>
   obtain ⟨ev, h1, h2⟩ := cell 18 H.glob.2.2.er
   refine (Tryz.strconv_Atoi_range ⟨s.toArray⟩ (by rw [bs_size]; exact hs) (by rw [bs_data]; exact hc) ev w h1 h2).mono ?_
   rintro e w' ⟨N, rfl, _, _, B⟩
   exact ⟨.tup [.int .i64 (Lib.atoiSat s), .ifc 373 (.v (.pointer (some ⟨N, 0, none⟩)))], ⟨rfl, rfl, _, _, rfl, _, rfl⟩, ⟨trivial, trivial, trivial⟩, by rw [bs_data]; rfl, B⟩
 | _ =>
   obtain ⟨ev, h1, h2⟩ := cell 17 H.glob.2.2.es
   refine (Tryz.strconv_Atoi_syntax ⟨s.toArray⟩ (by rw [bs_size]; exact hs) (by rw [bs_data, hc]; exact ⟨fun _ h => (by cases h), fun h => (by cases h)⟩) ev w h1 h2).mono ?_
   rintro e w' ⟨N, rfl, _, _, B⟩
   exact ⟨.tup [.int .i64 0, .ifc 373 (.v (.pointer (some ⟨N, 0, none⟩)))], ⟨rfl, rfl, _, _, rfl, _, rfl⟩, ⟨trivial, trivial, trivial⟩, rfl, B⟩
theorem join_tri (nl : Bool) (m : Option Nat) (xs : List (List UInt8)) (cap : Nat) (sep : List UInt8) (e : TypeId) (hc : xs.length ≤ cap) (hn : xs.length ≤ 140737488355328) (hl : (Lib.join xs sep).length ≤ 140737488355328) :
 Tri C0 98 1 [(0, .strs e m xs)] [.sl nl 0 1 0 xs.length cap, .str sep] (fun n hp r => n = 1 ∧ hp = [(0, .strs e m xs)] ∧ r = .str (Lib.join xs sep)) := by
 refine Tri.lib cf98 fun ρ w H => ?_
 by_cases hx : xs = []
 · subst hx
   refine (Tryz.strings_Join_none _ _ _ w).mono ?_
   rintro e w' ⟨rfl, rfl⟩
   exact ⟨.str [], ⟨rfl, rfl, rfl⟩, trivial, rfl, below_refl _⟩
 · have hpos : 0 < xs.length := List.length_pos_iff.2 hx
   have hnl : (nl && Nat.beq cap 0) = false := nlz (by omega)
   have h0 : lk [(0, AO.strs e m xs)] 0 = some (.strs e m xs) := rfl
   have e1 : (fun x : ByteArray => x.data.toList) ∘ (fun x : List UInt8 => (⟨x.toArray⟩ : ByteArray)) = _root_.id := by funext x; simp
   have hj := Tryz.strings_Join (ρ 0).1 ((ρ 0).2 + 0 * 1) cap (xs.map fun x => ⟨x.toArray⟩) ⟨sep.toArray⟩ w (fun j x hjx => by
    rw [List.getElem?_map] at hjx
    obtain ⟨y, hy, rfl⟩ := map_some' hjx
    have := (H.cell h0 (i := j) (av := .str y) (by simp only [AO.avs, List.getElem?_map, hy]; rfl)).1
    simpa [AV.den] using this) (H.lt_size h0 rfl) (by simpa using hn) (by simpa using hc) (by rw [List.map_map, e1, List.map_id]; exact hl)
   simp only [List.length_map, List.map_map] at hj
   rw [e1, List.map_id] at hj
   have e2 : (denL ρ [AV.sl nl 0 1 0 xs.length cap, .str sep]).toArray = #[.slice (some ⟨(ρ 0).1, (ρ 0).2 + 0 * 1, none⟩) xs.length cap, .string ⟨sep.toArray⟩] := by
    simp only [denL, AV.den, hnl, cond_false]
   rw [e2]
   refine hj.mono ?_
   rintro e w' ⟨rfl, B⟩
   exact ⟨.str (Lib.join xs sep), ⟨rfl, rfl, rfl⟩, trivial, rfl, B⟩
end Go.Eng
