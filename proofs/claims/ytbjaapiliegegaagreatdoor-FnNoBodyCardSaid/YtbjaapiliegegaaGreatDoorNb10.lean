/- Of the proof of FnNoBody: Lib3 Lib4. -/
import Derived.Shelf.LaysM
import Derived.Shelf.Strconv.Atoi
import Derived.Shelf.Strconv.AtoiErrFast
import Derived.Shelf.Strconv.ParseIntEmpty
import Derived.Shelf.Strconv.AtoiFail
import Derived.Shelf.Strconv.Clone
import Derived.Shelf.Strconv.SyntaxError
import Derived.Shelf.Sort.Plain
import Derived.Shelf.Slices.In.SortNone
import Derived.Test.YtbjaapiliegegaaGreatDoorProg
import Derived.Shelf.Strings.Search1
set_option linter.unusedVariables false
set_option linter.unusedSimpArgs false
section
namespace Go.Proofs
open Go.Shelf
def Tryz.lays172_ren : Go.Shelf.Ren := ⟨fun | 172 => 83 | 244 => 106 | 245 => 96 | 247 => 140 | 279 => 130 | 280 => 131 | 281 => 132 | 282 => 133 | 287 => 95 | 316 => 187 | 171 => 188 | 205 => 153 | 321 => 128 | 322 => 129 | 243 => 213 | 246 => 233 | 283 => 251 | 284 => 252 | 285 => 253 | 286 => 254 | 129 => 168 | 317 => 270 | 318 => 271 | 319 => 272 | 320 => 273 | 337 => 280 | 338 => 281 | n => n, fun | 9 => 9 | 3 => 3 | 75 => 79 | 76 => 136 | 4 => 4 | 5 => 5 | 167 => 202 | 37 => 27 | 0 => 0 | 85 => 173 | 2 => 2 | 168 => 204 | 53 => 109 | 175 => 110 | 46 => 189 | 210 => 267 | 127 => 288 | 145 => 277 | 143 => 275 | 21 => 21 | 171 => 316 | 173 => 318 | 212 => 341 | 51 => 151 | 20 => 20 | 213 => 342 | 232 => 357 | 233 => 339 | 80 => 260 | n => n, fun | 15 => 4 | 16 => 5 | 17 => 6 | 18 => 8 | 19 => 9 | n => n⟩
theorem Tryz.lays172 : Go.Proofs.Lays.n172 Tryz.prog Tryz.lays172_ren := {
 mixed := by kernel_rfl
 f129 := Tryz.func168.trans (congrArg some (by kernel_rfl))
 f171 := Tryz.func188.trans (congrArg some (by kernel_rfl))
 f172 := Tryz.func83.trans (congrArg some (by kernel_rfl))
 f205 := Tryz.func153.trans (congrArg some (by kernel_rfl))
 f243 := Tryz.func213.trans (congrArg some (by kernel_rfl))
 f244 := Tryz.func106.trans (congrArg some (by kernel_rfl))
 f245 := Tryz.func96.trans (congrArg some (by kernel_rfl))
 f246 := Tryz.func233.trans (congrArg some (by kernel_rfl))
 f247 := Tryz.func140.trans (congrArg some (by kernel_rfl))
 f279 := Tryz.func130.trans (congrArg some (by kernel_rfl))
 f280 := Tryz.func131.trans (congrArg some (by kernel_rfl))
 f281 := Tryz.func132.trans (congrArg some (by kernel_rfl))
 f282 := Tryz.func133.trans (congrArg some (by kernel_rfl))
 f283 := Tryz.func251.trans (congrArg some (by kernel_rfl))
 f284 := Tryz.func252.trans (congrArg some (by kernel_rfl))
 f285 := Tryz.func253.trans (congrArg some (by kernel_rfl))
 f286 := Tryz.func254.trans (congrArg some (by kernel_rfl))
 f287 := Tryz.func95.trans (congrArg some (by kernel_rfl))
 f316 := Tryz.func187.trans (congrArg some (by kernel_rfl))
 f317 := Tryz.func270.trans (congrArg some (by kernel_rfl))
 f318 := Tryz.func271.trans (congrArg some (by kernel_rfl))
 f319 := Tryz.func272.trans (congrArg some (by kernel_rfl))
 f320 := Tryz.func273.trans (congrArg some (by kernel_rfl))
 f321 := Tryz.func128.trans (congrArg some (by kernel_rfl))
 f322 := Tryz.func129.trans (congrArg some (by kernel_rfl))
 f337 := Tryz.func280.trans (congrArg some (by kernel_rfl))
 f338 := Tryz.func281.trans (congrArg some (by kernel_rfl))
 t0 := Tryz.underlying0
 a0 := Tryz.isAgg0
 z0 := Tryz.sizeOf0
 v0 := Tryz.zeroValue0
 t2 := Tryz.underlying2
 a2 := Tryz.isAgg2
 z2 := Tryz.sizeOf2
 v2 := Tryz.zeroValue2
 t3 := Tryz.underlying3
 a3 := Tryz.isAgg3
 z3 := Tryz.sizeOf3
 v3 := Tryz.zeroValue3
 t4 := Tryz.underlying4
 a4 := Tryz.isAgg4
 z4 := Tryz.sizeOf4
 v4 := Tryz.zeroValue4
 t5 := Tryz.underlying5
 a5 := Tryz.isAgg5
 z5 := Tryz.sizeOf5
 v5 := Tryz.zeroValue5
 t9 := Tryz.underlying9
 a9 := Tryz.isAgg9
 z9 := Tryz.sizeOf9
 v9 := Tryz.zeroValue9
 t20 := Tryz.underlying20
 a20 := Tryz.isAgg20
 z20 := Tryz.sizeOf20
 v20 := Tryz.zeroValue20
 t21 := Tryz.underlying21
 a21 := Tryz.isAgg21
 z21 := Tryz.sizeOf21
 v21 := Tryz.zeroValue21
 t37 := Tryz.underlying27
 a37 := Tryz.isAgg27
 z37 := Tryz.sizeOf27
 v37 := Tryz.zeroValue27
 t46 := Tryz.underlying189
 a46 := Tryz.isAgg189
 z46 := Tryz.sizeOf189
 v46 := Tryz.zeroValue189
 t51 := Tryz.underlying151
 a51 := Tryz.isAgg151
 z51 := Tryz.sizeOf151
 v51 := Tryz.zeroValue151
 t53 := Tryz.underlying109
 a53 := Tryz.isAgg109
 z53 := Tryz.sizeOf109
 v53 := Tryz.zeroValue109
 t75 := Tryz.underlying79
 a75 := Tryz.isAgg79
 z75 := Tryz.sizeOf79
 v75 := Tryz.zeroValue79
 t76 := Tryz.underlying136
 a76 := Tryz.isAgg136
 z76 := Tryz.sizeOf136
 v76 := Tryz.zeroValue136
 t85 := Tryz.underlying173
 a85 := Tryz.isAgg173
 z85 := Tryz.sizeOf173
 v85 := Tryz.zeroValue173
 t127 := Tryz.underlying288
 a127 := Tryz.isAgg288
 z127 := Tryz.sizeOf288
 v127 := Tryz.zeroValue288
 t143 := Tryz.underlying275
 a143 := Tryz.isAgg275
 z143 := Tryz.sizeOf275
 v143 := Tryz.zeroValue275
 t145 := Tryz.underlying277
 a145 := Tryz.isAgg277
 z145 := Tryz.sizeOf277
 v145 := Tryz.zeroValue277
 t167 := Tryz.underlying202
 a167 := Tryz.isAgg202
 z167 := Tryz.sizeOf202
 v167 := Tryz.zeroValue202
 t168 := Tryz.underlying204
 a168 := Tryz.isAgg204
 z168 := Tryz.sizeOf204
 v168 := Tryz.zeroValue204
 t171 := Tryz.underlying316
 a171 := Tryz.isAgg316
 z171 := Tryz.sizeOf316
 v171 := Tryz.zeroValue316
 t173 := Tryz.underlying318
 a173 := Tryz.isAgg318
 z173 := Tryz.sizeOf318
 v173 := Tryz.zeroValue318
 t175 := Tryz.underlying110
 a175 := Tryz.isAgg110
 z175 := Tryz.sizeOf110
 v175 := Tryz.zeroValue110
 t210 := Tryz.underlying267
 a210 := Tryz.isAgg267
 z210 := Tryz.sizeOf267
 v210 := Tryz.zeroValue267
 t212 := Tryz.underlying341
 a212 := Tryz.isAgg341
 z212 := Tryz.sizeOf341
 v212 := Tryz.zeroValue341
 t213 := Tryz.underlying342
 a213 := Tryz.isAgg342
 z213 := Tryz.sizeOf342
 t232 := Tryz.underlying357
 a232 := Tryz.isAgg357
 z232 := Tryz.sizeOf357
 v232 := Tryz.zeroValue357
 t233 := Tryz.underlying339
 a233 := Tryz.isAgg339
 z233 := Tryz.sizeOf339
 v233 := Tryz.zeroValue339
 g15 := by kernel_rfl
 g16 := by kernel_rfl
 g17 := by kernel_rfl
 g18 := by kernel_rfl
 g19 := by kernel_rfl }
open Go.RowKit in
theorem Tryz.strconv_Atoi (s : ByteArray) (n : Int) (hl : s.size ≤ 18) (h : Lib.atoi s.data.toList = some n) (w : World) :
  Calls Tryz.prog 83 #[.string s] w fun e w' => e = .returned (.tuple #[.int .i64 n, .nilIface]) ∧ ∃ t, w' = Lib.bytesWorld w 5 t := Any.strconv_Atoi Tryz.lays172 s n hl h w
def Tryz.lays190_ren : Go.Shelf.Ren := ⟨fun | 190 => 87 | 125 => 119 | 258 => 118 | 128 => 167 | 129 => 168 | 302 => 158 | 303 => 159 | 304 => 160 | 305 => 161 | 306 => 162 | 307 => 163 | 308 => 164 | 309 => 165 | 310 => 166 | 333 => 203 | 329 => 204 | 330 => 205 | 334 => 206 | 335 => 207 | 336 => 208 | 344 => 220 | n => n, fun | 31 => 88 | 9 => 9 | 3 => 3 | 46 => 189 | 0 => 0 | 51 => 151 | 53 => 109 | 4 => 4 | 183 => 246 | 182 => 245 | 131 => 121 | 5 => 5 | 218 => 278 | 222 => 282 | 228 => 294 | 229 => 156 | n => n, fun | n => n⟩
theorem Tryz.lays190 : Go.Proofs.Lays.n190 Tryz.prog Tryz.lays190_ren := {
 mixed := by kernel_rfl
 f125 := Tryz.func119.trans (congrArg some (by kernel_rfl))
 f128 := Tryz.func167.trans (congrArg some (by kernel_rfl))
 f129 := Tryz.func168.trans (congrArg some (by kernel_rfl))
 f190 := Tryz.func87.trans (congrArg some (by kernel_rfl))
 f258 := Tryz.func118.trans (congrArg some (by kernel_rfl))
 f302 := Tryz.func158.trans (congrArg some (by kernel_rfl))
 f303 := Tryz.func159.trans (congrArg some (by kernel_rfl))
 f304 := Tryz.func160.trans (congrArg some (by kernel_rfl))
 f305 := Tryz.func161.trans (congrArg some (by kernel_rfl))
 f306 := Tryz.func162.trans (congrArg some (by kernel_rfl))
 f307 := Tryz.func163.trans (congrArg some (by kernel_rfl))
 f308 := Tryz.func164.trans (congrArg some (by kernel_rfl))
 f309 := Tryz.func165.trans (congrArg some (by kernel_rfl))
 f310 := Tryz.func166.trans (congrArg some (by kernel_rfl))
 f329 := Tryz.func204.trans (congrArg some (by kernel_rfl))
 f330 := Tryz.func205.trans (congrArg some (by kernel_rfl))
 f333 := Tryz.func203.trans (congrArg some (by kernel_rfl))
 f334 := Tryz.func206.trans (congrArg some (by kernel_rfl))
 f335 := Tryz.func207.trans (congrArg some (by kernel_rfl))
 f336 := Tryz.func208.trans (congrArg some (by kernel_rfl))
 f344 := Tryz.func220.trans (congrArg some (by kernel_rfl))
 t0 := Tryz.underlying0
 a0 := Tryz.isAgg0
 z0 := Tryz.sizeOf0
 v0 := Tryz.zeroValue0
 t3 := Tryz.underlying3
 a3 := Tryz.isAgg3
 z3 := Tryz.sizeOf3
 v3 := Tryz.zeroValue3
 t4 := Tryz.underlying4
 a4 := Tryz.isAgg4
 z4 := Tryz.sizeOf4
 v4 := Tryz.zeroValue4
 t5 := Tryz.underlying5
 a5 := Tryz.isAgg5
 z5 := Tryz.sizeOf5
 v5 := Tryz.zeroValue5
 t9 := Tryz.underlying9
 a9 := Tryz.isAgg9
 z9 := Tryz.sizeOf9
 v9 := Tryz.zeroValue9
 t31 := Tryz.underlying88
 a31 := Tryz.isAgg88
 z31 := Tryz.sizeOf88
 v31 := Tryz.zeroValue88
 t46 := Tryz.underlying189
 a46 := Tryz.isAgg189
 z46 := Tryz.sizeOf189
 v46 := Tryz.zeroValue189
 t51 := Tryz.underlying151
 a51 := Tryz.isAgg151
 z51 := Tryz.sizeOf151
 v51 := Tryz.zeroValue151
 t53 := Tryz.underlying109
 a53 := Tryz.isAgg109
 z53 := Tryz.sizeOf109
 v53 := Tryz.zeroValue109
 t131 := Tryz.underlying121
 a131 := Tryz.isAgg121
 z131 := Tryz.sizeOf121
 v131 := Tryz.zeroValue121
 t182 := Tryz.underlying245
 a182 := Tryz.isAgg245
 z182 := Tryz.sizeOf245
 v182 := Tryz.zeroValue245
 t183 := Tryz.underlying246
 a183 := Tryz.isAgg246
 z183 := Tryz.sizeOf246
 v183 := Tryz.zeroValue246
 t218 := Tryz.underlying278
 a218 := Tryz.isAgg278
 z218 := Tryz.sizeOf278
 v218 := Tryz.zeroValue278
 t222 := Tryz.underlying282
 a222 := Tryz.isAgg282
 z222 := Tryz.sizeOf282
 v222 := Tryz.zeroValue282
 t228 := Tryz.underlying294
 a228 := Tryz.isAgg294
 z228 := Tryz.sizeOf294
 v228 := Tryz.zeroValue294
 t229 := Tryz.underlying156
 a229 := Tryz.isAgg156
 z229 := Tryz.sizeOf156
 v229 := Tryz.zeroValue156 }
open Go.Sort Go.RowKit in
theorem Tryz.slices_Sort_string (blk off cap : Nat) (ss : List (List UInt8)) (w : World) (hH : Holds encStr w blk off ss.toArray) (hblk : blk < w.heap.size) (hsz : ss.length < 4611686018427387904) :
  Calls Tryz.prog 87 #[.slice (some ⟨blk, off, none⟩) ss.length cap] w fun e w' =>
   e = .returned (.tuple #[]) ∧ ∃ n os, w' = grow (putRow encStr (Sort.ahead w n) blk off (ss.mergeSort fun x y => decide (x ≤ y)).toArray) os := Any.slices_Sort_string Tryz.lays190 blk off cap ss w hH hblk hsz
open Go.RowKit Go.Sort in
theorem Tryz.slices_Sort_string_none (p : Option Addr) (cap : Nat) (w : World) :
  Calls Tryz.prog 87 #[.slice p 0 cap] w fun e w' => e = .returned (.tuple #[]) ∧ w' = w := Any.slices_Sort_string_none Tryz.lays190 p cap w
end Go.Proofs
end
section
namespace Go.Proofs
open Go.Shelf
def Tryz.lays217_ren : Go.Shelf.Ren := ⟨fun | 217 => 234 | 266 => 255 | n => n, fun | 9 => 9 | 5 => 5 | 3 => 3 | n => n, fun | n => n⟩
theorem Tryz.lays217 : Go.Proofs.Lays.n217 Tryz.prog Tryz.lays217_ren := {
 mixed := by kernel_rfl
 f217 := Tryz.func234.trans (congrArg some (by kernel_rfl))
 f266 := Tryz.func255.trans (congrArg some (by kernel_rfl))
 t3 := Tryz.underlying3
 a3 := Tryz.isAgg3
 z3 := Tryz.sizeOf3
 v3 := Tryz.zeroValue3
 t5 := Tryz.underlying5
 a5 := Tryz.isAgg5
 z5 := Tryz.sizeOf5
 v5 := Tryz.zeroValue5
 t9 := Tryz.underlying9
 a9 := Tryz.isAgg9
 z9 := Tryz.sizeOf9
 v9 := Tryz.zeroValue9 }
open Go.RowKit Go.Lib in
theorem Tryz.stringslite_IndexByte (s : ByteArray) (c : Int) (w : World) :
  Calls Tryz.prog 234 #[.string s, .int .u8 c] w fun e w' => e = .returned (.int .i64 (Lib.indexByte s.data.toList c.toNat.toUInt8)) ∧ w' = w := Any.stringslite_IndexByte Tryz.lays217 s c w
end Go.Proofs
end
