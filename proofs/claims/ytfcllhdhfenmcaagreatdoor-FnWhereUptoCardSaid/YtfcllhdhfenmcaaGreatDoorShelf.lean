/- Contracts of the library at this translation, laid by a program. -/
import Derived.Shelf.Strings.Builder1
import Derived.Shelf.Strings.Builder2
import Derived.Shelf.Strings.OnBuilder
import Derived.Shelf.Small.Utf8
import Derived.Shelf.Small.Strs
import Derived.Shelf.Small.Wraps
import Derived.Shelf.Strconv.Atoi
import Derived.Shelf.Strconv.Itoa0
import Derived.Shelf.Strconv.Itoa1
import Derived.Shelf.LaysM
import Derived.Shelf.Strconv.Itoa2
import Derived.Shelf.Strconv.Itoa3
import Derived.Shelf.Strconv.AtoiErrFast
import Derived.Shelf.Strconv.ParseIntEmpty
import Derived.Shelf.Strconv.AtoiFail
import Derived.Shelf.Strconv.Clone
import Derived.Shelf.Strconv.SyntaxError
import Derived.Shelf.LaysC
import Derived.Shelf.Strconv.ToError
import Derived.Shelf.Strconv.Lower
import Derived.Shelf.Strconv.ParseUint10
import Derived.Shelf.Strconv.ParseUint10Empty
import Derived.Shelf.Strconv.ParseUint10Any
import Derived.Shelf.Strconv.ParseInt10
import Derived.Shelf.Strconv.AtoiLong
import Derived.Shelf.Strconv.AtoiInnerAll
import Derived.Shelf.Strconv.RangeError
import Derived.Shelf.Strconv.ToErrorRange
import Derived.Shelf.Strconv.AtoiAll
import Derived.Shelf.Strings.Search1
import Derived.Shelf.GgClosure.StringsIndexFunc
import Derived.Shelf.GgClosure.StringsTrimFunc
import Derived.Shelf.GgClosure.StringsRunes
import Derived.Shelf.Strings.Prefix
import Derived.Shelf.Unicode.Latin
import Derived.Shelf.Unicode.DecodeSlow
import Derived.Shelf.Unicode.DecodeAny
import Derived.Shelf.Unicode.Is16White
import Derived.Shelf.Unicode.IsSpaceAny
import Derived.Shelf.Unicode.DecodeLast
import Derived.Shelf.Unicode.CaseLookup
import Derived.Shelf.Unicode.CaseConvert
import Derived.Shelf.Unicode.CaseTo
import Derived.Shelf.Unicode.CaseLaid
import Derived.Shelf.Unicode.Is16Any
import Derived.Shelf.Unicode.Is32Any
import Derived.Shelf.Unicode.ExclAny
import Derived.Test.YtfcllhdhfenmcaaGreatDoorProg
namespace Go.Proofs
open Go.Shelf
def Tryz.lays169_ren : Go.Shelf.Ren := ⟨fun | 169 => 73 | n => n, fun | 70 => 134 | 9 => 9 | 0 => 0 | 72 => 136 | 37 => 22 | 127 => 168 | 3 => 3 | 5 => 5 | n => n, fun | n => n⟩
theorem Tryz.lays169 : Go.Proofs.Lays.n169 Tryz.prog Tryz.lays169_ren := {
  mixed := by kernel_rfl
  f169 := Tryz.func73.trans (congrArg some (by kernel_rfl))
  t0 := Tryz.underlying0
  a0 := Tryz.isAgg0
  z0 := Tryz.sizeOf0
  v0 := Tryz.zeroValue0
  t3 := Tryz.underlying3
  a3 := Tryz.isAgg3
  z3 := Tryz.sizeOf3
  v3 := Tryz.zeroValue3
  t9 := Tryz.underlying9
  a9 := Tryz.isAgg9
  z9 := Tryz.sizeOf9
  v9 := Tryz.zeroValue9
  t37 := Tryz.underlying22
  a37 := Tryz.isAgg22
  z37 := Tryz.sizeOf22
  v37 := Tryz.zeroValue22
  t70 := Tryz.underlying134
  a70 := Tryz.isAgg134
  z70 := Tryz.sizeOf134
  v70 := Tryz.zeroValue134
  t72 := Tryz.underlying136
  a72 := Tryz.isAgg136
  z72 := Tryz.sizeOf136
  v72 := Tryz.zeroValue136
  t127 := Tryz.underlying168
  a127 := Tryz.isAgg168
  z127 := Tryz.sizeOf168
  v127 := Tryz.zeroValue168 }
theorem Tryz.Builder_Extra_169 : Builder.Extra Tryz.prog Tryz.lays169_ren := {
  sizeBuilder := by kernel_rfl
  liesBuilder := by kernel_rfl
  t5 := Tryz.underlying5
  a5 := Tryz.isAgg5
  z5 := Tryz.sizeOf5
  v5 := Tryz.zeroValue5
  infoByte := by kernel_rfl
  cellsByte := by kernel_rfl
  sizeByte := by kernel_rfl
  neB5 := by decide }
open Go.RowKit in
theorem Tryz.Builder_String_any (B b : Nat) (l : List UInt8) (w : World) (h : Lib.IsBuilder 136 5 B b (Lib.byteCells l) w) (hBw : B ≤ w.heap.size) :
    Calls Tryz.prog 73 #[.pointer (some ⟨b, 0, none⟩)] w fun e w' => e = .returned (.string ⟨l.toArray⟩) ∧ Below B w w' := Any.Builder_String_any Tryz.lays169 Tryz.Builder_Extra_169 B b l w h hBw
def Tryz.lays165_ren : Go.Shelf.Ren := ⟨fun | 165 => 83 | 240 => 91 | 241 => 92 | 276 => 99 | 277 => 100 | n => n, fun | 70 => 134 | 3 => 3 | 0 => 0 | 4 => 4 | 9 => 9 | 20 => 20 | 72 => 136 | 37 => 22 | 164 => 181 | 5 => 5 | n => n, fun | n => n⟩
theorem Tryz.lays165 : Go.Proofs.Lays.n165 Tryz.prog Tryz.lays165_ren := {
  mixed := by kernel_rfl
  f165 := Tryz.func83.trans (congrArg some (by kernel_rfl))
  f240 := Tryz.func91.trans (congrArg some (by kernel_rfl))
  f241 := Tryz.func92.trans (congrArg some (by kernel_rfl))
  f276 := Tryz.func99.trans (congrArg some (by kernel_rfl))
  f277 := Tryz.func100.trans (congrArg some (by kernel_rfl))
  t0 := Tryz.underlying0
  a0 := Tryz.isAgg0
  z0 := Tryz.sizeOf0
  v0 := Tryz.zeroValue0
  t3 := Tryz.underlying3
  a3 := Tryz.isAgg3
  z3 := Tryz.sizeOf3
  v3 := Tryz.zeroValue3
  t4 := Tryz.underlying4
  a4 := Tryz.isAgg4
  z4 := Tryz.sizeOf4
  v4 := Tryz.zeroValue4
  t9 := Tryz.underlying9
  a9 := Tryz.isAgg9
  z9 := Tryz.sizeOf9
  v9 := Tryz.zeroValue9
  t20 := Tryz.underlying20
  a20 := Tryz.isAgg20
  z20 := Tryz.sizeOf20
  v20 := Tryz.zeroValue20
  t37 := Tryz.underlying22
  a37 := Tryz.isAgg22
  z37 := Tryz.sizeOf22
  v37 := Tryz.zeroValue22
  t70 := Tryz.underlying134
  a70 := Tryz.isAgg134
  z70 := Tryz.sizeOf134
  v70 := Tryz.zeroValue134
  t72 := Tryz.underlying136
  a72 := Tryz.isAgg136
  z72 := Tryz.sizeOf136
  v72 := Tryz.zeroValue136
  t164 := Tryz.underlying181
  a164 := Tryz.isAgg181
  z164 := Tryz.sizeOf181
  v164 := Tryz.zeroValue181 }
theorem Tryz.Builder_Extra_165 : Builder.Extra Tryz.prog Tryz.lays165_ren := {
  sizeBuilder := by kernel_rfl
  liesBuilder := by kernel_rfl
  t5 := Tryz.underlying5
  a5 := Tryz.isAgg5
  z5 := Tryz.sizeOf5
  v5 := Tryz.zeroValue5
  infoByte := by kernel_rfl
  cellsByte := by kernel_rfl
  sizeByte := by kernel_rfl
  neB5 := by decide }
open Go.RowKit in
theorem Tryz.Builder_Grow_fresh (B b n : Nat) (w : World) (hB : B ≤ b) (hbk : w.heap[b]? = some (.cells #[.pointer none, .slice none 0 0] 136 (0, 0))) (hBw : B ≤ w.heap.size) (hn : n ≤ 281474976710656) :
    Calls Tryz.prog 83 #[.pointer (some ⟨b, 0, none⟩), .int .i64 n] w fun e w' => e = .returned (.tuple #[]) ∧ (Lib.BuilderAt 136 5 B b (.pointer (some ⟨b, 0, none⟩)) [] w' ∧ Below B w w') := Any.Builder_Grow_fresh Tryz.lays165 Tryz.Builder_Extra_165 B b n w hB hbk hBw hn
def Tryz.lays158_ren : Go.Shelf.Ren := ⟨fun | 158 => 313 | 165 => 83 | 166 => 84 | 167 => 85 | 169 => 73 | 230 => 318 | 203 => 319 | 240 => 91 | 241 => 92 | 197 => 227 | 118 => 322 | 168 => 323 | 270 => 324 | 262 => 325 | 276 => 99 | 277 => 100 | 260 => 230 | 242 => 329 | 313 => 330 | 278 => 333 | 274 => 334 | 275 => 335 | n => n, fun | 9 => 9 | 4 => 4 | 3 => 3 | 5 => 5 | 72 => 136 | 0 => 0 | 76 => 164 | 75 => 76 | 107 => 316 | 70 => 134 | 20 => 20 | 37 => 22 | 127 => 168 | 21 => 21 | 105 => 305 | 164 => 181 | 162 => 330 | 203 => 328 | 119 => 303 | 46 => 209 | 139 => 309 | 138 => 308 | 51 => 32 | 160 => 335 | 208 => 341 | 206 => 339 | 80 => 62 | n => n, fun | 13 => 14 | 3 => 12 | 4 => 13 | n => n⟩
theorem Tryz.lays158 : Go.Proofs.Lays.n158 Tryz.prog Tryz.lays158_ren := {
  mixed := by kernel_rfl
  f118 := Tryz.func322.trans (congrArg some (by kernel_rfl))
  f158 := Tryz.func313.trans (congrArg some (by kernel_rfl))
  f165 := Tryz.func83.trans (congrArg some (by kernel_rfl))
  f166 := Tryz.func84.trans (congrArg some (by kernel_rfl))
  f167 := Tryz.func85.trans (congrArg some (by kernel_rfl))
  f168 := Tryz.func323.trans (congrArg some (by kernel_rfl))
  f169 := Tryz.func73.trans (congrArg some (by kernel_rfl))
  f197 := Tryz.func227.trans (congrArg some (by kernel_rfl))
  f203 := Tryz.func319.trans (congrArg some (by kernel_rfl))
  f230 := Tryz.func318.trans (congrArg some (by kernel_rfl))
  f240 := Tryz.func91.trans (congrArg some (by kernel_rfl))
  f241 := Tryz.func92.trans (congrArg some (by kernel_rfl))
  f242 := Tryz.func329.trans (congrArg some (by kernel_rfl))
  f260 := Tryz.func230.trans (congrArg some (by kernel_rfl))
  f262 := Tryz.func325.trans (congrArg some (by kernel_rfl))
  f270 := Tryz.func324.trans (congrArg some (by kernel_rfl))
  f274 := Tryz.func334.trans (congrArg some (by kernel_rfl))
  f275 := Tryz.func335.trans (congrArg some (by kernel_rfl))
  f276 := Tryz.func99.trans (congrArg some (by kernel_rfl))
  f277 := Tryz.func100.trans (congrArg some (by kernel_rfl))
  f278 := Tryz.func333.trans (congrArg some (by kernel_rfl))
  f313 := Tryz.func330.trans (congrArg some (by kernel_rfl))
  t0 := Tryz.underlying0
  a0 := Tryz.isAgg0
  z0 := Tryz.sizeOf0
  v0 := Tryz.zeroValue0
  t3 := Tryz.underlying3
  a3 := Tryz.isAgg3
  z3 := Tryz.sizeOf3
  v3 := Tryz.zeroValue3
  t4 := Tryz.underlying4
  a4 := Tryz.isAgg4
  z4 := Tryz.sizeOf4
  v4 := Tryz.zeroValue4
  t5 := Tryz.underlying5
  a5 := Tryz.isAgg5
  z5 := Tryz.sizeOf5
  v5 := Tryz.zeroValue5
  t9 := Tryz.underlying9
  a9 := Tryz.isAgg9
  z9 := Tryz.sizeOf9
  v9 := Tryz.zeroValue9
  t20 := Tryz.underlying20
  a20 := Tryz.isAgg20
  z20 := Tryz.sizeOf20
  v20 := Tryz.zeroValue20
  t21 := Tryz.underlying21
  a21 := Tryz.isAgg21
  z21 := Tryz.sizeOf21
  v21 := Tryz.zeroValue21
  t37 := Tryz.underlying22
  a37 := Tryz.isAgg22
  z37 := Tryz.sizeOf22
  v37 := Tryz.zeroValue22
  t46 := Tryz.underlying209
  a46 := Tryz.isAgg209
  z46 := Tryz.sizeOf209
  v46 := Tryz.zeroValue209
  t51 := Tryz.underlying32
  a51 := Tryz.isAgg32
  z51 := Tryz.sizeOf32
  v51 := Tryz.zeroValue32
  t70 := Tryz.underlying134
  a70 := Tryz.isAgg134
  z70 := Tryz.sizeOf134
  v70 := Tryz.zeroValue134
  t72 := Tryz.underlying136
  a72 := Tryz.isAgg136
  z72 := Tryz.sizeOf136
  v72 := Tryz.zeroValue136
  t75 := Tryz.underlying76
  a75 := Tryz.isAgg76
  z75 := Tryz.sizeOf76
  v75 := Tryz.zeroValue76
  t76 := Tryz.underlying164
  a76 := Tryz.isAgg164
  z76 := Tryz.sizeOf164
  v76 := Tryz.zeroValue164
  t105 := Tryz.underlying305
  a105 := Tryz.isAgg305
  z105 := Tryz.sizeOf305
  v105 := Tryz.zeroValue305
  t107 := Tryz.underlying316
  a107 := Tryz.isAgg316
  z107 := Tryz.sizeOf316
  v107 := Tryz.zeroValue316
  t119 := Tryz.underlying303
  a119 := Tryz.isAgg303
  z119 := Tryz.sizeOf303
  t127 := Tryz.underlying168
  a127 := Tryz.isAgg168
  z127 := Tryz.sizeOf168
  v127 := Tryz.zeroValue168
  t138 := Tryz.underlying308
  a138 := Tryz.isAgg308
  z138 := Tryz.sizeOf308
  v138 := Tryz.zeroValue308
  t139 := Tryz.underlying309
  a139 := Tryz.isAgg309
  z139 := Tryz.sizeOf309
  v139 := Tryz.zeroValue309
  t160 := Tryz.underlying335
  a160 := Tryz.isAgg335
  z160 := Tryz.sizeOf335
  v160 := Tryz.zeroValue335
  t162 := Tryz.underlying330
  a162 := Tryz.isAgg330
  z162 := Tryz.sizeOf330
  v162 := Tryz.zeroValue330
  t164 := Tryz.underlying181
  a164 := Tryz.isAgg181
  z164 := Tryz.sizeOf181
  v164 := Tryz.zeroValue181
  t203 := Tryz.underlying328
  a203 := Tryz.isAgg328
  z203 := Tryz.sizeOf328
  v203 := Tryz.zeroValue328
  t206 := Tryz.underlying339
  a206 := Tryz.isAgg339
  z206 := Tryz.sizeOf339
  v206 := Tryz.zeroValue339
  t208 := Tryz.underlying341
  a208 := Tryz.isAgg341
  z208 := Tryz.sizeOf341
  v208 := Tryz.zeroValue341
  g3 := by kernel_rfl
  g4 := by kernel_rfl
  g13 := by kernel_rfl }
theorem Tryz.Builder_Extra_158 : Builder.Extra Tryz.prog Tryz.lays158_ren := {
  sizeBuilder := by kernel_rfl
  liesBuilder := by kernel_rfl
  t5 := Tryz.underlying5
  a5 := Tryz.isAgg5
  z5 := Tryz.sizeOf5
  v5 := Tryz.zeroValue5
  infoByte := by kernel_rfl
  cellsByte := by kernel_rfl
  sizeByte := by kernel_rfl
  neB5 := by decide }
open Go.RowKit in
theorem Tryz.strings_ToUpper_ascii (s : ByteArray) (w : World) (hs : s.size ≤ 140737488355328) (hascii : ∀ (j : Nat) (b : UInt8), s.data.toList[j]? = some b → b.toNat < 128) :
    Calls Tryz.prog 313 #[.string s] w fun e w' => e = .returned (.string ⟨(Lib.toUpperA s.data.toList).toArray⟩) ∧ Below w.heap.size w w' := Any.strings_ToUpper_ascii Tryz.lays158 Tryz.Builder_Extra_158 s w hs hascii
def Tryz.lays103_ren : Go.Shelf.Ren := ⟨fun | 103 => 86 | 210 => 93 | 206 => 101 | n => n, fun | 9 => 9 | 4 => 4 | 24 => 172 | 3 => 3 | n => n, fun | n => n⟩
theorem Tryz.lays103 : Go.Proofs.Lays.n103 Tryz.prog Tryz.lays103_ren := {
  mixed := by kernel_rfl
  f103 := Tryz.func86.trans (congrArg some (by kernel_rfl))
  f206 := Tryz.func101.trans (congrArg some (by kernel_rfl))
  f210 := Tryz.func93.trans (congrArg some (by kernel_rfl))
  t3 := Tryz.underlying3
  a3 := Tryz.isAgg3
  z3 := Tryz.sizeOf3
  v3 := Tryz.zeroValue3
  t4 := Tryz.underlying4
  a4 := Tryz.isAgg4
  z4 := Tryz.sizeOf4
  v4 := Tryz.zeroValue4
  t9 := Tryz.underlying9
  a9 := Tryz.isAgg9
  z9 := Tryz.sizeOf9
  v9 := Tryz.zeroValue9
  t24 := Tryz.underlying172
  a24 := Tryz.isAgg172
  z24 := Tryz.sizeOf172
  v24 := Tryz.zeroValue172 }
open Go.RowKit in
theorem Tryz.strings_CutPrefix (s p : ByteArray) (w : World) :
    Calls Tryz.prog 86 #[.string s, .string p] w fun e w' => e = .returned (.tuple #[.string ⟨(Lib.trimPrefix s.data.toList p.data.toList).toArray⟩, .bool (Lib.hasPrefix s.data.toList p.data.toList)]) ∧ w' = w := Any.strings_CutPrefix Tryz.lays103 s p w
def Tryz.laysM171_ren : Go.Shelf.Ren := ⟨fun | 171 => 79 | 243 => 89 | 246 => 97 | 283 => 108 | 284 => 109 | 285 => 110 | 286 => 111 | 129 => 120 | 317 => 119 | 318 => 121 | 319 => 122 | 320 => 123 | 337 => 133 | 338 => 134 | n => n, fun | 3 => 3 | 9 => 9 | 2 => 2 | 4 => 4 | 171 => 187 | 0 => 0 | 53 => 188 | 37 => 22 | 5 => 5 | 173 => 191 | 212 => 207 | 51 => 32 | 20 => 20 | 213 => 208 | 46 => 209 | 232 => 236 | 233 => 237 | n => n, fun | 17 => 1 | 18 => 4 | 19 => 5 | n => n⟩
theorem Tryz.laysM171 : Go.Proofs.LaysM.n171 Tryz.prog Tryz.laysM171_ren := {
  mixed := by kernel_rfl
  f129 := Tryz.func120.trans (congrArg some (by kernel_rfl))
  f171 := Tryz.func79.trans (congrArg some (by kernel_rfl))
  f243 := Tryz.func89.trans (congrArg some (by kernel_rfl))
  f246 := Tryz.func97.trans (congrArg some (by kernel_rfl))
  f283 := Tryz.func108.trans (congrArg some (by kernel_rfl))
  f284 := Tryz.func109.trans (congrArg some (by kernel_rfl))
  f285 := Tryz.func110.trans (congrArg some (by kernel_rfl))
  f286 := Tryz.func111.trans (congrArg some (by kernel_rfl))
  f317 := Tryz.func119.trans (congrArg some (by kernel_rfl))
  f318 := Tryz.func121.trans (congrArg some (by kernel_rfl))
  f319 := Tryz.func122.trans (congrArg some (by kernel_rfl))
  f320 := Tryz.func123.trans (congrArg some (by kernel_rfl))
  f337 := Tryz.func133.trans (congrArg some (by kernel_rfl))
  f338 := Tryz.func134.trans (congrArg some (by kernel_rfl))
  t0 := Tryz.underlying0
  a0 := Tryz.isAgg0
  z0 := Tryz.sizeOf0
  v0 := Tryz.zeroValue0
  t2 := Tryz.underlying2
  a2 := Tryz.isAgg2
  z2 := Tryz.sizeOf2
  v2 := Tryz.zeroValue2
  t3 := Tryz.underlying3
  a3 := Tryz.isAgg3
  z3 := Tryz.sizeOf3
  v3 := Tryz.zeroValue3
  t4 := Tryz.underlying4
  a4 := Tryz.isAgg4
  z4 := Tryz.sizeOf4
  v4 := Tryz.zeroValue4
  t5 := Tryz.underlying5
  a5 := Tryz.isAgg5
  z5 := Tryz.sizeOf5
  v5 := Tryz.zeroValue5
  t9 := Tryz.underlying9
  a9 := Tryz.isAgg9
  z9 := Tryz.sizeOf9
  v9 := Tryz.zeroValue9
  t20 := Tryz.underlying20
  a20 := Tryz.isAgg20
  z20 := Tryz.sizeOf20
  v20 := Tryz.zeroValue20
  t37 := Tryz.underlying22
  a37 := Tryz.isAgg22
  z37 := Tryz.sizeOf22
  v37 := Tryz.zeroValue22
  t46 := Tryz.underlying209
  a46 := Tryz.isAgg209
  z46 := Tryz.sizeOf209
  v46 := Tryz.zeroValue209
  t51 := Tryz.underlying32
  a51 := Tryz.isAgg32
  z51 := Tryz.sizeOf32
  v51 := Tryz.zeroValue32
  t53 := Tryz.underlying188
  a53 := Tryz.isAgg188
  z53 := Tryz.sizeOf188
  v53 := Tryz.zeroValue188
  t171 := Tryz.underlying187
  a171 := Tryz.isAgg187
  z171 := Tryz.sizeOf187
  v171 := Tryz.zeroValue187
  t173 := Tryz.underlying191
  a173 := Tryz.isAgg191
  z173 := Tryz.sizeOf191
  v173 := Tryz.zeroValue191
  t212 := Tryz.underlying207
  a212 := Tryz.isAgg207
  z212 := Tryz.sizeOf207
  v212 := Tryz.zeroValue207
  t213 := Tryz.underlying208
  a213 := Tryz.isAgg208
  z213 := Tryz.sizeOf208
  t232 := Tryz.underlying236
  a232 := Tryz.isAgg236
  z232 := Tryz.sizeOf236
  v232 := Tryz.zeroValue236
  t233 := Tryz.underlying237
  a233 := Tryz.isAgg237
  z233 := Tryz.sizeOf237
  v233 := Tryz.zeroValue237
  g17 := by kernel_rfl
  g18 := by kernel_rfl
  g19 := by kernel_rfl
  i0 := by kernel_rfl
  i2 := by kernel_rfl
  i3 := by kernel_rfl
  i4 := by kernel_rfl
  i5 := by kernel_rfl
  i9 := by kernel_rfl
  i20 := by kernel_rfl
  i37 := by kernel_rfl
  i46 := by kernel_rfl
  i51 := by kernel_rfl
  i53 := by kernel_rfl
  i171 := by kernel_rfl
  i173 := by kernel_rfl
  i212 := by kernel_rfl
  i232 := by kernel_rfl
  i233 := by kernel_rfl
  m17 := by kernel_rfl
  m18 := by kernel_rfl
  m19 := by kernel_rfl }
open Go.RowKit Go.Sort Go.Lib in
theorem Tryz.strconv_Itoa (n : Int) (h0 : -9223372036854775808 ≤ n) (h1 : n ≤ 9223372036854775807) (w : World) (htab : Lib.TabIs Tryz.prog w "internal/strconv.uint64pow10" .u64 Lib.pow10Tab) :
    Calls Tryz.prog 79 #[.int .i64 n] w fun e w' => e = .returned (.string ⟨(Lib.itoa n).toArray⟩) ∧ ∃ k os, w' = grow (w.drewN k) os := Any.strconv_Itoa Tryz.laysM171 n h0 h1 w htab
def Tryz.laysC172_ren : Go.Shelf.Ren := ⟨fun | 172 => 113 | 244 => 124 | 245 => 125 | 247 => 135 | 279 => 136 | 280 => 137 | 281 => 138 | 282 => 139 | 287 => 149 | 316 => 150 | 171 => 79 | 205 => 65 | 321 => 156 | 322 => 157 | 243 => 89 | 246 => 97 | 283 => 108 | 284 => 109 | 285 => 110 | 286 => 111 | 129 => 120 | 317 => 119 | 318 => 121 | 319 => 122 | 320 => 123 | 337 => 133 | 338 => 134 | n => n, fun | 9 => 9 | 3 => 3 | 75 => 76 | 76 => 164 | 4 => 4 | 5 => 5 | 167 => 220 | 37 => 22 | 0 => 0 | 85 => 221 | 2 => 2 | 168 => 223 | 53 => 188 | 175 => 238 | 46 => 209 | 210 => 241 | 127 => 168 | 145 => 142 | 143 => 140 | 21 => 21 | 171 => 187 | 173 => 191 | 212 => 207 | 51 => 32 | 20 => 20 | 213 => 208 | 232 => 236 | 233 => 237 | 80 => 62 | n => n, fun | 15 => 6 | 16 => 7 | 17 => 1 | 18 => 4 | 19 => 5 | n => n⟩
theorem Tryz.laysC172 : Go.Proofs.LaysC.n172 Tryz.prog Tryz.laysC172_ren := {
  mixed := by kernel_rfl
  f129 := Tryz.func120.trans (congrArg some (by kernel_rfl))
  f171 := Tryz.func79.trans (congrArg some (by kernel_rfl))
  f172 := Tryz.func113.trans (congrArg some (by kernel_rfl))
  f205 := Tryz.func65.trans (congrArg some (by kernel_rfl))
  f243 := Tryz.func89.trans (congrArg some (by kernel_rfl))
  f244 := Tryz.func124.trans (congrArg some (by kernel_rfl))
  f245 := Tryz.func125.trans (congrArg some (by kernel_rfl))
  f246 := Tryz.func97.trans (congrArg some (by kernel_rfl))
  f247 := Tryz.func135.trans (congrArg some (by kernel_rfl))
  f279 := Tryz.func136.trans (congrArg some (by kernel_rfl))
  f280 := Tryz.func137.trans (congrArg some (by kernel_rfl))
  f281 := Tryz.func138.trans (congrArg some (by kernel_rfl))
  f282 := Tryz.func139.trans (congrArg some (by kernel_rfl))
  f283 := Tryz.func108.trans (congrArg some (by kernel_rfl))
  f284 := Tryz.func109.trans (congrArg some (by kernel_rfl))
  f285 := Tryz.func110.trans (congrArg some (by kernel_rfl))
  f286 := Tryz.func111.trans (congrArg some (by kernel_rfl))
  f287 := Tryz.func149.trans (congrArg some (by kernel_rfl))
  f316 := Tryz.func150.trans (congrArg some (by kernel_rfl))
  f317 := Tryz.func119.trans (congrArg some (by kernel_rfl))
  f318 := Tryz.func121.trans (congrArg some (by kernel_rfl))
  f319 := Tryz.func122.trans (congrArg some (by kernel_rfl))
  f320 := Tryz.func123.trans (congrArg some (by kernel_rfl))
  f321 := Tryz.func156.trans (congrArg some (by kernel_rfl))
  f322 := Tryz.func157.trans (congrArg some (by kernel_rfl))
  f337 := Tryz.func133.trans (congrArg some (by kernel_rfl))
  f338 := Tryz.func134.trans (congrArg some (by kernel_rfl))
  t0 := Tryz.underlying0
  a0 := Tryz.isAgg0
  z0 := Tryz.sizeOf0
  v0 := Tryz.zeroValue0
  t2 := Tryz.underlying2
  a2 := Tryz.isAgg2
  z2 := Tryz.sizeOf2
  v2 := Tryz.zeroValue2
  t3 := Tryz.underlying3
  a3 := Tryz.isAgg3
  z3 := Tryz.sizeOf3
  v3 := Tryz.zeroValue3
  t4 := Tryz.underlying4
  a4 := Tryz.isAgg4
  z4 := Tryz.sizeOf4
  v4 := Tryz.zeroValue4
  t5 := Tryz.underlying5
  a5 := Tryz.isAgg5
  z5 := Tryz.sizeOf5
  v5 := Tryz.zeroValue5
  t9 := Tryz.underlying9
  a9 := Tryz.isAgg9
  z9 := Tryz.sizeOf9
  v9 := Tryz.zeroValue9
  t20 := Tryz.underlying20
  a20 := Tryz.isAgg20
  z20 := Tryz.sizeOf20
  v20 := Tryz.zeroValue20
  t21 := Tryz.underlying21
  a21 := Tryz.isAgg21
  z21 := Tryz.sizeOf21
  v21 := Tryz.zeroValue21
  t37 := Tryz.underlying22
  a37 := Tryz.isAgg22
  z37 := Tryz.sizeOf22
  v37 := Tryz.zeroValue22
  t46 := Tryz.underlying209
  a46 := Tryz.isAgg209
  z46 := Tryz.sizeOf209
  v46 := Tryz.zeroValue209
  t51 := Tryz.underlying32
  a51 := Tryz.isAgg32
  z51 := Tryz.sizeOf32
  v51 := Tryz.zeroValue32
  t53 := Tryz.underlying188
  a53 := Tryz.isAgg188
  z53 := Tryz.sizeOf188
  v53 := Tryz.zeroValue188
  t75 := Tryz.underlying76
  a75 := Tryz.isAgg76
  z75 := Tryz.sizeOf76
  v75 := Tryz.zeroValue76
  t76 := Tryz.underlying164
  a76 := Tryz.isAgg164
  z76 := Tryz.sizeOf164
  v76 := Tryz.zeroValue164
  t85 := Tryz.underlying221
  a85 := Tryz.isAgg221
  z85 := Tryz.sizeOf221
  v85 := Tryz.zeroValue221
  t127 := Tryz.underlying168
  a127 := Tryz.isAgg168
  z127 := Tryz.sizeOf168
  v127 := Tryz.zeroValue168
  t143 := Tryz.underlying140
  a143 := Tryz.isAgg140
  z143 := Tryz.sizeOf140
  v143 := Tryz.zeroValue140
  t145 := Tryz.underlying142
  a145 := Tryz.isAgg142
  z145 := Tryz.sizeOf142
  v145 := Tryz.zeroValue142
  t167 := Tryz.underlying220
  a167 := Tryz.isAgg220
  z167 := Tryz.sizeOf220
  v167 := Tryz.zeroValue220
  t168 := Tryz.underlying223
  a168 := Tryz.isAgg223
  z168 := Tryz.sizeOf223
  v168 := Tryz.zeroValue223
  t171 := Tryz.underlying187
  a171 := Tryz.isAgg187
  z171 := Tryz.sizeOf187
  v171 := Tryz.zeroValue187
  t173 := Tryz.underlying191
  a173 := Tryz.isAgg191
  z173 := Tryz.sizeOf191
  v173 := Tryz.zeroValue191
  t175 := Tryz.underlying238
  a175 := Tryz.isAgg238
  z175 := Tryz.sizeOf238
  v175 := Tryz.zeroValue238
  t210 := Tryz.underlying241
  a210 := Tryz.isAgg241
  z210 := Tryz.sizeOf241
  v210 := Tryz.zeroValue241
  t212 := Tryz.underlying207
  a212 := Tryz.isAgg207
  z212 := Tryz.sizeOf207
  v212 := Tryz.zeroValue207
  t213 := Tryz.underlying208
  a213 := Tryz.isAgg208
  z213 := Tryz.sizeOf208
  t232 := Tryz.underlying236
  a232 := Tryz.isAgg236
  z232 := Tryz.sizeOf236
  v232 := Tryz.zeroValue236
  t233 := Tryz.underlying237
  a233 := Tryz.isAgg237
  z233 := Tryz.sizeOf237
  v233 := Tryz.zeroValue237
  g15 := by kernel_rfl
  g16 := by kernel_rfl
  g17 := by kernel_rfl
  g18 := by kernel_rfl
  g19 := by kernel_rfl
  t80 := Tryz.underlying62
  a80 := Tryz.isAgg62
  z80 := Tryz.sizeOf62
  v80 := Tryz.zeroValue62
  i0 := by kernel_rfl
  i2 := by kernel_rfl
  i3 := by kernel_rfl
  i4 := by kernel_rfl
  i5 := by kernel_rfl
  i9 := by kernel_rfl
  i20 := by kernel_rfl
  i21 := by kernel_rfl
  i37 := by kernel_rfl
  i46 := by kernel_rfl
  i51 := by kernel_rfl
  i53 := by kernel_rfl
  i75 := by kernel_rfl
  i76 := by kernel_rfl
  i80 := by kernel_rfl
  i85 := by kernel_rfl
  i127 := by kernel_rfl
  i143 := by kernel_rfl
  i145 := by kernel_rfl
  i167 := by kernel_rfl
  i168 := by kernel_rfl
  i171 := by kernel_rfl
  i173 := by kernel_rfl
  i175 := by kernel_rfl
  i210 := by kernel_rfl
  i212 := by kernel_rfl
  i232 := by kernel_rfl
  i233 := by kernel_rfl
  m15 := by kernel_rfl
  m16 := by kernel_rfl
  m17 := by kernel_rfl
  m18 := by kernel_rfl
  m19 := by kernel_rfl
  c0 := by kernel_rfl
  c2 := by kernel_rfl
  c3 := by kernel_rfl
  c4 := by kernel_rfl
  c5 := by kernel_rfl
  c9 := by kernel_rfl
  c20 := by kernel_rfl
  c21 := by kernel_rfl
  c37 := by kernel_rfl
  c46 := by kernel_rfl
  c51 := by kernel_rfl
  c53 := by kernel_rfl
  c75 := by kernel_rfl
  c76 := by kernel_rfl
  c80 := by kernel_rfl
  c85 := by kernel_rfl
  c127 := by kernel_rfl
  c143 := by kernel_rfl
  c145 := by kernel_rfl
  c167 := by kernel_rfl
  c168 := by kernel_rfl
  c171 := by kernel_rfl
  c173 := by kernel_rfl
  c175 := by kernel_rfl
  c210 := by kernel_rfl
  c212 := by kernel_rfl
  c213 := by kernel_rfl
  c232 := by kernel_rfl
  c233 := by kernel_rfl }
open Go.RowKit in
theorem Tryz.strconv_Atoi_ok (s : ByteArray) (hmax : s.size ≤ 9223372036854775806) (v : Int) (h : Lib.atoiAll s.data.toList = .ok v) (w : World) :
    Calls Tryz.prog 113 #[.string s] w fun e w' => e = .returned (.tuple #[.int .i64 v, .nilIface]) ∧ (w' = w ∨ ∃ t, w' = Lib.bytesWorld w 5 t) := Any.strconv_Atoi_ok Tryz.laysC172 s hmax v h w
open Go.RowKit in
theorem Tryz.strconv_Atoi_syntax (s : ByteArray) (hlim : s.size ≤ 281474976710656) (h : Lib.atoiAll s.data.toList = Lib.atoiAll []) (ev : Value) (w : World) (hv : w.cell? ⟨6, 0, none⟩ = some ev) (hev : ev = .nilIface ∨ ∃ te pe, ev = .iface te pe) :
    Calls Tryz.prog 113 #[.string s] w fun e w' => ∃ N, e = .returned (.tuple #[.int .i64 (0), .iface 223 (.pointer (some ⟨N, 0, none⟩))]) ∧ w.heap.size ≤ N ∧ w'.heap[N]? = some (.cells #[.string ⟨#[65, 116, 111, 105]⟩, .string s, ev] 241 (0, 0)) ∧ Below w.heap.size w w' := Any.strconv_Atoi_syntax Tryz.laysC172 s hlim h ev w hv hev
open Go.RowKit in
theorem Tryz.strconv_Atoi_range (s : ByteArray) (hlim : s.size ≤ 281474976710656) (h : Lib.atoiAll s.data.toList = .range) (ev : Value) (w : World) (hv : w.cell? ⟨7, 0, none⟩ = some ev) (hev : ev = .nilIface ∨ ∃ te pe, ev = .iface te pe) :
    Calls Tryz.prog 113 #[.string s] w fun e w' => ∃ N, e = .returned (.tuple #[.int .i64 (Lib.atoiSat s.data.toList), .iface 223 (.pointer (some ⟨N, 0, none⟩))]) ∧ w.heap.size ≤ N ∧ w'.heap[N]? = some (.cells #[.string ⟨#[65, 116, 111, 105]⟩, .string s, ev] 241 (0, 0)) ∧ Below w.heap.size w w' := Any.strconv_Atoi_range Tryz.laysC172 s hlim h ev w hv hev
def Tryz.lays272_ren : Go.Shelf.Ren := ⟨fun | 272 => 126 | 315 => 140 | n => n, fun | 9 => 9 | 40 => 143 | 4 => 4 | 3 => 3 | 0 => 0 | 21 => 21 | n => n, fun | n => n⟩
theorem Tryz.lays272 : Go.Proofs.Lays.n272 Tryz.prog Tryz.lays272_ren := {
  mixed := by kernel_rfl
  f272 := Tryz.func126.trans (congrArg some (by kernel_rfl))
  f315 := Tryz.func140.trans (congrArg some (by kernel_rfl))
  t0 := Tryz.underlying0
  a0 := Tryz.isAgg0
  z0 := Tryz.sizeOf0
  v0 := Tryz.zeroValue0
  t3 := Tryz.underlying3
  a3 := Tryz.isAgg3
  z3 := Tryz.sizeOf3
  v3 := Tryz.zeroValue3
  t4 := Tryz.underlying4
  a4 := Tryz.isAgg4
  z4 := Tryz.sizeOf4
  v4 := Tryz.zeroValue4
  t9 := Tryz.underlying9
  a9 := Tryz.isAgg9
  z9 := Tryz.sizeOf9
  v9 := Tryz.zeroValue9
  t21 := Tryz.underlying21
  a21 := Tryz.isAgg21
  z21 := Tryz.sizeOf21
  v21 := Tryz.zeroValue21
  t40 := Tryz.underlying143
  a40 := Tryz.isAgg143
  z40 := Tryz.sizeOf143
  v40 := Tryz.zeroValue143 }
open Go.RowKit Go.Lib in
theorem Tryz.strings_TrimLeftFunc_runes (g : Nat) (lb : Array Value) (eg : ∀ args w, (callFunc g args).run Tryz.prog w = .ok (.enter g args) w) (p : Nat → Bool) (s : ByteArray) (w : World) (hp : PredAtRunes Tryz.prog g lb p w) :
    Calls Tryz.prog 126 #[.string s, .func (.func g) #[] lb] w fun e w' => e = .returned (.string (Lib.trimLeftF p s)) ∧ Below w.heap.size w w' := Any.strings_TrimLeftFunc_runes Tryz.lays272 g lb eg p s w hp
def Tryz.lays199_ren : Go.Shelf.Ren := ⟨fun | 199 => 127 | 261 => 141 | 311 => 151 | 312 => 152 | n => n, fun | 21 => 21 | 4 => 4 | 51 => 32 | 141 => 228 | 0 => 0 | 196 => 245 | 193 => 242 | 3 => 3 | 198 => 248 | 49 => 246 | 194 => 243 | 201 => 251 | 226 => 255 | 46 => 209 | 227 => 256 | n => n, fun | 6 => 3 | n => n⟩
theorem Tryz.lays199 : Go.Proofs.Lays.n199 Tryz.prog Tryz.lays199_ren := {
  mixed := by kernel_rfl
  f199 := Tryz.func127.trans (congrArg some (by kernel_rfl))
  f261 := Tryz.func141.trans (congrArg some (by kernel_rfl))
  f311 := Tryz.func151.trans (congrArg some (by kernel_rfl))
  f312 := Tryz.func152.trans (congrArg some (by kernel_rfl))
  t0 := Tryz.underlying0
  a0 := Tryz.isAgg0
  z0 := Tryz.sizeOf0
  v0 := Tryz.zeroValue0
  t3 := Tryz.underlying3
  a3 := Tryz.isAgg3
  z3 := Tryz.sizeOf3
  v3 := Tryz.zeroValue3
  t4 := Tryz.underlying4
  a4 := Tryz.isAgg4
  z4 := Tryz.sizeOf4
  v4 := Tryz.zeroValue4
  t21 := Tryz.underlying21
  a21 := Tryz.isAgg21
  z21 := Tryz.sizeOf21
  v21 := Tryz.zeroValue21
  t46 := Tryz.underlying209
  a46 := Tryz.isAgg209
  z46 := Tryz.sizeOf209
  v46 := Tryz.zeroValue209
  t49 := Tryz.underlying246
  a49 := Tryz.isAgg246
  z49 := Tryz.sizeOf246
  v49 := Tryz.zeroValue246
  t51 := Tryz.underlying32
  a51 := Tryz.isAgg32
  z51 := Tryz.sizeOf32
  v51 := Tryz.zeroValue32
  t141 := Tryz.underlying228
  a141 := Tryz.isAgg228
  z141 := Tryz.sizeOf228
  v141 := Tryz.zeroValue228
  t193 := Tryz.underlying242
  a193 := Tryz.isAgg242
  z193 := Tryz.sizeOf242
  v193 := Tryz.zeroValue242
  t194 := Tryz.underlying243
  a194 := Tryz.isAgg243
  z194 := Tryz.sizeOf243
  v194 := Tryz.zeroValue243
  t196 := Tryz.underlying245
  a196 := Tryz.isAgg245
  z196 := Tryz.sizeOf245
  v196 := Tryz.zeroValue245
  t198 := Tryz.underlying248
  a198 := Tryz.isAgg248
  z198 := Tryz.sizeOf248
  v198 := Tryz.zeroValue248
  t201 := Tryz.underlying251
  a201 := Tryz.isAgg251
  z201 := Tryz.sizeOf251
  v201 := Tryz.zeroValue251
  t226 := Tryz.underlying255
  a226 := Tryz.isAgg255
  z226 := Tryz.sizeOf255
  v226 := Tryz.zeroValue255
  t227 := Tryz.underlying256
  a227 := Tryz.isAgg256
  z227 := Tryz.sizeOf256
  v227 := Tryz.zeroValue256
  g6 := by kernel_rfl }
open Go.RowKit Go.Lib in
theorem Tryz.unicode_IsSpace_any (r : Int) (w : World) (hlo : -2147483648 ≤ r) (hhi : r ≤ 2147483647) (hW : Lib.WhiteTab 3 w) :
    Calls Tryz.prog 127 #[.int .i32 r] w fun e w' => e = .returned (.bool (Lib.isSpaceZ r)) ∧ Below w.heap.size w w' := Any.unicode_IsSpace_any Tryz.lays199 r w hlo hhi hW
end Go.Proofs
