/-
  DERIVED: THE SHELF's CONTRACTS AT THIS DUMP, IN PLAIN WORDS (tools/lay-plain.mjs out of 'TryzShelf.lean', which tools/lay-shelf.mjs wrote): THE SAME DECLARATIONS UNDER THE SAME NAMES: 'import', 'namespace', 'open', 'def', 'theorem' AND NOTHING ELSE: no command of the shelf's: FOR A HAND-IN. Each laying: the table of numbers ('.._ren') and one theorem, a field a fact of the dump's own or the kernel's comparison; each contract: ONE APPLICATION.
-/
import Derived.Shelf.Strings.OnBuilder
import Derived.Shelf.Strings.TrimSpace
import Derived.Shelf.LaysM
import Derived.Shelf.Strconv.Itoa3
import Derived.Shelf.Strings.Prefix
import Derived.Ground.Names2Prog
import Derived.Shelf.Slices.Clone
import Derived.Ground.SlgnProg
import Derived.Ground.PaProg
import Derived.Shelf.Path.Small
import Derived.Test.YtedniebpabfglaaGreatDoorProg
namespace Go.Proofs
open Go.Shelf
def Tryz.lays159_ren : Go.Shelf.Ren := ⟨fun | 159 => 63 | 165 => 83 | 166 => 84 | 167 => 85 | 169 => 86 | 230 => 87 | 204 => 88 | 240 => 109 | 241 => 110 | 197 => 111 | 118 => 112 | 168 => 113 | 270 => 114 | 262 => 115 | 276 => 128 | 277 => 129 | 260 => 130 | 242 => 131 | 313 => 132 | 278 => 146 | 274 => 147 | 275 => 148 | n => n, fun | 9 => 9 | 4 => 4 | 3 => 3 | 5 => 5 | 72 => 106 | 0 => 0 | 76 => 108 | 75 => 47 | 107 => 112 | 70 => 104 | 20 => 20 | 37 => 53 | 127 => 134 | 21 => 21 | 105 => 135 | 164 => 152 | 162 => 158 | 203 => 156 | 119 => 115 | 46 => 52 | 139 => 181 | 138 => 180 | 51 => 33 | 160 => 182 | 208 => 197 | 206 => 195 | 80 => 80 | n => n, fun | 13 => 6 | 3 => 8 | 4 => 9 | n => n⟩
theorem Tryz.lays159 : Go.Proofs.Lays.n159 Tryz.prog Tryz.lays159_ren := {
  mixed := by kernel_rfl
  f118 := Tryz.func112.trans (congrArg some (by kernel_rfl))
  f159 := Tryz.func63.trans (congrArg some (by kernel_rfl))
  f165 := Tryz.func83.trans (congrArg some (by kernel_rfl))
  f166 := Tryz.func84.trans (congrArg some (by kernel_rfl))
  f167 := Tryz.func85.trans (congrArg some (by kernel_rfl))
  f168 := Tryz.func113.trans (congrArg some (by kernel_rfl))
  f169 := Tryz.func86.trans (congrArg some (by kernel_rfl))
  f197 := Tryz.func111.trans (congrArg some (by kernel_rfl))
  f204 := Tryz.func88.trans (congrArg some (by kernel_rfl))
  f230 := Tryz.func87.trans (congrArg some (by kernel_rfl))
  f240 := Tryz.func109.trans (congrArg some (by kernel_rfl))
  f241 := Tryz.func110.trans (congrArg some (by kernel_rfl))
  f242 := Tryz.func131.trans (congrArg some (by kernel_rfl))
  f260 := Tryz.func130.trans (congrArg some (by kernel_rfl))
  f262 := Tryz.func115.trans (congrArg some (by kernel_rfl))
  f270 := Tryz.func114.trans (congrArg some (by kernel_rfl))
  f274 := Tryz.func147.trans (congrArg some (by kernel_rfl))
  f275 := Tryz.func148.trans (congrArg some (by kernel_rfl))
  f276 := Tryz.func128.trans (congrArg some (by kernel_rfl))
  f277 := Tryz.func129.trans (congrArg some (by kernel_rfl))
  f278 := Tryz.func146.trans (congrArg some (by kernel_rfl))
  f313 := Tryz.func132.trans (congrArg some (by kernel_rfl))
  t0 := Tryz.underlying0
  a0 := Tryz.isAgg0
  z0 := Tryz.sizeOf0
  v0 := Tryz.zeroValue0
  t3 := Tryz.underlying3
  a3 := Tryz.isAgg3
  z3 := Tryz.sizeOf3
  v3 := Tryz.zeroValue3
  t4 := Tryz.underlying4
  a4 := Tryz.isAgg4
  z4 := Tryz.sizeOf4
  v4 := Tryz.zeroValue4
  t5 := Tryz.underlying5
  a5 := Tryz.isAgg5
  z5 := Tryz.sizeOf5
  v5 := Tryz.zeroValue5
  t9 := Tryz.underlying9
  a9 := Tryz.isAgg9
  z9 := Tryz.sizeOf9
  v9 := Tryz.zeroValue9
  t20 := Tryz.underlying20
  a20 := Tryz.isAgg20
  z20 := Tryz.sizeOf20
  v20 := Tryz.zeroValue20
  t21 := Tryz.underlying21
  a21 := Tryz.isAgg21
  z21 := Tryz.sizeOf21
  v21 := Tryz.zeroValue21
  t37 := Tryz.underlying53
  a37 := Tryz.isAgg53
  z37 := Tryz.sizeOf53
  v37 := Tryz.zeroValue53
  t46 := Tryz.underlying52
  a46 := Tryz.isAgg52
  z46 := Tryz.sizeOf52
  v46 := Tryz.zeroValue52
  t51 := Tryz.underlying33
  a51 := Tryz.isAgg33
  z51 := Tryz.sizeOf33
  v51 := Tryz.zeroValue33
  t70 := Tryz.underlying104
  a70 := Tryz.isAgg104
  z70 := Tryz.sizeOf104
  v70 := Tryz.zeroValue104
  t72 := Tryz.underlying106
  a72 := Tryz.isAgg106
  z72 := Tryz.sizeOf106
  v72 := Tryz.zeroValue106
  t75 := Tryz.underlying47
  a75 := Tryz.isAgg47
  z75 := Tryz.sizeOf47
  v75 := Tryz.zeroValue47
  t76 := Tryz.underlying108
  a76 := Tryz.isAgg108
  z76 := Tryz.sizeOf108
  v76 := Tryz.zeroValue108
  t105 := Tryz.underlying135
  a105 := Tryz.isAgg135
  z105 := Tryz.sizeOf135
  v105 := Tryz.zeroValue135
  t107 := Tryz.underlying112
  a107 := Tryz.isAgg112
  z107 := Tryz.sizeOf112
  v107 := Tryz.zeroValue112
  t119 := Tryz.underlying115
  a119 := Tryz.isAgg115
  z119 := Tryz.sizeOf115
  t127 := Tryz.underlying134
  a127 := Tryz.isAgg134
  z127 := Tryz.sizeOf134
  v127 := Tryz.zeroValue134
  t138 := Tryz.underlying180
  a138 := Tryz.isAgg180
  z138 := Tryz.sizeOf180
  v138 := Tryz.zeroValue180
  t139 := Tryz.underlying181
  a139 := Tryz.isAgg181
  z139 := Tryz.sizeOf181
  v139 := Tryz.zeroValue181
  t160 := Tryz.underlying182
  a160 := Tryz.isAgg182
  z160 := Tryz.sizeOf182
  v160 := Tryz.zeroValue182
  t162 := Tryz.underlying158
  a162 := Tryz.isAgg158
  z162 := Tryz.sizeOf158
  v162 := Tryz.zeroValue158
  t164 := Tryz.underlying152
  a164 := Tryz.isAgg152
  z164 := Tryz.sizeOf152
  v164 := Tryz.zeroValue152
  t203 := Tryz.underlying156
  a203 := Tryz.isAgg156
  z203 := Tryz.sizeOf156
  v203 := Tryz.zeroValue156
  t206 := Tryz.underlying195
  a206 := Tryz.isAgg195
  z206 := Tryz.sizeOf195
  v206 := Tryz.zeroValue195
  t208 := Tryz.underlying197
  a208 := Tryz.isAgg197
  z208 := Tryz.sizeOf197
  v208 := Tryz.zeroValue197
  g3 := by kernel_rfl
  g4 := by kernel_rfl
  g13 := by kernel_rfl }
theorem Tryz.Builder_Extra_159 : Builder.Extra Tryz.prog Tryz.lays159_ren := {
  sizeBuilder := by kernel_rfl
  liesBuilder := by kernel_rfl
  t5 := Tryz.underlying5
  a5 := Tryz.isAgg5
  z5 := Tryz.sizeOf5
  v5 := Tryz.zeroValue5
  infoByte := by kernel_rfl
  cellsByte := by kernel_rfl
  sizeByte := by kernel_rfl
  neB5 := by decide }
open Go.RowKit in
/-- strings.ToLower: "ToLower returns s with all Unicode letters mapped to their lower case.": ON ASCII TEXT OF AT MOST 2^47 BYTES. Below the heap's end the world is as it was: where a letter turns, the call makes a builder and its buffer. (LAID: no walk: one application.) -/
theorem Tryz.strings_ToLower_ascii (s : ByteArray) (w : World) (hs : s.size ≤ 140737488355328) (hascii : ∀ (j : Nat) (b : UInt8), s.data.toList[j]? = some b → b.toNat < 128) :
    Calls Tryz.prog 63 #[.string s] w fun e w' => e = .returned (.string ⟨(Lib.toLowerA s.data.toList).toArray⟩) ∧ Below w.heap.size w w' := Any.strings_ToLower_ascii Tryz.lays159 Tryz.Builder_Extra_159 s w hs hascii
def Tryz.lays163_ren : Go.Shelf.Ren := ⟨fun | 163 => 64 | 237 => 89 | 199 => 90 | 238 => 91 | 272 => 116 | 261 => 117 | 273 => 118 | 197 => 111 | 315 => 133 | 311 => 134 | 312 => 135 | 271 => 136 | 260 => 130 | 120 => 149 | n => n, fun | 9 => 9 | 37 => 53 | 3 => 3 | 0 => 0 | 5 => 5 | 4 => 4 | 40 => 114 | 119 => 115 | 21 => 21 | 51 => 33 | 141 => 141 | 105 => 135 | 196 => 162 | 193 => 159 | 198 => 165 | 49 => 163 | 194 => 160 | 201 => 168 | 226 => 185 | 46 => 52 | 227 => 186 | 139 => 181 | 138 => 180 | n => n, fun | 0 => 0 | 6 => 4 | 3 => 8 | 4 => 9 | n => n⟩
theorem Tryz.lays163 : Go.Proofs.Lays.n163 Tryz.prog Tryz.lays163_ren := {
  mixed := by kernel_rfl
  f120 := Tryz.func149.trans (congrArg some (by kernel_rfl))
  f163 := Tryz.func64.trans (congrArg some (by kernel_rfl))
  f197 := Tryz.func111.trans (congrArg some (by kernel_rfl))
  f199 := Tryz.func90.trans (congrArg some (by kernel_rfl))
  f237 := Tryz.func89.trans (congrArg some (by kernel_rfl))
  f238 := Tryz.func91.trans (congrArg some (by kernel_rfl))
  f260 := Tryz.func130.trans (congrArg some (by kernel_rfl))
  f261 := Tryz.func117.trans (congrArg some (by kernel_rfl))
  f271 := Tryz.func136.trans (congrArg some (by kernel_rfl))
  f272 := Tryz.func116.trans (congrArg some (by kernel_rfl))
  f273 := Tryz.func118.trans (congrArg some (by kernel_rfl))
  f311 := Tryz.func134.trans (congrArg some (by kernel_rfl))
  f312 := Tryz.func135.trans (congrArg some (by kernel_rfl))
  f315 := Tryz.func133.trans (congrArg some (by kernel_rfl))
  t0 := Tryz.underlying0
  a0 := Tryz.isAgg0
  z0 := Tryz.sizeOf0
  v0 := Tryz.zeroValue0
  t3 := Tryz.underlying3
  a3 := Tryz.isAgg3
  z3 := Tryz.sizeOf3
  v3 := Tryz.zeroValue3
  t4 := Tryz.underlying4
  a4 := Tryz.isAgg4
  z4 := Tryz.sizeOf4
  v4 := Tryz.zeroValue4
  t5 := Tryz.underlying5
  a5 := Tryz.isAgg5
  z5 := Tryz.sizeOf5
  v5 := Tryz.zeroValue5
  t9 := Tryz.underlying9
  a9 := Tryz.isAgg9
  z9 := Tryz.sizeOf9
  v9 := Tryz.zeroValue9
  t21 := Tryz.underlying21
  a21 := Tryz.isAgg21
  z21 := Tryz.sizeOf21
  v21 := Tryz.zeroValue21
  t37 := Tryz.underlying53
  a37 := Tryz.isAgg53
  z37 := Tryz.sizeOf53
  v37 := Tryz.zeroValue53
  t40 := Tryz.underlying114
  a40 := Tryz.isAgg114
  z40 := Tryz.sizeOf114
  v40 := Tryz.zeroValue114
  t46 := Tryz.underlying52
  a46 := Tryz.isAgg52
  z46 := Tryz.sizeOf52
  v46 := Tryz.zeroValue52
  t49 := Tryz.underlying163
  a49 := Tryz.isAgg163
  z49 := Tryz.sizeOf163
  v49 := Tryz.zeroValue163
  t51 := Tryz.underlying33
  a51 := Tryz.isAgg33
  z51 := Tryz.sizeOf33
  v51 := Tryz.zeroValue33
  t105 := Tryz.underlying135
  a105 := Tryz.isAgg135
  z105 := Tryz.sizeOf135
  v105 := Tryz.zeroValue135
  t119 := Tryz.underlying115
  a119 := Tryz.isAgg115
  z119 := Tryz.sizeOf115
  t138 := Tryz.underlying180
  a138 := Tryz.isAgg180
  z138 := Tryz.sizeOf180
  v138 := Tryz.zeroValue180
  t139 := Tryz.underlying181
  a139 := Tryz.isAgg181
  z139 := Tryz.sizeOf181
  v139 := Tryz.zeroValue181
  t141 := Tryz.underlying141
  a141 := Tryz.isAgg141
  z141 := Tryz.sizeOf141
  v141 := Tryz.zeroValue141
  t193 := Tryz.underlying159
  a193 := Tryz.isAgg159
  z193 := Tryz.sizeOf159
  v193 := Tryz.zeroValue159
  t194 := Tryz.underlying160
  a194 := Tryz.isAgg160
  z194 := Tryz.sizeOf160
  v194 := Tryz.zeroValue160
  t196 := Tryz.underlying162
  a196 := Tryz.isAgg162
  z196 := Tryz.sizeOf162
  v196 := Tryz.zeroValue162
  t198 := Tryz.underlying165
  a198 := Tryz.isAgg165
  z198 := Tryz.sizeOf165
  v198 := Tryz.zeroValue165
  t201 := Tryz.underlying168
  a201 := Tryz.isAgg168
  z201 := Tryz.sizeOf168
  v201 := Tryz.zeroValue168
  t226 := Tryz.underlying185
  a226 := Tryz.isAgg185
  z226 := Tryz.sizeOf185
  v226 := Tryz.zeroValue185
  t227 := Tryz.underlying186
  a227 := Tryz.isAgg186
  z227 := Tryz.sizeOf186
  v227 := Tryz.zeroValue186
  g0 := by kernel_rfl
  g3 := by kernel_rfl
  g4 := by kernel_rfl
  g6 := by kernel_rfl }
theorem Tryz.Space_Extra_163 : Space.Extra Tryz.prog Tryz.lays163_ren := {
  gNamed := by kernel_rfl }
open Go.RowKit in
theorem Tryz.strings_TrimSpace (s : ByteArray) (w : World) (hs : s.size ≤ 9223372036854775807) (hascii : ∀ (j : Nat) b, s.data.toList[j]? = some b → b.toNat < 128) (htab : Lib.TabIs Tryz.prog w "strings.asciiSpace" .u8 Lib.asciiSpaceTab) :
    Calls Tryz.prog 64 #[.string s] w fun e w' => e = .returned (.string ⟨(Lib.trimSpace s.data.toList).toArray⟩) ∧ w' = Lib.bytesWorld w 5 s := Any.strings_TrimSpace Tryz.lays163 Tryz.Space_Extra_163 s w hs hascii htab
def Tryz.lays243_ren : Go.Shelf.Ren := ⟨fun | 243 => 108 | 246 => 127 | 283 => 142 | 284 => 143 | 285 => 144 | 286 => 145 | 129 => 155 | 317 => 154 | 318 => 156 | 319 => 157 | 320 => 158 | 337 => 164 | 338 => 165 | n => n, fun | 3 => 3 | 9 => 9 | 2 => 2 | 4 => 4 | 171 => 175 | 0 => 0 | 53 => 70 | 37 => 53 | 5 => 5 | 173 => 177 | 212 => 190 | 51 => 33 | 20 => 20 | 213 => 191 | 46 => 52 | 232 => 206 | 233 => 207 | n => n, fun | 17 => 10 | 18 => 11 | 19 => 12 | n => n⟩
theorem Tryz.lays243 : Go.Proofs.Lays.n243 Tryz.prog Tryz.lays243_ren := {
  mixed := by kernel_rfl
  f129 := Tryz.func155.trans (congrArg some (by kernel_rfl))
  f243 := Tryz.func108.trans (congrArg some (by kernel_rfl))
  f246 := Tryz.func127.trans (congrArg some (by kernel_rfl))
  f283 := Tryz.func142.trans (congrArg some (by kernel_rfl))
  f284 := Tryz.func143.trans (congrArg some (by kernel_rfl))
  f285 := Tryz.func144.trans (congrArg some (by kernel_rfl))
  f286 := Tryz.func145.trans (congrArg some (by kernel_rfl))
  f317 := Tryz.func154.trans (congrArg some (by kernel_rfl))
  f318 := Tryz.func156.trans (congrArg some (by kernel_rfl))
  f319 := Tryz.func157.trans (congrArg some (by kernel_rfl))
  f320 := Tryz.func158.trans (congrArg some (by kernel_rfl))
  f337 := Tryz.func164.trans (congrArg some (by kernel_rfl))
  f338 := Tryz.func165.trans (congrArg some (by kernel_rfl))
  t0 := Tryz.underlying0
  a0 := Tryz.isAgg0
  z0 := Tryz.sizeOf0
  v0 := Tryz.zeroValue0
  t2 := Tryz.underlying2
  a2 := Tryz.isAgg2
  z2 := Tryz.sizeOf2
  v2 := Tryz.zeroValue2
  t3 := Tryz.underlying3
  a3 := Tryz.isAgg3
  z3 := Tryz.sizeOf3
  v3 := Tryz.zeroValue3
  t4 := Tryz.underlying4
  a4 := Tryz.isAgg4
  z4 := Tryz.sizeOf4
  v4 := Tryz.zeroValue4
  t5 := Tryz.underlying5
  a5 := Tryz.isAgg5
  z5 := Tryz.sizeOf5
  v5 := Tryz.zeroValue5
  t9 := Tryz.underlying9
  a9 := Tryz.isAgg9
  z9 := Tryz.sizeOf9
  v9 := Tryz.zeroValue9
  t20 := Tryz.underlying20
  a20 := Tryz.isAgg20
  z20 := Tryz.sizeOf20
  v20 := Tryz.zeroValue20
  t37 := Tryz.underlying53
  a37 := Tryz.isAgg53
  z37 := Tryz.sizeOf53
  v37 := Tryz.zeroValue53
  t46 := Tryz.underlying52
  a46 := Tryz.isAgg52
  z46 := Tryz.sizeOf52
  v46 := Tryz.zeroValue52
  t51 := Tryz.underlying33
  a51 := Tryz.isAgg33
  z51 := Tryz.sizeOf33
  v51 := Tryz.zeroValue33
  t53 := Tryz.underlying70
  a53 := Tryz.isAgg70
  z53 := Tryz.sizeOf70
  v53 := Tryz.zeroValue70
  t171 := Tryz.underlying175
  a171 := Tryz.isAgg175
  z171 := Tryz.sizeOf175
  v171 := Tryz.zeroValue175
  t173 := Tryz.underlying177
  a173 := Tryz.isAgg177
  z173 := Tryz.sizeOf177
  v173 := Tryz.zeroValue177
  t212 := Tryz.underlying190
  a212 := Tryz.isAgg190
  z212 := Tryz.sizeOf190
  v212 := Tryz.zeroValue190
  t213 := Tryz.underlying191
  a213 := Tryz.isAgg191
  z213 := Tryz.sizeOf191
  t232 := Tryz.underlying206
  a232 := Tryz.isAgg206
  z232 := Tryz.sizeOf206
  v232 := Tryz.zeroValue206
  t233 := Tryz.underlying207
  a233 := Tryz.isAgg207
  z233 := Tryz.sizeOf207
  v233 := Tryz.zeroValue207
  g17 := by kernel_rfl
  g18 := by kernel_rfl
  g19 := by kernel_rfl }
open Go.RowKit Go.Sort Go.Lib in
/-- THE ROAD WITHOUT THE TABLE: 0 <= i < 100. (LAID: no walk: one application.) -/
theorem Tryz.internal_strconv_Itoa_small (i : Nat) (hi : i < 100) (w : World) :
    Calls Tryz.prog 108 #[.int .i64 i] w fun e w' => e = .returned (.string ⟨(Lib.decDigits i).toArray⟩) ∧ w' = w := Any.internal_strconv_Itoa_small Tryz.lays243 i hi w
def Tryz.lays99_ren : Go.Shelf.Ren := ⟨fun | 99 => 66 | 206 => 93 | n => n, fun | 9 => 9 | 4 => 4 | 3 => 3 | n => n, fun | n => n⟩
theorem Tryz.lays99 : Go.Proofs.Lays.n99 Tryz.prog Tryz.lays99_ren := {
  mixed := by kernel_rfl
  f99 := Tryz.func66.trans (congrArg some (by kernel_rfl))
  f206 := Tryz.func93.trans (congrArg some (by kernel_rfl))
  t3 := Tryz.underlying3
  a3 := Tryz.isAgg3
  z3 := Tryz.sizeOf3
  v3 := Tryz.zeroValue3
  t4 := Tryz.underlying4
  a4 := Tryz.isAgg4
  z4 := Tryz.sizeOf4
  v4 := Tryz.zeroValue4
  t9 := Tryz.underlying9
  a9 := Tryz.isAgg9
  z9 := Tryz.sizeOf9
  v9 := Tryz.zeroValue9 }
open Go.RowKit Go.Lib in
/-- strings.HasPrefix: "HasPrefix reports whether the string s begins with prefix.": IT RETURNS 'Lib.hasPrefix s prefix'; the world is as it was. (LAID: no walk: one application.) -/
theorem Tryz.strings_HasPrefix (s p : ByteArray) (w : World) :
    Calls Tryz.prog 66 #[.string s, .string p] w fun e w' => e = .returned (.bool (Lib.hasPrefix s.data.toList p.data.toList)) ∧ w' = w := Any.strings_HasPrefix Tryz.lays99 s p w
def Tryz.laysNm216_ren : Go.Shelf.Ren := ⟨fun | 16 => 23 | n => n, fun | 24 => 22 | 9 => 9 | 4 => 4 | n => n, fun | n => n⟩
theorem Tryz.laysNm216 : Go.Proofs.Lays2.n16 Tryz.prog Tryz.laysNm216_ren := {
  mixed := by kernel_rfl
  f16 := Tryz.func23.trans (congrArg some (by kernel_rfl))
  t4 := Tryz.underlying4
  a4 := Tryz.isAgg4
  z4 := Tryz.sizeOf4
  v4 := Tryz.zeroValue4
  t9 := Tryz.underlying9
  a9 := Tryz.isAgg9
  z9 := Tryz.sizeOf9
  v9 := Tryz.zeroValue9
  t24 := Tryz.underlying22
  a24 := Tryz.isAgg22
  z24 := Tryz.sizeOf22
  v24 := Tryz.zeroValue22
  i9 := by kernel_rfl }
open Go.RowKit Go.Lib in
/-- slices.Clone at []string: "Clone returns a copy of the slice. The elements are copied using assignment, so this is a shallow clone. The result may have additional unused capacity. The result preserves the nilness of s.": OF A SLICE THAT IS NOT nil IT RETURNS A SLICE THAT IS NOT nil, OF THE SAME ELEMENTS, IN MEMORY OF THE CALL's OWN: in the how-to's words (6f): 'w'.ownsRow B e 1 v' n cells': v' begins at the head of a row among the blocks from B on (B: the heap's size at the call), not frozen, whose first cells are the elements · 'Below B w w'': below B all is as it was. The capacity is whatever the run-time gives. 'zs': what the cells behind the slice's address hold; 'zs.take n': its elements. (LAID: no walk: one application.) -/
theorem Tryz.slices_Clone_string (b off n c : Nat) (zs : List ByteArray) (w : World) (hz : n ≤ zs.length) (hbig : n * 16 ≤ 140737488355328) (hc : ∀ j, j < zs.length → w.cell? ⟨b, off + j, none⟩ = some (.string (zs.getD j ByteArray.empty))) :
    Calls Tryz.prog 23 #[.slice (some ⟨b, off, none⟩) n c] w fun e w' => ∃ v', e = .returned v' ∧ w'.ownsRow w.heap.size 9 1 v' n ((zs.take n).map (Value.string)) ∧ v' ≠ .slice none 0 0 ∧ Below w.heap.size w w' := Any.slices_Clone_string Tryz.laysNm216 b off n c zs w hz hbig hc
open Go.RowKit Go.Lib in
/-- The same at nil: nil comes back; the world is as it was. (LAID: no walk: one application.) -/
theorem Tryz.slices_Clone_string_nil (n c : Nat) (w : World) :
    Calls Tryz.prog 23 #[.slice none n c] w fun e w' => e = .returned (.slice none 0 0) ∧ w' = w := Any.slices_Clone_string_nil Tryz.laysNm216 n c w
open Go.RowKit Go.Lib in
/-- The same at a slice of length 0 that is not nil, WHATEVER ITS ADDRESS (no cell is asked for): a slice that is not nil and owns nothing comes back. (LAID: no walk: one application.) -/
theorem Tryz.slices_Clone_string_zero (a : Addr) (c : Nat) (w : World) :
    Calls Tryz.prog 23 #[.slice (some a) 0 c] w fun e w' => ∃ v', e = .returned v' ∧ w'.ownsRow w.heap.size 9 1 v' 0 [] ∧ v' ≠ .slice none 0 0 ∧ Below w.heap.size w w' := Any.slices_Clone_string_zero Tryz.laysNm216 a c w
def Tryz.laysPa45_ren : Go.Shelf.Ren := ⟨fun | 45 => 102 | n => n, fun | 9 => 9 | 5 => 5 | 3 => 3 | 4 => 4 | n => n, fun | n => n⟩
theorem Tryz.laysPa45 : Go.Proofs.Lays.p45 Tryz.prog Tryz.laysPa45_ren := {
  mixed := by kernel_rfl
  f45 := Tryz.func102.trans (congrArg some (by kernel_rfl))
  t3 := Tryz.underlying3
  a3 := Tryz.isAgg3
  z3 := Tryz.sizeOf3
  v3 := Tryz.zeroValue3
  t4 := Tryz.underlying4
  a4 := Tryz.isAgg4
  z4 := Tryz.sizeOf4
  v4 := Tryz.zeroValue4
  t5 := Tryz.underlying5
  a5 := Tryz.isAgg5
  z5 := Tryz.sizeOf5
  v5 := Tryz.zeroValue5
  t9 := Tryz.underlying9
  a9 := Tryz.isAgg9
  z9 := Tryz.sizeOf9
  v9 := Tryz.zeroValue9 }
open Go.RowKit Go.Lib in
/-- internal/bytealg.LastIndexByteString (what strings.LastIndexByte calls: "LastIndexByte returns the index of the last instance of c in s, or -1 if c is not present in s."): IT RETURNS 'Pa.lastIndexByte s c'; the world is as it was. (LAID: no walk: one application.) -/
theorem Tryz.bytealg_LastIndexByteString (s : ByteArray) (c : UInt8) (w : World) (hs : s.size ≤ 9223372036854775807) :
    Calls Tryz.prog 102 #[.string s, .int .u8 c.toNat] w fun e w' => e = .returned (.int .i64 (Pa.lastIndexByte s.data.toList c)) ∧ w' = w := Any.bytealg_LastIndexByteString Tryz.laysPa45 s c w hs
end Go.Proofs
