/-
  DERIVED: THE SHELF's CONTRACTS AT THIS DUMP, IN PLAIN WORDS (tools/lay-plain.mjs out of 'TryzShelf.lean', which tools/lay-shelf.mjs wrote): THE SAME DECLARATIONS UNDER THE SAME NAMES: 'import', 'namespace', 'open', 'def', 'theorem' AND NOTHING ELSE: no command of the shelf's: FOR A HAND-IN. Each laying: the table of numbers ('.._ren') and one theorem, a field a fact of the dump's own or the kernel's comparison; each contract: ONE APPLICATION.
-/
import Derived.Shelf.Strings.OnBuilder
import Derived.Shelf.Strings.TrimSpace
import Derived.Shelf.LaysM
import Derived.Shelf.Strconv.Itoa3
import Derived.Shelf.Strings.Prefix
import Derived.Shelf.Strings.Fold
import Derived.Ground.Names2Prog
import Derived.Shelf.Slices.Clone
import Derived.Ground.SlgnProg
import Derived.Ground.PaProg
import Derived.Shelf.Path.Small
import Derived.Test.YtnefafkdfcmmfaaGreatDoorProg
namespace Go.Proofs
open Go.Shelf
def Tryz.lays159_ren : Go.Shelf.Ren := ⟨fun | 159 => 123 | 165 => 143 | 166 => 144 | 167 => 145 | 169 => 146 | 230 => 147 | 204 => 148 | 240 => 171 | 241 => 172 | 197 => 166 | 118 => 173 | 168 => 174 | 270 => 175 | 262 => 176 | 276 => 194 | 277 => 195 | 260 => 187 | 242 => 196 | 313 => 197 | 278 => 214 | 274 => 188 | 275 => 189 | n => n, fun | 9 => 9 | 4 => 4 | 3 => 3 | 5 => 5 | 72 => 156 | 0 => 0 | 76 => 158 | 75 => 47 | 107 => 162 | 70 => 154 | 20 => 20 | 37 => 51 | 127 => 188 | 21 => 21 | 105 => 184 | 164 => 211 | 162 => 209 | 203 => 215 | 119 => 165 | 46 => 87 | 139 => 235 | 138 => 234 | 51 => 65 | 160 => 207 | 208 => 239 | 206 => 237 | 80 => 106 | n => n, fun | 13 => 8 | 3 => 10 | 4 => 11 | n => n⟩
theorem Tryz.lays159 : Go.Proofs.Lays.n159 Tryz.prog Tryz.lays159_ren := {
  mixed := by kernel_rfl
  f118 := Tryz.func173.trans (congrArg some (by kernel_rfl))
  f159 := Tryz.func123.trans (congrArg some (by kernel_rfl))
  f165 := Tryz.func143.trans (congrArg some (by kernel_rfl))
  f166 := Tryz.func144.trans (congrArg some (by kernel_rfl))
  f167 := Tryz.func145.trans (congrArg some (by kernel_rfl))
  f168 := Tryz.func174.trans (congrArg some (by kernel_rfl))
  f169 := Tryz.func146.trans (congrArg some (by kernel_rfl))
  f197 := Tryz.func166.trans (congrArg some (by kernel_rfl))
  f204 := Tryz.func148.trans (congrArg some (by kernel_rfl))
  f230 := Tryz.func147.trans (congrArg some (by kernel_rfl))
  f240 := Tryz.func171.trans (congrArg some (by kernel_rfl))
  f241 := Tryz.func172.trans (congrArg some (by kernel_rfl))
  f242 := Tryz.func196.trans (congrArg some (by kernel_rfl))
  f260 := Tryz.func187.trans (congrArg some (by kernel_rfl))
  f262 := Tryz.func176.trans (congrArg some (by kernel_rfl))
  f270 := Tryz.func175.trans (congrArg some (by kernel_rfl))
  f274 := Tryz.func188.trans (congrArg some (by kernel_rfl))
  f275 := Tryz.func189.trans (congrArg some (by kernel_rfl))
  f276 := Tryz.func194.trans (congrArg some (by kernel_rfl))
  f277 := Tryz.func195.trans (congrArg some (by kernel_rfl))
  f278 := Tryz.func214.trans (congrArg some (by kernel_rfl))
  f313 := Tryz.func197.trans (congrArg some (by kernel_rfl))
  t0 := Tryz.underlying0
  a0 := Tryz.isAgg0
  z0 := Tryz.sizeOf0
  v0 := Tryz.zeroValue0
  t3 := Tryz.underlying3
  a3 := Tryz.isAgg3
  z3 := Tryz.sizeOf3
  v3 := Tryz.zeroValue3
  t4 := Tryz.underlying4
  a4 := Tryz.isAgg4
  z4 := Tryz.sizeOf4
  v4 := Tryz.zeroValue4
  t5 := Tryz.underlying5
  a5 := Tryz.isAgg5
  z5 := Tryz.sizeOf5
  v5 := Tryz.zeroValue5
  t9 := Tryz.underlying9
  a9 := Tryz.isAgg9
  z9 := Tryz.sizeOf9
  v9 := Tryz.zeroValue9
  t20 := Tryz.underlying20
  a20 := Tryz.isAgg20
  z20 := Tryz.sizeOf20
  v20 := Tryz.zeroValue20
  t21 := Tryz.underlying21
  a21 := Tryz.isAgg21
  z21 := Tryz.sizeOf21
  v21 := Tryz.zeroValue21
  t37 := Tryz.underlying51
  a37 := Tryz.isAgg51
  z37 := Tryz.sizeOf51
  v37 := Tryz.zeroValue51
  t46 := Tryz.underlying87
  a46 := Tryz.isAgg87
  z46 := Tryz.sizeOf87
  v46 := Tryz.zeroValue87
  t51 := Tryz.underlying65
  a51 := Tryz.isAgg65
  z51 := Tryz.sizeOf65
  v51 := Tryz.zeroValue65
  t70 := Tryz.underlying154
  a70 := Tryz.isAgg154
  z70 := Tryz.sizeOf154
  v70 := Tryz.zeroValue154
  t72 := Tryz.underlying156
  a72 := Tryz.isAgg156
  z72 := Tryz.sizeOf156
  v72 := Tryz.zeroValue156
  t75 := Tryz.underlying47
  a75 := Tryz.isAgg47
  z75 := Tryz.sizeOf47
  v75 := Tryz.zeroValue47
  t76 := Tryz.underlying158
  a76 := Tryz.isAgg158
  z76 := Tryz.sizeOf158
  v76 := Tryz.zeroValue158
  t105 := Tryz.underlying184
  a105 := Tryz.isAgg184
  z105 := Tryz.sizeOf184
  v105 := Tryz.zeroValue184
  t107 := Tryz.underlying162
  a107 := Tryz.isAgg162
  z107 := Tryz.sizeOf162
  v107 := Tryz.zeroValue162
  t119 := Tryz.underlying165
  a119 := Tryz.isAgg165
  z119 := Tryz.sizeOf165
  t127 := Tryz.underlying188
  a127 := Tryz.isAgg188
  z127 := Tryz.sizeOf188
  v127 := Tryz.zeroValue188
  t138 := Tryz.underlying234
  a138 := Tryz.isAgg234
  z138 := Tryz.sizeOf234
  v138 := Tryz.zeroValue234
  t139 := Tryz.underlying235
  a139 := Tryz.isAgg235
  z139 := Tryz.sizeOf235
  v139 := Tryz.zeroValue235
  t160 := Tryz.underlying207
  a160 := Tryz.isAgg207
  z160 := Tryz.sizeOf207
  v160 := Tryz.zeroValue207
  t162 := Tryz.underlying209
  a162 := Tryz.isAgg209
  z162 := Tryz.sizeOf209
  v162 := Tryz.zeroValue209
  t164 := Tryz.underlying211
  a164 := Tryz.isAgg211
  z164 := Tryz.sizeOf211
  v164 := Tryz.zeroValue211
  t203 := Tryz.underlying215
  a203 := Tryz.isAgg215
  z203 := Tryz.sizeOf215
  v203 := Tryz.zeroValue215
  t206 := Tryz.underlying237
  a206 := Tryz.isAgg237
  z206 := Tryz.sizeOf237
  v206 := Tryz.zeroValue237
  t208 := Tryz.underlying239
  a208 := Tryz.isAgg239
  z208 := Tryz.sizeOf239
  v208 := Tryz.zeroValue239
  g3 := by kernel_rfl
  g4 := by kernel_rfl
  g13 := by kernel_rfl }
theorem Tryz.Builder_Extra_159 : Builder.Extra Tryz.prog Tryz.lays159_ren := {
  sizeBuilder := by kernel_rfl
  liesBuilder := by kernel_rfl
  t5 := Tryz.underlying5
  a5 := Tryz.isAgg5
  z5 := Tryz.sizeOf5
  v5 := Tryz.zeroValue5
  infoByte := by kernel_rfl
  cellsByte := by kernel_rfl
  sizeByte := by kernel_rfl
  neB5 := by decide }
open Go.RowKit in
/-- strings.ToLower: "ToLower returns s with all Unicode letters mapped to their lower case.": ON ASCII TEXT OF AT MOST 2^47 BYTES. Below the heap's end the world is as it was: where a letter turns, the call makes a builder and its buffer. (LAID: no walk: one application.) -/
theorem Tryz.strings_ToLower_ascii (s : ByteArray) (w : World) (hs : s.size ≤ 140737488355328) (hascii : ∀ (j : Nat) (b : UInt8), s.data.toList[j]? = some b → b.toNat < 128) :
    Calls Tryz.prog 123 #[.string s] w fun e w' => e = .returned (.string ⟨(Lib.toLowerA s.data.toList).toArray⟩) ∧ Below w.heap.size w w' := Any.strings_ToLower_ascii Tryz.lays159 Tryz.Builder_Extra_159 s w hs hascii
def Tryz.lays163_ren : Go.Shelf.Ren := ⟨fun | 163 => 124 | 237 => 149 | 199 => 150 | 238 => 151 | 272 => 177 | 261 => 178 | 273 => 179 | 197 => 166 | 315 => 198 | 311 => 199 | 312 => 200 | 271 => 201 | 260 => 187 | 120 => 215 | n => n, fun | 9 => 9 | 37 => 51 | 3 => 3 | 0 => 0 | 5 => 5 | 4 => 4 | 40 => 164 | 119 => 165 | 21 => 21 | 51 => 65 | 141 => 193 | 105 => 184 | 196 => 220 | 193 => 217 | 198 => 222 | 49 => 202 | 194 => 218 | 201 => 225 | 226 => 244 | 46 => 87 | 227 => 245 | 139 => 235 | 138 => 234 | n => n, fun | 0 => 0 | 6 => 4 | 3 => 10 | 4 => 11 | n => n⟩
theorem Tryz.lays163 : Go.Proofs.Lays.n163 Tryz.prog Tryz.lays163_ren := {
  mixed := by kernel_rfl
  f120 := Tryz.func215.trans (congrArg some (by kernel_rfl))
  f163 := Tryz.func124.trans (congrArg some (by kernel_rfl))
  f197 := Tryz.func166.trans (congrArg some (by kernel_rfl))
  f199 := Tryz.func150.trans (congrArg some (by kernel_rfl))
  f237 := Tryz.func149.trans (congrArg some (by kernel_rfl))
  f238 := Tryz.func151.trans (congrArg some (by kernel_rfl))
  f260 := Tryz.func187.trans (congrArg some (by kernel_rfl))
  f261 := Tryz.func178.trans (congrArg some (by kernel_rfl))
  f271 := Tryz.func201.trans (congrArg some (by kernel_rfl))
  f272 := Tryz.func177.trans (congrArg some (by kernel_rfl))
  f273 := Tryz.func179.trans (congrArg some (by kernel_rfl))
  f311 := Tryz.func199.trans (congrArg some (by kernel_rfl))
  f312 := Tryz.func200.trans (congrArg some (by kernel_rfl))
  f315 := Tryz.func198.trans (congrArg some (by kernel_rfl))
  t0 := Tryz.underlying0
  a0 := Tryz.isAgg0
  z0 := Tryz.sizeOf0
  v0 := Tryz.zeroValue0
  t3 := Tryz.underlying3
  a3 := Tryz.isAgg3
  z3 := Tryz.sizeOf3
  v3 := Tryz.zeroValue3
  t4 := Tryz.underlying4
  a4 := Tryz.isAgg4
  z4 := Tryz.sizeOf4
  v4 := Tryz.zeroValue4
  t5 := Tryz.underlying5
  a5 := Tryz.isAgg5
  z5 := Tryz.sizeOf5
  v5 := Tryz.zeroValue5
  t9 := Tryz.underlying9
  a9 := Tryz.isAgg9
  z9 := Tryz.sizeOf9
  v9 := Tryz.zeroValue9
  t21 := Tryz.underlying21
  a21 := Tryz.isAgg21
  z21 := Tryz.sizeOf21
  v21 := Tryz.zeroValue21
  t37 := Tryz.underlying51
  a37 := Tryz.isAgg51
  z37 := Tryz.sizeOf51
  v37 := Tryz.zeroValue51
  t40 := Tryz.underlying164
  a40 := Tryz.isAgg164
  z40 := Tryz.sizeOf164
  v40 := Tryz.zeroValue164
  t46 := Tryz.underlying87
  a46 := Tryz.isAgg87
  z46 := Tryz.sizeOf87
  v46 := Tryz.zeroValue87
  t49 := Tryz.underlying202
  a49 := Tryz.isAgg202
  z49 := Tryz.sizeOf202
  v49 := Tryz.zeroValue202
  t51 := Tryz.underlying65
  a51 := Tryz.isAgg65
  z51 := Tryz.sizeOf65
  v51 := Tryz.zeroValue65
  t105 := Tryz.underlying184
  a105 := Tryz.isAgg184
  z105 := Tryz.sizeOf184
  v105 := Tryz.zeroValue184
  t119 := Tryz.underlying165
  a119 := Tryz.isAgg165
  z119 := Tryz.sizeOf165
  t138 := Tryz.underlying234
  a138 := Tryz.isAgg234
  z138 := Tryz.sizeOf234
  v138 := Tryz.zeroValue234
  t139 := Tryz.underlying235
  a139 := Tryz.isAgg235
  z139 := Tryz.sizeOf235
  v139 := Tryz.zeroValue235
  t141 := Tryz.underlying193
  a141 := Tryz.isAgg193
  z141 := Tryz.sizeOf193
  v141 := Tryz.zeroValue193
  t193 := Tryz.underlying217
  a193 := Tryz.isAgg217
  z193 := Tryz.sizeOf217
  v193 := Tryz.zeroValue217
  t194 := Tryz.underlying218
  a194 := Tryz.isAgg218
  z194 := Tryz.sizeOf218
  v194 := Tryz.zeroValue218
  t196 := Tryz.underlying220
  a196 := Tryz.isAgg220
  z196 := Tryz.sizeOf220
  v196 := Tryz.zeroValue220
  t198 := Tryz.underlying222
  a198 := Tryz.isAgg222
  z198 := Tryz.sizeOf222
  v198 := Tryz.zeroValue222
  t201 := Tryz.underlying225
  a201 := Tryz.isAgg225
  z201 := Tryz.sizeOf225
  v201 := Tryz.zeroValue225
  t226 := Tryz.underlying244
  a226 := Tryz.isAgg244
  z226 := Tryz.sizeOf244
  v226 := Tryz.zeroValue244
  t227 := Tryz.underlying245
  a227 := Tryz.isAgg245
  z227 := Tryz.sizeOf245
  v227 := Tryz.zeroValue245
  g0 := by kernel_rfl
  g3 := by kernel_rfl
  g4 := by kernel_rfl
  g6 := by kernel_rfl }
theorem Tryz.Space_Extra_163 : Space.Extra Tryz.prog Tryz.lays163_ren := {
  gNamed := by kernel_rfl }
open Go.RowKit in
theorem Tryz.strings_TrimSpace (s : ByteArray) (w : World) (hs : s.size ≤ 9223372036854775807) (hascii : ∀ (j : Nat) b, s.data.toList[j]? = some b → b.toNat < 128) (htab : Lib.TabIs Tryz.prog w "strings.asciiSpace" .u8 Lib.asciiSpaceTab) :
    Calls Tryz.prog 124 #[.string s] w fun e w' => e = .returned (.string ⟨(Lib.trimSpace s.data.toList).toArray⟩) ∧ w' = Lib.bytesWorld w 5 s := Any.strings_TrimSpace Tryz.lays163 Tryz.Space_Extra_163 s w hs hascii htab
def Tryz.lays243_ren : Go.Shelf.Ren := ⟨fun | 243 => 165 | 246 => 186 | 283 => 205 | 284 => 206 | 285 => 207 | 286 => 208 | 129 => 217 | 317 => 216 | 318 => 218 | 319 => 219 | 320 => 220 | 337 => 222 | 338 => 223 | n => n, fun | 3 => 3 | 9 => 9 | 2 => 2 | 4 => 4 | 171 => 229 | 0 => 0 | 53 => 125 | 37 => 51 | 5 => 5 | 173 => 231 | 212 => 249 | 51 => 65 | 20 => 20 | 213 => 250 | 46 => 87 | 232 => 258 | 233 => 259 | n => n, fun | 17 => 12 | 18 => 13 | 19 => 14 | n => n⟩
theorem Tryz.lays243 : Go.Proofs.Lays.n243 Tryz.prog Tryz.lays243_ren := {
  mixed := by kernel_rfl
  f129 := Tryz.func217.trans (congrArg some (by kernel_rfl))
  f243 := Tryz.func165.trans (congrArg some (by kernel_rfl))
  f246 := Tryz.func186.trans (congrArg some (by kernel_rfl))
  f283 := Tryz.func205.trans (congrArg some (by kernel_rfl))
  f284 := Tryz.func206.trans (congrArg some (by kernel_rfl))
  f285 := Tryz.func207.trans (congrArg some (by kernel_rfl))
  f286 := Tryz.func208.trans (congrArg some (by kernel_rfl))
  f317 := Tryz.func216.trans (congrArg some (by kernel_rfl))
  f318 := Tryz.func218.trans (congrArg some (by kernel_rfl))
  f319 := Tryz.func219.trans (congrArg some (by kernel_rfl))
  f320 := Tryz.func220.trans (congrArg some (by kernel_rfl))
  f337 := Tryz.func222.trans (congrArg some (by kernel_rfl))
  f338 := Tryz.func223.trans (congrArg some (by kernel_rfl))
  t0 := Tryz.underlying0
  a0 := Tryz.isAgg0
  z0 := Tryz.sizeOf0
  v0 := Tryz.zeroValue0
  t2 := Tryz.underlying2
  a2 := Tryz.isAgg2
  z2 := Tryz.sizeOf2
  v2 := Tryz.zeroValue2
  t3 := Tryz.underlying3
  a3 := Tryz.isAgg3
  z3 := Tryz.sizeOf3
  v3 := Tryz.zeroValue3
  t4 := Tryz.underlying4
  a4 := Tryz.isAgg4
  z4 := Tryz.sizeOf4
  v4 := Tryz.zeroValue4
  t5 := Tryz.underlying5
  a5 := Tryz.isAgg5
  z5 := Tryz.sizeOf5
  v5 := Tryz.zeroValue5
  t9 := Tryz.underlying9
  a9 := Tryz.isAgg9
  z9 := Tryz.sizeOf9
  v9 := Tryz.zeroValue9
  t20 := Tryz.underlying20
  a20 := Tryz.isAgg20
  z20 := Tryz.sizeOf20
  v20 := Tryz.zeroValue20
  t37 := Tryz.underlying51
  a37 := Tryz.isAgg51
  z37 := Tryz.sizeOf51
  v37 := Tryz.zeroValue51
  t46 := Tryz.underlying87
  a46 := Tryz.isAgg87
  z46 := Tryz.sizeOf87
  v46 := Tryz.zeroValue87
  t51 := Tryz.underlying65
  a51 := Tryz.isAgg65
  z51 := Tryz.sizeOf65
  v51 := Tryz.zeroValue65
  t53 := Tryz.underlying125
  a53 := Tryz.isAgg125
  z53 := Tryz.sizeOf125
  v53 := Tryz.zeroValue125
  t171 := Tryz.underlying229
  a171 := Tryz.isAgg229
  z171 := Tryz.sizeOf229
  v171 := Tryz.zeroValue229
  t173 := Tryz.underlying231
  a173 := Tryz.isAgg231
  z173 := Tryz.sizeOf231
  v173 := Tryz.zeroValue231
  t212 := Tryz.underlying249
  a212 := Tryz.isAgg249
  z212 := Tryz.sizeOf249
  v212 := Tryz.zeroValue249
  t213 := Tryz.underlying250
  a213 := Tryz.isAgg250
  z213 := Tryz.sizeOf250
  t232 := Tryz.underlying258
  a232 := Tryz.isAgg258
  z232 := Tryz.sizeOf258
  v232 := Tryz.zeroValue258
  t233 := Tryz.underlying259
  a233 := Tryz.isAgg259
  z233 := Tryz.sizeOf259
  v233 := Tryz.zeroValue259
  g17 := by kernel_rfl
  g18 := by kernel_rfl
  g19 := by kernel_rfl }
open Go.RowKit Go.Sort Go.Lib in
/-- THE ROAD WITHOUT THE TABLE: 0 <= i < 100. (LAID: no walk: one application.) -/
theorem Tryz.internal_strconv_Itoa_small (i : Nat) (hi : i < 100) (w : World) :
    Calls Tryz.prog 165 #[.int .i64 i] w fun e w' => e = .returned (.string ⟨(Lib.decDigits i).toArray⟩) ∧ w' = w := Any.internal_strconv_Itoa_small Tryz.lays243 i hi w
def Tryz.lays99_ren : Go.Shelf.Ren := ⟨fun | 99 => 96 | 206 => 136 | n => n, fun | 9 => 9 | 4 => 4 | 3 => 3 | n => n, fun | n => n⟩
theorem Tryz.lays99 : Go.Proofs.Lays.n99 Tryz.prog Tryz.lays99_ren := {
  mixed := by kernel_rfl
  f99 := Tryz.func96.trans (congrArg some (by kernel_rfl))
  f206 := Tryz.func136.trans (congrArg some (by kernel_rfl))
  t3 := Tryz.underlying3
  a3 := Tryz.isAgg3
  z3 := Tryz.sizeOf3
  v3 := Tryz.zeroValue3
  t4 := Tryz.underlying4
  a4 := Tryz.isAgg4
  z4 := Tryz.sizeOf4
  v4 := Tryz.zeroValue4
  t9 := Tryz.underlying9
  a9 := Tryz.isAgg9
  z9 := Tryz.sizeOf9
  v9 := Tryz.zeroValue9 }
open Go.RowKit Go.Lib in
/-- strings.HasPrefix: "HasPrefix reports whether the string s begins with prefix.": IT RETURNS 'Lib.hasPrefix s prefix'; the world is as it was. (LAID: no walk: one application.) -/
theorem Tryz.strings_HasPrefix (s p : ByteArray) (w : World) :
    Calls Tryz.prog 96 #[.string s, .string p] w fun e w' => e = .returned (.bool (Lib.hasPrefix s.data.toList p.data.toList)) ∧ w' = w := Any.strings_HasPrefix Tryz.lays99 s p w
def Tryz.lays100_ren : Go.Shelf.Ren := ⟨fun | 100 => 141 | 207 => 170 | n => n, fun | 9 => 9 | 4 => 4 | 3 => 3 | n => n, fun | n => n⟩
theorem Tryz.lays100 : Go.Proofs.Lays.n100 Tryz.prog Tryz.lays100_ren := {
  mixed := by kernel_rfl
  f100 := Tryz.func141.trans (congrArg some (by kernel_rfl))
  f207 := Tryz.func170.trans (congrArg some (by kernel_rfl))
  t3 := Tryz.underlying3
  a3 := Tryz.isAgg3
  z3 := Tryz.sizeOf3
  v3 := Tryz.zeroValue3
  t4 := Tryz.underlying4
  a4 := Tryz.isAgg4
  z4 := Tryz.sizeOf4
  v4 := Tryz.zeroValue4
  t9 := Tryz.underlying9
  a9 := Tryz.isAgg9
  z9 := Tryz.sizeOf9
  v9 := Tryz.zeroValue9 }
open Go.RowKit Go.Lib in
/-- strings.HasSuffix: "HasSuffix reports whether the string s ends with suffix.": IT RETURNS 'Lib.hasSuffix s suffix'; the world is as it was. ('hs': no Go string is longer: a caller has it of every string that it was handed.) (LAID: no walk: one application.) -/
theorem Tryz.strings_HasSuffix (s p : ByteArray) (w : World) (hs : s.size ≤ 9223372036854775807) :
    Calls Tryz.prog 141 #[.string s, .string p] w fun e w' => e = .returned (.bool (Lib.hasSuffix s.data.toList p.data.toList)) ∧ w' = w := Any.strings_HasSuffix Tryz.lays100 s p w hs
def Tryz.lays164_ren : Go.Shelf.Ren := ⟨fun | 164 => 137 | 197 => 166 | 239 => 167 | 260 => 187 | 274 => 188 | 275 => 189 | n => n, fun | 9 => 9 | 4 => 4 | 3 => 3 | 5 => 5 | 0 => 0 | 21 => 21 | 105 => 184 | 156 => 203 | 49 => 202 | 157 => 204 | 46 => 87 | 159 => 206 | 162 => 209 | 160 => 207 | 119 => 165 | 139 => 235 | 138 => 234 | 208 => 239 | 51 => 65 | 206 => 237 | n => n, fun | 11 => 6 | 12 => 7 | 13 => 8 | 3 => 10 | 4 => 11 | n => n⟩
theorem Tryz.lays164 : Go.Proofs.Lays.n164 Tryz.prog Tryz.lays164_ren := {
  mixed := by kernel_rfl
  f164 := Tryz.func137.trans (congrArg some (by kernel_rfl))
  f197 := Tryz.func166.trans (congrArg some (by kernel_rfl))
  f239 := Tryz.func167.trans (congrArg some (by kernel_rfl))
  f260 := Tryz.func187.trans (congrArg some (by kernel_rfl))
  f274 := Tryz.func188.trans (congrArg some (by kernel_rfl))
  f275 := Tryz.func189.trans (congrArg some (by kernel_rfl))
  t0 := Tryz.underlying0
  a0 := Tryz.isAgg0
  z0 := Tryz.sizeOf0
  v0 := Tryz.zeroValue0
  t3 := Tryz.underlying3
  a3 := Tryz.isAgg3
  z3 := Tryz.sizeOf3
  v3 := Tryz.zeroValue3
  t4 := Tryz.underlying4
  a4 := Tryz.isAgg4
  z4 := Tryz.sizeOf4
  v4 := Tryz.zeroValue4
  t5 := Tryz.underlying5
  a5 := Tryz.isAgg5
  z5 := Tryz.sizeOf5
  v5 := Tryz.zeroValue5
  t9 := Tryz.underlying9
  a9 := Tryz.isAgg9
  z9 := Tryz.sizeOf9
  v9 := Tryz.zeroValue9
  t21 := Tryz.underlying21
  a21 := Tryz.isAgg21
  z21 := Tryz.sizeOf21
  v21 := Tryz.zeroValue21
  t46 := Tryz.underlying87
  a46 := Tryz.isAgg87
  z46 := Tryz.sizeOf87
  v46 := Tryz.zeroValue87
  t49 := Tryz.underlying202
  a49 := Tryz.isAgg202
  z49 := Tryz.sizeOf202
  v49 := Tryz.zeroValue202
  t51 := Tryz.underlying65
  a51 := Tryz.isAgg65
  z51 := Tryz.sizeOf65
  v51 := Tryz.zeroValue65
  t105 := Tryz.underlying184
  a105 := Tryz.isAgg184
  z105 := Tryz.sizeOf184
  v105 := Tryz.zeroValue184
  t119 := Tryz.underlying165
  a119 := Tryz.isAgg165
  z119 := Tryz.sizeOf165
  t138 := Tryz.underlying234
  a138 := Tryz.isAgg234
  z138 := Tryz.sizeOf234
  v138 := Tryz.zeroValue234
  t139 := Tryz.underlying235
  a139 := Tryz.isAgg235
  z139 := Tryz.sizeOf235
  v139 := Tryz.zeroValue235
  t156 := Tryz.underlying203
  a156 := Tryz.isAgg203
  z156 := Tryz.sizeOf203
  t157 := Tryz.underlying204
  a157 := Tryz.isAgg204
  z157 := Tryz.sizeOf204
  v157 := Tryz.zeroValue204
  t159 := Tryz.underlying206
  a159 := Tryz.isAgg206
  z159 := Tryz.sizeOf206
  v159 := Tryz.zeroValue206
  t160 := Tryz.underlying207
  a160 := Tryz.isAgg207
  z160 := Tryz.sizeOf207
  v160 := Tryz.zeroValue207
  t162 := Tryz.underlying209
  a162 := Tryz.isAgg209
  z162 := Tryz.sizeOf209
  v162 := Tryz.zeroValue209
  t206 := Tryz.underlying237
  a206 := Tryz.isAgg237
  z206 := Tryz.sizeOf237
  v206 := Tryz.zeroValue237
  t208 := Tryz.underlying239
  a208 := Tryz.isAgg239
  z208 := Tryz.sizeOf239
  v208 := Tryz.zeroValue239
  g3 := by kernel_rfl
  g4 := by kernel_rfl
  g11 := by kernel_rfl
  g12 := by kernel_rfl
  g13 := by kernel_rfl }
open Go.RowKit Go.Lib in
theorem Tryz.strings_EqualFold (s t : ByteArray) (w : World) (hs : s.size < 4294967281) (has : ∀ (j : Nat) b, s.data.toList[j]? = some b → b.toNat < 128) (hat : ∀ (j : Nat) b, t.data.toList[j]? = some b → b.toNat < 128) :
    Calls Tryz.prog 137 #[.string s, .string t] w fun e w' => e = .returned (.bool (Lib.equalFold s.data.toList t.data.toList)) ∧ w' = w := Any.strings_EqualFold Tryz.lays164 s t w hs has hat
def Tryz.laysNm216_ren : Go.Shelf.Ren := ⟨fun | 16 => 37 | n => n, fun | 24 => 22 | 9 => 9 | 4 => 4 | n => n, fun | n => n⟩
theorem Tryz.laysNm216 : Go.Proofs.Lays2.n16 Tryz.prog Tryz.laysNm216_ren := {
  mixed := by kernel_rfl
  f16 := Tryz.func37.trans (congrArg some (by kernel_rfl))
  t4 := Tryz.underlying4
  a4 := Tryz.isAgg4
  z4 := Tryz.sizeOf4
  v4 := Tryz.zeroValue4
  t9 := Tryz.underlying9
  a9 := Tryz.isAgg9
  z9 := Tryz.sizeOf9
  v9 := Tryz.zeroValue9
  t24 := Tryz.underlying22
  a24 := Tryz.isAgg22
  z24 := Tryz.sizeOf22
  v24 := Tryz.zeroValue22
  i9 := by kernel_rfl }
open Go.RowKit Go.Lib in
/-- slices.Clone at []string: "Clone returns a copy of the slice. The elements are copied using assignment, so this is a shallow clone. The result may have additional unused capacity. The result preserves the nilness of s.": OF A SLICE THAT IS NOT nil IT RETURNS A SLICE THAT IS NOT nil, OF THE SAME ELEMENTS, IN MEMORY OF THE CALL's OWN: in the how-to's words (6f): 'w'.ownsRow B e 1 v' n cells': v' begins at the head of a row among the blocks from B on (B: the heap's size at the call), not frozen, whose first cells are the elements · 'Below B w w'': below B all is as it was. The capacity is whatever the run-time gives. 'zs': what the cells behind the slice's address hold; 'zs.take n': its elements. (LAID: no walk: one application.) -/
theorem Tryz.slices_Clone_string (b off n c : Nat) (zs : List ByteArray) (w : World) (hz : n ≤ zs.length) (hbig : n * 16 ≤ 140737488355328) (hc : ∀ j, j < zs.length → w.cell? ⟨b, off + j, none⟩ = some (.string (zs.getD j ByteArray.empty))) :
    Calls Tryz.prog 37 #[.slice (some ⟨b, off, none⟩) n c] w fun e w' => ∃ v', e = .returned v' ∧ w'.ownsRow w.heap.size 9 1 v' n ((zs.take n).map (Value.string)) ∧ v' ≠ .slice none 0 0 ∧ Below w.heap.size w w' := Any.slices_Clone_string Tryz.laysNm216 b off n c zs w hz hbig hc
open Go.RowKit Go.Lib in
/-- The same at nil: nil comes back; the world is as it was. (LAID: no walk: one application.) -/
theorem Tryz.slices_Clone_string_nil (n c : Nat) (w : World) :
    Calls Tryz.prog 37 #[.slice none n c] w fun e w' => e = .returned (.slice none 0 0) ∧ w' = w := Any.slices_Clone_string_nil Tryz.laysNm216 n c w
open Go.RowKit Go.Lib in
/-- The same at a slice of length 0 that is not nil, WHATEVER ITS ADDRESS (no cell is asked for): a slice that is not nil and owns nothing comes back. (LAID: no walk: one application.) -/
theorem Tryz.slices_Clone_string_zero (a : Addr) (c : Nat) (w : World) :
    Calls Tryz.prog 37 #[.slice (some a) 0 c] w fun e w' => ∃ v', e = .returned v' ∧ w'.ownsRow w.heap.size 9 1 v' 0 [] ∧ v' ≠ .slice none 0 0 ∧ Below w.heap.size w w' := Any.slices_Clone_string_zero Tryz.laysNm216 a c w
def Tryz.laysPa45_ren : Go.Shelf.Ren := ⟨fun | 45 => 160 | n => n, fun | 9 => 9 | 5 => 5 | 3 => 3 | 4 => 4 | n => n, fun | n => n⟩
theorem Tryz.laysPa45 : Go.Proofs.Lays.p45 Tryz.prog Tryz.laysPa45_ren := {
  mixed := by kernel_rfl
  f45 := Tryz.func160.trans (congrArg some (by kernel_rfl))
  t3 := Tryz.underlying3
  a3 := Tryz.isAgg3
  z3 := Tryz.sizeOf3
  v3 := Tryz.zeroValue3
  t4 := Tryz.underlying4
  a4 := Tryz.isAgg4
  z4 := Tryz.sizeOf4
  v4 := Tryz.zeroValue4
  t5 := Tryz.underlying5
  a5 := Tryz.isAgg5
  z5 := Tryz.sizeOf5
  v5 := Tryz.zeroValue5
  t9 := Tryz.underlying9
  a9 := Tryz.isAgg9
  z9 := Tryz.sizeOf9
  v9 := Tryz.zeroValue9 }
open Go.RowKit Go.Lib in
/-- internal/bytealg.LastIndexByteString (what strings.LastIndexByte calls: "LastIndexByte returns the index of the last instance of c in s, or -1 if c is not present in s."): IT RETURNS 'Pa.lastIndexByte s c'; the world is as it was. (LAID: no walk: one application.) -/
theorem Tryz.bytealg_LastIndexByteString (s : ByteArray) (c : UInt8) (w : World) (hs : s.size ≤ 9223372036854775807) :
    Calls Tryz.prog 160 #[.string s, .int .u8 c.toNat] w fun e w' => e = .returned (.int .i64 (Pa.lastIndexByte s.data.toList c)) ∧ w' = w := Any.bytealg_LastIndexByteString Tryz.laysPa45 s c w hs
end Go.Proofs
