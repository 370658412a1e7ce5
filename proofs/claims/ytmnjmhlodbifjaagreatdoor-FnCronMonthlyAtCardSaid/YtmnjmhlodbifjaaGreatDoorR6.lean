/- DERIVED: THE SHELF's CONTRACTS AT THIS DUMP, IN PLAIN WORDS (tools/lay-plain.mjs out of 'TryzShelf.lean', which tools/lay-shelf.mjs wrote): THE SAME DECLARATIONS UNDER THE SAME NAMES: 'import', 'namespace', 'open', 'def', 'theorem' AND NOTHING ELSE: no command of the shelf's: FOR A HAND-IN. Each laying: the table of numbers ('.._ren') and one theorem, a field a fact of the dump's own or the kernel's comparison; each contract: ONE APPLICATION. -/
import Derived.Shelf.Strconv.Atoi
import Derived.Shelf.Strconv.Itoa0
import Derived.Shelf.Strconv.AtoiErrFast
import Derived.Shelf.Strconv.ParseIntEmpty
import Derived.Shelf.Strconv.AtoiFail
import Derived.Shelf.LaysM
import Derived.Shelf.Strconv.Clone
import Derived.Shelf.Strconv.SyntaxError
import Derived.Shelf.LaysC
import Derived.Shelf.Strconv.ToError
import Derived.Shelf.Strconv.Lower
import Derived.Shelf.Strconv.ParseUint10
import Derived.Shelf.Strconv.ParseUint10Empty
import Derived.Shelf.Strconv.ParseUint10Any
import Derived.Shelf.Strconv.ParseInt10
import Derived.Shelf.Strconv.AtoiLong
import Derived.Shelf.Strconv.AtoiInnerAll
import Derived.Shelf.Strconv.RangeError
import Derived.Shelf.Strconv.ToErrorRange
import Derived.Shelf.Strconv.AtoiAll
import Derived.Shelf.Strconv.ErrVarAll
import Derived.Shelf.Unicode.DecodeSlow
import Derived.Shelf.Unicode.DecodeAny
import Derived.Shelf.Strings.FieldsFuncAny
import Derived.Shelf.Strings.FieldsFuncGrows
import Derived.Test.YtmnjmhlodbifjaaGreatDoorProg

namespace Go.Proofs
open Go.Shelf
def Tryz.laysC172_ren : Go.Shelf.Ren := ⟨fun | 172 => 147 | 244 => 155 | 245 => 156 | 247 => 159 | 279 => 160 | 280 => 161 | 281 => 162 | 282 => 163 | 287 => 167 | 316 => 168 | 171 => 14 | 205 => 53 | 321 => 170 | 322 => 171 | 243 => 33 | 246 => 70 | 283 => 101 | 284 => 102 | 285 => 103 | 286 => 104 | 129 => 132 | 317 => 131 | 318 => 133 | 319 => 134 | 320 => 135 | 337 => 148 | 338 => 149 | n => n, fun | 9 => 9 | 3 => 3 | 75 => 80 | 76 => 229 | 4 => 4 | 5 => 5 | 167 => 240 | 37 => 68 | 0 => 0 | 85 => 241 | 2 => 2 | 168 => 243 | 53 => 26 | 175 => 122 | 46 => 118 | 210 => 249 | 127 => 251 | 145 => 149 | 143 => 147 | 21 => 21 | 171 => 161 | 173 => 164 | 212 => 212 | 51 => 213 | 20 => 20 | 213 => 214 | 232 => 237 | 233 => 238 | 80 => 252 | n => n, fun | 15 => 7 | 16 => 8 | 17 => 1 | 18 => 5 | 19 => 6 | n => n⟩
theorem Tryz.laysC172 : Go.Proofs.LaysC.n172 Tryz.prog Tryz.laysC172_ren := {
  mixed := by kernel_rfl
  f129 := Tryz.func132.trans (congrArg some (by kernel_rfl))
  f171 := Tryz.func14.trans (congrArg some (by kernel_rfl))
  f172 := Tryz.func147.trans (congrArg some (by kernel_rfl))
  f205 := Tryz.func53.trans (congrArg some (by kernel_rfl))
  f243 := Tryz.func33.trans (congrArg some (by kernel_rfl))
  f244 := Tryz.func155.trans (congrArg some (by kernel_rfl))
  f245 := Tryz.func156.trans (congrArg some (by kernel_rfl))
  f246 := Tryz.func70.trans (congrArg some (by kernel_rfl))
  f247 := Tryz.func159.trans (congrArg some (by kernel_rfl))
  f279 := Tryz.func160.trans (congrArg some (by kernel_rfl))
  f280 := Tryz.func161.trans (congrArg some (by kernel_rfl))
  f281 := Tryz.func162.trans (congrArg some (by kernel_rfl))
  f282 := Tryz.func163.trans (congrArg some (by kernel_rfl))
  f283 := Tryz.func101.trans (congrArg some (by kernel_rfl))
  f284 := Tryz.func102.trans (congrArg some (by kernel_rfl))
  f285 := Tryz.func103.trans (congrArg some (by kernel_rfl))
  f286 := Tryz.func104.trans (congrArg some (by kernel_rfl))
  f287 := Tryz.func167.trans (congrArg some (by kernel_rfl))
  f316 := Tryz.func168.trans (congrArg some (by kernel_rfl))
  f317 := Tryz.func131.trans (congrArg some (by kernel_rfl))
  f318 := Tryz.func133.trans (congrArg some (by kernel_rfl))
  f319 := Tryz.func134.trans (congrArg some (by kernel_rfl))
  f320 := Tryz.func135.trans (congrArg some (by kernel_rfl))
  f321 := Tryz.func170.trans (congrArg some (by kernel_rfl))
  f322 := Tryz.func171.trans (congrArg some (by kernel_rfl))
  f337 := Tryz.func148.trans (congrArg some (by kernel_rfl))
  f338 := Tryz.func149.trans (congrArg some (by kernel_rfl))
  t0 := Tryz.underlying0
  a0 := Tryz.isAgg0
  z0 := Tryz.sizeOf0
  v0 := Tryz.zeroValue0
  t2 := Tryz.underlying2
  a2 := Tryz.isAgg2
  z2 := Tryz.sizeOf2
  v2 := Tryz.zeroValue2
  t3 := Tryz.underlying3
  a3 := Tryz.isAgg3
  z3 := Tryz.sizeOf3
  v3 := Tryz.zeroValue3
  t4 := Tryz.underlying4
  a4 := Tryz.isAgg4
  z4 := Tryz.sizeOf4
  v4 := Tryz.zeroValue4
  t5 := Tryz.underlying5
  a5 := Tryz.isAgg5
  z5 := Tryz.sizeOf5
  v5 := Tryz.zeroValue5
  t9 := Tryz.underlying9
  a9 := Tryz.isAgg9
  z9 := Tryz.sizeOf9
  v9 := Tryz.zeroValue9
  t20 := Tryz.underlying20
  a20 := Tryz.isAgg20
  z20 := Tryz.sizeOf20
  v20 := Tryz.zeroValue20
  t21 := Tryz.underlying21
  a21 := Tryz.isAgg21
  z21 := Tryz.sizeOf21
  v21 := Tryz.zeroValue21
  t37 := Tryz.underlying68
  a37 := Tryz.isAgg68
  z37 := Tryz.sizeOf68
  v37 := Tryz.zeroValue68
  t46 := Tryz.underlying118
  a46 := Tryz.isAgg118
  z46 := Tryz.sizeOf118
  v46 := Tryz.zeroValue118
  t51 := Tryz.underlying213
  a51 := Tryz.isAgg213
  z51 := Tryz.sizeOf213
  v51 := Tryz.zeroValue213
  t53 := Tryz.underlying26
  a53 := Tryz.isAgg26
  z53 := Tryz.sizeOf26
  v53 := Tryz.zeroValue26
  t75 := Tryz.underlying80
  a75 := Tryz.isAgg80
  z75 := Tryz.sizeOf80
  v75 := Tryz.zeroValue80
  t76 := Tryz.underlying229
  a76 := Tryz.isAgg229
  z76 := Tryz.sizeOf229
  v76 := Tryz.zeroValue229
  t85 := Tryz.underlying241
  a85 := Tryz.isAgg241
  z85 := Tryz.sizeOf241
  v85 := Tryz.zeroValue241
  t127 := Tryz.underlying251
  a127 := Tryz.isAgg251
  z127 := Tryz.sizeOf251
  v127 := Tryz.zeroValue251
  t143 := Tryz.underlying147
  a143 := Tryz.isAgg147
  z143 := Tryz.sizeOf147
  v143 := Tryz.zeroValue147
  t145 := Tryz.underlying149
  a145 := Tryz.isAgg149
  z145 := Tryz.sizeOf149
  v145 := Tryz.zeroValue149
  t167 := Tryz.underlying240
  a167 := Tryz.isAgg240
  z167 := Tryz.sizeOf240
  v167 := Tryz.zeroValue240
  t168 := Tryz.underlying243
  a168 := Tryz.isAgg243
  z168 := Tryz.sizeOf243
  v168 := Tryz.zeroValue243
  t171 := Tryz.underlying161
  a171 := Tryz.isAgg161
  z171 := Tryz.sizeOf161
  v171 := Tryz.zeroValue161
  t173 := Tryz.underlying164
  a173 := Tryz.isAgg164
  z173 := Tryz.sizeOf164
  v173 := Tryz.zeroValue164
  t175 := Tryz.underlying122
  a175 := Tryz.isAgg122
  z175 := Tryz.sizeOf122
  v175 := Tryz.zeroValue122
  t210 := Tryz.underlying249
  a210 := Tryz.isAgg249
  z210 := Tryz.sizeOf249
  v210 := Tryz.zeroValue249
  t212 := Tryz.underlying212
  a212 := Tryz.isAgg212
  z212 := Tryz.sizeOf212
  v212 := Tryz.zeroValue212
  t213 := Tryz.underlying214
  a213 := Tryz.isAgg214
  z213 := Tryz.sizeOf214
  t232 := Tryz.underlying237
  a232 := Tryz.isAgg237
  z232 := Tryz.sizeOf237
  v232 := Tryz.zeroValue237
  t233 := Tryz.underlying238
  a233 := Tryz.isAgg238
  z233 := Tryz.sizeOf238
  v233 := Tryz.zeroValue238
  g15 := by kernel_rfl
  g16 := by kernel_rfl
  g17 := by kernel_rfl
  g18 := by kernel_rfl
  g19 := by kernel_rfl
  t80 := Tryz.underlying252
  a80 := Tryz.isAgg252
  z80 := Tryz.sizeOf252
  v80 := Tryz.zeroValue252
  i0 := by kernel_rfl
  i2 := by kernel_rfl
  i3 := by kernel_rfl
  i4 := by kernel_rfl
  i5 := by kernel_rfl
  i9 := by kernel_rfl
  i20 := by kernel_rfl
  i21 := by kernel_rfl
  i37 := by kernel_rfl
  i46 := by kernel_rfl
  i51 := by kernel_rfl
  i53 := by kernel_rfl
  i75 := by kernel_rfl
  i76 := by kernel_rfl
  i80 := by kernel_rfl
  i85 := by kernel_rfl
  i127 := by kernel_rfl
  i143 := by kernel_rfl
  i145 := by kernel_rfl
  i167 := by kernel_rfl
  i168 := by kernel_rfl
  i171 := by kernel_rfl
  i173 := by kernel_rfl
  i175 := by kernel_rfl
  i210 := by kernel_rfl
  i212 := by kernel_rfl
  i232 := by kernel_rfl
  i233 := by kernel_rfl
  m15 := by kernel_rfl
  m16 := by kernel_rfl
  m17 := by kernel_rfl
  m18 := by kernel_rfl
  m19 := by kernel_rfl
  c0 := by kernel_rfl
  c2 := by kernel_rfl
  c3 := by kernel_rfl
  c4 := by kernel_rfl
  c5 := by kernel_rfl
  c9 := by kernel_rfl
  c20 := by kernel_rfl
  c21 := by kernel_rfl
  c37 := by kernel_rfl
  c46 := by kernel_rfl
  c51 := by kernel_rfl
  c53 := by kernel_rfl
  c75 := by kernel_rfl
  c76 := by kernel_rfl
  c80 := by kernel_rfl
  c85 := by kernel_rfl
  c127 := by kernel_rfl
  c143 := by kernel_rfl
  c145 := by kernel_rfl
  c167 := by kernel_rfl
  c168 := by kernel_rfl
  c171 := by kernel_rfl
  c173 := by kernel_rfl
  c175 := by kernel_rfl
  c210 := by kernel_rfl
  c212 := by kernel_rfl
  c213 := by kernel_rfl
  c232 := by kernel_rfl
  c233 := by kernel_rfl }
open Go.RowKit in
theorem Tryz.strconv_Atoi_ok (s : ByteArray) (hmax : s.size ≤ 9223372036854775806) (v : Int) (h : Lib.atoiAll s.data.toList = .ok v) (w : World) :
    Calls Tryz.prog 147 #[.string s] w fun e w' => e = .returned (.tuple #[.int .i64 v, .nilIface]) ∧ (w' = w ∨ ∃ t, w' = Lib.bytesWorld w 5 t) := Any.strconv_Atoi_ok Tryz.laysC172 s hmax v h w
open Go.RowKit in
theorem Tryz.strconv_Atoi_syntax_var (s : ByteArray) (hlim : s.size ≤ 281474976710656) (h : Lib.atoiAll s.data.toList = Lib.NumEnd.syntax) (tp : TypeId) (p : Value) (w : World) (hvar : w.var? Tryz.prog "strconv.ErrSyntax" = some #[.iface tp p]) :
    Calls Tryz.prog 147 #[.string s] w fun e w' => ∃ N, e = .returned (.tuple #[.int .i64 0, .iface 243 (.pointer (some ⟨N, 0, none⟩))]) ∧ w.heap.size ≤ N ∧ w'.heap[N]? = some (.cells #[.string ⟨#[65, 116, 111, 105]⟩, .string s, .iface tp p] 249 (0, 0)) ∧ Below w.heap.size w w' := Any.strconv_Atoi_syntax_var Tryz.laysC172 s hlim h tp p w hvar
open Go.RowKit in
theorem Tryz.strconv_Atoi_range_var (s : ByteArray) (hlim : s.size ≤ 281474976710656) (h : Lib.atoiAll s.data.toList = .range) (tp : TypeId) (p : Value) (w : World) (hvar : w.var? Tryz.prog "strconv.ErrRange" = some #[.iface tp p]) :
    Calls Tryz.prog 147 #[.string s] w fun e w' => ∃ N, e = .returned (.tuple #[.int .i64 (Lib.atoiSat s.data.toList), .iface 243 (.pointer (some ⟨N, 0, none⟩))]) ∧ w.heap.size ≤ N ∧ w'.heap[N]? = some (.cells #[.string ⟨#[65, 116, 111, 105]⟩, .string s, .iface tp p] 249 (0, 0)) ∧ Below w.heap.size w w' := Any.strconv_Atoi_range_var Tryz.laysC172 s hlim h tp p w hvar
def Tryz.lays197_ren : Go.Shelf.Ren := ⟨fun | 197 => 91 | 260 => 122 | n => n, fun | 9 => 9 | 21 => 21 | 3 => 3 | 4 => 4 | 5 => 5 | 105 => 150 | 119 => 224 | 0 => 0 | 46 => 118 | 139 => 227 | 138 => 226 | n => n, fun | 3 => 2 | 4 => 3 | n => n⟩
theorem Tryz.lays197 : Go.Proofs.Lays.n197 Tryz.prog Tryz.lays197_ren := {
  mixed := by kernel_rfl
  f197 := Tryz.func91.trans (congrArg some (by kernel_rfl))
  f260 := Tryz.func122.trans (congrArg some (by kernel_rfl))
  t0 := Tryz.underlying0
  a0 := Tryz.isAgg0
  z0 := Tryz.sizeOf0
  v0 := Tryz.zeroValue0
  t3 := Tryz.underlying3
  a3 := Tryz.isAgg3
  z3 := Tryz.sizeOf3
  v3 := Tryz.zeroValue3
  t4 := Tryz.underlying4
  a4 := Tryz.isAgg4
  z4 := Tryz.sizeOf4
  v4 := Tryz.zeroValue4
  t5 := Tryz.underlying5
  a5 := Tryz.isAgg5
  z5 := Tryz.sizeOf5
  v5 := Tryz.zeroValue5
  t9 := Tryz.underlying9
  a9 := Tryz.isAgg9
  z9 := Tryz.sizeOf9
  v9 := Tryz.zeroValue9
  t21 := Tryz.underlying21
  a21 := Tryz.isAgg21
  z21 := Tryz.sizeOf21
  v21 := Tryz.zeroValue21
  t46 := Tryz.underlying118
  a46 := Tryz.isAgg118
  z46 := Tryz.sizeOf118
  v46 := Tryz.zeroValue118
  t105 := Tryz.underlying150
  a105 := Tryz.isAgg150
  z105 := Tryz.sizeOf150
  v105 := Tryz.zeroValue150
  t119 := Tryz.underlying224
  a119 := Tryz.isAgg224
  z119 := Tryz.sizeOf224
  t138 := Tryz.underlying226
  a138 := Tryz.isAgg226
  z138 := Tryz.sizeOf226
  v138 := Tryz.zeroValue226
  t139 := Tryz.underlying227
  a139 := Tryz.isAgg227
  z139 := Tryz.sizeOf227
  v139 := Tryz.zeroValue227
  g3 := by kernel_rfl
  g4 := by kernel_rfl }
open Go.RowKit Go.Lib in
theorem Tryz.utf8_DecodeRuneInString (s : ByteArray) (w : World) (hT : Lib.Utf8Tabs 2 3 w) :
    Calls Tryz.prog 91 #[.string s] w fun e w' => e = .returned (.tuple #[.int .i32 (Lib.decodeGo s).1, .int .i64 (Lib.decodeGo s).2]) ∧ Below w.heap.size w w' := Any.utf8_DecodeRuneInString Tryz.lays197 s w hT
def Tryz.lays229_ren : Go.Shelf.Ren := ⟨fun | 229 => 98 | n => n, fun | 9 => 9 | 40 => 152 | 31 => 114 | 152 => 204 | 3 => 3 | 0 => 0 | 4 => 4 | 21 => 21 | 154 => 206 | n => n, fun | n => n⟩
theorem Tryz.lays229 : Go.Proofs.Lays.n229 Tryz.prog Tryz.lays229_ren := {
  mixed := by kernel_rfl
  f229 := Tryz.func98.trans (congrArg some (by kernel_rfl))
  t0 := Tryz.underlying0
  a0 := Tryz.isAgg0
  z0 := Tryz.sizeOf0
  v0 := Tryz.zeroValue0
  t3 := Tryz.underlying3
  a3 := Tryz.isAgg3
  z3 := Tryz.sizeOf3
  v3 := Tryz.zeroValue3
  t4 := Tryz.underlying4
  a4 := Tryz.isAgg4
  z4 := Tryz.sizeOf4
  v4 := Tryz.zeroValue4
  t9 := Tryz.underlying9
  a9 := Tryz.isAgg9
  z9 := Tryz.sizeOf9
  v9 := Tryz.zeroValue9
  t21 := Tryz.underlying21
  a21 := Tryz.isAgg21
  z21 := Tryz.sizeOf21
  v21 := Tryz.zeroValue21
  t31 := Tryz.underlying114
  a31 := Tryz.isAgg114
  z31 := Tryz.sizeOf114
  v31 := Tryz.zeroValue114
  t40 := Tryz.underlying152
  a40 := Tryz.isAgg152
  z40 := Tryz.sizeOf152
  v40 := Tryz.zeroValue152
  t152 := Tryz.underlying204
  a152 := Tryz.isAgg204
  z152 := Tryz.sizeOf204
  v152 := Tryz.zeroValue204
  t154 := Tryz.underlying206
  a154 := Tryz.isAgg206
  z154 := Tryz.sizeOf206
  v154 := Tryz.zeroValue206 }
open Go.RowKit Go.Lib in
theorem Tryz.strings_FieldsFunc_runes (g : Nat) (lb : Array Value) (eg : ∀ args w, (callFunc g args).run Tryz.prog w = .ok (.enter g args) w) (p : Nat → Bool) (s : ByteArray) (w : World) (hs : s.size ≤ 4294967296) (hp : PredAtRunes Tryz.prog g lb p w) :
    Calls Tryz.prog 98 #[.string s, .func (.func g) #[] lb] w fun e w' => ∃ A, e = .returned (.slice (some ⟨A, 0, none⟩) (Lib.goFieldsP p s).length (Lib.goFieldsP p s).length) ∧ w.heap.size ≤ A ∧
      w'.ownsRow w.heap.size 9 1 (.slice (some ⟨A, 0, none⟩) (Lib.goFieldsP p s).length (Lib.goFieldsP p s).length) (Lib.goFieldsP p s).length ((Lib.goFieldsP p s).map Value.string) ∧ Below w.heap.size w w' := Any.strings_FieldsFunc_runes Tryz.lays229 g lb eg p s w hs hp (by kernel_rfl) (by kernel_rfl)
end Go.Proofs
