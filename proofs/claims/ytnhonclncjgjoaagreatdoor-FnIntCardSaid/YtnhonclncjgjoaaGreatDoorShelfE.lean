/-
  DERIVED: THE SHELF's CONTRACTS AT THIS DUMP, IN PLAIN WORDS (tools/lay-plain.mjs out of 'TryzShelf.lean', which tools/lay-shelf.mjs wrote): THE SAME DECLARATIONS UNDER THE SAME NAMES: 'import', 'namespace', 'open', 'def', 'theorem' AND NOTHING ELSE: no command of the shelf's: FOR A HAND-IN. Each laying: the table of numbers ('.._ren') and one theorem, a field a fact of the dump's own or the kernel's comparison; each contract: ONE APPLICATION.
-/
import Derived.Shelf.Small.Utf8
import Derived.Shelf.Strconv.ParseIntEmpty
import Derived.Shelf.LaysM
import Derived.Shelf.Strconv.Clone
import Derived.Shelf.Strconv.SyntaxError
import Derived.Shelf.LaysC
import Derived.Shelf.Strconv.ToError
import Derived.Shelf.Strconv.Lower
import Derived.Shelf.Strconv.ParseUint10
import Derived.Shelf.Strconv.ParseUint10Empty
import Derived.Shelf.Strconv.ParseUint10Any
import Derived.Shelf.Strconv.ParseInt10
import Derived.Shelf.Strconv.RangeError
import Derived.Shelf.Strconv.ToErrorRange
import Derived.Shelf.Strconv.ParseUintEmpty
import Derived.Shelf.Strconv.ParseUint10b64
import Derived.Shelf.Strconv.ParseUint10b32
import Derived.Shelf.Strconv.ParseUint10b16
import Derived.Shelf.Strconv.ParseUint10b8
import Derived.Shelf.Strconv.ParseUint10At
import Derived.Shelf.Strconv.ParseInt10At64
import Derived.Shelf.Strconv.ParseInt10At32
import Derived.Shelf.Strconv.ParseInt10At16
import Derived.Shelf.Strconv.ParseInt10At8
import Derived.Shelf.Strconv.ParseInt10All
import Derived.Shelf.Strconv.ParseIntPublic10
import Derived.Shelf.Bits.Mul64
import Derived.Shelf.Unicode.DecodeSlow
import Derived.Test.YtnhonclncjgjoaaGreatDoorProg
namespace Go.Proofs
open Go.Shelf
def Tryz.laysC245_ren : Go.Shelf.Ren := ⟨fun | 245 => 49 | 279 => 78 | 280 => 79 | 281 => 80 | 282 => 81 | 316 => 122 | 171 => 124 | 205 => 123 | 243 => 176 | 246 => 219 | 283 => 242 | 284 => 243 | 285 => 244 | 286 => 245 | 129 => 257 | 317 => 261 | 318 => 262 | 319 => 263 | 320 => 189 | 337 => 228 | 338 => 229 | n => n, fun | 9 => 9 | 3 => 3 | 75 => 64 | 167 => 157 | 4 => 4 | 168 => 160 | 210 => 211 | 37 => 191 | 0 => 0 | 127 => 248 | 145 => 263 | 143 => 261 | 2 => 2 | 171 => 311 | 53 => 144 | 5 => 5 | 173 => 313 | 212 => 328 | 51 => 132 | 20 => 20 | 213 => 329 | 46 => 48 | 232 => 322 | 233 => 323 | 80 => 90 | n => n, fun | 15 => 0 | 16 => 2 | 17 => 15 | 18 => 13 | 19 => 14 | n => n⟩
theorem Tryz.laysC245 : Go.Proofs.LaysC.n245 Tryz.prog Tryz.laysC245_ren := {
  mixed := by kernel_rfl
  f129 := Tryz.func257.trans (congrArg some (by kernel_rfl))
  f171 := Tryz.func124.trans (congrArg some (by kernel_rfl))
  f205 := Tryz.func123.trans (congrArg some (by kernel_rfl))
  f243 := Tryz.func176.trans (congrArg some (by kernel_rfl))
  f245 := Tryz.func49.trans (congrArg some (by kernel_rfl))
  f246 := Tryz.func219.trans (congrArg some (by kernel_rfl))
  f279 := Tryz.func78.trans (congrArg some (by kernel_rfl))
  f280 := Tryz.func79.trans (congrArg some (by kernel_rfl))
  f281 := Tryz.func80.trans (congrArg some (by kernel_rfl))
  f282 := Tryz.func81.trans (congrArg some (by kernel_rfl))
  f283 := Tryz.func242.trans (congrArg some (by kernel_rfl))
  f284 := Tryz.func243.trans (congrArg some (by kernel_rfl))
  f285 := Tryz.func244.trans (congrArg some (by kernel_rfl))
  f286 := Tryz.func245.trans (congrArg some (by kernel_rfl))
  f316 := Tryz.func122.trans (congrArg some (by kernel_rfl))
  f317 := Tryz.func261.trans (congrArg some (by kernel_rfl))
  f318 := Tryz.func262.trans (congrArg some (by kernel_rfl))
  f319 := Tryz.func263.trans (congrArg some (by kernel_rfl))
  f320 := Tryz.func189.trans (congrArg some (by kernel_rfl))
  f337 := Tryz.func228.trans (congrArg some (by kernel_rfl))
  f338 := Tryz.func229.trans (congrArg some (by kernel_rfl))
  t0 := Tryz.underlying0
  a0 := Tryz.isAgg0
  z0 := Tryz.sizeOf0
  v0 := Tryz.zeroValue0
  t2 := Tryz.underlying2
  a2 := Tryz.isAgg2
  z2 := Tryz.sizeOf2
  v2 := Tryz.zeroValue2
  t3 := Tryz.underlying3
  a3 := Tryz.isAgg3
  z3 := Tryz.sizeOf3
  v3 := Tryz.zeroValue3
  t4 := Tryz.underlying4
  a4 := Tryz.isAgg4
  z4 := Tryz.sizeOf4
  v4 := Tryz.zeroValue4
  t5 := Tryz.underlying5
  a5 := Tryz.isAgg5
  z5 := Tryz.sizeOf5
  v5 := Tryz.zeroValue5
  t9 := Tryz.underlying9
  a9 := Tryz.isAgg9
  z9 := Tryz.sizeOf9
  v9 := Tryz.zeroValue9
  t20 := Tryz.underlying20
  a20 := Tryz.isAgg20
  z20 := Tryz.sizeOf20
  v20 := Tryz.zeroValue20
  t37 := Tryz.underlying191
  a37 := Tryz.isAgg191
  z37 := Tryz.sizeOf191
  v37 := Tryz.zeroValue191
  t46 := Tryz.underlying48
  a46 := Tryz.isAgg48
  z46 := Tryz.sizeOf48
  v46 := Tryz.zeroValue48
  t51 := Tryz.underlying132
  a51 := Tryz.isAgg132
  z51 := Tryz.sizeOf132
  v51 := Tryz.zeroValue132
  t53 := Tryz.underlying144
  a53 := Tryz.isAgg144
  z53 := Tryz.sizeOf144
  v53 := Tryz.zeroValue144
  t75 := Tryz.underlying64
  a75 := Tryz.isAgg64
  z75 := Tryz.sizeOf64
  v75 := Tryz.zeroValue64
  t127 := Tryz.underlying248
  a127 := Tryz.isAgg248
  z127 := Tryz.sizeOf248
  v127 := Tryz.zeroValue248
  t143 := Tryz.underlying261
  a143 := Tryz.isAgg261
  z143 := Tryz.sizeOf261
  v143 := Tryz.zeroValue261
  t145 := Tryz.underlying263
  a145 := Tryz.isAgg263
  z145 := Tryz.sizeOf263
  v145 := Tryz.zeroValue263
  t167 := Tryz.underlying157
  a167 := Tryz.isAgg157
  z167 := Tryz.sizeOf157
  v167 := Tryz.zeroValue157
  t168 := Tryz.underlying160
  a168 := Tryz.isAgg160
  z168 := Tryz.sizeOf160
  v168 := Tryz.zeroValue160
  t171 := Tryz.underlying311
  a171 := Tryz.isAgg311
  z171 := Tryz.sizeOf311
  v171 := Tryz.zeroValue311
  t173 := Tryz.underlying313
  a173 := Tryz.isAgg313
  z173 := Tryz.sizeOf313
  v173 := Tryz.zeroValue313
  t210 := Tryz.underlying211
  a210 := Tryz.isAgg211
  z210 := Tryz.sizeOf211
  v210 := Tryz.zeroValue211
  t212 := Tryz.underlying328
  a212 := Tryz.isAgg328
  z212 := Tryz.sizeOf328
  v212 := Tryz.zeroValue328
  t213 := Tryz.underlying329
  a213 := Tryz.isAgg329
  z213 := Tryz.sizeOf329
  t232 := Tryz.underlying322
  a232 := Tryz.isAgg322
  z232 := Tryz.sizeOf322
  v232 := Tryz.zeroValue322
  t233 := Tryz.underlying323
  a233 := Tryz.isAgg323
  z233 := Tryz.sizeOf323
  v233 := Tryz.zeroValue323
  g15 := by kernel_rfl
  g16 := by kernel_rfl
  g17 := by kernel_rfl
  g18 := by kernel_rfl
  g19 := by kernel_rfl
  t80 := Tryz.underlying90
  a80 := Tryz.isAgg90
  z80 := Tryz.sizeOf90
  v80 := Tryz.zeroValue90
  i0 := by kernel_rfl
  i2 := by kernel_rfl
  i3 := by kernel_rfl
  i4 := by kernel_rfl
  i5 := by kernel_rfl
  i9 := by kernel_rfl
  i20 := by kernel_rfl
  i37 := by kernel_rfl
  i46 := by kernel_rfl
  i51 := by kernel_rfl
  i53 := by kernel_rfl
  i75 := by kernel_rfl
  i80 := by kernel_rfl
  i127 := by kernel_rfl
  i143 := by kernel_rfl
  i145 := by kernel_rfl
  i167 := by kernel_rfl
  i168 := by kernel_rfl
  i171 := by kernel_rfl
  i173 := by kernel_rfl
  i210 := by kernel_rfl
  i212 := by kernel_rfl
  i232 := by kernel_rfl
  i233 := by kernel_rfl
  m15 := by kernel_rfl
  m16 := by kernel_rfl
  m17 := by kernel_rfl
  m18 := by kernel_rfl
  m19 := by kernel_rfl
  c0 := by kernel_rfl
  c2 := by kernel_rfl
  c3 := by kernel_rfl
  c4 := by kernel_rfl
  c5 := by kernel_rfl
  c9 := by kernel_rfl
  c20 := by kernel_rfl
  c37 := by kernel_rfl
  c46 := by kernel_rfl
  c51 := by kernel_rfl
  c53 := by kernel_rfl
  c75 := by kernel_rfl
  c80 := by kernel_rfl
  c127 := by kernel_rfl
  c143 := by kernel_rfl
  c145 := by kernel_rfl
  c167 := by kernel_rfl
  c168 := by kernel_rfl
  c171 := by kernel_rfl
  c173 := by kernel_rfl
  c210 := by kernel_rfl
  c212 := by kernel_rfl
  c213 := by kernel_rfl
  c232 := by kernel_rfl
  c233 := by kernel_rfl }
open Go.RowKit in
/-- strconv.toError, at the inner package's ErrSyntax: 'syntaxError(fn, s)' as an error: A *NumError IN A NEW BLOCK. (LAID: no walk: one application.) -/
theorem Tryz.strconv_toError_syntax (fn s : ByteArray) (base bits : Int) (ev : Value) (w : World) (hlim : s.size ≤ 281474976710656) (hv : w.cell? ⟨0, 0, none⟩ = some ev) (hev : ev = .nilIface ∨ ∃ te pe, ev = .iface te pe) :
    Calls Tryz.prog 49 #[.string fn, .string s, .int .i64 base, .int .i64 bits, .iface 157 (.int .i64 2)] w fun e w' => ∃ N, e = .returned (.iface 160 (.pointer (some ⟨N, 0, none⟩))) ∧ w.heap.size ≤ N ∧ w'.heap[N]? = some (.cells #[.string fn, .string s, ev] 211 (0, 0)) ∧ Below w.heap.size w w' := Any.strconv_toError_syntax Tryz.laysC245 fn s base bits ev w hlim hv hev
open Go.RowKit in
/-- strconv.toError, at the inner package's ErrRange: 'rangeError(fn, s)' as an error: A *NumError IN A NEW BLOCK. (LAID: no walk: one application.) -/
theorem Tryz.strconv_toError_range (fn s : ByteArray) (base bits : Int) (ev : Value) (w : World) (hlim : s.size ≤ 281474976710656) (hv : w.cell? ⟨2, 0, none⟩ = some ev) (hev : ev = .nilIface ∨ ∃ te pe, ev = .iface te pe) :
    Calls Tryz.prog 49 #[.string fn, .string s, .int .i64 base, .int .i64 bits, .iface 157 (.int .i64 1)] w fun e w' => ∃ N, e = .returned (.iface 160 (.pointer (some ⟨N, 0, none⟩))) ∧ w.heap.size ≤ N ∧ w'.heap[N]? = some (.cells #[.string fn, .string s, ev] 211 (0, 0)) ∧ Below w.heap.size w w' := Any.strconv_toError_range Tryz.laysC245 fn s base bits ev w hlim hv hev
end Go.Proofs
