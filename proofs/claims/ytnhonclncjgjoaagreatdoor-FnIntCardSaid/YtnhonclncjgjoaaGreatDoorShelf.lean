/-
  DERIVED: THE SHELF's CONTRACTS AT THIS DUMP, IN PLAIN WORDS (tools/lay-plain.mjs out of 'TryzShelf.lean', which tools/lay-shelf.mjs wrote): THE SAME DECLARATIONS UNDER THE SAME NAMES: 'import', 'namespace', 'open', 'def', 'theorem' AND NOTHING ELSE: no command of the shelf's: FOR A HAND-IN. Each laying: the table of numbers ('.._ren') and one theorem, a field a fact of the dump's own or the kernel's comparison; each contract: ONE APPLICATION.
-/
import Derived.Shelf.Small.Utf8
import Derived.Shelf.Strconv.ParseIntEmpty
import Derived.Shelf.LaysM
import Derived.Shelf.Strconv.Clone
import Derived.Shelf.Strconv.SyntaxError
import Derived.Shelf.LaysC
import Derived.Shelf.Strconv.ToError
import Derived.Shelf.Strconv.Lower
import Derived.Shelf.Strconv.ParseUint10
import Derived.Shelf.Strconv.ParseUint10Empty
import Derived.Shelf.Strconv.ParseUint10Any
import Derived.Shelf.Strconv.ParseInt10
import Derived.Shelf.Strconv.RangeError
import Derived.Shelf.Strconv.ToErrorRange
import Derived.Shelf.Strconv.ParseUintEmpty
import Derived.Shelf.Strconv.ParseUint10b64
import Derived.Shelf.Strconv.ParseUint10b32
import Derived.Shelf.Strconv.ParseUint10b16
import Derived.Shelf.Strconv.ParseUint10b8
import Derived.Shelf.Strconv.ParseUint10At
import Derived.Shelf.Strconv.ParseInt10At64
import Derived.Shelf.Strconv.ParseInt10At32
import Derived.Shelf.Strconv.ParseInt10At16
import Derived.Shelf.Strconv.ParseInt10At8
import Derived.Shelf.Strconv.ParseInt10All
import Derived.Shelf.Strconv.ParseIntPublic10
import Derived.Shelf.Bits.Mul64
import Derived.Shelf.Unicode.DecodeSlow
import Derived.Test.YtnhonclncjgjoaaGreatDoorProg
namespace Go.Proofs
open Go.Shelf
def Tryz.lays212_ren : Go.Shelf.Ren := ⟨fun | 212 => 233 | 263 => 258 | 264 => 259 | n => n, fun | 46 => 48 | 51 => 132 | 146 => 315 | 53 => 144 | 148 => 317 | n => n, fun | n => n⟩
theorem Tryz.lays212 : Go.Proofs.Lays.n212 Tryz.prog Tryz.lays212_ren := {
  mixed := by kernel_rfl
  f212 := Tryz.func233.trans (congrArg some (by kernel_rfl))
  f263 := Tryz.func258.trans (congrArg some (by kernel_rfl))
  f264 := Tryz.func259.trans (congrArg some (by kernel_rfl))
  t46 := Tryz.underlying48
  a46 := Tryz.isAgg48
  z46 := Tryz.sizeOf48
  v46 := Tryz.zeroValue48
  t51 := Tryz.underlying132
  a51 := Tryz.isAgg132
  z51 := Tryz.sizeOf132
  v51 := Tryz.zeroValue132
  t53 := Tryz.underlying144
  a53 := Tryz.isAgg144
  z53 := Tryz.sizeOf144
  v53 := Tryz.zeroValue144
  t146 := Tryz.underlying315
  a146 := Tryz.isAgg315
  z146 := Tryz.sizeOf315
  v146 := Tryz.zeroValue315
  t148 := Tryz.underlying317
  a148 := Tryz.isAgg317
  z148 := Tryz.sizeOf317
  v148 := Tryz.zeroValue317 }
open Go.RowKit Go.Lib in
/-- math/bits.Mul: "Mul returns the full-width product of x and y": on a machine of 64 bits: Mul64's. (LAID: no walk: one application.) -/
theorem Tryz.bits_Mul (x y : Nat) (hx : x < 18446744073709551616) (hy : y < 18446744073709551616) (w : World) :
    Calls Tryz.prog 233 #[.int .u64 x, .int .u64 y] w fun e w' => e = .returned (.tuple #[.int .u64 ((x * y / 18446744073709551616 : Nat) : Int), .int .u64 ((x * y % 18446744073709551616 : Nat) : Int)]) ∧ w' = w := Any.bits_Mul Tryz.lays212 x y hx hy w
end Go.Proofs
