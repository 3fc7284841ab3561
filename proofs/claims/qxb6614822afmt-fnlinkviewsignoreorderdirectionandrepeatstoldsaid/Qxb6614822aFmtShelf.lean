/-
  DERIVED: THE SHELF's CONTRACTS AT THIS DUMP, IN PLAIN WORDS (tools/lay-plain.mjs out of 'TryfShelf.lean', which tools/lay-shelf.mjs wrote): THE SAME DECLARATIONS UNDER THE SAME NAMES: 'import', 'namespace', 'open', 'def', 'theorem' AND NOTHING ELSE: no command of the shelf's: FOR A HAND-IN. Each laying: the table of numbers ('.._ren') and one theorem, a field a fact of the dump's own or the kernel's comparison; each contract: ONE APPLICATION.
-/
import Derived.Shelf.Bits.Mul64
import Derived.Test.Qxb6614822aFmtProg
namespace Go.Proofs
open Go.Shelf
def Tryf.lays264_ren : Go.Shelf.Ren := ⟨fun | 264 => 61 | n => n, fun | 53 => 23 | 46 => 137 | n => n, fun | n => n⟩
theorem Tryf.lays264 : Go.Proofs.Lays.n264 Tryf.prog Tryf.lays264_ren := {
  mixed := by kernel_rfl
  f264 := Tryf.func61.trans (congrArg some (by kernel_rfl))
  t46 := Tryf.underlying137
  a46 := Tryf.isAgg137
  z46 := Tryf.sizeOf137
  v46 := Tryf.zeroValue137
  t53 := Tryf.underlying23
  a53 := Tryf.isAgg23
  z53 := Tryf.sizeOf23
  v53 := Tryf.zeroValue23 }
open Go.RowKit Go.Lib in
theorem Tryf.bits_Mul64 (x y : Nat) (hx : x < 18446744073709551616) (hy : y < 18446744073709551616) (w : World) :
    Calls Tryf.prog 61 #[.int .u64 x, .int .u64 y] w fun e w' => e = .returned (.tuple #[.int .u64 ((x * y / 18446744073709551616 : Nat) : Int), .int .u64 ((x * y % 18446744073709551616 : Nat) : Int)]) ∧ w' = w := Any.bits_Mul64 Tryf.lays264 x y hx hy w
end Go.Proofs
