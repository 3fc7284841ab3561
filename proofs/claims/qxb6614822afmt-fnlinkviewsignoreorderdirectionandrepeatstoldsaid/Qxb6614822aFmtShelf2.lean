/-
  DERIVED: THE SHELF's CONTRACTS AT THIS DUMP, IN PLAIN WORDS (tools/lay-plain.mjs out of 'TryfShelf.lean', which tools/lay-shelf.mjs wrote): THE SAME DECLARATIONS UNDER THE SAME NAMES: 'import', 'namespace', 'open', 'def', 'theorem' AND NOTHING ELSE: no command of the shelf's: FOR A HAND-IN. Each laying: the table of numbers ('.._ren') and one theorem, a field a fact of the dump's own or the kernel's comparison; each contract: ONE APPLICATION.
-/
import Derived.Shelf.Small.Bits
import Derived.Ground.Names2Prog
import Derived.Shelf.Slices.Clone
import Derived.Test.Qxb6614822aFmtProg
namespace Go.Proofs
open Go.Shelf
def Tryf.lays125_ren : Go.Shelf.Ren := ⟨fun | 125 => 64 | 128 => 86 | 129 => 87 | n => n, fun | 46 => 137 | 3 => 3 | 51 => 128 | 53 => 23 | 4 => 4 | 5 => 5 | 9 => 9 | n => n, fun | n => n⟩
theorem Tryf.lays125 : Go.Proofs.Lays.n125 Tryf.prog Tryf.lays125_ren := {
  mixed := by kernel_rfl
  f125 := Tryf.func64.trans (congrArg some (by kernel_rfl))
  f128 := Tryf.func86.trans (congrArg some (by kernel_rfl))
  f129 := Tryf.func87.trans (congrArg some (by kernel_rfl))
  t3 := Tryf.underlying3
  a3 := Tryf.isAgg3
  z3 := Tryf.sizeOf3
  v3 := Tryf.zeroValue3
  t4 := Tryf.underlying4
  a4 := Tryf.isAgg4
  z4 := Tryf.sizeOf4
  v4 := Tryf.zeroValue4
  t5 := Tryf.underlying5
  a5 := Tryf.isAgg5
  z5 := Tryf.sizeOf5
  v5 := Tryf.zeroValue5
  t9 := Tryf.underlying9
  a9 := Tryf.isAgg9
  z9 := Tryf.sizeOf9
  v9 := Tryf.zeroValue9
  t46 := Tryf.underlying137
  a46 := Tryf.isAgg137
  z46 := Tryf.sizeOf137
  v46 := Tryf.zeroValue137
  t51 := Tryf.underlying128
  a51 := Tryf.isAgg128
  z51 := Tryf.sizeOf128
  v51 := Tryf.zeroValue128
  t53 := Tryf.underlying23
  a53 := Tryf.isAgg23
  z53 := Tryf.sizeOf23
  v53 := Tryf.zeroValue23 }
/-- bits.Len: "Len returns the minimum number of bits required to represent x; the result is 0 for x == 0.": IT RETURNS 'Lib.bitLen x'; the world is as it was. (A uint has 64 bits in the model.) ITS CALLEE bits.Len64 IS MET BY ITS OWN CONTRACT OFF THE SHELF (lay that first). (LAID: no walk: one application.) -/
theorem Tryf.bits_Len (x : Int) (w : World) (h0 : 0 ≤ x) (h1 : x ≤ 18446744073709551615) :
    Calls Tryf.prog 64 #[.int .u64 x] w fun e w' => e = .returned (.int .i64 (Lib.bitLen x.toNat)) ∧ w' = w := Any.bits_Len Tryf.lays125 x w h0 h1
def Tryf.laysNm215_ren : Go.Shelf.Ren := ⟨fun | 15 => 48 | n => n, fun | 22 => 38 | 3 => 3 | 4 => 4 | n => n, fun | n => n⟩
theorem Tryf.laysNm215 : Go.Proofs.Lays2.n15 Tryf.prog Tryf.laysNm215_ren := {
  mixed := by kernel_rfl
  f15 := Tryf.func48.trans (congrArg some (by kernel_rfl))
  t3 := Tryf.underlying3
  a3 := Tryf.isAgg3
  z3 := Tryf.sizeOf3
  v3 := Tryf.zeroValue3
  t4 := Tryf.underlying4
  a4 := Tryf.isAgg4
  z4 := Tryf.sizeOf4
  v4 := Tryf.zeroValue4
  t22 := Tryf.underlying38
  a22 := Tryf.isAgg38
  z22 := Tryf.sizeOf38
  v22 := Tryf.zeroValue38
  i3 := by kernel_rfl }
open Go.RowKit Go.Lib in
/-- slices.Clone at []int: "Clone returns a copy of the slice. The elements are copied using assignment, so this is a shallow clone. The result may have additional unused capacity. The result preserves the nilness of s.": OF A SLICE THAT IS NOT nil IT RETURNS A SLICE THAT IS NOT nil, OF THE SAME ELEMENTS, IN MEMORY OF THE CALL's OWN: in the how-to's words (6f): 'w'.ownsRow B e 1 v' n cells': v' begins at the head of a row among the blocks from B on (B: the heap's size at the call), not frozen, whose first cells are the elements · 'Below B w w'': below B all is as it was. The capacity is whatever the run-time gives. 'zs': what the cells behind the slice's address hold; 'zs.take n': its elements. (LAID: no walk: one application.) -/
theorem Tryf.slices_Clone_int (b off n c : Nat) (zs : List Int) (w : World) (hz : n ≤ zs.length) (hbig : n * 8 ≤ 140737488355328) (hc : ∀ j, j < zs.length → w.cell? ⟨b, off + j, none⟩ = some (.int .i64 (zs.getD j 0))) :
    Calls Tryf.prog 48 #[.slice (some ⟨b, off, none⟩) n c] w fun e w' => ∃ v', e = .returned v' ∧ w'.ownsRow w.heap.size 3 1 v' n ((zs.take n).map (Value.int .i64)) ∧ v' ≠ .slice none 0 0 ∧ Below w.heap.size w w' := Any.slices_Clone_int Tryf.laysNm215 b off n c zs w hz hbig hc
open Go.RowKit Go.Lib in
/-- The same at nil: nil comes back; the world is as it was. (LAID: no walk: one application.) -/
theorem Tryf.slices_Clone_int_nil (n c : Nat) (w : World) :
    Calls Tryf.prog 48 #[.slice none n c] w fun e w' => e = .returned (.slice none 0 0) ∧ w' = w := Any.slices_Clone_int_nil Tryf.laysNm215 n c w
open Go.RowKit Go.Lib in
/-- The same at a slice of length 0 that is not nil, WHATEVER ITS ADDRESS (no cell is asked for): a slice that is not nil and owns nothing comes back. (LAID: no walk: one application.) -/
theorem Tryf.slices_Clone_int_zero (a : Addr) (c : Nat) (w : World) :
    Calls Tryf.prog 48 #[.slice (some a) 0 c] w fun e w' => ∃ v', e = .returned v' ∧ w'.ownsRow w.heap.size 3 1 v' 0 [] ∧ v' ≠ .slice none 0 0 ∧ Below w.heap.size w w' := Any.slices_Clone_int_zero Tryf.laysNm215 a c w
end Go.Proofs
