/-
  DERIVED: THE SHELF's CONTRACTS AT THIS DUMP, IN PLAIN WORDS (tools/lay-plain.mjs out of 'TryShelf.lean', which tools/lay-shelf.mjs wrote): THE SAME DECLARATIONS UNDER THE SAME NAMES: 'import', 'namespace', 'open', 'def', 'theorem' AND NOTHING ELSE: no command of the shelf's: FOR A HAND-IN. Each laying: the table of numbers ('.._ren') and one theorem, a field a fact of the dump's own or the kernel's comparison; each contract: ONE APPLICATION.
-/
import Derived.Shelf.Bytes.SlSmallAll
import Derived.Shelf.Bytes.SlEqualAll
import Derived.Shelf.Bytes.Small
import Derived.Test.Qxb6616246aProg
namespace Go.Proofs
open Go.Shelf
def Try.laysnb117_ren : Go.Shelf.Ren := ⟨fun | 117 => 36 | 115 => 44 | n => n, fun | 37 => 35 | 4 => 4 | 3 => 3 | 9 => 9 | 5 => 5 | n => n, fun | n => n⟩
theorem Try.laysnb117 : Go.Proofs.Lays.nb117 Try.prog Try.laysnb117_ren := {
  mixed := by kernel_rfl
  f115 := Try.func44.trans (congrArg some (by kernel_rfl))
  f117 := Try.func36.trans (congrArg some (by kernel_rfl))
  t3 := Try.underlying3
  a3 := Try.isAgg3
  z3 := Try.sizeOf3
  v3 := Try.zeroValue3
  t4 := Try.underlying4
  a4 := Try.isAgg4
  z4 := Try.sizeOf4
  v4 := Try.zeroValue4
  t9 := Try.underlying9
  a9 := Try.isAgg9
  z9 := Try.sizeOf9
  v9 := Try.zeroValue9
  t37 := Try.underlying35
  a37 := Try.isAgg35
  z37 := Try.sizeOf35
  v37 := Try.zeroValue35
  t5 := Try.underlying5
  a5 := Try.isAgg5
  z5 := Try.sizeOf5
  v5 := Try.zeroValue5 }
theorem Try.bytes_HasSuffix_e2 (p1 p2 : Option Addr) (n c d : Nat) (_hnc : n ≤ c) (hbig : n ≤ 9223372036854775807) (w : World) :
    Calls Try.prog 36 #[.slice p1 n c, .slice p2 0 d] w fun e w' => e = .returned (.bool true) ∧ w' = w := Any.bytes_HasSuffix_e2 Try.laysnb117 p1 p2 n c d _hnc hbig w
theorem Try.bytes_HasSuffix_e1 (p1 p2 : Option Addr) (c m d : Nat) (hm : 0 < m) (w : World) :
    Calls Try.prog 36 #[.slice p1 0 c, .slice p2 m d] w fun e w' => e = .returned (.bool false) ∧ w' = w := Any.bytes_HasSuffix_e1 Try.laysnb117 p1 p2 c m d hm w
def Try.laysnb140_ren : Go.Shelf.Ren := ⟨fun | 140 => 35 | 117 => 36 | 115 => 44 | n => n, fun | 37 => 35 | 4 => 4 | 3 => 3 | 9 => 9 | 5 => 5 | n => n, fun | n => n⟩
theorem Try.laysnb140 : Go.Proofs.Lays.nb140 Try.prog Try.laysnb140_ren := {
  mixed := by kernel_rfl
  f115 := Try.func44.trans (congrArg some (by kernel_rfl))
  f117 := Try.func36.trans (congrArg some (by kernel_rfl))
  f140 := Try.func35.trans (congrArg some (by kernel_rfl))
  t3 := Try.underlying3
  a3 := Try.isAgg3
  z3 := Try.sizeOf3
  v3 := Try.zeroValue3
  t4 := Try.underlying4
  a4 := Try.isAgg4
  z4 := Try.sizeOf4
  v4 := Try.zeroValue4
  t9 := Try.underlying9
  a9 := Try.isAgg9
  z9 := Try.sizeOf9
  v9 := Try.zeroValue9
  t37 := Try.underlying35
  a37 := Try.isAgg35
  z37 := Try.sizeOf35
  v37 := Try.zeroValue35
  t5 := Try.underlying5
  a5 := Try.isAgg5
  z5 := Try.sizeOf5
  v5 := Try.zeroValue5 }
theorem Try.bytes_TrimSuffix_e2 (p1 p2 : Option Addr) (n c d : Nat) (hnc : n ≤ c) (hbig : n ≤ 9223372036854775807) (w : World) :
    Calls Try.prog 35 #[.slice p1 n c, .slice p2 0 d] w fun e w' => e = .returned (.slice p1 n c) ∧ w' = w := Any.bytes_TrimSuffix_e2 Try.laysnb140 p1 p2 n c d hnc hbig w
theorem Try.bytes_TrimSuffix_e1 (p1 p2 : Option Addr) (c m d : Nat) (hm : 0 < m) (w : World) :
    Calls Try.prog 35 #[.slice p1 0 c, .slice p2 m d] w fun e w' => e = .returned (.slice p1 0 c) ∧ w' = w := Any.bytes_TrimSuffix_e1 Try.laysnb140 p1 p2 c m d hm w
/-- bytes.HasSuffix: WHOLE: each argument nil, or of no byte at whatever address, or at an address with its cells. (LAID: no walk: one application.) -/
theorem Try.bytes_HasSuffix_all (p1 p2 : Option Addr) (n c m d : Nat) (xs ys : List Int) (w : World) (hx : xs.length = n) (hy : ys.length = m) (hnc : n ≤ c) (hbig : n ≤ 9223372036854775807) (h1 : Lib.BytesIn w p1 n xs) (h2 : Lib.BytesIn w p2 m ys) :
    Calls Try.prog 36 #[.slice p1 n c, .slice p2 m d] w fun e w' => e = .returned (.bool (Lib.hasSuffix (Lib.bytesOf xs) (Lib.bytesOf ys))) ∧ w' = w := Any.bytes_HasSuffix_all Try.laysnb117 p1 p2 n c m d xs ys w hx hy hnc hbig h1 h2
/-- bytes.TrimSuffix: WHOLE. (LAID: no walk: one application.) -/
theorem Try.bytes_TrimSuffix_all (p1 p2 : Option Addr) (n c m d : Nat) (xs ys : List Int) (w : World) (hx : xs.length = n) (hy : ys.length = m) (hnc : n ≤ c) (hbig : n ≤ 9223372036854775807) (h1 : Lib.BytesIn w p1 n xs) (h2 : Lib.BytesIn w p2 m ys) :
    Calls Try.prog 35 #[.slice p1 n c, .slice p2 m d] w fun e w' => e = .returned (Lib.trimSuffixV p1 n c xs ys) ∧ w' = w := Any.bytes_TrimSuffix_all Try.laysnb140 p1 p2 n c m d xs ys w hx hy hnc hbig h1 h2
def Try.laysnb115_ren : Go.Shelf.Ren := ⟨fun | 115 => 44 | n => n, fun | 37 => 35 | 4 => 4 | 9 => 9 | 5 => 5 | n => n, fun | n => n⟩
theorem Try.laysnb115 : Go.Proofs.Lays.nb115 Try.prog Try.laysnb115_ren := {
  mixed := by kernel_rfl
  f115 := Try.func44.trans (congrArg some (by kernel_rfl))
  t4 := Try.underlying4
  a4 := Try.isAgg4
  z4 := Try.sizeOf4
  v4 := Try.zeroValue4
  t9 := Try.underlying9
  a9 := Try.isAgg9
  z9 := Try.sizeOf9
  v9 := Try.zeroValue9
  t37 := Try.underlying35
  a37 := Try.isAgg35
  z37 := Try.sizeOf35
  v37 := Try.zeroValue35
  t5 := Try.underlying5
  a5 := Try.isAgg5
  z5 := Try.sizeOf5
  v5 := Try.zeroValue5 }
/-- bytes.Equal: WHOLE. (LAID: no walk: one application.) -/
theorem Try.bytes_Equal_all (p1 p2 : Option Addr) (n c m d : Nat) (xs ys : List Int) (w : World) (hx : xs.length = n) (hy : ys.length = m) (h1 : Lib.BytesIn w p1 n xs) (h2 : Lib.BytesIn w p2 m ys) :
    Calls Try.prog 44 #[.slice p1 n c, .slice p2 m d] w fun e w' => e = .returned (.bool (Lib.bytesOf xs == Lib.bytesOf ys)) ∧ w' = w := Any.bytes_Equal_all Try.laysnb115 p1 p2 n c m d xs ys w hx hy h1 h2
def Try.lays115_ren : Go.Shelf.Ren := ⟨fun | 115 => 44 | n => n, fun | 37 => 35 | 4 => 4 | 9 => 9 | 5 => 5 | n => n, fun | n => n⟩
theorem Try.lays115 : Go.Proofs.Lays.n115 Try.prog Try.lays115_ren := {
  mixed := by kernel_rfl
  f115 := Try.func44.trans (congrArg some (by kernel_rfl))
  t4 := Try.underlying4
  a4 := Try.isAgg4
  z4 := Try.sizeOf4
  v4 := Try.zeroValue4
  t9 := Try.underlying9
  a9 := Try.isAgg9
  z9 := Try.sizeOf9
  v9 := Try.zeroValue9
  t37 := Try.underlying35
  a37 := Try.isAgg35
  z37 := Try.sizeOf35
  v37 := Try.zeroValue35 }
/-- bytes.Equal: "Equal reports whether a and b are the same length and contain the same bytes. A nil argument is equivalent to an empty slice.": IT RETURNS 'the bytes of the one == the bytes of the other'; the world is as it was. THE TWO ARGUMENTS COME AS WHATEVER VALUES, each with the one fact that the walk wants of it: what 'string(..)' of it gives: for a slice whose cells you know: 'run_convert_bytes_arg' (Derived/Laws/BytesArg.lean) hands that fact; for a nil one: 'run_convert_bytes_nil' (with xs := []). (LAID: no walk: one application.) -/
theorem Try.bytes_Equal (v1 v2 : Value) (xs ys : List Int) (w : World) (h1 : (convert 35 9 v1).run Try.prog w = .ok (.string (strOfNums xs)) w) (h2 : (convert 35 9 v2).run Try.prog w = .ok (.string (strOfNums ys)) w) :
    Calls Try.prog 44 #[v1, v2] w fun e w' => e = .returned (.bool (Lib.bytesOf xs == Lib.bytesOf ys)) ∧ w' = w := Any.bytes_Equal Try.lays115 v1 v2 xs ys w h1 h2
/-- bytes.HasSuffix: "HasSuffix reports whether the byte slice s ends with suffix.": IT RETURNS 'Lib.hasSuffix (the bytes of s) (the bytes of suffix)'; the world is as it was. ITS CALLEE bytes.Equal IS MET BY ITS OWN CONTRACT OFF THE SHELF (lay that first). (An empty suffix too: there the model's slicing may keep the slice's address, where the cut falls at its very capacity: the value bears an 'if': 'gA' pays both arms.) (LAID: no walk: one application.) -/
theorem Try.bytes_HasSuffix (b1 o1 n c b2 o2 m d : Nat) (xs ys : List Int) (w : World) (hx : xs.length = n) (hy : ys.length = m) (hnc : n ≤ c) (hbig : n ≤ 9223372036854775807) (hc1 : ∀ i, i < n → w.cell? ⟨b1, o1 + i, none⟩ = some (.int .u8 (xs.getD i 0))) (hc2 : ∀ i, i < m → w.cell? ⟨b2, o2 + i, none⟩ = some (.int .u8 (ys.getD i 0))) :
    Calls Try.prog 36 #[.slice (some ⟨b1, o1, none⟩) n c, .slice (some ⟨b2, o2, none⟩) m d] w fun e w' => e = .returned (.bool (Lib.hasSuffix (Lib.bytesOf xs) (Lib.bytesOf ys))) ∧ w' = w := Any.bytes_HasSuffix Try.laysnb117 b1 o1 n c b2 o2 m d xs ys w hx hy hnc hbig hc1 hc2
/-- bytes.TrimSuffix: "TrimSuffix returns s without the provided trailing suffix string. If s doesn't end with suffix, s is returned unchanged.": IT RETURNS 'Lib.bytesTrimSuffix': s[:len(s)-len(suffix)] OF THE ARGUMENT's OWN MEMORY where s ends with suffix, else s itself; the world is as it was. (LAID: no walk: one application.) -/
theorem Try.bytes_TrimSuffix (b1 o1 n c b2 o2 m d : Nat) (xs ys : List Int) (w : World) (hx : xs.length = n) (hy : ys.length = m) (hnc : n ≤ c) (hbig : n ≤ 9223372036854775807) (hc1 : ∀ i, i < n → w.cell? ⟨b1, o1 + i, none⟩ = some (.int .u8 (xs.getD i 0))) (hc2 : ∀ i, i < m → w.cell? ⟨b2, o2 + i, none⟩ = some (.int .u8 (ys.getD i 0))) :
    Calls Try.prog 35 #[.slice (some ⟨b1, o1, none⟩) n c, .slice (some ⟨b2, o2, none⟩) m d] w fun e w' => e = .returned (Lib.bytesTrimSuffix b1 o1 n c xs ys) ∧ w' = w := Any.bytes_TrimSuffix Try.laysnb140 b1 o1 n c b2 o2 m d xs ys w hx hy hnc hbig hc1 hc2
end Go.Proofs
