import Derived.Test.Qxb6614822aFmtShelf
import Derived.Test.Qxb6614822aFmtPcg
import Derived.Laws.Externs
import Derived.WalkKit
import Derived.ProofKit
import Derived.RegionTactic
import Derived.ChangeAlike
namespace Go.Proofs.Qxb6614822aFmt
open Go.RowKit

def mHi (x y : Int) : Int := x * y / 18446744073709551616
def mLo (x y : Int) : Int := x * y % 18446744073709551616
def aS (x y c : Int) : Int := (x + y + c) % 18446744073709551616
def aC (x y c : Int) : Int := (x + y + c) / 18446744073709551616
def Word (x : Int) : Prop := 0 ≤ x ∧ x < 18446744073709551616

theorem mul64 (x y : Int) (hx : Word x) (hy : Word y) (w : World) :
    Calls Tryf.prog 61 #[.int .u64 x, .int .u64 y] w fun e w' => e = .returned (.tuple #[.int .u64 (mHi x y), .int .u64 (mLo x y)]) ∧ w' = w := by
  obtain ⟨x0, x1⟩ := hx; obtain ⟨y0, y1⟩ := hy
  obtain ⟨x, rfl⟩ := Int.eq_ofNat_of_zero_le x0
  obtain ⟨y, rfl⟩ := Int.eq_ofNat_of_zero_le y0
  exact Tryf.bits_Mul64 x y (by omega) (by omega) w

theorem add64 (x y c : Int) (hx : Word x) (hy : Word y) (hc0 : 0 ≤ c) (hc : c ≤ 1) (w : World) : (callFunc 142 #[.int .u64 x, .int .u64 y, .int .u64 c]).run Tryf.prog w =
    .ok (.value (.tuple #[.int .u64 (aS x y c), .int .u64 (aC x y c)])) w := by
  obtain ⟨x0, x1⟩ := hx; obtain ⟨y0, y1⟩ := hy
  obtain ⟨x, rfl⟩ := Int.eq_ofNat_of_zero_le x0
  obtain ⟨y, rfl⟩ := Int.eq_ofNat_of_zero_le y0
  obtain ⟨c, rfl⟩ := Int.eq_ofNat_of_zero_le hc0
  rw [run_callFunc_extern Tryf.func142 (by kernel_rfl) (by kernel_rfl) (by kernel_rfl) (e := add64Entry) (by kernel_rfl), run_add64 _ _ _ (by omega) (by omega) (by omega) (by omega)]
  simp only [Result.andThen, aS, aC]

theorem aC_bd (x y c : Int) (hx : Word x) (hy : Word y) (hc0 : 0 ≤ c) (hc : c ≤ 1) : 0 ≤ aC x y c ∧ aC x y c ≤ 1 := by
  unfold aC Word at *; omega
theorem word_mod (x : Int) : Word (x % 18446744073709551616) := by unfold Word; omega
theorem word_mLo (x y : Int) : Word (mLo x y) := word_mod _
theorem word_aS (x y c : Int) : Word (aS x y c) := word_mod _
theorem word_mHi (x y : Int) (hx : Word x) (hy : Word y) : Word (mHi x y) := by
  obtain ⟨x0, x1⟩ := hx; obtain ⟨y0, y1⟩ := hy
  have h1 : 0 ≤ x * y := Int.mul_nonneg x0 y0
  have h2 : x * y ≤ x * 18446744073709551616 := Int.mul_le_mul_of_nonneg_left (by omega) x0
  unfold mHi Word
  generalize x * y = z at *
  omega

/-- the block b holds the cells cs, of type t, none frozen -/
def Blk (w : World) (b : Nat) (cs : Array Value) (t : TypeId) : Prop := w.heap[b]? = some (.cells cs t (0, 0))

theorem Blk.cell {w : World} {b : Nat} {cs : Array Value} {t : TypeId} (h : Blk w b cs t) (o : Nat) : w.cell? ⟨b, o, none⟩ = cs[o]? := by
  unfold Blk at h; simp [World.cell?, h]
theorem Blk.frozen {w : World} {b : Nat} {cs : Array Value} {t : TypeId} (h : Blk w b cs t) (o : Nat) : w.frozen? ⟨b, o, none⟩ = false := by
  unfold Blk at h; simp [World.frozen?, h]
theorem Blk.lt {w : World} {b : Nat} {cs : Array Value} {t : TypeId} (h : Blk w b cs t) : b < w.heap.size := (Array.getElem?_eq_some_iff.1 h).1
theorem Blk.grown {w w' : World} {b : Nat} {cs : Array Value} {t : TypeId} {row : Option Nat} (h : Blk w b cs t) (hg : w.grownBy w' row) (hne : row ≠ some b) : Blk w' b cs t :=
  (hg.block b h.lt (fun e => hne e.symm)).trans h
theorem Blk.set {w : World} {b : Nat} {cs : Array Value} {t : TypeId} (h : Blk w b cs t) (o : Nat) (v : Value) : Blk (w.setCell ⟨b, o, none⟩ v) b (cs.setIfInBounds o v) t := by
  have hlt := h.lt
  have hv : w.heap[b] = .cells cs t (0, 0) := (Array.getElem?_eq_some_iff.1 h).2
  unfold Blk World.setCell
  rw [Array.getElem?_eq_getElem (by simpa using hlt), Array.getElem_modify]
  simp [hv]
theorem Blk.drew {w : World} {b : Nat} {cs : Array Value} {t : TypeId} (h : Blk w b cs t) : Blk w.drew b cs t := h
theorem grown_set (w : World) (a : Addr) (u : Value) : w.grownBy (w.setCell a u) (some a.block) :=
  ⟨rfl, rfl, rfl, by simp, fun k _ hne => by
    simp only [World.setCell]
    rw [Array.getElem?_modify, if_neg (fun e => hne (by rw [e]))]⟩
theorem grown_drew {w w' : World} {row : Option Nat} (h : w.grownBy w' row) : w.grownBy w'.drew row := ⟨h.os, h.tape, h.output, h.size, h.block⟩
theorem grown_refl (w : World) (row : Option Nat) : w.grownBy w row := ⟨rfl, rfl, rfl, Nat.le_refl _, fun _ _ _ => rfl⟩
theorem grown_trans {a b c : World} {row : Option Nat} (h : a.grownBy b row) (k : b.grownBy c row) : a.grownBy c row :=
  ⟨k.os.trans h.os, k.tape.trans h.tape, k.output.trans h.output, Nat.le_trans h.size k.size, fun j hj hne => (k.block j (Nat.lt_of_lt_of_le hj h.size) hne).trans (h.block j hj hne)⟩

def pcgA (hi lo : Int) : Array Value := #[.int .u64 hi, .int .u64 lo]

def hiMid (hi lo : Int) : Int := IntKind.u64.wrap (mHi lo 4865540595714422341 + IntKind.u64.wrap (IntKind.u64.wrap (hi * 4865540595714422341) + IntKind.u64.wrap (lo * 2549297995355413924)))
def nLo (lo : Int) : Int := aS (mLo lo 4865540595714422341) 1442695040888963407 0
def nHi (hi lo : Int) : Int := aS (hiMid hi lo) 6364136223846793005 (aC (mLo lo 4865540595714422341) 1442695040888963407 0)

theorem word_wrap (x : Int) : Word (IntKind.u64.wrap x) := by
  unfold Word IntKind.wrap; simp [IntKind.signed, IntKind.bits]; omega

set_option maxRecDepth 20000 in
set_option maxHeartbeats 1000000 in
theorem next_any (g : Nat) (hi lo : Int) (w : World) (hlo : Word lo) (hB : Blk w g (pcgA hi lo) 92) :
    Calls Tryf.prog 141 #[.pointer (some ⟨g, 0, none⟩)] w fun e w' => e = .returned (.tuple #[.int .u64 (nHi hi lo), .int .u64 (nLo lo)]) ∧ Blk w' g (pcgA (nHi hi lo) (nLo lo)) 92 ∧ w.grownBy w' (some g) := by
  have hM := mul64 lo 4865540595714422341 hlo (by unfold Word; omega)
  have hA1 := fun (w : World) => add64 (mLo lo 4865540595714422341) 1442695040888963407 0 (word_mLo _ _) (by unfold Word; omega) (by omega) (by omega) w
  have hcb := aC_bd (mLo lo 4865540595714422341) 1442695040888963407 0 (word_mLo _ _) (by unfold Word; omega) (by omega) (by omega)
  have hA2 := fun (w : World) => add64 (hiMid hi lo) 6364136223846793005 (aC (mLo lo 4865540595714422341) 1442695040888963407 0) (word_wrap _) (by unfold Word; omega) hcb.1 hcb.2 w
  have h0 : w.cell? ⟨g, 0, none⟩ = some (.int .u64 hi) := hB.cell 0
  have h1 : w.cell? ⟨g, 1, none⟩ = some (.int .u64 lo) := hB.cell 1
  have f0 : w.frozen? ⟨g, 0, none⟩ = false := hB.frozen 0
  have f1 : w.frozen? ⟨g, 1, none⟩ = false := hB.frozen 1
  have HB : Hid (Blk w g (pcgA hi lo) 92) := hB
  clear hB hcb
  unfold hiMid at hA2
  go_enter Tryf.func141, Tryf.ntmps141
  go_wp2_with (first | (go_at_call 61; refine (hM _).mono ?_; rintro e w' ⟨rfl, rfl⟩) | fail)
  go_region
  go_wp2_with (first | simp only [hA1] | simp only [hA2] | fail)
  go_ret2
  refine ⟨rfl, ?_, ?_⟩
  · exact (((HB.out.set 1 _).set 0 _).drew)
  · exact grown_drew (grown_trans (grown_set _ _ _) (grown_set _ _ _))

/-- what PCG.Uint64 gives at a state (behind the step) -/
def outI (hi lo : Int) : Int :=
  IntKind.u64.wrap (bits BinOp.xor IntKind.u64 (IntKind.u64.wrap (bits BinOp.xor IntKind.u64 hi (hi / 4294967296) * 15750249268501108917))
    (IntKind.u64.wrap (bits BinOp.xor IntKind.u64 hi (hi / 4294967296) * 15750249268501108917) / 281474976710656) * bits BinOp.or IntKind.u64 lo 1)

set_option maxRecDepth 20000 in
set_option maxHeartbeats 1000000 in
theorem pcg_any (g : Nat) (hi lo : Int) (w : World) (hlo : Word lo) (hB : Blk w g (pcgA hi lo) 92) :
    Calls Tryf.prog 140 #[.pointer (some ⟨g, 0, none⟩)] w fun e w' => e = .returned (.int .u64 (outI (nHi hi lo) (nLo lo))) ∧ Blk w' g (pcgA (nHi hi lo) (nLo lo)) 92 ∧ w.grownBy w' (some g) := by
  have hN := next_any g hi lo w hlo hB
  generalize nHi hi lo = h2 at hN ⊢
  generalize nLo lo = l2 at hN ⊢
  have HB : Hid (Blk w g (pcgA hi lo) 92) := hB
  clear hB
  go_enter Tryf.func140, Tryf.ntmps140
  go_wp2_with (first | (go_at_call 141; refine hN.mono ?_; rintro e w' ⟨rfl, hB', hg'⟩) | fail)
  go_ret
  exact ⟨rfl, hB', hg'⟩

theorem meth_uint64 (g : Nat) (w : World) : (method 383 69 (.pointer (some ⟨g, 0, none⟩)) "Uint64").run Tryf.prog w = .ok (140, .pointer (some ⟨g, 0, none⟩)) w := by kernel_rfl

def randA (g : Nat) : Array Value := #[.iface 69 (.pointer (some ⟨g, 0, none⟩))]

set_option maxRecDepth 20000 in
set_option maxHeartbeats 1000000 in
theorem rand_any (r g : Nat) (hi lo : Int) (w : World) (hlo : Word lo) (hR : Blk w r (randA g) 90) (hB : Blk w g (pcgA hi lo) 92) :
    Calls Tryf.prog 60 #[.pointer (some ⟨r, 0, none⟩)] w fun e w' => e = .returned (.int .u64 (outI (nHi hi lo) (nLo lo))) ∧ Blk w' g (pcgA (nHi hi lo) (nLo lo)) 92 ∧ w.grownBy w' (some g) := by
  have hN := pcg_any g hi lo w hlo hB
  have h0 : w.cell? ⟨r, 0, none⟩ = some (.iface 69 (.pointer (some ⟨g, 0, none⟩))) := hR.cell 0
  clear hB hR
  have hm := meth_uint64 g
  generalize outI (nHi hi lo) (nLo lo) = x at hN ⊢
  go_enter Tryf.func60, Tryf.ntmps60
  go_wp2_with (first | (go_at_call 140; refine hN.mono ?_; rintro e w' ⟨rfl, hB', hg'⟩) | fail)
  go_ret
  exact ⟨rfl, hB', hg'⟩
end Go.Proofs.Qxb6614822aFmt
