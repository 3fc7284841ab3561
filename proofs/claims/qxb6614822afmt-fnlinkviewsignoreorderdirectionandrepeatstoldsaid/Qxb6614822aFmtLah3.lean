import Derived.Test.Qxb6614822aFmtLah2
import Derived.BigRegion
import Derived.BigQuiet
import Derived.Deep.QuietTactic
namespace Go.Proofs.Qxb6614822aFmt
open Go.RowKit

theorem info47 : (Tryf.prog.info? 47).map (fun i => (i.zero, i.size, i.bytes)) = some (some (.agg #[.int .u64 0, .int .u64 0]), 2, 16) := by kernel_rfl
theorem info4 : (Tryf.prog.info? 4).map (fun i => (i.zero, i.size, i.bytes)) = some (some (.bool false), 1, 1) := by kernel_rfl
def lzA (n : Nat) : Array Value := madeCells #[.int .u64 0, .int .u64 0] (n * 2)
theorem mk41 (n c : Nat) (hnc : n ≤ c) (hn : c ≤ 1000000) (w : World) : (Instr.makeSlice 41 (.int .i64 (n : Int)) (.int .i64 (c : Int))).run Tryf.prog w = .ok (.slice (some ⟨w.heap.size, 0, none⟩) n c) (w.alloc (.cells (lzA c) 47)) := by
  obtain ⟨i0, hi, hz0, hz1, hz2⟩ := info_parts info47
  have := run_make (P := Tryf.prog) w 41 47 i0 _ Tryf.underlying41 hi hz0 .i64 .i64 n c (by omega) (by omega) (by rw [hz2]; omega) (by omega)
  rw [hz1] at this
  simp only [Int.toNat_natCast] at this
  exact this

/-- block g holds the first m of the links vs; room for M -/
def RowL (w : World) (g : Nat) (vs : List (Int × Int)) (m M : Nat) : Prop := ∃ cs : Array Value, Blk w g cs 47 ∧ cs.size = M * 2 ∧ ∀ t, t < m → cs[t * 2]? = some (.int .u64 (vs.getD t (0, 0)).1) ∧ cs[t * 2 + 1]? = some (.int .u64 (vs.getD t (0, 0)).2)
theorem RowL.any {w : World} {g m M : Nat} {vs : List (Int × Int)} (h : RowL w g vs m M) {i : Nat} (hi : i < M * 2) : ∃ v, w.cell? ⟨g, i, none⟩ = some v := by
  obtain ⟨cs, hb, hs, hc⟩ := h
  rw [hb.cell i]; exact ⟨_, Array.getElem?_eq_getElem (by omega)⟩
theorem RowL.frozen {w : World} {g m M : Nat} {vs : List (Int × Int)} (h : RowL w g vs m M) (i : Nat) : w.frozen? ⟨g, i, none⟩ = false := by
  obtain ⟨cs, hb, _, _⟩ := h
  exact hb.frozen i
theorem RowL.lt {w : World} {g m M : Nat} {vs : List (Int × Int)} (h : RowL w g vs m M) : g < w.heap.size := by
  obtain ⟨cs, hb, _, _⟩ := h
  exact hb.lt
theorem RowL.grown {w w' : World} {g m M : Nat} {vs : List (Int × Int)} {row : Option Nat} (h : RowL w g vs m M) (hg : w.grownBy w' row) (hne : row ≠ some g) : RowL w' g vs m M := by
  obtain ⟨cs, hb, h1, h2⟩ := h
  exact ⟨cs, hb.grown hg hne, h1, h2⟩
theorem RowL.drew {w : World} {g m M : Nat} {vs : List (Int × Int)} (h : RowL w g vs m M) : RowL w.drew g vs m M := h
theorem RowL.congr {w : World} {g m M : Nat} {vs vs' : List (Int × Int)} (h : RowL w g vs m M) (e : ∀ t, t < m → vs.getD t (0, 0) = vs'.getD t (0, 0)) : RowL w g vs' m M := by
  obtain ⟨cs, hb, h1, h2⟩ := h
  exact ⟨cs, hb, h1, fun i hi => by rw [← e i hi]; exact h2 i hi⟩
theorem RowL.push {w : World} {g m M : Nat} {vs : List (Int × Int)} (h : RowL w g vs m M) (hm : m < M) {x y : Int} (hv : vs.getD m (0, 0) = (x, y)) :
    RowL ((w.setCell ⟨g, m * 2, none⟩ (.int .u64 x)).setCell ⟨g, m * 2 + 1, none⟩ (.int .u64 y)) g vs (m + 1) M := by
  obtain ⟨cs, hb, h1, h2⟩ := h
  refine ⟨_, (hb.set (m * 2) _).set (m * 2 + 1) _, by simpa using h1, fun t ht => ?_⟩
  rw [Array.getElem?_setIfInBounds, Array.getElem?_setIfInBounds, Array.getElem?_setIfInBounds, Array.getElem?_setIfInBounds]
  simp only [Array.size_setIfInBounds]
  by_cases e : m = t
  · subst e
    rw [hv]
    constructor
    · rw [if_neg (by omega), if_pos rfl, if_pos (by omega)]
    · rw [if_pos rfl, if_pos (by omega)]
  · rw [if_neg (by omega), if_neg (by omega), if_neg (by omega), if_neg (by omega)]; exact h2 t (by omega)
theorem RowL.lnk {w : World} {g M : Nat} {vs : List (Int × Int)} {m : Nat} (h : RowL w g vs m M) : LnkIn w (some ⟨g, 0, none⟩) m vs := by
  obtain ⟨cs, hb, h1, h2⟩ := h
  refine fun _ => ⟨g, 0, rfl, fun t ht => ?_⟩
  rw [Nat.zero_add, hb.cell, hb.cell]; exact h2 t ht

set_option maxRecDepth 20000 in
set_option maxHeartbeats 1000000 in
theorem sim_any (pL : Option Addr) (nl cl : Nat) (vs : List (Int × Int)) (w : World) (hnl : nl ≤ 10000) (hL : LnkIn w pL nl vs) (hp : pL = none → nl = 0 ∧ cl = 0) :
    Calls Tryf.prog 15 #[.slice pL nl cl] w fun e w' => ∃ p', e = .returned (.slice p' nl nl) ∧ LnkIn w' p' nl vs ∧ w.grownBy w' none := by
  have q36 : ∀ (w : World) (a : Option Addr) (n c n' c' : Nat), (binOp .eql 36 (.slice a n c) (.slice none n' c')).run Tryf.prog w = .ok (.bool a.isNone) w := fun w a n c n' c' => Lib.run_eql_slice_nil w _ _ a n c n' c' Tryf.underlying36
  cases pL with
  | none =>
    obtain ⟨rfl, rfl⟩ := hp rfl
    go_enter Tryf.func15, Tryf.ntmps15
    go_wp2
    go_ret
    exact ⟨none, rfl, fun h => absurd h (Nat.lt_irrefl _), grown_refl _ _⟩
  | some a =>
    have hmk := mk41 nl nl (Nat.le_refl _) (by omega) w
    have HL : Hid (LnkIn w (some a) nl vs) := hL
    clear hL hp
    go_enter Tryf.func15, Tryf.ntmps15
    go_wp2_with fail
    have hg0 : w.grownBy (w.alloc (.cells (lzA nl) 47)) none := World.grownBy_alloc _ _ _
    have hr0 : RowL (w.alloc (.cells (lzA nl) 47)) w.heap.size vs 0 nl := ⟨_, heap_alloc_new w _, by simp [lzA, madeCells], fun i hi => absurd hi (Nat.not_lt_zero _)⟩
    generalize hbe : w.heap.size = be at hr0 ⊢
    have hbe2 : w.heap.size ≤ be := by omega
    generalize (w.alloc (.cells (lzA nl) 47)) = w1 at hg0 hr0 ⊢
    clear hmk
    go_loopg [4] nl (fun t v wr => ∃ k : Nat, v = .int .i64 k ∧ k + t = nl ∧ w.grownBy wr none ∧ RowL wr be vs k nl)
    case atStart => exact ⟨0, rfl, by omega, hg0, hr0⟩
    case round =>
      clear hg0 hr0
      obtain ⟨k, rfl, hk, hg, hR⟩ := hrel
      by_cases hlt : k < nl
      · obtain ⟨lb, lo, ha, hlc⟩ := HL.out (by omega)
        cases ha
        obtain ⟨k0, k1⟩ := hlc k hlt
        obtain ⟨x, y, hxy⟩ : ∃ x y, vs.getD k (0, 0) = (x, y) := ⟨_, _, rfl⟩
        rw [hxy] at k0 k1
        simp only at k0 k1
        have c0 := hg.cell k0 (by simp)
        have c1 := hg.cell k1 (by simp)
        have HXY : Hid (vs.getD k (0, 0) = (x, y)) := hxy
        have HG : Hid (w.grownBy wr none) := hg
        have HR : Hid (RowL wr be vs k nl) := hR
        obtain ⟨y0, hy0⟩ := hR.any (i := k * 2) (by omega)
        obtain ⟨y1, hy1⟩ := hR.any (i := k * 2 + 1) (by omega)
        have f0 := hR.frozen (k * 2)
        have f1 := hR.frozen (k * 2 + 1)
        have hlb : lb < w.heap.size := World.block_lt_of_cell? _ _ k0
        have hne : be ≠ lb := by omega
        clear k0 k1 hxy hlc hg hR
        go_wp2_with fail
        go_region
        go_wp2_with fail
        go_roundg (gk - 1)
        case measure => omega
        case rel =>
          refine ⟨k + 1, by go_num, by omega, ?_, ?_⟩
          · exact grown_drew (grown_then (grown_then HG.out (grown_set _ _ _) (fun j e => by cases e; exact .inl hbe2)) (grown_set _ _ _) (fun j e => by cases e; exact .inl hbe2))
          · exact (HR.out.push hlt HXY.out).drew
      · obtain rfl : nl = k := by omega
        go_wp2_with fail
        go_ret
        exact ⟨_, rfl, hR.lnk, hg⟩
end Go.Proofs.Qxb6614822aFmt
