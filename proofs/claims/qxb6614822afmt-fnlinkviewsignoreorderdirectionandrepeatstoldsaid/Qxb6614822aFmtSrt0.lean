import Derived.Test.Qxb6614822aFmtIds
import Derived.Sort.AssemblyPlain
import Derived.CellFam
import Derived.Deep.Draws
import Derived.BigRegion
import Derived.BigQuiet
import Derived.Deep.QuietTactic
namespace Go.Proofs.Qxb6614822aFmt
open Go.RowKit Go.Sort

/-- the cells cs with the window [off, off + d.size) laid over by d -/
def win (cs : Array Value) (off : Nat) (d : Array Int) : Array Value :=
  (Array.range cs.size).map fun i => if off ≤ i ∧ i < off + d.size then uv d[i - off]! else cs[i]!

theorem win_size (cs : Array Value) (off : Nat) (d : Array Int) : (win cs off d).size = cs.size := by simp [win]
theorem win_in {cs : Array Value} {off : Nat} {d : Array Int} {t : Nat} (h : off + d.size ≤ cs.size) (ht : t < d.size) : (win cs off d)[off + t]? = some (uv d[t]!) := by
  have h1 : off + t < cs.size := by omega
  simp only [win, Array.getElem?_map, Array.getElem?_range, h1, if_true, Option.map_some]
  rw [if_pos ⟨by omega, by omega⟩, Nat.add_sub_cancel_left]
theorem win_set {cs : Array Value} {off : Nat} {d : Array Int} {j : Nat} (x : Int) (hj : j < d.size) : (win cs off d).setIfInBounds (off + j) (uv x) = win cs off (d.setIfInBounds j x) := by
  apply Array.ext_getElem?
  intro i
  rw [Array.getElem?_setIfInBounds]
  simp only [win_size]
  by_cases hi : i < cs.size
  · simp only [win, Array.getElem?_map, Array.getElem?_range, hi, if_true, Option.map_some, Array.size_setIfInBounds]
    by_cases e : off + j = i
    · subst e
      simp [hj, hi]
    · rw [if_neg e]
      by_cases hw : off ≤ i ∧ i < off + d.size
      · rw [if_pos hw, if_pos hw]
        congr 2
        have hne : j ≠ i - off := by omega
        rw [getElem!_def, getElem!_def, Array.getElem?_setIfInBounds, if_neg hne]
      · rw [if_neg hw, if_neg hw]
  · have : (win cs off (d.setIfInBounds j x))[i]? = none := by rw [Array.getElem?_eq_none_iff, win_size]; omega
    rw [this]
    by_cases e : off + j = i
    · rw [if_pos e, if_neg (by omega)]
    · rw [if_neg e, Array.getElem?_eq_none_iff, win_size]; omega

/-- from w0 on only block blk has changed (and new ones have come); it holds cs, with d laid into it at off -/
structure R (w0 : World) (cs : Array Value) (blk off N : Nat) (wr : World) (d : Array Int) : Prop where
  grown : w0.grownBy wr (some blk)
  blk : Blk wr blk (win cs off d) 23
  size : d.size = N
  fits : off + N ≤ cs.size

section
variable {w0 wr wr' : World} {cs : Array Value} {blk off N : Nat} {d : Array Int}
theorem R.cell (h : R w0 cs blk off N wr d) : ∀ t, t < N → wr.cell? ⟨blk, off + t, none⟩ = some (.int .u64 d[t]!) := fun t ht => by
  have h1 := h.size; have h2 := h.fits
  rw [h.blk.cell, win_in (by omega) (by omega)]; rfl
theorem R.frozen (h : R w0 cs blk off N wr d) : ∀ t, t < N → wr.frozen? ⟨blk, off + t, none⟩ = false := fun _ _ => h.blk.frozen _
theorem R.set (h : R w0 cs blk off N wr d) {j : Nat} (x : Int) (hj : j < N) : R w0 cs blk off N (wr.setCell ⟨blk, off + j, none⟩ (.int .u64 x)) (d.setIfInBounds j x) := by
  have h1 := h.size
  refine ⟨grown_trans h.grown (grown_set _ _ _), ?_, by simpa using h.size, h.fits⟩
  rw [← win_set x (by omega)]
  exact h.blk.set _ _
theorem R.swap (h : R w0 cs blk off N wr d) {i j : Nat} (hi : i < N) (hj : j < N) :
    R w0 cs blk off N ((wr.setCell ⟨blk, off + i, none⟩ (.int .u64 d[j]!)).setCell ⟨blk, off + j, none⟩ (.int .u64 d[i]!)) (swp d i j) := (h.set _ hi).set _ hj
theorem R.drew (h : R w0 cs blk off N wr d) (q : Nat) : R w0 cs blk off N (wr.drewN q) d := ⟨⟨h.grown.os, h.grown.tape, h.grown.output, h.grown.size, h.grown.block⟩, h.blk, h.size, h.fits⟩
theorem R.grows (h : R w0 cs blk off N wr d) {row : Option Nat} (hg : wr.grownBy wr' row) (hr : ∀ j, row = some j → w0.heap.size ≤ j) (hb : blk < w0.heap.size) : R w0 cs blk off N wr' d :=
  ⟨grown_then h.grown hg fun j e => .inl (hr j e), h.blk.grown hg (fun e => by have := hr _ e; omega), h.size, h.fits⟩
end

theorem isNaN_any (x : Int) (w : World) : Calls Tryf.prog 97 #[.int .u64 x] w fun e w' => e = .returned (.bool false) ∧ w' = w := by
  go_enter Tryf.func97, Tryf.ntmps97
  go_wp2
  go_ret
  exact ⟨rfl, rfl⟩

set_option maxRecDepth 20000 in
set_option maxHeartbeats 1000000 in
theorem less_any (x y : Int) (w : World) : Calls Tryf.prog 76 #[.int .u64 x, .int .u64 y] w fun e w' => e = .returned (.bool (ltInt x y)) ∧ w' = w := by
  have h1 := isNaN_any x
  go_enter Tryf.func76, Tryf.ntmps76
  go_wp2_with (go_at_call 97; refine (h1 _).mono ?_; rintro e w' ⟨rfl, rfl⟩)
  go_ret
  exact ⟨rfl, rfl⟩

set_option maxRecDepth 20000 in
set_option maxHeartbeats 1000000 in
/-- reverseRange permutes -/
theorem rev_any (w0 : World) (cs : Array Value) (blk off N cap a b : Nat) (d : Array Int) (w : World) (hR : R w0 cs blk off N w d) (hab : a ≤ b) (hb : b ≤ N) (hN : N ≤ 1000000) :
    Calls Tryf.prog 82 #[.slice (some ⟨blk, off, none⟩) N cap, .int .i64 a, .int .i64 b] w fun e w' =>
      e = .returned (.tuple #[]) ∧ ∃ d', R w0 cs blk off N w' d' ∧ PermIn a b d d' := by
  go_enter Tryf.func82, Tryf.ntmps82
  go_wp2
  go_loopg [6, 7] (b + 1) (fun t vi vj wr => ∃ (i : Nat) (j : Int) (dk : Array Int), vi = .int .i64 i ∧ vj = .int .i64 j ∧ a ≤ i ∧ i ≤ b ∧ j + 1 ≤ b ∧ (a : Int) ≤ j + 1 ∧ b + 1 ≤ i + t ∧ R w0 cs blk off N wr dk ∧ PermIn a b d dk)
  case atStart => exact ⟨a, b - 1, d, rfl, by go_num, by omega, by omega, by omega, by omega, by omega, hR, permIn_refl _ _ _⟩
  case round =>
    obtain ⟨i, j, dk, rfl, rfl, h1, h2, h3, h4, h5, hRk, hP⟩ := hrel
    by_cases hlt : (i : Int) < j
    · obtain ⟨j, rfl⟩ : ∃ m : Nat, j = m := ⟨j.toNat, by omega⟩
      have hcw := hRk.cell
      have hfw := hRk.frozen
      obtain ⟨G, hG⟩ : ∃ G : Nat → Int, ∀ t, G t = dk[t]! := ⟨fun t => dk[t]!, fun _ => rfl⟩
      simp only [← hG] at hcw
      have HR : Hid (R w0 cs blk off N wr dk) := hRk
      have HP : Hid (PermIn a b d dk) := hP
      have HG : Hid (∀ t, G t = dk[t]!) := hG
      clear hRk hP hG hR
      go_wp2
      go_region
      all_goals go_wp2
      go_roundg (gk - 1)
      case measure => omega
      case rel =>
        have hs := HR.out.size
        refine ⟨i + 1, (j : Int) - 1, swp dk i j, by go_num, by go_num, by omega, by omega, by omega, by omega, by omega, ?_, ?_⟩
        · rw [HG.out, HG.out]
          exact (HR.out.swap (by omega) (by omega)).drew 1
        · exact permIn_trans _ _ _ _ _ HP.out (swp_permIn _ _ _ _ _ (by omega) (by omega) (by omega) (by omega) (by omega))
    · go_wp2
      go_end0
      exact ⟨rfl, dk, hRk, hP⟩
end Go.Proofs.Qxb6614822aFmt
