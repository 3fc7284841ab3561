import Derived.Test.Qxb6614822aFmtLk1
namespace Go.Proofs.Qxb6614822aFmt
open Go.RowKit Go.Sort

/-- block g's first n cells: the integers f -/
def RowI (w : World) (g : Nat) (f : Nat → Int) (n : Nat) : Prop := ∃ cs : Array Value, Blk w g cs 3 ∧ n ≤ cs.size ∧ ∀ i, i < n → cs[i]? = some (.int .i64 (f i))
theorem RowI.cell {w : World} {g n : Nat} {f : Nat → Int} (h : RowI w g f n) {i : Nat} (hi : i < n) : w.cell? ⟨g, i, none⟩ = some (.int .i64 (f i)) := by
  obtain ⟨cs, hb, _, hc⟩ := h
  rw [hb.cell i]; exact hc i hi
theorem RowI.frozen {w : World} {g n : Nat} {f : Nat → Int} (h : RowI w g f n) (i : Nat) : w.frozen? ⟨g, i, none⟩ = false := by
  obtain ⟨cs, hb, _, _⟩ := h
  exact hb.frozen i
theorem RowI.lt {w : World} {g n : Nat} {f : Nat → Int} (h : RowI w g f n) : g < w.heap.size := by
  obtain ⟨cs, hb, _, _⟩ := h
  exact hb.lt
theorem RowI.grown {w w' : World} {g n : Nat} {f : Nat → Int} {row : Option Nat} (h : RowI w g f n) (hg : w.grownBy w' row) (hne : row ≠ some g) : RowI w' g f n := by
  obtain ⟨cs, hb, h1, h2⟩ := h
  exact ⟨cs, hb.grown hg hne, h1, h2⟩
theorem RowI.set {w : World} {g n : Nat} {f : Nat → Int} (h : RowI w g f n) {i : Nat} (hi : i < n) (v : Int) : RowI (w.setCell ⟨g, i, none⟩ (.int .i64 v)) g (fset f i v) n := by
  obtain ⟨cs, hb, h1, h2⟩ := h
  refine ⟨_, hb.set i _, by simpa using h1, fun j hj => ?_⟩
  rw [Array.getElem?_setIfInBounds]
  unfold fset
  by_cases e : i = j
  · subst e; rw [if_pos rfl, if_pos (by omega), if_pos rfl]
  · rw [if_neg e, if_neg (fun h => e h.symm)]; exact h2 j hj

/-- block g: m words, h's values -/
def uA (h : Nat → Int) (m : Nat) : Array Value := (Array.range m).map fun i => uv (h i)
theorem uA_size (h : Nat → Int) (m : Nat) : (uA h m).size = m := by simp [uA]
theorem uA_get {h : Nat → Int} {m i : Nat} (hi : i < m) : (uA h m)[i]? = some (.int .u64 (h i)) := by simp [uA, hi, uv]
theorem uA_set (h : Nat → Int) (m i : Nat) (v : Int) : (uA h m).setIfInBounds i (.int .u64 v) = uA (fset h i v) m := by
  apply Array.ext_getElem?
  intro j
  rw [Array.getElem?_setIfInBounds, uA_size]
  by_cases hj : j < m
  · rw [uA_get hj]
    by_cases e : i = j
    · subst e; rw [if_pos rfl, if_pos hj, uA_get hj]; simp [fset]
    · rw [if_neg e, uA_get hj]; unfold fset; rw [if_neg (fun h => e h.symm)]
  · have e1 : (uA (fset h i v) m)[j]? = none := by rw [Array.getElem?_eq_none_iff, uA_size]; omega
    have e2 : (uA h m)[j]? = none := by rw [Array.getElem?_eq_none_iff, uA_size]; omega
    rw [e1, e2]
    by_cases e : i = j
    · rw [if_pos e, if_neg (by omega)]
    · rw [if_neg e]
theorem blk_uset {w : World} {g m : Nat} {h : Nat → Int} (hb : Blk w g (uA h m) 23) (i : Nat) (v : Int) : Blk (w.setCell ⟨g, i, none⟩ (.int .u64 v)) g (uA (fset h i v) m) 23 := by
  rw [← uA_set]; exact hb.set _ _

theorem mk22 (n : Nat) (hn : n ≤ 1000000) (w : World) : (Instr.makeSlice 22 (.int .i64 (n : Int)) (.int .i64 (n : Int))).run Tryf.prog w = .ok (.slice (some ⟨w.heap.size, 0, none⟩) n n) (w.alloc (.cells (uA (fun _ => 0) n) 23)) := by
  obtain ⟨i0, hi, hz0, hz1, hz2⟩ := info_parts info23
  have := run_make (P := Tryf.prog) w 22 23 i0 _ Tryf.underlying22 hi hz0 .i64 .i64 n n (by omega) (by omega) (by rw [hz2]; omega) (by omega)
  rw [hz1, Nat.mul_one] at this
  simp only [Int.toNat_natCast] at this
  rw [this]
  have e : madeCells (Value.int .u64 0).cells n = uA (fun _ => 0) n := by
    unfold uA madeCells
    apply Array.ext
    · simp
    · intro i h1 h2
      simp [Nat.mod_one, Value.cells, uv]
  rw [e]

theorem clone48 (bst n c : Nat) (f : Nat → Int) (w : World) (hn : n ≤ 1000000) (hn0 : 0 < n) (hc : ∀ i, i < n → w.cell? ⟨bst, 0 + i, none⟩ = some (.int .i64 (f i))) :
    Calls Tryf.prog 48 #[.slice (some ⟨bst, 0, none⟩) n c] w fun e w' => ∃ g cap, e = .returned (.slice (some ⟨g, 0, none⟩) n cap) ∧ w.heap.size ≤ g ∧ RowI w' g f n ∧ w.grownBy w' none := by
  have hl : ((List.range n).map f).length = n := by simp
  refine (Tryf.slices_Clone_int bst 0 n c ((List.range n).map f) w (by omega) (by omega) (fun j hj => by
    rw [hl] at hj
    rw [hc j hj]
    simp [List.getD, hj])).mono ?_
  rintro e w' ⟨v', rfl, ⟨_, ho⟩, hne, hB⟩
  rcases ho with ⟨rfl, h0⟩ | ⟨g, cap, cur, rfl, hg, hcur, h1, h2, h3, h4⟩
  · omega
  · refine ⟨g, cap, rfl, hg, ⟨cur, hcur, by omega, fun i hi => ?_⟩, ⟨hB.os, hB.tape, hB.output, hB.size, fun k hk _ => hB.block k hk⟩⟩
    have e1 : (cur.toList.take (n * 1))[i]? = some (.int .i64 (f i)) := by
      rw [h4, List.take_of_length_le (by omega)]
      simp [hi]
    rw [List.getElem?_take, if_pos (by omega)] at e1
    simpa using e1
end Go.Proofs.Qxb6614822aFmt
