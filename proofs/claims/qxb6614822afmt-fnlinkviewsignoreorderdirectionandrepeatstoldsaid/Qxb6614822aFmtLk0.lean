import Derived.Test.Qxb6614822aFmtIdx
namespace Go.Proofs.Qxb6614822aFmt
open Go.RowKit Go.Sort

/-- m integers, f's values -/
def iA (f : Nat → Int) (m : Nat) : Array Value := (Array.range m).map fun i => .int .i64 (f i)
theorem iA_size (f : Nat → Int) (m : Nat) : (iA f m).size = m := by simp [iA]
theorem iA_get {f : Nat → Int} {m i : Nat} (h : i < m) : (iA f m)[i]? = some (.int .i64 (f i)) := by simp [iA, h]
def fset (f : Nat → Int) (i : Nat) (v : Int) : Nat → Int := fun j => if j = i then v else f j
theorem iA_set (f : Nat → Int) (m i : Nat) (v : Int) : (iA f m).setIfInBounds i (.int .i64 v) = iA (fset f i v) m := by
  apply Array.ext_getElem?
  intro j
  rw [Array.getElem?_setIfInBounds, iA_size]
  by_cases hj : j < m
  · rw [iA_get hj]
    by_cases e : i = j
    · subst e; rw [if_pos rfl, if_pos hj, iA_get hj]; simp [fset]
    · rw [if_neg e, iA_get hj]; unfold fset; rw [if_neg (fun h => e h.symm)]
  · have e1 : (iA (fset f i v) m)[j]? = none := by rw [Array.getElem?_eq_none_iff, iA_size]; omega
    have e2 : (iA f m)[j]? = none := by rw [Array.getElem?_eq_none_iff, iA_size]; omega
    rw [e1, e2]
    by_cases e : i = j
    · rw [if_pos e, if_neg (by omega)]
    · rw [if_neg e]

/-- one link's share in node i's degree -/
def hit (l : Nat × Nat) (i : Nat) : Nat := (if l.1 = i then 1 else 0) + (if l.2 = i then 1 else 0)
/-- node i's degree in the first k links -/
def deg (ls : List (Nat × Nat)) : Nat → Nat → Nat
  | 0, _ => 0
  | k + 1, i => deg ls k i + hit (ls.getD k (0, 0)) i
/-- the degrees of the nodes before i -/
def pre (ls : List (Nat × Nat)) (k : Nat) : Nat → Nat
  | 0 => 0
  | i + 1 => pre ls k i + deg ls k i

theorem deg_mono (ls : List (Nat × Nat)) (i : Nat) : ∀ {k m : Nat}, k ≤ m → deg ls k i ≤ deg ls m i
  | k, 0, h => by obtain rfl : k = 0 := by omega
                  exact Nat.le_refl _
  | k, m + 1, h => by
    by_cases e : k = m + 1
    · subst e; exact Nat.le_refl _
    · have := deg_mono ls i (show k ≤ m by omega)
      show deg ls k i ≤ deg ls m i + hit (ls.getD m (0, 0)) i
      omega
theorem deg_le (ls : List (Nat × Nat)) (i : Nat) : ∀ k, deg ls k i ≤ 2 * k
  | 0 => Nat.le_refl _
  | k + 1 => by
    have := deg_le ls i k
    have h2 : hit (ls.getD k (0, 0)) i ≤ 2 := by unfold hit; split <;> split <;> omega
    unfold deg; omega
theorem pre_mono (ls : List (Nat × Nat)) (k : Nat) : ∀ {i j : Nat}, i ≤ j → pre ls k i ≤ pre ls k j
  | i, 0, h => by obtain rfl : i = 0 := by omega
                  exact Nat.le_refl _
  | i, j + 1, h => by
    by_cases e : i = j + 1
    · subst e; exact Nat.le_refl _
    · have := pre_mono ls k (show i ≤ j by omega)
      show pre ls k i ≤ pre ls k j + deg ls k j
      omega
/-- the sum of one link's shares -/
def hsum (l : Nat × Nat) : Nat → Nat
  | 0 => 0
  | i + 1 => hsum l i + hit l i
theorem hsum_eq (l : Nat × Nat) : ∀ n, hsum l n = (if l.1 < n then 1 else 0) + (if l.2 < n then 1 else 0)
  | 0 => by simp [hsum]
  | n + 1 => by
    rw [hsum, hsum_eq l n]
    unfold hit
    by_cases h1 : l.1 = n <;> by_cases h2 : l.2 = n <;> by_cases h3 : l.1 < n <;> by_cases h4 : l.2 < n <;> by_cases h5 : l.1 < n + 1 <;> by_cases h6 : l.2 < n + 1 <;> simp [h1, h2, h3, h4, h5, h6] <;> omega
theorem pre_succ (ls : List (Nat × Nat)) (k : Nat) : ∀ n, pre ls (k + 1) n = pre ls k n + hsum (ls.getD k (0, 0)) n
  | 0 => rfl
  | n + 1 => by
    show pre ls (k + 1) n + deg ls (k + 1) n = pre ls k n + deg ls k n + (hsum _ n + hit _ n)
    rw [pre_succ ls k n, deg]; omega
theorem pre_zero (ls : List (Nat × Nat)) : ∀ n, pre ls 0 n = 0
  | 0 => rfl
  | n + 1 => by rw [pre, pre_zero ls n]; rfl
theorem pre_total (ls : List (Nat × Nat)) (n : Nat) : ∀ k, (∀ t, t < k → (ls.getD t (0, 0)).1 < n ∧ (ls.getD t (0, 0)).2 < n) → pre ls k n = 2 * k
  | 0, _ => pre_zero ls n
  | k + 1, h => by
    rw [pre_succ, pre_total ls n k fun t ht => h t (by omega), hsum_eq]
    obtain ⟨h1, h2⟩ := h k (by omega)
    rw [if_pos h1, if_pos h2]; omega

/-- start, behind k links of the first loop -/
def f1 (ls : List (Nat × Nat)) (k : Nat) : Nat → Int := fun i => if i = 0 then 0 else (deg ls k (i - 1) : Int)
theorem f1_step (ls : List (Nat × Nat)) (k a b : Nat) (h : ls.getD k (0, 0) = (a, b)) (hab : a ≠ b) :
    fset (fset (f1 ls k) (a + 1) (f1 ls k (a + 1) + 1)) (b + 1) (fset (f1 ls k) (a + 1) (f1 ls k (a + 1) + 1) (b + 1) + 1) = f1 ls (k + 1) := by
  funext i
  unfold fset f1
  cases i with
  | zero => simp
  | succ i =>
    simp only [Nat.add_right_cancel_iff, Nat.add_sub_cancel, deg, h, hit]
    by_cases h1 : i = a
    · subst h1; simp [hab, Ne.symm hab]
    · by_cases h2 : i = b
      · subst h2; simp [hab, Ne.symm hab]
      · simp [h1, h2, Ne.symm h1, Ne.symm h2]
/-- start, behind k rounds of the second loop -/
def f2 (ls : List (Nat × Nat)) (K k : Nat) : Nat → Int := fun i => if i ≤ k then (pre ls K i : Int) else (deg ls K (i - 1) : Int)
theorem f2_zero (ls : List (Nat × Nat)) (K : Nat) : f2 ls K 0 = f1 ls K := by
  funext i
  unfold f2 f1
  cases i with
  | zero => simp [pre]
  | succ i => simp
theorem f2_step (ls : List (Nat × Nat)) (K k : Nat) : fset (f2 ls K k) (k + 1) (f2 ls K k (k + 1) + f2 ls K k k) = f2 ls K (k + 1) := by
  funext i
  unfold fset f2
  by_cases h : i = k + 1
  · subst h
    simp only [if_true, Nat.le_refl, Nat.add_sub_cancel]
    rw [if_neg (by omega)]
    show _ = ((pre ls K k + deg ls K k : Nat) : Int)
    omega
  · rw [if_neg h]
    by_cases h2 : i ≤ k
    · rw [if_pos h2, if_pos (by omega)]
    · rw [if_neg h2, if_neg (by omega)]
/-- next, behind k links of the third loop -/
def f3 (ls : List (Nat × Nat)) (K k : Nat) : Nat → Int := fun i => ((pre ls K i + deg ls k i : Nat) : Int)
theorem f3_step (ls : List (Nat × Nat)) (K k a b : Nat) (h : ls.getD k (0, 0) = (a, b)) (hab : a ≠ b) :
    fset (fset (f3 ls K k) a (f3 ls K k a + 1)) b (fset (f3 ls K k) a (f3 ls K k a + 1) b + 1) = f3 ls K (k + 1) := by
  funext i
  unfold fset f3
  simp only [deg, h, hit]
  by_cases h1 : i = a
  · subst h1; simp [hab, Ne.symm hab]; omega
  · by_cases h2 : i = b
    · subst h2; simp [hab, Ne.symm hab]; omega
    · simp [h1, h2, Ne.symm h1, Ne.symm h2]
end Go.Proofs.Qxb6614822aFmt
