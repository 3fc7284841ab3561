import Derived.Test.Qxb6614822aFmtLk0
namespace Go.Proofs.Qxb6614822aFmt
open Go.RowKit Go.Sort

/-- i and j are linked by one of the first k links -/
def nbr (ls : List (Nat × Nat)) (k i j : Nat) : Prop := ∃ m, m < k ∧ (ls.getD m (0, 0) = (i, j) ∨ ls.getD m (0, 0) = (j, i))

theorem nbr_succ {ls : List (Nat × Nat)} {k a b i j : Nat} (h : ls.getD k (0, 0) = (a, b)) : nbr ls (k + 1) i j ↔ nbr ls k i j ∨ (a = i ∧ b = j) ∨ (a = j ∧ b = i) := by
  constructor
  · rintro ⟨m, hm, hl⟩
    by_cases e : m = k
    · subst e
      rw [h] at hl
      rcases hl with hl | hl
      · cases hl; exact .inr (.inl ⟨rfl, rfl⟩)
      · cases hl; exact .inr (.inr ⟨rfl, rfl⟩)
    · exact .inl ⟨m, by omega, hl⟩
  · rintro (⟨m, hm, hl⟩ | ⟨rfl, rfl⟩ | ⟨rfl, rfl⟩)
    · exact ⟨m, by omega, hl⟩
    · exact ⟨k, by omega, .inl h⟩
    · exact ⟨k, by omega, .inr h⟩

theorem slot_inj {ls : List (Nat × Nat)} {K i i' t t' : Nat} (h1 : t < deg ls K i) (h2 : t' < deg ls K i') (e : pre ls K i + t = pre ls K i' + t') : i = i' ∧ t = t' := by
  rcases Nat.lt_trichotomy i i' with h | h | h
  · have := pre_mono ls K (show i + 1 ≤ i' by omega)
    have e2 : pre ls K (i + 1) = pre ls K i + deg ls K i := rfl
    omega
  · subst h; exact ⟨rfl, by omega⟩
  · have := pre_mono ls K (show i' + 1 ≤ i by omega)
    have e2 : pre ls K (i' + 1) = pre ls K i' + deg ls K i' := rfl
    omega

/-- given, behind k links of the third loop -/
structure Giv (ls : List (Nat × Nat)) (K k : Nat) (h : Nat → Int) : Prop where
  sub : ∀ i t, t < deg ls k i → ∃ j, nbr ls k i j ∧ h (pre ls K i + t) = (j : Int)
  all : ∀ i j, nbr ls k i j → ∃ t, t < deg ls k i ∧ h (pre ls K i + t) = (j : Int)

theorem Giv.zero (ls : List (Nat × Nat)) (K : Nat) (h : Nat → Int) : Giv ls K 0 h :=
  ⟨fun _ _ ht => absurd ht (Nat.not_lt_zero _), fun _ _ ⟨_, hm, _⟩ => absurd hm (Nat.not_lt_zero _)⟩

theorem deg_succ {ls : List (Nat × Nat)} {k a b : Nat} (h : ls.getD k (0, 0) = (a, b)) (i : Nat) : deg ls (k + 1) i = deg ls k i + ((if a = i then 1 else 0) + (if b = i then 1 else 0)) := by
  show deg ls k i + hit (ls.getD k (0, 0)) i = _
  rw [h]; rfl

theorem Giv.step {ls : List (Nat × Nat)} {K k a b : Nat} {g : Nat → Int} (H : Giv ls K k g) (hk : k < K) (h : ls.getD k (0, 0) = (a, b)) (hab : a ≠ b) :
    Giv ls K (k + 1) (fset (fset g (pre ls K a + deg ls k a) b) (pre ls K b + deg ls k b) a) := by
  have da := deg_succ h a
  have db := deg_succ h b
  simp only [if_true, if_neg hab, if_neg (Ne.symm hab)] at da db
  have ma := deg_mono ls a (show k + 1 ≤ K by omega)
  have mb := deg_mono ls b (show k + 1 ≤ K by omega)
  have old : ∀ i t, t < deg ls k i → fset (fset g (pre ls K a + deg ls k a) b) (pre ls K b + deg ls k b) a (pre ls K i + t) = g (pre ls K i + t) := by
    intro i t ht
    have mi := deg_mono ls i (show k ≤ K by omega)
    unfold fset
    rw [if_neg, if_neg]
    · intro e
      have := slot_inj (show t < deg ls K i by omega) (show deg ls k a < deg ls K a by omega) e
      obtain ⟨rfl, rfl⟩ := this; omega
    · intro e
      have := slot_inj (show t < deg ls K i by omega) (show deg ls k b < deg ls K b by omega) e
      obtain ⟨rfl, rfl⟩ := this; omega
  have newB : fset (fset g (pre ls K a + deg ls k a) b) (pre ls K b + deg ls k b) a (pre ls K b + deg ls k b) = (a : Int) := by unfold fset; rw [if_pos rfl]
  have newA : fset (fset g (pre ls K a + deg ls k a) b) (pre ls K b + deg ls k b) a (pre ls K a + deg ls k a) = (b : Int) := by
    unfold fset
    rw [if_neg, if_pos rfl]
    intro e
    exact hab (slot_inj (show deg ls k a < deg ls K a by omega) (show deg ls k b < deg ls K b by omega) e).1
  generalize fset (fset g (pre ls K a + deg ls k a) b) (pre ls K b + deg ls k b) a = g' at old newA newB
  refine ⟨fun i t ht => ?_, fun i j hn => ?_⟩
  · by_cases h1 : t < deg ls k i
    · obtain ⟨j, hj, e⟩ := H.sub i t h1
      exact ⟨j, (nbr_succ h).2 (.inl hj), by rw [old i t h1]; exact e⟩
    · have di := deg_succ h i
      by_cases ea : a = i
      · subst ea
        obtain rfl : t = deg ls k a := by omega
        exact ⟨b, (nbr_succ h).2 (.inr (.inl ⟨rfl, rfl⟩)), newA⟩
      · by_cases eb : b = i
        · subst eb
          obtain rfl : t = deg ls k b := by omega
          exact ⟨a, (nbr_succ h).2 (.inr (.inr ⟨rfl, rfl⟩)), newB⟩
        · rw [if_neg ea, if_neg eb] at di; omega
  · rcases (nbr_succ h).1 hn with hn | ⟨rfl, rfl⟩ | ⟨rfl, rfl⟩
    · obtain ⟨t, ht, e⟩ := H.all i j hn
      have := deg_mono ls i (show k ≤ k + 1 by omega)
      exact ⟨t, by omega, by rw [old i t ht]; exact e⟩
    · exact ⟨_, by omega, newA⟩
    · exact ⟨_, by omega, newB⟩
end Go.Proofs.Qxb6614822aFmt
